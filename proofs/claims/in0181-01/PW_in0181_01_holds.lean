import PyProof.Rows.All
import Wide.All
import OpenK.AllK
import Wide.FinOn
import PySem.Challenge.RW_in0181_01
open PySem PySem.W PySem.Calls PyProof.Rows
set_option Elab.async false
set_option maxRecDepth 100000
set_option maxHeartbeats 8000000
namespace Mine
-- Hd
/-- the statements of the text that bind what the law reads -/
noncomputable def hd.view_39 : Program := view PySem.Challenge.pw_in0181_01 [0, 2, 3, 5, 7, 8, 10, 12, 13, 14, 15, 16, 17, 19, 21, 23, 24, 26, 28, 29, 30, 31, 32, 33]
/-- the top's run over a tree of objects; the quick twins of stepOk, stepT, denote -/
noncomputable def topRunT (tb : String → Option Builtin) (p : Program) (w : World) (n₀ : Nat) (ann : Option Value) : Nat → SharedT → Thread → Option SharedT
  | 0, _, _ => none
  | n + 1, s, t => match through t with
    | true => some s
    | false => match PySem.W.Fast.tw6613529449190102663 n₀ ann t with
      | false => none
      | true => match PySem.W.Fast.tw10156331382660048174 (PySem.W.Fast.tw11892475500146522536 tb) p w s t with
        | some (s', t') => topRunT tb p w n₀ ann n s' t'
        | none => none
theorem topRunT_of {tb : String → Option Builtin} {p : Program} {w : World} {n₀ : Nat} {ann : Option Value} : ∀ {n : Nat} {s s' : SharedT} {t : Thread}, topRunT tb p w n₀ ann n s t = some s' → topRun tb p w n₀ ann n s.abs t = some s'.abs
  | 0, _, _, _, h => by cases h
  | n + 1, s, s', t, h => by
    unfold topRunT at h
    rw [← PySem.W.Fast.te6613529449190102663, ← PySem.W.Fast.te10156331382660048174, ← PySem.W.Fast.te11892475500146522536] at h
    unfold topRun
    cases ht : through t with
    | true => rw [ht] at h; cases h; rfl
    | false =>
      rw [ht] at h
      cases hk : stepOk n₀ ann t with
      | false => rw [hk] at h; cases h
      | true =>
        rw [hk] at h
        cases hs : stepT (denote tb) p w s t with
        | none => rw [hs] at h; cases h
        | some r => obtain ⟨s₂, t₂⟩ := r; rw [hs] at h; rw [stepT_spec hs]; exact topRunT_of h
/-- the start-up's eleven objects as a tree -/
noncomputable def bt (P : Params) : BT := .node (boot_o_0 P) (.node (boot_o_1 P) (.node (boot_o_3 P) (.node (boot_o_7 P) .nil .nil) .nil) (.node (boot_o_5 P) (.node (boot_o_9 P) .nil .nil) .nil)) (.node (boot_o_2 P) (.node (boot_o_4 P) (.node (boot_o_8 P) .nil .nil) .nil) (.node (boot_o_6 P) (.node (boot_o_10 P) .nil .nil) .nil))
noncomputable def bs (w : World) (os : OsState) : SharedT := ⟨bt w.params, 11, (boot_heap w.params).life, Array.mk [], boot_drawn, boot_toks, os⟩
theorem bs_eq (w : World) (os : OsState) : (bs w os).abs = ⟨boot_heap w.params, Array.mk [], boot_drawn, boot_toks, os⟩ := by kernel_rfl
theorem boot_size (P : Params) : ((boot_heap P).isNs mainGlobals, (boot_heap P).objs.size, (boot_heap P).nsMap mainGlobals "__annotations__") = (true, 11, some (.ref 6)) := by kernel_rfl
/-- the start-up's run is known (boot_open): the top's own run is left -/
theorem left_of {p q : Program} {loose : List Str} {Xt : Shared → Bool} {α : Type} {Yf : Shared → α} {Ya : World → α} {N : Nat} {g0 : Bool} (e : opening p = plainProg p.main.scope.names) (hN : Nat.ble 600 N = true) (f : ∀ s, fenceModules? p s = some s)
    (h : ∀ (w : World) (os : OsState), (topRunT treeTable p w 11 (some (.ref 6)) N (bs w os) (topStub p)).map (fun s => (staticsOk (importedModules p.main.body) (boot_heap w.params) s.abs.heap && namesBound p s.abs.heap && gensDone s.abs && laidKept (boot_heap w.params) s.abs.heap,
      openSeen q loose (importedModules p.main.body) Xt g0 s.abs, Yf s.abs)) = some (true, openGood q loose, Ya w)) :
    LeftO p q loose Xt Yf Ya N g0 := fun w => by
  obtain ⟨⟨h', gs, d, k, os⟩, e1, e'⟩ := Option.map_eq_some_iff.mp (boot_open e hN f w)
  obtain ⟨rfl, rfl, rfl, rfl⟩ : h' = boot_heap w.params ∧ gs = Array.mk [] ∧ d = boot_drawn ∧ k = boot_toks := by simpa using e'
  obtain ⟨s, hs, e2⟩ := Option.map_eq_some_iff.mp (h w os)
  obtain ⟨e3, e4⟩ := Prod.mk.inj e2
  have hr := topRunT_of hs
  rw [bs_eq] at hr
  obtain ⟨z1, z2, z3⟩ : _ ∧ _ ∧ _ := by simpa only [Prod.mk.injEq] using boot_size w.params
  have t : topFrom treeTable p w N ⟨boot_heap w.params, Array.mk [], boot_drawn, boot_toks, os⟩ = some s.abs := by
    unfold topFrom
    dsimp only
    rw [z1, z2, z3, hr]
    show (match staticsOk (importedModules p.main.body) (boot_heap w.params) s.abs.heap && namesBound p s.abs.heap && gensDone s.abs && laidKept (boot_heap w.params) s.abs.heap with | true => _ | false => _) = _
    rw [e3]
  unfold openEnds
  rw [e1]
  show (topFrom treeTable p w N _).map _ = _
  rw [t]
  exact congrArg some e4
-- the looks at the text; the library's quick twins of namesResolve, noRoadLSs, namesMeet, attrL stand behind these names
theorem look_a : namesResolve PySem.Challenge.pw_in0181_01 = true := by
  rw [PySem.W.Fast.te8377067652309620493]; kernel_rfl
theorem look_b : noRoadLSs { strict := !(importedModules PySem.Challenge.pw_in0181_01.main.body).all cThrough.contains, foot := none, bare := (["vars", "dir", "locals"] : List Str).filter (readsOut PySem.Challenge.pw_in0181_01 PySem.Challenge.pw_in0181_01.main.body) } PySem.Challenge.pw_in0181_01.main.body = true := by
  rw [PySem.W.Fast.te8326940854005059898]; kernel_rfl
theorem look_c : (namesMeet PySem.Challenge.pw_in0181_01 PySem.Challenge.pw_in0181_01.main.body fun _ n => attrL n) = true := by
  rw [PySem.W.Fast.te17119622794617984870, PySem.W.Fast.te17868728402115742887]; kernel_rfl
theorem look_d : looksOpen PySem.Challenge.pw_in0181_01 = true := by
  unfold looksOpen
  rw [look_a, look_b, look_c]
  kernel_rfl
theorem look_e : PySem.Challenge.rw_in0181_01.row.wellSaid = true := by
  unfold OpenRow.wellSaid OpenRow.partSaid
  rw [show looksOpen PySem.Challenge.rw_in0181_01.row.prog = true from look_d]
  kernel_rfl
theorem look_f : noRoadLSs { strict := true, foot := some PySem.Challenge.rw_in0181_01.bound', writes := PySem.Challenge.rw_in0181_01.writes, may := PySem.Challenge.rw_in0181_01.may } PySem.Challenge.rw_in0181_01.footing = true := by
  rw [PySem.W.Fast.te8326940854005059898]; kernel_rfl
theorem said : PySem.Challenge.rw_in0181_01.wellSaid = true := by
  unfold OpenLaw.wellSaid
  rw [look_e, look_f]
  kernel_rfl
local macro_rules | `(tactic| o_law) => `(tactic| refine holds_law said fun said => ?_)
-- the top's run at one look: the twins of treeTable, openSeen
local macro_rules | `(tactic| o_head $H) => `(tactic| (
  refine holds_open (q := hd.view_39) (loose := []) (Xt := fun s => xlAt hd.view_39 [] s && recOk (RowW.records (OpenRow.toRowW (OpenLaw.row PySem.Challenge.rw_in0181_01))) s) (XP := XL hd.view_39 []) (Yf := Hook.obs $H) (Ya := Hook.val $H) (YP := Hook.says $H) (N := 3108) ?hl (Hook.of $H) (Hook.keeps $H) (fun s e => xl_of s (Bool.and_eq_true_iff.mp e).1) XL.keeps (by rfl) (by rfl) (by rfl) (fun s e => recFacts_of (Bool.and_eq_true_iff.mp e).2) (by rfl) (by first | assumption | decide +kernel) (by decide +kernel) ⟨rfl, rfl, rfl, rfl, rfl, by decide +kernel⟩ ?hw ?hc
  (case hl =>
    refine left_of (by kernel_rfl) (by decide) (fun s => by kernel_rfl) fun w os => ?_
    rw [PySem.W.Fast.te14364793385576792824, PySem.W.Fast.te4187177175401517315]
    kernel_rfl)))
open_top hd for PySem.Challenge.rw_in0181_01
-- F1
section

/-- everything that stood, stands -/
abbrev Gr (h h' : Heap) : Prop := ∀ b o, h.get? b = some o → h'.get? b = some o
theorem Gr.rfl' {h : Heap} : Gr h h := fun _ _ e => e
theorem Gr.trans {a b c : Heap} (x : Gr a b) (y : Gr b c) : Gr a c := fun p o e => y p o (x p o e)

/-- the world of the run: four letters that nothing turns -/
structure Gb where
  w : World
  mean : ExcName → Option Value
  mg : Str → Option Value
  mb : Str → Option Value

abbrev MM (g : Gb) : Model := model PySem.Challenge.rw_in0181_01.row.prog g.w

structure Wd (g : Gb) (h : Heap) : Prop where
  X : (hd.heap_1 g.w.params).In h
  T : Top hd.view_39 (looseW hd.view_39 []) g.mean g.mg g.mb h
theorem Wd.keeps {g : Gb} {h h' : Heap} (W : Wd g h) (k : Gr h h') : Wd g h' := ⟨W.X.keeps k, W.T.keeps k⟩

abbrev Led := List (Addr × Obj)
abbrev LM := List (Str × Value)
abbrev Fact := Heap → Prop
noncomputable def Mono (P : Fact) : Prop := ∀ h h', Gr h h' → P h → P h'
abbrev mapOf (m : LM) : Str → Option Value := fun y => m.lookup y

/-- a part of a heap -/
noncomputable def sub (h : Heap) (p : Addr → Bool) : Heap := hideAll h ((List.range h.objs.size).filter fun a => !p a)
theorem sub_of {h : Heap} {p : Addr → Bool} {a : Addr} {o : Obj} (e : (sub h p).get? a = some o) : h.get? a = some o ∧ p a = true := by
  have e1 := of_hideAll _ e
  refine ⟨e1, ?_⟩
  cases hp : p a with
  | true => rfl
  | false =>
    have : (sub h p).get? a = none := hideAll_none _ (by simp [hp, Heap.lt_size e1])
    rw [e] at this; cases this
theorem sub_get {h : Heap} {p : Addr → Bool} {a : Addr} {o : Obj} (e : h.get? a = some o) (hp : p a = true) : (sub h p).get? a = some o :=
  hideAll_get _ e (by simp [hp])
theorem sub_none {h : Heap} {p : Addr → Bool} {a : Addr} (hp : p a = false) : (sub h p).get? a = none := by
  cases e : (sub h p).get? a with
  | none => rfl
  | some o => rw [(sub_of e).2] at hp; cases hp
theorem sub_size (h : Heap) (p : Addr → Bool) : (sub h p).objs.size = h.objs.size := hideAll_size _ _

structure Cx where
  hb : Heap
  kn : Heap
  L : Addr
  s0 : Shared

structure FmT (g : Gb) (c : Cx) (m : LM) (mu : Led) (hk : Heap) (s : Shared) : Prop where
  ns : s.heap.Ns c.L (mapOf m)
  keep : Gr c.hb s.heap
  above : c.hb.objs.size ≤ c.L
  kk : Gr c.kn hk
  kh : Gr hk s.heap
  kf : ∀ a o, hk.get? a = some o → c.kn.get? a = some o ∨ c.hb.get? a = none
  kL : hk.get? c.L = none
  kb : Gr c.kn c.hb
  mus : ∀ p ∈ mu, s.heap.get? p.1 = some p.2 ∧ p.1 ≠ c.L ∧ c.hb.get? p.1 = none ∧ hk.get? p.1 = none
  nd : (mu.map (·.1)).Nodup
  wd : Wd g c.hb
  gens : s.gens = c.s0.gens
  os : s.os = c.s0.os

noncomputable def Fm (g : Gb) (c : Cx) (m : LM) (mu : Led) (fa : List Fact) (s : Shared) : Prop :=
  ∃ hk, FmT g c m mu hk s ∧ ∀ P ∈ fa, Mono P ∧ P hk

section
variable {g : Gb} {c : Cx} {m m' : LM} {mu mu' : Led} {hk : Heap} {fa : List Fact} {s s' : Shared}

theorem FmT.hbL (F : FmT g c m mu hk s) : c.hb.get? c.L = none := Heap.get?_none_of_le F.above

/-- the step: what is changed is the frame and what stands in ch -/
theorem FmT.move (F : FmT g c m mu hk s) (ch : List Addr) (hn : s'.heap.Ns c.L (mapOf m')) (k : ∀ b o, b ≠ c.L → b ∉ ch → s.heap.get? b = some o → s'.heap.get? b = some o)
    (hch : ∀ b ∈ ch, c.hb.get? b = none ∧ hk.get? b = none)
    (hmu : ∀ p ∈ mu', s'.heap.get? p.1 = some p.2 ∧ p.1 ≠ c.L ∧ c.hb.get? p.1 = none ∧ hk.get? p.1 = none) (nd : (mu'.map (·.1)).Nodup) (hg : s'.gens = s.gens) (ho : s'.os = s.os) : FmT g c m' mu' hk s' where
  ns := hn
  keep := fun b o e => k b o (fun q => by rw [q, F.hbL] at e; cases e) (fun q => by rw [(hch b q).1] at e; cases e) (F.keep b o e)
  above := F.above
  kk := F.kk
  kh := fun b o e => k b o (fun q => by rw [q, F.kL] at e; cases e) (fun q => by rw [(hch b q).2] at e; cases e) (F.kh b o e)
  kf := F.kf
  kL := F.kL
  kb := F.kb
  mus := hmu
  nd := nd
  wd := F.wd
  gens := hg.trans F.gens
  os := ho.trans F.os

theorem FmT.fr (F : FmT g c m mu hk s) : Fr c.hb c.L s.heap (mapOf m) := ⟨F.ns, F.keep, F.above⟩
theorem FmT.news (F : FmT g c m mu hk s) : News c.hb c.L s.heap mu := fun p hp => ⟨(F.mus p hp).1, (F.mus p hp).2.1, (F.mus p hp).2.2.1⟩
theorem Fm.fr (F : Fm g c m mu fa s) : Fr c.hb c.L s.heap (mapOf m) := let ⟨_, F, _⟩ := F; F.fr
theorem Fm.news (F : Fm g c m mu fa s) : News c.hb c.L s.heap mu := let ⟨_, F, _⟩ := F; F.news
theorem Fm.wd (F : Fm g c m mu fa s) : Wd g c.hb := let ⟨_, F, _⟩ := F; F.wd
theorem Fm.wdS (F : Fm g c m mu fa s) : Wd g s.heap := let ⟨_, F, _⟩ := F; F.wd.keeps F.keep
theorem Fm.fact (F : Fm g c m mu fa s) {P : Fact} (h : P ∈ fa) : P s.heap := let ⟨_, F, q⟩ := F; (q P h).1 _ _ F.kh (q P h).2
theorem Fm.at_ (F : Fm g c m mu fa s) {p : Addr × Obj} (h : p ∈ mu) : s.heap.get? p.1 = some p.2 := let ⟨_, F, _⟩ := F; (F.mus p h).1

theorem Fm.mono (F : Fm g c m mu fa s) {fa' : List Fact} (h : ∀ P ∈ fa', P ∈ fa) : Fm g c m mu fa' s := let ⟨hk, F, q⟩ := F; ⟨hk, F, fun P hp => q P (h P hp)⟩
/-- a fact that follows from the facts -/
theorem Fm.more (F : Fm g c m mu fa s) {P : Fact} (hm : Mono P) (h : ∀ hk : Heap, (∀ R ∈ fa, R hk) → P hk) : Fm g c m mu (P :: fa) s := by
  obtain ⟨hk, F, q⟩ := F
  refine ⟨hk, F, fun R hR => ?_⟩
  rcases List.mem_cons.mp hR with rfl | hR
  · exact ⟨hm, h hk fun R hR => (q R hR).2⟩
  · exact q R hR

/-- only heap parts outside the frame, the ledger and what is known have moved, or nothing -/
theorem Fm.grow (F : Fm g c m mu fa s) (k : Gr s.heap s'.heap) (hg : s'.gens = s.gens) (ho : s'.os = s.os) : Fm g c m mu fa s' := by
  obtain ⟨hk, F, q⟩ := F
  exact ⟨hk, F.move [] (F.ns.keeps k) (fun b o _ _ e => k b o e) (fun _ h => nomatch h) (fun p hp => ⟨k _ _ (F.mus p hp).1, (F.mus p hp).2⟩) F.nd hg ho, q⟩
theorem Fm.toks (F : Fm g c m mu fa s) {h : Heap} (e : h = s.heap) {tk : Nat} : Fm g c m mu fa { s with heap := h, toks := tk } := F.grow (e ▸ Gr.rfl') rfl rfl

/-- a local's store -/
theorem Fm.store (F : Fm g c m mu fa s) {x : Str} {v : Value} {h' : Heap} {tk : Nat} (hn : h'.Ns c.L (fun y => if y = x then some v else mapOf m y)) (hs : Heap.SameBut c.L s.heap h') :
    Fm g c ((x, v) :: m) mu fa { s with heap := h', toks := tk } := by
  obtain ⟨hk, F, q⟩ := F
  have e : (fun y => if y = x then some v else mapOf m y) = mapOf ((x, v) :: m) := by
    funext y
    show _ = List.lookup y ((x, v) :: m)
    rw [List.lookup_cons]
    by_cases h : y = x
    · subst h; simp
    · rw [if_neg h, beq_false_of_ne h]
  rw [e] at hn
  exact ⟨hk, F.move [] hn (fun b o hb _ e => (hs.2 b hb).trans e) (fun _ h => nomatch h) (fun p hp => ⟨(hs.2 _ (F.mus p hp).2.1).trans (F.mus p hp).1, (F.mus p hp).2⟩) F.nd rfl rfl, q⟩

theorem FmT.size_none (F : FmT g c m mu hk s) : c.hb.get? s.heap.objs.size = none ∧ hk.get? s.heap.objs.size = none ∧ s.heap.objs.size ≠ c.L ∧ ∀ p ∈ mu, p.1 ≠ s.heap.objs.size := by
  have no : ∀ h : Heap, Gr h s.heap → h.get? s.heap.objs.size = none := fun h k => by
    cases e : h.get? s.heap.objs.size with
    | none => rfl
    | some o => exact absurd (Heap.lt_size (k _ _ e)) (Nat.lt_irrefl _)
  exact ⟨no _ F.keep, no _ F.kh, Nat.ne_of_gt F.ns.lt, fun p hp e => absurd (Heap.lt_size (F.mus p hp).1) (e ▸ Nat.lt_irrefl _)⟩

/-- a new object that may change -/
theorem Fm.alloc (F : Fm g c m mu fa s) {o : Obj} (hf : o.isFreed = false) : Fm g c m ((s.heap.objs.size, o) :: mu) fa { s with heap := s.heap.push o } := by
  obtain ⟨hk, F, q⟩ := F
  obtain ⟨n1, n2, n3, n4⟩ := F.size_none
  refine ⟨hk, F.move [] (F.ns.push o) (fun b o' _ _ e => Heap.get?_push_of_some _ e) (fun _ h => nomatch h) (fun p hp => ?_) ?_ rfl rfl, q⟩
  · rcases List.mem_cons.mp hp with rfl | hp
    · exact ⟨Heap.get?_push_size _ hf, n3, n1, n2⟩
    · exact ⟨Heap.get?_push_of_some _ (F.mus p hp).1, (F.mus p hp).2⟩
  · rw [List.map_cons, List.nodup_cons]
    refine ⟨fun h => ?_, F.nd⟩
    obtain ⟨p, hp, e⟩ := List.mem_map.mp h
    exact n4 p hp e

/-- what may change no more is known -/
theorem Fm.freeze {a : Addr} {o : Obj} (F : Fm g c m ((a, o) :: mu) fa s) {P : Fact} (hm : Mono P) (h : ∀ hk : Heap, hk.get? a = some o → (∀ R ∈ fa, R hk) → P hk) : Fm g c m mu (P :: fa) s := by
  obtain ⟨hk, F, q⟩ := F
  obtain ⟨a1, a2, a3, a4⟩ := F.mus _ (.head _)
  dsimp only at a1 a2 a3 a4
  have nd := F.nd
  rw [List.map_cons, List.nodup_cons] at nd
  let hk' := sub s.heap fun b => (hk.get? b).isSome || b == a
  have k1 : Gr hk hk' := fun b o' e => sub_get (F.kh b o' e) (by simp [e])
  have k2 : hk'.get? a = some o := sub_get a1 (by simp)
  have k3 : ∀ b o', hk'.get? b = some o' → hk.get? b = some o' ∨ b = a := fun b o' e => by
    obtain ⟨e1, e2⟩ := sub_of e
    by_cases hb : b = a
    · exact .inr hb
    · refine .inl ?_
      simp only [Bool.or_eq_true, beq_iff_eq, hb, or_false] at e2
      obtain ⟨o2, e3⟩ := Option.isSome_iff_exists.mp e2
      rw [F.kh b o2 e3] at e1
      rw [e3, e1]
  refine ⟨hk', ⟨F.ns, F.keep, F.above, F.kk.trans k1, fun b o' e => (sub_of e).1, fun b o' e => ?_, ?_, F.kb, fun p hp => ?_, nd.2, F.wd, F.gens, F.os⟩, fun R hR => ?_⟩
  · rcases k3 b o' e with e | rfl
    · exact F.kf b o' e
    · exact .inr a3
  · cases e : hk'.get? c.L with
    | none => rfl
    | some o' =>
      rcases k3 _ _ e with e | e
      · rw [F.kL] at e; cases e
      · exact absurd e.symm a2
  · have z := F.mus p (.tail _ hp)
    refine ⟨z.1, z.2.1, z.2.2.1, ?_⟩
    cases e : hk'.get? p.1 with
    | none => rfl
    | some o' =>
      rcases k3 _ _ e with e | e
      · rw [z.2.2.2] at e; cases e
      · exact absurd (List.mem_map.mpr ⟨p, hp, e⟩) nd.1
  · rcases List.mem_cons.mp hR with rfl | hR
    · exact ⟨hm, h hk' k2 fun R hR => (q R hR).1 _ _ k1 (q R hR).2⟩
    · exact ⟨(q R hR).1, (q R hR).1 _ _ k1 (q R hR).2⟩

/-- one object of the ledger is another now -/
inductive Tn (a : Addr) (o o' : Obj) : Led → Led → Prop
  | head {r} : Tn a o o' ((a, o) :: r) ((a, o') :: r)
  | tail {p r r'} : Tn a o o' r r' → Tn a o o' (p :: r) (p :: r')
theorem Tn.addrs {a : Addr} {o o' : Obj} : ∀ {l l' : Led}, Tn a o o' l l' → l'.map (·.1) = l.map (·.1)
  | _, _, .head => rfl
  | _, _, .tail t => by rw [List.map_cons, List.map_cons, t.addrs]
theorem Tn.mem {a : Addr} {o o' : Obj} : ∀ {l l' : Led}, Tn a o o' l l' → (a, o) ∈ l
  | _, _, .head => .head _
  | _, _, .tail t => .tail _ t.mem
theorem Tn.back {a : Addr} {o o' : Obj} : ∀ {l l' : Led}, Tn a o o' l l' → (l.map (·.1)).Nodup → ∀ p ∈ l', p = (a, o') ∨ (p.1 ≠ a ∧ p ∈ l)
  | _, _, .head, nd, p, hp => by
    rw [List.map_cons, List.nodup_cons] at nd
    rcases List.mem_cons.mp hp with rfl | hp
    · exact .inl rfl
    · exact .inr ⟨fun e => nd.1 (List.mem_map.mpr ⟨p, hp, e⟩), .tail _ hp⟩
  | _, _, .tail t, nd, p, hp => by
    rw [List.map_cons, List.nodup_cons] at nd
    rcases List.mem_cons.mp hp with rfl | hp
    · exact .inr ⟨fun e => nd.1 (List.mem_map.mpr ⟨(a, o), t.mem, e.symm⟩), .head _⟩
    · rcases t.back nd.2 p hp with e | ⟨n, e⟩
      · exact .inl e
      · exact .inr ⟨n, .tail _ e⟩
theorem Fm.turn {a : Addr} {o o' : Obj} (F : Fm g c m mu fa s) (t : Tn a o o' mu mu') (hs : ∀ b o, b ≠ a → s.heap.get? b = some o → s'.heap.get? b = some o) (ho : s'.heap.get? a = some o') (hg : s'.gens = s.gens) (hos : s'.os = s.os) : Fm g c m mu' fa s' := by
  obtain ⟨hk, F, q⟩ := F
  obtain ⟨a1, a2, a3, a4⟩ := F.mus _ t.mem
  refine ⟨hk, F.move [a] (F.ns.at' fun o e => hs _ o (Ne.symm a2) e) (fun b o _ hb e => hs b o (by simpa using hb) e) (fun b hb => ?_) (fun p hp => ?_) (t.addrs ▸ F.nd) hg hos, q⟩
  · rw [List.mem_singleton.mp hb]; exact ⟨a3, a4⟩
  · rcases t.back F.nd p hp with rfl | ⟨n, e⟩
    · exact ⟨ho, a2, a3, a4⟩
    · exact ⟨hs _ _ n (F.mus p e).1, (F.mus p e).2⟩
/-- an object of the ledger is given up, whatever becomes of it -/
theorem Fm.lose {a : Addr} {o : Obj} (F : Fm g c m ((a, o) :: mu) fa s) (k : ∀ b o, b ≠ a → s.heap.get? b = some o → s'.heap.get? b = some o) (hg : s'.gens = s.gens) (ho : s'.os = s.os) : Fm g c m mu fa s' := by
  obtain ⟨hk, T, q⟩ := F
  have a0 := T.mus (a, o) (.head _)
  have nd := T.nd
  rw [List.map_cons, List.nodup_cons] at nd
  refine ⟨hk, T.move [a] (T.ns.at' fun o e => k _ o (Ne.symm a0.2.1) e) (fun b o _ hb e => k b o (by simpa using hb) e) (fun b hb => ?_) (fun p hp => ?_) nd.2 hg ho, q⟩
  · rw [List.mem_singleton.mp hb]; exact a0.2.2
  · have z := T.mus p (.tail _ hp)
    exact ⟨k _ _ (fun y => nd.1 (List.mem_map.mpr ⟨p, hp, y⟩)) z.1, z.2⟩
theorem Fm.perm (F : Fm g c m mu fa s) (h : mu'.Perm mu) : Fm g c m mu' fa s := by
  obtain ⟨hk, F, q⟩ := F
  exact ⟨hk, { F with mus := fun p hp => F.mus p (h.mem_iff.mp hp), nd := (h.map _).nodup_iff.mpr F.nd }, q⟩
/-- a part of the ledger is enough -/
theorem Fm.drop (F : Fm g c m mu fa s) (h : mu'.Sublist mu) : Fm g c m mu' fa s := by
  obtain ⟨hk, F, q⟩ := F
  exact ⟨hk, { F with mus := fun p hp => F.mus p (h.subset hp), nd := F.nd.sublist (h.map _) }, q⟩
end

/-- data -/
noncomputable def Rd (v : Value) (d : PyData) : Fact := fun h => ∃ as, Reads h v d as
theorem Rd.mono {v : Value} {d : PyData} : Mono (Rd v d) := fun _ _ k ⟨as, r⟩ => ⟨as, Reads.keeps k r⟩
noncomputable def RdAll (vs : List Value) (ds : List PyData) : Fact := fun h => ∃ as, ReadsAll h vs ds as
theorem RdAll.mono {vs : List Value} {ds : List PyData} : Mono (RdAll vs ds) := fun _ _ k ⟨as, r⟩ => ⟨as, ReadsAll.keeps k r⟩
theorem RdAll.nil {h : Heap} : RdAll [] [] h := ⟨_, .nil⟩
theorem RdAll.cons {v : Value} {d : PyData} {vs : List Value} {ds : List PyData} {h : Heap} (x : Rd v d h) (y : RdAll vs ds h) : RdAll (v :: vs) (d :: ds) h := let ⟨_, a⟩ := x; let ⟨_, b⟩ := y; ⟨_, .cons a b⟩
theorem Rd.str {x : Str} {t : Tok} {h : Heap} : Rd (.str x t) (.str x) h := ⟨_, .str x t⟩
theorem Rd.int {x : Int} {t : Tok} {h : Heap} : Rd (.int x t) (.int x) h := ⟨_, .int x t⟩
theorem Rd.bool {x : Bool} {h : Heap} : Rd (.bool x) (.bool x) h := ⟨_, .bool x⟩
theorem Rd.list {a : Addr} {vs : List Value} {n : Nat} {ds : List PyData} {h : Heap} (e : h.get? a = some (listOf vs.toArray n)) (r : RdAll vs ds h) : Rd (.ref a) (.list ds) h :=
  let ⟨_, r⟩ := r; ⟨_, .list e rfl rfl (by simpa using r)⟩
end
-- F2
section

structure Room (A : Around) (n : Nat) : Prop where
  hh : A.handled = none
  dp : A.depth + n + 1 < recursionLimit
  un : A.units + 100 * (n + 1) < cLine
theorem Room.deeper {A : Around} {n : Nat} (R : Room A (n + 1)) (env : Env) : Room (A.deeper env) n := ⟨R.hh, by have := R.dp; show A.depth + 1 + n + 1 < _; omega, by have := R.un; show A.units + 3 + 100 * (n + 1) < _; omega⟩
theorem Room.in1 {A : Around} {n : Nat} (R : Room A (n + 1)) : Room A.in1 n := ⟨R.hh, by have := R.dp; show A.depth + n + 1 < _; omega, by have := R.un; show A.units + 1 + 100 * (n + 1) < _; omega⟩
theorem Room.less {A : Around} {n k : Nat} (R : Room A n) (h : k ≤ n) : Room A k := ⟨R.hh, by have := R.dp; omega, by have := R.un; omega⟩
theorem Room.u64 {A : Around} {n : Nat} (R : Room A n) : A.units + 64 < cLine := by have := R.un; omega
theorem Room.u65 {A : Around} {n : Nat} (R : Room A n) : A.units + 65 < cLine := by have := R.un; omega
theorem Room.u0 {A : Around} {n : Nat} (R : Room A n) : A.units < cLine := by have := R.un; omega
theorem Room.d {A : Around} {n : Nat} (R : Room A n) : A.depth < recursionLimit := by have := R.dp; omega

noncomputable def Ls (a : Addr) (vs : List Value) : Fact := fun h => h.IsList a vs.toArray
theorem Ls.mono {a : Addr} {vs : List Value} : Mono (Ls a vs) := fun _ _ k x => x.at fun o e => k a o e

section
variable {g : Gb} {c : Cx} {m : LM} {mu mu' : Led} {fa : List Fact} {s s' : Shared} {A : Around} {E : Value → Shared → Prop} {k : Nat}

theorem Fm.lsOf (F : Fm g c m mu fa s) {a : Addr} {vs : List Value} (h : Ls a vs ∈ fa) : s.heap.IsList a vs.toArray := F.fact h
theorem rd_open {a : Addr} {ds : List PyData} {h : Heap} (x : Rd (.ref a) (.list ds) h) : ∃ vs, Ls a vs h ∧ RdAll vs ds h := by
  obtain ⟨as, r⟩ := x
  cases r with
  | list e1 e2 e3 e4 => exact ⟨_, ⟨_, e1, e2, _, by simpa using e3⟩, _, e4⟩
/-- the data list at hand, opened -/
theorem Fm.openList (F : Fm g c m mu fa s) {a : Addr} {ds : List PyData} (h : Rd (.ref a) (.list ds) ∈ fa) : ∃ vs, Fm g c m mu (RdAll vs ds :: Ls a vs :: fa) s := by
  obtain ⟨hk, F, q⟩ := F
  obtain ⟨vs, h1, h2⟩ := rd_open (q _ h).2
  refine ⟨vs, hk, F, fun P hP => ?_⟩
  rcases List.mem_cons.mp hP with rfl | hP
  · exact ⟨RdAll.mono, h2⟩
  · rcases List.mem_cons.mp hP with rfl | hP
    · exact ⟨Ls.mono, h1⟩
    · exact q P hP
theorem RdAll.length {vs : List Value} {ds : List PyData} {h : Heap} (x : RdAll vs ds h) : vs.length = ds.length := by
  obtain ⟨as, r⟩ := x
  generalize hv : vs = vs' at r
  clear hv
  induction ds generalizing vs' as with
  | nil => cases r; rfl
  | cons d ds ih => cases r with | cons _ r => simp [ih _ _ r]
theorem RdAll.at_ {h : Heap} : ∀ {vs : List Value} {ds : List PyData} {i : Nat} {v : Value}, RdAll vs ds h → vs[i]? = some v → ∃ d, ds[i]? = some d ∧ Rd v d h
  | _, _, i, v, ⟨_, .nil⟩, e => by simp at e
  | _, _, 0, v, ⟨_, .cons r _⟩, e => by simp at e; subst e; exact ⟨_, rfl, _, r⟩
  | _, _, i + 1, v, ⟨_, .cons _ r⟩, e => by
    simp only [List.getElem?_cons_succ] at e ⊢
    exact RdAll.at_ ⟨_, r⟩ e
theorem RdAll.snoc {h : Heap} {v : Value} {d : PyData} (r : Rd v d h) : ∀ {vs : List Value} {ds : List PyData}, RdAll vs ds h → RdAll (vs ++ [v]) (ds ++ [d]) h
  | _, _, ⟨_, .nil⟩ => RdAll.cons r RdAll.nil
  | _, _, ⟨_, .cons r' rs⟩ => RdAll.cons ⟨_, r'⟩ (RdAll.snoc r ⟨_, rs⟩)

/-- a new frame is opened upon what stands, but for what is handed on; and closed again -/
theorem Fm.open_ {mv : Led} (F : Fm g c m (mv ++ mu) fa s) : ∃ (hb : Heap) (kn : Heap), (∀ p ∈ mu, hb.get? p.1 = some p.2) ∧
    (∀ (h₁ : Heap) (tk : Nat) (m₁ : LM) (more : Led), h₁.Ns s.heap.objs.size (mapOf m₁) → Gr s.heap h₁ → (∀ p ∈ more, h₁.get? p.1 = some p.2 ∧ s.heap.objs.size < p.1) → (more.map (·.1)).Nodup →
      Fm g ⟨hb, kn, s.heap.objs.size, s⟩ m₁ (more ++ mv) fa { s with heap := h₁, toks := tk }) ∧
    ∀ m'' mv' rest fa'' s'', mv'.map (·.1) = mv.map (·.1) → Fm g ⟨hb, kn, s.heap.objs.size, s⟩ m'' (mv' ++ rest) fa'' s'' → ∃ oC, Fm g c m ((s.heap.objs.size, oC) :: (mv' ++ mu)) fa'' s'' := by
  obtain ⟨hkn, F, q⟩ := F
  obtain ⟨n1, n2, n3, n4⟩ := F.size_none
  have nm : ∀ b, b ∈ mv.map (·.1) → c.hb.get? b = none ∧ hkn.get? b = none := fun b hb => by
    obtain ⟨p, hp, rfl⟩ := List.mem_map.mp hb
    exact (F.mus p (List.mem_append_left _ hp)).2.2
  have nd := F.nd
  rw [List.map_append, List.nodup_append] at nd
  have up : Gr c.hb (hideAll s.heap (mv.map (·.1))) := fun b o e => hideAll_get _ (F.keep b o e) fun z => by rw [(nm b z).1] at e; cases e
  have lt : ∀ p ∈ mv, p.1 < s.heap.objs.size := fun p hp => Heap.lt_size (F.mus p (List.mem_append_left _ hp)).1
  have big : ∀ (a : Addr) (h : Heap), s.heap.objs.size < a → Gr h s.heap → h.get? a = none := fun a h ha kk => by
    cases z : h.get? a with
    | none => rfl
    | some o => exact absurd (Nat.lt_trans (Heap.lt_size (kk a o z)) ha) (Nat.lt_irrefl _)
  refine ⟨hideAll s.heap (mv.map (·.1)), hkn, fun p hp => hideAll_get _ (F.mus p (List.mem_append_right _ hp)).1 fun y => nd.2.2 _ y _ (List.mem_map_of_mem hp) rfl, fun h₁ tk m₁ more hns hk₁ hmore hnd => ?_, ?_⟩
  · refine ⟨hkn, ⟨hns, fun b o e => hk₁ b o (of_hideAll _ e), Nat.le_of_eq (hideAll_size _ _), Gr.rfl', F.kh.trans hk₁, fun _ _ e => .inl e, n2,
      fun b o e => hideAll_get _ (F.kh b o e) (fun z => by rw [(nm b z).2] at e; cases e), fun p hp => ?_, ?_, F.wd.keeps up, rfl, rfl⟩, q⟩
    · rcases List.mem_append.mp hp with hp | hp
      · obtain ⟨e1, e2⟩ := hmore p hp
        exact ⟨e1, Nat.ne_of_gt e2, big _ _ e2 fun b o e => of_hideAll _ e, big _ _ e2 F.kh⟩
      · have z := F.mus p (List.mem_append_left _ hp)
        exact ⟨hk₁ _ _ z.1, n4 p (List.mem_append_left _ hp), hideAll_none _ (List.mem_map_of_mem hp), z.2.2.2⟩
    · rw [List.map_append, List.nodup_append]
      refine ⟨hnd, nd.1, fun a ha b hb e => ?_⟩
      obtain ⟨p, hp, rfl⟩ := List.mem_map.mp ha
      obtain ⟨p', hp', rfl⟩ := List.mem_map.mp hb
      exact absurd (lt p' hp') (Nat.not_lt.mpr (Nat.le_of_lt (e ▸ (hmore p hp).2)))
  · rintro m'' mv' rest fa'' s₃ hmv ⟨hk2, F2, q2⟩
    obtain ⟨oC, _, _, eC, _⟩ := id F2.ns
    have keepS : ∀ b o, b ∉ mv.map (·.1) → s.heap.get? b = some o → s₃.heap.get? b = some o := fun b o hb e => F2.keep b o (hideAll_get _ e hb)
    have kf2 : ∀ b, b ∉ mv.map (·.1) → hkn.get? b = none → (∃ o, s.heap.get? b = some o) → hk2.get? b = none := fun b hb e ⟨o, e'⟩ => by
      cases z : hk2.get? b with
      | none => rfl
      | some o2 =>
        rcases F2.kf b o2 z with y | y
        · dsimp only at y; rw [e] at y; cases y
        · rw [hideAll_get _ e' hb] at y; cases y
    have nL : c.L ∉ mv.map (·.1) := fun z => by
      obtain ⟨p, hp, e⟩ := List.mem_map.mp z
      exact (F.mus p (List.mem_append_left _ hp)).2.1 e
    refine ⟨oC, hk2, ⟨F.ns.at' fun o e => keepS _ o nL e, fun b o e => F2.keep b o (up b o e), F.above, F.kk.trans F2.kk, F2.kh, fun b o e => ?_, ?_, F.kb, fun p hp => ?_, ?_, F.wd, ?_, ?_⟩, q2⟩
    · rcases F2.kf b o e with y | y
      · exact F.kf b o y
      · refine .inr ?_
        cases z : c.hb.get? b with
        | none => rfl
        | some o2 => rw [up b o2 z] at y; cases y
    · obtain ⟨o, _, _, e, _⟩ := F.ns
      exact kf2 _ nL F.kL ⟨o, e⟩
    · rcases List.mem_cons.mp hp with rfl | hp
      · exact ⟨eC, n3, n1, F2.kL⟩
      rcases List.mem_append.mp hp with hp | hp
      · have z := F2.mus p (List.mem_append_left _ hp)
        have hm : p.1 ∈ mv.map (·.1) := hmv ▸ List.mem_map_of_mem hp
        exact ⟨z.1, fun e => nL (e ▸ hm), (nm _ hm).1, z.2.2.2⟩
      · have z := F.mus p (List.mem_append_right _ hp)
        have nb : p.1 ∉ mv.map (·.1) := fun y => nd.2.2 _ y _ (List.mem_map_of_mem hp) rfl
        exact ⟨keepS _ _ nb z.1, z.2.1, z.2.2.1, kf2 _ nb z.2.2.2 ⟨_, z.1⟩⟩
    · rw [List.map_cons, List.map_append, hmv, ← List.map_append, List.nodup_cons]
      refine ⟨fun y => ?_, F.nd⟩
      obtain ⟨p, hp, e⟩ := List.mem_map.mp y
      exact n4 p hp e
    · exact F2.gens.trans F.gens
    · exact F2.os.trans F.os

/-- entering a def -/
theorem enter_fm {mv : Led} (F : Fm g c m (mv ++ mu) fa s) {Q : Value → Shared → Prop} {name qual : Str} {params : Arguments} {body : List Stmt} {scope : Scope} {dV kV doc pm cdv ct oc : Value} {an od : Option Addr} {osl : Array (Option Value)} {f : Addr} {vs : List Value} {kw : List (Str × Value)} {binds : List (Str × Value)}
    (ho : (hd.heap_1 g.w.params).lookup f = some ⟨oc, od, .func (fnOf name qual params body scope dV kV doc pm an cdv ct), osl⟩) (hcd : codeIn (hd.heap_1 g.w.params) cdv qual = true) (hroom : A.depth < recursionLimit)
    (hbind : BindsTo s (fnOf name qual params body scope dV kV doc pm an cdv ct) ⟨vs, kw⟩ binds) (hloc : ∀ y ∈ binds, scope.names.lookup y.1 = some .local)
    (h : ∀ c' s₁, Fm g c' binds.reverse mv fa s₁ → (∀ m'' mv' rest fa'' s'', mv'.map (·.1) = mv.map (·.1) → Fm g c' m'' (mv' ++ rest) fa'' s'' → Fm g c m (mv' ++ mu) fa'' s'') →
      wpAny (MM g) (A.deeper (envOf qual scope c'.L f cdv)) (execs body (envOf qual scope c'.L f cdv))
        (fun fl s' => Q (match fl with | .ret v => v | _ => .none) s') (fun _ _ => False) s₁)
    (hco : scope.isCoroutine = false) (hgen : scope.isGenerator = false) (hk : scope.kind = .function)
    (hcell : ∀ x ∈ scope.names, x.2 ≠ .cell) : wpAny (MM g) A (call (.ref f) vs kw) Q E s := by
  have W := F.wdS
  obtain ⟨hb, kn, _, op, cl⟩ := F.open_
  refine wpAny_call ?_
  refine codeAny_call_def (fd := fnOf name qual params body scope dV kV doc pm an cdv ct) (body := body) (binds := binds) hroom (W.X _ _ ho) rfl W.T.nolimit (codeRec_of W.X hcd) rfl hbind hcell hloc (fun h₁ hns hk₁ => ?_) hco hgen hk
  exact wpAny_mono (h ⟨hb, kn, s.heap.objs.size, s⟩ _ (op h₁ _ _ [] hns hk₁ (fun _ h => nomatch h) .nil) fun m'' mv' rest fa'' s'' hm F2 => let ⟨_, x⟩ := cl _ _ _ _ _ hm F2; x.drop (List.sublist_cons_self _ _)) (fun fl s' hl => hl) fun _ _ y => y.elim
end

section
variable {g : Gb} {c : Cx} {m : LM} {mu mu' : Led} {fa : List Fact} {s s' : Shared} {A : Around} {E : Value → Shared → Prop} {k : Nat} {env : Env}

theorem r_local {x : Str} {pos : Pos} {v : Value} {Q : Value → Shared → Prop} (F : Fm g c m mu fa s) (hv : m.lookup x = some v) (h : Q v s)
    (hL : env.locals = c.L) (hk : env.scope.kind = .function) (hl : env.kindOf x = some .local) (hd : (x == ("__debug__" : Str)) = false) : wpAny (MM g) A (eval (.Name x pos) env) Q E s :=
  wpAny_Name (wpAny_loadName_local hk hl (hL ▸ F.fr.ns) hv h) hd
theorem r_glob {x : Str} {pos : Pos} {v : Value} {Q : Value → Shared → Prop} (F : Fm g c m mu fa s) (e : nsIn (hd.heap_1 g.w.params) mainGlobals x = some (some v)) (h : Q v s)
    (hg : env.globals = mainGlobals) (hk : env.scope.kind = .function) (hx : env.kindOf x = some .globalImplicit) (hd : (x == ("__debug__" : Str)) = false) : wpAny (MM g) A (eval (.Name x pos) env) Q E s :=
  nameG_K F.fr F.wd.X (topRead_of F.wd.T) e h hg hk hx hd
theorem r_blt {x : Str} {pos : Pos} {v : Value} {Q : Value → Shared → Prop} (F : Fm g c m mu fa s) (e : nsIn (hd.heap_1 g.w.params) mainGlobals x = some none) (hv : bootBuiltins x = some v) (h : Q v s)
    (hn : x ≠ "__name__") (hg : env.globals = mainGlobals) (hb : env.builtins = builtinsNs) (hk : env.scope.kind = .function) (hx : env.kindOf x = some .globalImplicit) (hd : (x == ("__debug__" : Str)) = false) : wpAny (MM g) A (eval (.Name x pos) env) Q E s := by
  have T := topRead_of F.wd.T
  exact Name_function_global hk hx (loadGlobal_builtin (env := env) (by rw [hg]; exact T.g.keeps F.fr.keep) (mg_none_of F.wd.X T.g e) (by rw [hb]; exact T.b.keeps F.fr.keep) ((T.builtins x hn).trans hv) h) hd
theorem r_store {x : Str} {v : Value} {Q : Unit → Shared → Prop} (F : Fm g c m mu fa s) (h : ∀ s', Fm g c ((x, v) :: m) mu fa s' → Q () s')
    (hL : env.locals = c.L) (hk : env.scope.kind = .function) (hl : env.kindOf x = some .local) : wpAny (MM g) A (storeName env x v) Q E s :=
  wpAny_storeName_local hl (hL ▸ F.fr.ns) (fun h' hn hs => h _ (F.store (hL ▸ hn) (hL ▸ hs))) (by rw [hk]; rfl)
theorem r_newList {vs : List Value} {Q : Value → Shared → Prop} (F : Fm g c m mu fa s) (h : ∀ a s', Fm g c m ((a, listOf vs.toArray 0) :: mu) fa s' → Q (.ref a) s') (hz : vs.length ≤ sizeLine) : wpAny (MM g) A (newList vs) Q E s :=
  wpAny_newObj_type (h _ _ (F.alloc rfl)) (by show vs.toArray.size ≤ sizeLine; rw [List.size_toArray]; exact hz)
theorem r_newTuple {vs : List Value} {Q : Value → Shared → Prop} (F : Fm g c m mu fa s) (h : ∀ a s', Fm g c m ((a, { cls := .type "tuple", data := .seq vs.toArray }) :: mu) fa s' → Q (.ref a) s') (hz : vs.length ≤ sizeLine) : wpAny (MM g) A (newTuple vs) Q E s :=
  wpAny_newObj_type (h _ _ (F.alloc rfl)) (by show vs.toArray.size ≤ sizeLine; rw [List.size_toArray]; exact hz)
theorem r_append {a : Addr} {vs : List Value} {n : Nat} {v : Value} {Q : Value → Shared → Prop} (F : Fm g c m mu fa s) (t : Tn a (listOf vs.toArray n) (listOf (vs ++ [v]).toArray (n + 1)) mu mu') (h : ∀ s', Fm g c m mu' fa s' → Q .none s') (hz : vs.length ≤ sizeLine) :
    wpAny (MM g) A (call (.builtin "list.append") [.ref a, v]) Q E s :=
  append_at (its := vs.toArray) (hsz := by rw [List.size_toArray]; exact hz) (F.at_ t.mem) fun h' hs ho => h _ (F.turn t hs.extBut (by rw [ho, List.push_toArray]) rfl rfl)

/-- a for over a list that stands -/
inductive ForAt (g : Gb) (A : Around) (env : Env) (x : Str) (body : List Stmt) (Q : Flow → Shared → Prop) (xv : Value) (s₁ : Shared) : Prop where
  | mk (c : Cx) (m : LM) (mu : Led) (fa : List Fact) (ax : Addr) (vs : List Value) (J : Nat → LM → Led → List Fact → Prop) (h0 : xv = .ref ax) (h1 : env.locals = c.L) (h2 : Fm g c m mu fa s₁) (h3 : vs.length ≤ sizeLine) (h4 : J 0 m mu fa) (h5 : (∀ i m₁ mu₁ fa₁ s₂, J i m₁ mu₁ fa₁ → Fm g c m₁ mu₁ fa₁ s₂ → s₂.heap.IsList ax vs.toArray)) (h6 : (∀ i v m₁ mu₁ fa₁ I oI s₂, vs[i]? = some v → J i m₁ mu₁ fa₁ → Fm g c ((x, v) :: m₁) ((I, oI) :: mu₁) fa₁ s₂ →
      wpAny (MM g) A (execs body env) (fun f s₃ => match f with
        | .next | .cont => ∃ m₂ mu₂ fa₂, J (i + 1) m₂ mu₂ fa₂ ∧ Fm g c m₂ ((I, oI) :: mu₂) fa₂ s₃
        | .brk => Q .next s₃
        | .ret v => Q (.ret v) s₃) (fun _ _ => False) s₂)) (h7 : ∀ m₁ mu₁ fa₁ s₂, J vs.length m₁ mu₁ fa₁ → Fm g c m₁ mu₁ fa₁ s₂ → Q .next s₂) : ForAt g A env x body Q xv s₁

theorem r_For {x : Str} {px pos : Pos} {iter : Expr} {body : List Stmt} {Q : Flow → Shared → Prop} (hh : A.handled = none) (hk : env.scope.kind = .function) (hx : env.kindOf x = some .local)
    (h : wpAny (MM g) A (eval iter env) (ForAt g A env x body Q) E s) (hs : ∀ x, foldedSetIterable iter env x = pure x) :
    wpAny (MM g) A (exec (.For (.Name x px) iter body [] pos) env) Q E s := by
  refine wpAny_For (wpAny_mono h (fun xv s₁ h₁ => ?_) fun _ _ e => e) hs
  obtain ⟨c, m, mu, fa, ax, vs, J, rfl, hL, F, hz, hJ, hJl, turn, done⟩ := h₁
  have hl := hJl 0 _ _ _ _ hJ F
  refine wpAny_pyIter_list hl ?_
  have F₀ := F.alloc (o := { cls := .type "list_iterator", data := .fields #[.ref ax, .int 0 0] }) rfl
  generalize hI : s₁.heap.objs.size = I at F₀
  have hne : ax ≠ I := hI ▸ Nat.ne_of_lt (let ⟨_, e, _⟩ := hl; Heap.lt_size e)
  have W := Walks.list (prog := PySem.Challenge.rw_in0181_01.row.prog) (w := g.w) hh I ax hne vs.toArray
  refine codeAny_forLoop
    (fun k s' => ∃ i m₁ mu₁ fa₁ oI, oI.cls = .type "list_iterator" ∧ oI.data = .fields #[.ref ax, .int (i : Nat) 0] ∧ J i m₁ mu₁ fa₁ ∧ Fm g c m₁ ((I, oI) :: mu₁) fa₁ s' ∧ i ≤ vs.length ∧ k = vs.length + 1 - i) ?_ (vs.length + 1)
    ⟨0, m, mu, fa, _, rfl, rfl, hJ, F₀, Nat.zero_le _, rfl⟩
  rintro k s' ⟨i, m₁, mu₁, fa₁, oI, c1, c2, hJ', F', hi, rfl⟩
  have st : s'.heap.IsListIter I ax i ∧ s'.heap.IsList ax vs.toArray := ⟨⟨oI, F'.at_ (.head _), c1, c2⟩, hJl i _ _ _ _ hJ' (F'.drop (List.sublist_cons_self _ _))⟩
  have nofail : ∀ {α : Type} {t : Sem α} {P : α → Shared → Prop} {E' : Value → Shared → Prop} {s : Shared}, wpAny (MM g) A t P (fun _ _ => False) s → wpAny (MM g) A t P E' s := fun h => wpAny_mono h (fun _ _ x => x) fun _ _ x => x.elim
  by_cases hlt : i < vs.length
  · refine W.item i s' _ _ (by simpa using hlt) st fun v h' tk hv st' hk' => ?_
    have hv : vs[i]? = some v := by simpa using hv
    obtain ⟨o', e1, e2, e3⟩ := st'.1
    have F₁ := F'.turn (s' := { s' with heap := h', toks := tk }) (o' := o') .head (fun b o hb e => hk' b o (by simpa using hb) e) e1 rfl rfl
    refine wpAny_assign_Name (r_store F₁ (fun s₂ F₂ => ?_) hL hk hx)
    refine nofail (wpAny_mono (turn i v m₁ mu₁ fa₁ I o' s₂ hv hJ' F₂) (fun f s₃ h₃ => ?_) fun _ _ x => x)
    cases f with
    | ret v => exact h₃
    | brk => exact h₃
    | next =>
      obtain ⟨m₂, mu₂, fa₂, j, F₃⟩ := h₃
      exact ⟨vs.length + 1 - (i + 1), by omega, i + 1, m₂, mu₂, fa₂, o', e2, e3, j, F₃, hlt, rfl⟩
    | cont =>
      obtain ⟨m₂, mu₂, fa₂, j, F₃⟩ := h₃
      exact ⟨vs.length + 1 - (i + 1), by omega, i + 1, m₂, mu₂, fa₂, o', e2, e3, j, F₃, hlt, rfl⟩
  · obtain rfl : i = vs.length := by omega
    have st'' : s'.heap.IsListIter I ax vs.toArray.size ∧ s'.heap.IsList ax vs.toArray := by rw [List.size_toArray]; exact st
    refine W.done s' _ _ st'' fun h' tk hk' => wpAny_execs_nil ?_
    exact done m₁ mu₁ fa₁ _ hJ' (F'.lose (fun b o hb e => hk' b o (by simpa using hb) e) rfl rfl)
end
end
-- F3
section

abbrev cellO (v : Option Value) : Obj := { cls := .type "cell", data := .cell v }

theorem pushCells_get : ∀ (names : List (Str × NameKind)) (h : Heap) (acc : List (Str × Addr)), ∀ n c, (n, c) ∈ cellsFrom h.objs.size names acc → (n, c) ∈ acc ∨ ((pushCells h names).get? c = some (cellO none) ∧ h.objs.size ≤ c)
  | [], _, _, _, _, x => .inl x
  | (name, kind) :: r, h, acc, n, c, x => by
    unfold cellsFrom at x
    unfold pushCells
    split
    · rename_i hk
      rw [if_pos hk] at x
      have ih := pushCells_get r (h.push { cls := .type "cell", data := .cell none }) ((name, h.objs.size) :: acc) n c (by rw [Heap.size_push]; exact x)
      rcases ih with ih | ⟨i1, i2⟩
      · rcases List.mem_cons.mp ih with e | ih
        · cases e
          exact .inr ⟨pushCells_keeps r _ _ _ (Heap.get?_push_size _ rfl), Nat.le_refl _⟩
        · exact .inl ih
      · rw [Heap.size_push] at i2
        exact .inr ⟨i1, Nat.le_of_succ_le i2⟩
    · rename_i hk
      rw [if_neg hk] at x
      exact pushCells_get r h acc n c x

section
variable {M : Model} {A : Around} {E : Value → Shared → Prop} {s : Shared}
theorem wp_newEnv {scope : Scope} {globals : Addr} {closure : List (Str × Addr)} {binds : List (Str × Value)} {qual : Str} {func : Option Addr} {code : Value} {around : Option Env} {builtins : Addr} {Q : Env → Shared → Prop}
    (hl : ∀ x ∈ binds, scope.names.lookup x.1 = some .local)
    (hQ : ∀ h' tk, h'.Ns s.heap.objs.size (mapOf binds.reverse) → Gr s.heap h' → (∀ n c, (n, c) ∈ cellsFrom (s.heap.objs.size + 1) scope.names closure → (n, c) ∈ closure ∨ (h'.get? c = some (cellO none) ∧ s.heap.objs.size < c)) →
      Q (newEnv scope s.heap.objs.size globals (cellsFrom (s.heap.objs.size + 1) scope.names closure) qual func code around builtins) { s with heap := h', toks := tk })
    (hk : scope.kind = .function := by rfl) : wpAny M A (newFunctionEnv scope globals closure binds qual func code around builtins) Q E s := by
  have all : ∀ (env : Env) (fr : Obj), fr.isFreed = false → env.scope = scope → env.locals = s.heap.objs.size → ∀ (H : Heap), (∀ b o, (pushCells (s.heap.push fr) scope.names).get? b = some o → H.get? b = some o) → H.Ns s.heap.objs.size (fun _ => none) →
      (∀ h' tk, h'.Ns s.heap.objs.size (mapOf binds.reverse) → (∀ b o, b ≠ s.heap.objs.size → (pushCells (s.heap.push fr) scope.names).get? b = some o → h'.get? b = some o) → Q env { s with heap := h', toks := tk }) →
      wpAny M A (do forIn binds PUnit.unit (fun (x : Str × Value) (_ : PUnit) => do storeName env x.1 x.2; pure (ForInStep.yield PUnit.unit)); pure env) Q E { s with heap := H } := by
    intro env fr hfr he hL H hH hn hq
    refine wpAny_bind ?_
    refine wpAny_forIn_list _
      (fun rest _ s' => ∃ done h' tk, binds = done ++ rest ∧ s' = { s with heap := h', toks := tk } ∧ h'.Ns s.heap.objs.size (fun x => done.reverse.lookup x) ∧ (∀ b o, b ≠ s.heap.objs.size → (pushCells (s.heap.push fr) scope.names).get? b = some o → h'.get? b = some o)) _ ?_ ?_ binds _
      ⟨[], H, s.toks, rfl, rfl, hn, fun b o _ e => hH b o e⟩
    · rintro ⟨name, v⟩ rest _ s' ⟨done, h', tk, hb, rfl, hns, hsb⟩
      have hk' : env.kindOf name = some .local := by show env.scope.names.lookup name = some .local; rw [he]; exact hl (name, v) (by rw [hb]; simp)
      refine wpAny_bind (wpAny_storeName_local hk' (hL ▸ hns) (fun h'' hns' hsb' => ?_) (by rw [he, hk]; rfl))
      rw [hL] at hns' hsb'
      refine wpAny_pure ⟨done ++ [(name, v)], h'', tk + 1, by simp [hb], rfl, ?_, fun b o hb e => (hsb'.2 b hb).trans (hsb b o hb e)⟩
      rw [lookup_reverse_snoc]; exact hns'
    · rintro _ s' ⟨done, h', tk, hb, rfl, hns, hsb⟩
      rw [List.append_nil] at hb; subst hb
      exact wpAny_pure (hq h' tk hns hsb)
  have fin : ∀ (fr : Obj) (h' : Heap) (tk : Nat), fr.isFreed = false → h'.Ns s.heap.objs.size (mapOf binds.reverse) → (∀ b o, b ≠ s.heap.objs.size → (pushCells (s.heap.push fr) scope.names).get? b = some o → h'.get? b = some o) →
      Q (newEnv scope s.heap.objs.size globals (cellsFrom (s.heap.objs.size + 1) scope.names closure) qual func code around builtins) { s with heap := h', toks := tk } := fun fr h' tk hfr hns hsb =>
    hQ h' tk hns (fun b o e => hsb b o (Nat.ne_of_lt (Heap.lt_size e)) (pushCells_keeps _ _ b o (Heap.get?_push_of_some _ e))) fun n c hc => by
      have z := pushCells_get scope.names (s.heap.push fr) closure n c (by rw [Heap.size_push]; exact hc)
      rw [Heap.size_push] at z
      rcases z with z | ⟨z1, z2⟩
      · exact .inl z
      · exact .inr ⟨hsb c _ (Nat.ne_of_gt z2) z1, z2⟩
  cases around with
  | none =>
    simp only [newFunctionEnv, Option.isSome_none, Bool.false_eq_true, if_false]
    simp only [newEnv] at fin
    refine wpAny_bind (wpAny_alloc ?_)
    refine wpAny_bind (wpAny_layCells _ (fun name kind cells => by cases hkc : kind == NameKind.cell <;> simp [hkc]) _ _ _ _ ?_)
    rw [show ({ s with heap := s.heap.push { cls := .type "frame", data := .dict #[] } } : Shared).heap.objs.size = s.heap.objs.size + 1 from Heap.size_push ..]
    exact all _ { cls := .type "frame", data := .dict #[] } rfl rfl rfl _ (fun _ _ e => e) ((Heap.Ns.new s.heap (.type "frame")).keeps (pushCells_keeps _ _)) fun h' tk a b => fin _ h' tk rfl a b
  | some outer =>
    simp only [newFunctionEnv, Option.isSome_some, if_true]
    simp only [newEnv] at fin
    refine wpAny_bind (wpAny_alloc ?_)
    refine wpAny_bind (wpAny_layCells _ (fun name kind cells => by cases hkc : kind == NameKind.cell <;> simp [hkc]) _ _ _ _ ?_)
    rw [show ({ s with heap := s.heap.push { cls := .type "dict", data := .dict #[] } } : Shared).heap.objs.size = s.heap.objs.size + 1 from Heap.size_push ..]
    exact all _ { cls := .type "dict", data := .dict #[] } rfl rfl rfl _ (fun _ _ e => e) ((Heap.Ns.new s.heap (.type "dict")).keeps (pushCells_keeps _ _)) fun h' tk a b => fin _ h' tk rfl a b
end

section
variable {g : Gb} {c : Cx} {m : LM} {mu mu' : Led} {fa : List Fact} {s s' : Shared} {A : Around} {E : Value → Shared → Prop} {k : Nat}

noncomputable def cellLed (L : Nat) (names : List (Str × NameKind)) (cl : List (Str × Addr)) : Led := ((cellsFrom (L + 1) names cl).map fun p => (p.2, cellO none))
theorem cells_nd (L : Nat) (names : List (Str × NameKind)) : ((cellLed L names []).map (·.1)).Nodup := by
  have ok := cellsFrom_ok names { objs := Array.replicate (L + 1) default } (L + 1) [] ⟨fun _ _ hm => (nomatch hm), List.Pairwise.nil⟩ (by simp)
  have z := ok.apart
  simp only [Array.size_replicate] at z
  show List.Nodup _
  unfold cellLed
  rw [List.map_map]
  exact List.pairwise_map.mpr (z.imp fun h => h)

/-- entering a def whose frame has cells -/
theorem enter_fmC {mv : Led} (F : Fm g c m (mv ++ mu) fa s) {Q : Value → Shared → Prop} {name qual : Str} {params : Arguments} {body : List Stmt} {scope : Scope} {dV kV doc pm cdv ct oc : Value} {an od : Option Addr} {osl : Array (Option Value)} {f : Addr} {vs : List Value} {kw : List (Str × Value)} {binds : List (Str × Value)}
    (ho : (hd.heap_1 g.w.params).lookup f = some ⟨oc, od, .func (fnOf name qual params body scope dV kV doc pm an cdv ct), osl⟩) (hcd : codeIn (hd.heap_1 g.w.params) cdv qual = true) (hroom : A.depth < recursionLimit)
    (hbind : BindsTo s (fnOf name qual params body scope dV kV doc pm an cdv ct) ⟨vs, kw⟩ binds) (hloc : ∀ y ∈ binds, scope.names.lookup y.1 = some .local)
    (h : ∀ c' s₁, Fm g c' binds.reverse (cellLed c'.L scope.names [] ++ mv) fa s₁ → (∀ m'' mv' rest fa'' s'', mv'.map (·.1) = mv.map (·.1) → Fm g c' m'' (mv' ++ rest) fa'' s'' → Fm g c m (mv' ++ mu) fa'' s'') →
      wpAny (MM g) (A.deeper (envOfC qual scope c'.L f cdv)) (execs body (envOfC qual scope c'.L f cdv))
        (fun fl s' => Q (match fl with | .ret v => v | _ => .none) s') (fun _ _ => False) s₁)
    (hco : scope.isCoroutine = false) (hgen : scope.isGenerator = false) (hk : scope.kind = .function) : wpAny (MM g) A (call (.ref f) vs kw) Q E s := by
  have W := F.wdS
  obtain ⟨hb, kn, _, op, cl⟩ := F.open_
  refine wpAny_call ?_
  refine codeAny_call_function hroom (W.X _ _ ho) rfl hco hgen rfl (codeRec_of W.X hcd) (hbind _ _ _ _ ?_)
  refine wp_newEnv hloc (fun h₁ tk hns hk₁ hcs => ?_) hk
  refine ⟨W.T.nolimit.keeps hk₁, codeAny_func ?_⟩
  refine wpAny_mono (h ⟨hb, kn, s.heap.objs.size, s⟩ _ (op h₁ tk _ _ hns hk₁ (fun p hp => ?_) (cells_nd _ _)) fun m'' mv' rest fa'' s'' hm F2 => let ⟨_, x⟩ := cl _ _ _ _ _ hm F2; x.drop (List.sublist_cons_self _ _)) (fun fl s' hl => hl) fun _ _ y => y.elim
  obtain ⟨q, hq, rfl⟩ := List.mem_map.mp hp
  rcases hcs q.1 q.2 hq with z | z
  · cases z
  · exact z
end

section
variable {g : Gb} {c : Cx} {m : LM} {mu mu' : Led} {fa : List Fact} {s s' : Shared} {A : Around} {E : Value → Shared → Prop} {k : Nat} {env : Env}

/-- the tests of a comprehension's clause -/
abbrev testsOf (ifs : List Expr) (env : Env) : Sem Bool := forIn ifs true fun c r => if r = true then do let ok ← isTrue c env (eval c env); pure (ForInStep.yield ok) else pure (ForInStep.yield r)

/-- what a comprehension asks at its iterable's value -/
inductive CompSay (g : Gb) (A : Around) (env : Env) (scope : Scope) (cl : List (Str × Addr)) (x : Str) (ifs : List Expr) (elt : Expr) (use : Option (Value → Sem Unit)) (E : Value → Shared → Prop) (Q : Value → Shared → Prop) (xv : Value) (s₁ : Shared) : Prop where
  | mk (α : Type) (c : Cx) (m : LM) (mu : Led) (fa : List Fact) (enc : α → PyData) (as : List α) (p : α → Bool) (f : α → PyData) (h0 : Fm g c m mu fa s₁) (h1 : Rd xv (.list (as.map enc)) ∈ fa) (h2 : as.length ≤ sizeLine) (h3 : (∀ c' m' mu' R v a s₂, a ∈ as → (∀ p ∈ mu, c'.hb.get? p.1 = some p.2) → m'.lookup x = some v → Fm g c' m' mu' (Rd v (enc a) :: R :: fa) s₂ →
      wpAny (MM g) A (testsOf ifs (compEnvC scope cl c'.L env)) (fun ok s₃ => ok = p a ∧ Fm g c' m' mu' (Rd v (enc a) :: R :: fa) s₃) (fun _ _ => False) s₂)) (h4 : (∀ c' m' mu' R v a s₂, a ∈ as → p a = true → (∀ p ∈ mu, c'.hb.get? p.1 = some p.2) → m'.lookup x = some v → Fm g c' m' mu' (Rd v (enc a) :: R :: fa) s₂ →
      wpAny (MM g) A (eval elt (compEnvC scope cl c'.L env)) (fun y s₃ => Fm g c' m' mu' (Rd y (f a) :: R :: fa) s₃) (fun _ _ => False) s₂)) (h5 : match use with
    | none => ∀ r s', Fm g c m mu (Rd r (.list ((as.filter p).map f)) :: fa) s' → Q r s'
    | some u => ∀ r C oC s', Fm g c m ((C, oC) :: mu) (Rd r (.list ((as.filter p).map f)) :: fa) s' → wpAny (MM g) A (u r) (fun _ s'' => ∃ m' fa', Fm g c m' ((C, oC) :: mu) fa' s'' ∧ ∀ s₃, Fm g c m' mu fa' s₃ → Q .none s₃) E s') : CompSay g A env scope cl x ifs elt use E Q xv s₁

theorem cellsFrom_none : ∀ {names : List (Str × NameKind)} {n : Nat} {acc : List (Str × Addr)}, (∀ y ∈ names, y.2 ≠ .cell) → cellsFrom n names acc = acc
  | [], _, _, _ => rfl
  | (x, k) :: r, n, acc, h => by
    unfold cellsFrom
    rw [if_neg (by have := h _ (List.mem_cons_self); simpa using this)]
    exact cellsFrom_none fun y hy => h y (List.mem_cons_of_mem _ hy)

theorem take_succ_map {α β : Type} (p : α → Bool) (f : α → β) (l : List α) (i : Nat) (a : α) (h : l[i]? = some a) : ((l.take (i + 1)).filter p).map f = ((l.take i).filter p).map f ++ (if p a then [f a] else []) := by
  rw [take_succ_filter p l i a h, List.map_append]
  cases p a <;> rfl

theorem nofail {α : Type} {M : Model} {t : Sem α} {P : α → Shared → Prop} {E' : Value → Shared → Prop} {s : Shared} (h : wpAny M A t P (fun _ _ => False) s) : wpAny M A t P E' s := wpAny_mono h (fun _ _ x => x) fun _ _ x => x.elim

theorem comp_core {elt iter : Expr} {x : Str} {px : Pos} {ifs : List Expr} {scope : Scope} {cl : List (Str × Addr)} {pos pos' : Pos} {use : Option (Value → Sem Unit)} {Q : Value → Shared → Prop}
    (hh : A.handled = none) (hclos : closureFor scope env = pure cl) (hcell : ∀ y ∈ scope.names, y.2 ≠ .cell) (hkind : scope.kind = .function)
    (hnames : ∀ y ∈ scope.names, y.2 = .local → scope.names.lookup y.1 = some .local) (hx : scope.names.lookup x = some .local)
    (h : wpAny (MM g) A (eval iter env) (CompSay g A env scope cl x ifs elt use E Q) E s)
    (hs : ∀ x, foldedSetIterable iter env x = pure x) :
    wpAny (MM g) A (comprehension (.ListComp elt [⟨.Name x px, iter, ifs, 0⟩] scope pos) scope env pos' (newList []) false (eval iter env) use) Q E s := by
  refine wpAny_comprehension_free (use := use) rfl hs hclos hkind hnames (wpAny_mono h (fun xv s₁ h₁ => ?_) fun _ _ e => e)
  obtain ⟨α, c, m, mu, fa, enc, as, p, f, F, hrd, hz, tests, helt, done⟩ := h₁
  have hax : ∃ ax, xv = .ref ax := by
    obtain ⟨_, r⟩ := F.fact hrd
    cases r
    exact ⟨_, rfl⟩
  obtain ⟨ax, rfl⟩ := hax
  obtain ⟨vs, F⟩ := F.openList hrd
  have hl := F.lsOf (a := ax) (vs := vs) (.tail _ (.head _))
  have hlen : vs.length = as.length := by simpa using (F.fact (.head _) : RdAll vs _ _).length
  refine wpAny_pyIter_list hl ?_
  have F₀ := F.alloc (o := { cls := .type "list_iterator", data := .fields #[.ref ax, .int 0 0] }) rfl
  generalize hI : s₁.heap.objs.size = I at F₀
  have hne : ax ≠ I := hI ▸ Nat.ne_of_lt (let ⟨_, e, _⟩ := hl; Heap.lt_size e)
  have W := Walks.list (prog := PySem.Challenge.rw_in0181_01.row.prog) (w := g.w) hh I ax hne vs.toArray
  refine r_newList F₀ (fun D s₃ F₁ => ?_) (Nat.zero_le _)
  refine wp_newEnv (fun _ h => nomatch h) (fun h₁ tk hns hk₁ _ => ?_) hkind
  rw [cellsFrom_none hcell]
  obtain ⟨hb, kn, hmu, op, clo⟩ := Fm.open_ (mv := [(D, listOf ([] : List Value).toArray 0), (I, { cls := .type "list_iterator", data := .fields #[.ref ax, .int 0 0] })]) F₁
  have F₃ := op h₁ tk [] [] hns hk₁ (fun _ h => nomatch h) .nil
  generalize hC : s₃.heap.objs.size = C at *
  generalize hc' : (⟨hb, kn, C, s₃⟩ : Cx) = c' at *
  have hCL : c'.L = C := by rw [← hc']
  have hhb : ∀ p ∈ mu, c'.hb.get? p.1 = some p.2 := by rw [← hc']; exact hmu
  show codeAny (MM g) A (.compStart _ 0 (.ref I) (.ref D) (compEnvC scope cl C env)) (compPost (MM g) A E use Q (.ref D) C) _
  have loop : codeAny (MM g) A (.compLoop (.ListComp elt [⟨.Name x px, iter, ifs, 0⟩] scope pos) 0 (.ref I) (.ref D) (compEnvC scope cl C env)) (compPost (MM g) A E use Q (.ref D) C) { s₃ with heap := h₁, toks := tk } := by
    refine codeAny_compLoop_tests
      (fun k s' => ∃ i ys oI m', oI.cls = .type "list_iterator" ∧ oI.data = .fields #[.ref ax, .int (i : Nat) 0] ∧
        Fm g c' m' [(D, listOf ys.toArray ys.length), (I, oI)] ((fun h => RdAll ys (((as.take i).filter p).map f) h ∧ RdAll vs (as.map enc) h ∧ Ls ax vs h) :: fa) s' ∧ i ≤ vs.length ∧ ys.length ≤ i ∧ k = vs.length + 1 - i) ?_ (vs.length + 1)
      ⟨0, [], ({ cls := .type "list_iterator", data := .fields #[.ref ax, .int 0 0] } : Obj), [], rfl, rfl, ?_, Nat.zero_le _, Nat.le_refl _, rfl⟩
    · rintro k s' ⟨i, ys, oI, m', c1, c2, F', hi, hy, rfl⟩
      have st : s'.heap.IsListIter I ax i ∧ s'.heap.IsList ax vs.toArray := ⟨⟨oI, F'.at_ (.tail _ (.head _)), c1, c2⟩, (F'.fact (.head _)).2.2⟩
      by_cases hlt : i < vs.length
      · refine W.item i s' _ _ (by simpa using hlt) st fun v h' tk hv st' hk' => ?_
        have hv : vs[i]? = some v := by simpa using hv
        obtain ⟨a, ha⟩ : ∃ a, as[i]? = some a := ⟨as[i]'(hlen ▸ hlt), by simp⟩
        have hmem : a ∈ as := List.mem_of_getElem? ha
        obtain ⟨o', e1, e2, e3⟩ := st'.1
        have F₁ := F'.turn (s' := { s' with heap := h', toks := tk }) (o' := o') (.tail .head) (fun b o hb e => hk' b o (by simpa using hb) e) e1 rfl rfl
        refine wpAny_assign_Name (r_store F₁ (fun s₂ F₂ => ?_) hCL.symm (by simp [compEnvC, relabel, hkind]) (lookup_relabel_local hx))
        have F₂ := F₂.more (P := Rd v (enc a)) Rd.mono fun hk q => by
          obtain ⟨d, d1, d2⟩ := RdAll.at_ (q _ (.head _)).2.1 hv
          simp only [List.getElem?_map, ha, Option.map_some, Option.some.injEq] at d1
          exact d1 ▸ d2
        rw [← hCL]
        refine nofail (wpAny_mono (tests c' _ _ _ v a s₂ hmem hhb (by simp [List.lookup_cons]) F₂) (fun ok s₃ h₃ => ?_) fun _ _ x => x)
        obtain ⟨rfl, F₃⟩ := h₃
        cases hp : p a with
        | false =>
          simp only [Bool.false_eq_true, if_false]
          refine ⟨vs.length + 1 - (i + 1), by omega, i + 1, ys, o', (x, v) :: m', e2, e3, ?_, hlt, Nat.le_succ_of_le hy, rfl⟩
          rw [take_succ_map p f as i a ha, hp]
          simp only [Bool.false_eq_true, if_false, List.append_nil]
          exact F₃.mono fun P hP => .tail _ hP
        | true =>
          simp only [if_true]
          refine nofail (wpAny_mono (helt c' _ _ _ v a s₃ hmem hp hhb (by simp [List.lookup_cons]) F₃) (fun y s₄ F₄ => ?_) fun _ _ x => x)
          refine r_append F₄ .head (fun s₅ F₅ => ?_) (Nat.le_trans hy (Nat.le_trans hi (hlen ▸ hz)))
          refine ⟨vs.length + 1 - (i + 1), by omega, i + 1, ys ++ [y], o', (x, v) :: m', e2, e3, ?_, hlt, by simp [hy], rfl⟩
          rw [take_succ_map p f as i a ha, hp]
          simp only [if_true]
          have F₅ := F₅.more (P := fun h => RdAll (ys ++ [y]) (((as.take i).filter p).map f ++ [f a]) h ∧ RdAll vs (as.map enc) h ∧ Ls ax vs h)
            (fun h h' k q => ⟨RdAll.mono h h' k q.1, RdAll.mono h h' k q.2.1, Ls.mono h h' k q.2.2⟩) fun hk q => by
              have q1 := q _ (.tail _ (.head _))
              exact ⟨RdAll.snoc (q _ (.head _)) q1.1, q1.2⟩
          rw [List.length_append, List.length_singleton]
          exact F₅.mono fun P hP => by
            rcases List.mem_cons.mp hP with rfl | hP
            · exact .head _
            · exact .tail _ (.tail _ (.tail _ hP))
      · obtain rfl : i = vs.length := by omega
        have st'' : s'.heap.IsListIter I ax vs.toArray.size ∧ s'.heap.IsList ax vs.toArray := by rw [List.size_toArray]; exact st
        refine W.done s' _ _ st'' fun h' tk hk' => ?_
        obtain ⟨oC, F₄⟩ := clo m' [(D, listOf ys.toArray ys.length), (I, oI)] [] _ s' rfl F'
        have hnsC := F'.fr.ns
        rw [hCL] at hnsC
        have hCI : C ≠ I := by
          have z := (F₄.perm (mu' := (I, oI) :: (C, oC) :: (D, listOf ys.toArray ys.length) :: mu) (by
            refine List.Perm.trans ?_ (List.Perm.cons _ (List.Perm.swap _ _ _))
            exact List.Perm.swap _ _ _))
          obtain ⟨_, z, _⟩ := z
          have nd := z.nd
          simp only [List.map_cons, List.nodup_cons, List.mem_cons, not_or] at nd
          exact fun e => nd.1.1 e.symm
        have F₅ : Fm g c m ((C, oC) :: (D, listOf ys.toArray ys.length) :: mu) _ { s' with heap := h', toks := tk } := (F₄.perm (mu' := (I, oI) :: (C, oC) :: (D, listOf ys.toArray ys.length) :: mu) (by
          refine List.Perm.trans ?_ (List.Perm.cons _ (List.Perm.swap _ _ _))
          exact List.Perm.swap _ _ _)).lose (fun b o hb e => hk' b o (by simpa using hb) e) rfl rfl
        have hnsC' : h'.Ns C (mapOf m') := hnsC.at' fun o e => hk' _ o (by simpa using hCI) e
        have F₆ := (F₅.perm (mu' := (D, listOf ys.toArray ys.length) :: (C, oC) :: mu) (List.Perm.swap _ _ _)).freeze (P := Rd (.ref D) (.list ((as.filter p).map f))) Rd.mono fun hk e q => by
          have q1 := (q _ (.head _)).1
          rw [hlen, List.take_length] at q1
          exact Rd.list e q1
        have F₇ := F₆.mono (fa' := Rd (.ref D) (.list ((as.filter p).map f)) :: fa) fun P hP => by
          rcases List.mem_cons.mp hP with rfl | hP
          · exact .head _
          · exact .tail _ (.tail _ hP)
        cases use with
        | none => exact ⟨_, hnsC', fun h'' hs'' => done _ _ (F₇.lose (s' := { s' with heap := h'', toks := tk }) (fun b o hb e => hs''.extBut b o hb e) rfl rfl)⟩
        | some u =>
          refine wpAny_mono (done _ C oC _ F₇) (fun _ s'' z => ?_) fun _ _ x => x
          obtain ⟨m₂, fa₂, G, z⟩ := z
          have eC : s''.heap.get? C = some oC := G.at_ (.head _)
          have eC' : h'.get? C = some oC := F₅.at_ (.head _)
          refine ⟨mapOf m', ?_, fun h'' hs'' => z _ (G.lose (s' := { s'' with heap := h'' }) (fun b o hb e => hs''.extBut b o hb e) rfl rfl)⟩
          obtain ⟨o, es, ep, e1, e2, e3, e4⟩ := hnsC'
          rw [eC'] at e1
          cases e1
          exact ⟨oC, es, ep, eC, e2, e3, e4⟩
    · refine (F₃.more (P := fun h => RdAll [] ((((as.take 0).filter p).map f)) h ∧ RdAll vs (as.map enc) h ∧ Ls ax vs h) (fun h h' k q => ⟨RdAll.mono h h' k q.1, RdAll.mono h h' k q.2.1, Ls.mono h h' k q.2.2⟩) fun hk q => ⟨by simpa using RdAll.nil, q _ (.head _), q _ (.tail _ (.head _))⟩).mono fun P hP => ?_
      rcases List.mem_cons.mp hP with rfl | hP
      · exact .head _
      · exact .tail _ (.tail _ (.tail _ hP))
  exact codeAny_compStart_list loop (W.self 0 _ _ _ ⟨⟨_, F₃.at_ (.tail _ (.head _)), rfl, rfl⟩, F₃.lsOf (.tail _ (.head _))⟩ loop)

/-- a comprehension's value -/
theorem r_comp {elt iter : Expr} {x : Str} {px : Pos} {ifs : List Expr} {scope : Scope} {cl : List (Str × Addr)} {pos : Pos} {Q : Value → Shared → Prop}
    (hh : A.handled = none) (hclos : closureFor scope env = pure cl) (hcell : ∀ y ∈ scope.names, y.2 ≠ .cell) (hkind : scope.kind = .function)
    (hnames : ∀ y ∈ scope.names, y.2 = .local → scope.names.lookup y.1 = some .local) (hx : scope.names.lookup x = some .local)
    (hs : ∀ x, foldedSetIterable iter env x = pure x)
    (h : wpAny (MM g) A (eval iter env) (CompSay g A env scope cl x ifs elt none E Q) E s) :
    wpAny (MM g) A (eval (.ListComp elt [⟨.Name x px, iter, ifs, 0⟩] scope pos) env) Q E s := by
  rw [eval_ListComp]
  exact comp_core hh hclos hcell hkind hnames hx h hs

/-- y = [..]: the comprehension's value stored by its own last step -/
theorem r_compAssign {elt iter : Expr} {x y : Str} {px py : Pos} {ifs : List Expr} {scope : Scope} {cl : List (Str × Addr)} {pos spos : Pos} {Q : Flow → Shared → Prop}
    (hsw : swapsWith (.ListComp elt [⟨.Name x px, iter, ifs, 0⟩] scope pos) (some (.Name y py)) spos.line env = pure true)
    (hh : A.handled = none) (hclos : closureFor scope env = pure cl) (hcell : ∀ y ∈ scope.names, y.2 ≠ .cell) (hkind : scope.kind = .function)
    (hnames : ∀ y ∈ scope.names, y.2 = .local → scope.names.lookup y.1 = some .local) (hx : scope.names.lookup x = some .local)
    (hs : ∀ x, foldedSetIterable iter env x = pure x)
    (h : wpAny (MM g) A (eval iter env) (CompSay g A env scope cl x ifs elt (some (assign (.Name y py) env)) E (fun _ s' => Q .next s')) E s) :
    wpAny (MM g) A (exec (.Assign [.Name y py] (.ListComp elt [⟨.Name x px, iter, ifs, 0⟩] scope pos) spos) env) Q E s := by
  rw [exec_Assign_Name_used _ _ _ _ hsw]
  refine wpAny_bind (wpAny_standAt (wpAny_bind ?_))
  show wpAny _ A (do let _ ← comprehension (.ListComp elt [⟨.Name x px, iter, ifs, 0⟩] scope pos) scope env _ (newList []) false (eval iter env) (some (assign (.Name y py) env))) _ _ s
  exact wpAny_bind (wpAny_mono (comp_core hh hclos hcell hkind hnames hx h hs) (fun _ s' hq => wpAny_pure (wpAny_pure hq)) fun _ _ e => e)
end
end
-- F4
section
section
variable {g : Gb} {c : Cx} {m : LM} {mu mu' : Led} {fa : List Fact} {s s' : Shared} {A : Around} {E : Value → Shared → Prop} {k : Nat} {env : Env}

theorem r_cint {i : Int} {kd : Nat} {pos : Pos} {Q : Value → Shared → Prop} (F : Fm g c m mu fa s) (h : ∀ t s', Fm g c m mu fa s' → Q (.int i t) s') : wpAny (MM g) A (eval (.Constant (.int i) kd pos) env) Q E s := wpAny_Constant_int (h _ _ (F.toks rfl))
theorem r_cstr {x : Str} {kd : Nat} {pos : Pos} {Q : Value → Shared → Prop} (F : Fm g c m mu fa s) (h : ∀ t s', Fm g c m mu fa s' → Q (.str x t) s') : wpAny (MM g) A (eval (.Constant (.str x) kd pos) env) Q E s := Constant_str (h _ _ (F.toks rfl))
theorem r_fdiv {a b : Int} {t u : Tok} {Q : Value → Shared → Prop} (F : Fm g c m mu fa s) (hb : b ≠ 0) (h : ∀ t s', Fm g c m mu fa s' → Q (.int (a.fdiv b) t) s') (hp : b.natAbs < 1073741824) :
    wpAny (MM g) A (binaryOp .FloorDiv (.int a t) (.int b u)) Q E s := floordiv_int hb (h _ _ (F.toks rfl)) (.inl (PyProof.noPylong_small hp))
theorem r_fmod {a b : Int} {t u : Tok} {Q : Value → Shared → Prop} (F : Fm g c m mu fa s) (hb : b ≠ 0) (h : ∀ t s', Fm g c m mu fa s' → Q (.int (a.fmod b) t) s') :
    wpAny (MM g) A (binaryOp .Mod (.int a t) (.int b u)) Q E s := mod_int' hb (h _ _ (F.toks rfl))
theorem r_addI {a b : Int} {t u : Tok} {Q : Value → Shared → Prop} (F : Fm g c m mu fa s) (h : ∀ t s', Fm g c m mu fa s' → Q (.int (a + b) t) s') :
    wpAny (MM g) A (binaryOp .Add (.int a t) (.int b u)) Q E s := add_int (h _ _ (F.toks rfl))

/-- a list's item -/
theorem r_item {value slice : Expr} {l : Addr} {vs : List Value} {i : Int} {u : Tok} {v : Value} {Q : Value → Shared → Prop} (hl : s.heap.IsList l vs.toArray) (h0 : 0 ≤ i) (hf : i < 2 ^ 63) (hx : vs[i.toNat]? = some v) (h : Q v s)
    (hs : subscripted slice false (.ref l) (.int i u) = operate [.ref l, .int i u] (getItem (.ref l) (.int i u))) : wpAny (MM g) A (subscriptTail value slice (.ref l) (.int i u)) Q E s :=
  tail_any hl.typeIs slot_list_getitem.lookup (wpAny_getItem_list hl h0 hf (by simpa using hx) h) hs
theorem Fm.isListMu (F : Fm g c m mu fa s) {l : Addr} {vs : List Value} {n : Nat} (h : (l, listOf vs.toArray n) ∈ mu) : s.heap.IsList l vs.toArray := ⟨_, F.at_ h, rfl, _, rfl⟩

/-- an item of a list of three texts -/
theorem r_item3 {value slice : Expr} {l : Addr} {x0 x1 x2 : Str} {t0 t1 t2 : Tok} {i : Int} {u : Tok} {Q : Value → Shared → Prop} (hl : s.heap.IsList l [.str x0 t0, .str x1 t1, .str x2 t2].toArray) (h0 : 0 ≤ i) (h3 : i < 3)
    (h : ∀ t, Q (.str (if i = 0 then x0 else if i = 1 then x1 else x2) t) s)
    (hs : subscripted slice false (.ref l) (.int i u) = operate [.ref l, .int i u] (getItem (.ref l) (.int i u))) : wpAny (MM g) A (subscriptTail value slice (.ref l) (.int i u)) Q E s := by
  have hc : i = 0 ∨ i = 1 ∨ i = 2 := by omega
  rcases hc with rfl | rfl | rfl
  · exact r_item hl (by decide) (by decide) rfl (h t0) hs
  · exact r_item hl (by decide) (by decide) rfl (h t1) hs
  · exact r_item hl (by decide) (by decide) rfl (h t2) hs

theorem rdAll_take {h : Heap} : ∀ {vs : List Value} {ds : List PyData} (j : Nat), RdAll vs ds h → RdAll (vs.take j) (ds.take j) h
  | _, _, 0, _ => by simpa using RdAll.nil
  | _, _, _ + 1, ⟨_, .nil⟩ => by simpa using RdAll.nil
  | _, _, j + 1, ⟨_, .cons r rs⟩ => by simpa using RdAll.cons ⟨_, r⟩ (rdAll_take j ⟨_, rs⟩)

/-- xs[:k] -/
theorem r_sliceUpto {value up : Expr} {p pos : Pos} {Q : Value → Shared → Prop}
    (h : wpAny (MM g) A (eval value env) (fun o s₁ => wpAny (MM g) A (eval up env) (fun u s₂ => ∃ (c : Cx) (m : LM) (mu : Led) (fa : List Fact) (l : Addr) (vs : List Value) (k : Int) (t : Tok), o = .ref l ∧ u = .int k t ∧ 0 ≤ k ∧ Fm g c m mu fa s₂ ∧ s₂.heap.IsList l vs.toArray ∧ vs.length ≤ sizeLine ∧
      ∀ a s', Fm g c m ((a, listOf (vs.take k.toNat).toArray 0) :: mu) fa s' → Q (.ref a) s') E s₁) E s)
    (hs : ∀ l n, subscripted (.Slice none (some up) none p) false (.ref l) (.ref n) = operate [.ref n, .ref l] (getItem (.ref l) (.ref n))) :
    wpAny (MM g) A (eval (.Subscript value (.Slice none (some up) none p) pos) env) Q E s := by
  refine Subscript_ (wpAny_mono h (fun o s₁ h₁ => wpAny_Slice (wpAny_evalPart_none (wpAny_evalPart_some (wpAny_mono h₁ (fun u s₂ h₂ => wpAny_evalPart_none ?_) fun _ _ e => e)))) fun _ _ e => e)
  obtain ⟨c, m, mu, fa, l, vs, k, t, rfl, rfl, h0, F, hl, hz, hq⟩ := h₂
  refine kba_turn (value' := PySem.Expr.Name (PySem.Str.ofString "_") ⟨0, 0, 0, 0⟩) (fun _ => rfl) ?_
  refine slice_listK hl .none (.int k t) ?_ (hs l _) (fun _ => rfl) (by simpa using hz)
  have F₁ := F.alloc (o := { cls := .type "slice", data := .fields #[.none, .int k t, .none] }) rfl
  have F₂ := F₁.alloc (o := listOf (slicePick vs.toArray none (some k) none) 0) rfl
  have e : slicePick vs.toArray none (some k) none = (vs.take k.toNat).toArray := by
    have z := slicePick_upto' vs.toArray k.toNat
    rw [show ((k.toNat : Nat) : Int) = k by omega] at z
    simpa using z
  rw [e] at F₂ ⊢
  have F₃ := (F₂.drop (mu' := ((s₂.heap.push { cls := .type "slice", data := .fields #[.none, .int k t, .none] }).objs.size, listOf (vs.take k.toNat).toArray 0) :: mu) (List.Sublist.cons_cons _ (List.sublist_cons_self _ _)))
  have := hq _ _ F₃
  rw [Heap.size_push] at this
  exact this

/-- the ledger's whole: what the library's rules ask and hand on -/
theorem Fm.led (F : Fm g c m mu fa s) : ∃ tl : Led, News c.hb c.L s.heap (mu ++ tl) ∧ ∀ (s' : Shared) (m' : LM) (mu' : Led), Fr c.hb c.L s'.heap (mapOf m') → News c.hb c.L s'.heap (mu' ++ tl) →
    (∀ p ∈ mu', p.1 ∈ mu.map (·.1) ∨ s.heap.objs.size ≤ p.1) → (mu'.map (·.1)).Nodup → s'.gens = s.gens → s'.os = s.os → Fm g c m' mu' fa s' := by
  obtain ⟨hk, T, q⟩ := F
  let tl : Led := (List.range s.heap.objs.size).filterMap fun a => if (c.hb.get? a).isNone then (hk.get? a).map fun o => (a, o) else none
  have tl1 : ∀ p ∈ tl, hk.get? p.1 = some p.2 ∧ c.hb.get? p.1 = none := fun p hp => by
    obtain ⟨a, _, e⟩ := List.mem_filterMap.mp hp
    split at e
    · rename_i h
      obtain ⟨o, h1, rfl⟩ := Option.map_eq_some_iff.mp e
      exact ⟨h1, Option.isNone_iff_eq_none.mp h⟩
    · cases e
  have tl2 : ∀ a o, hk.get? a = some o → c.hb.get? a = none → (a, o) ∈ tl := fun a o e h =>
    List.mem_filterMap.mpr ⟨a, List.mem_range.mpr (Heap.lt_size (T.kh a o e)), by rw [if_pos (Option.isNone_iff_eq_none.mpr h), e]; rfl⟩
  refine ⟨tl, fun p hp => ?_, fun s' m' mu' F' N' hmu hnd hg ho => ?_⟩
  · rcases List.mem_append.mp hp with hp | hp
    · exact T.news p hp
    · obtain ⟨h1, h2⟩ := tl1 p hp
      exact ⟨T.kh _ _ h1, (fun e => by rw [e, T.kL] at h1; cases h1), h2⟩
  · refine ⟨hk, ⟨F'.ns, F'.keep, T.above, T.kk, fun b o e => ?_, T.kf, T.kL, T.kb, fun p hp => ?_, hnd, T.wd, hg.trans T.gens, ho.trans T.os⟩, q⟩
    · rcases T.kf b o e with h | h
      · exact F'.keep b o (T.kb b o h)
      · exact (N' (b, o) (List.mem_append_right _ (tl2 b o e h))).1
    · have z := N' p (List.mem_append_left _ hp)
      refine ⟨z.1, z.2.1, z.2.2, ?_⟩
      rcases hmu p hp with h | h
      · obtain ⟨p', hp', e⟩ := List.mem_map.mp h
        rw [← e]
        exact (T.mus p' hp').2.2.2
      · cases e : hk.get? p.1 with
        | none => rfl
        | some o => exact absurd (Heap.lt_size (T.kh _ _ e)) (Nat.not_lt.mpr h)
theorem Fm.led1 (F : Fm g c m mu fa s) : ∃ tl : Led, News c.hb c.L s.heap (mu ++ tl) ∧ ∀ (s' : Shared) (o : Obj), Fr c.hb c.L s'.heap (mapOf m) → News c.hb c.L s'.heap ((s.heap.objs.size, o) :: (mu ++ tl)) → s'.gens = s.gens → s'.os = s.os → Fm g c m ((s.heap.objs.size, o) :: mu) fa s' := by
  obtain ⟨tl, N, h⟩ := F.led
  refine ⟨tl, N, fun s' o F' N' hg ho => h s' m _ F' N' (fun p hp => ?_) ?_ hg ho⟩
  · rcases List.mem_cons.mp hp with rfl | hp
    · exact .inr (Nat.le_refl _)
    · exact .inl (List.mem_map_of_mem hp)
  · obtain ⟨hk, T, _⟩ := F
    rw [List.map_cons, List.nodup_cons]
    refine ⟨fun y => ?_, T.nd⟩
    obtain ⟨p, hp, e⟩ := List.mem_map.mp y
    exact T.size_none.2.2.2 p hp e

/-- xs + ys -/
theorem r_addList {l b : Addr} {vs ws : List Value} {Q : Value → Shared → Prop} (F : Fm g c m mu fa s) (hl : s.heap.IsList l vs.toArray) (hb : s.heap.IsList b ws.toArray) (hz : vs.length + ws.length ≤ sizeLine)
    (h : ∀ a s', Fm g c m ((a, listOf (vs ++ ws).toArray 0) :: mu) fa s' → Q (.ref a) s') : wpAny (MM g) A (binaryOp .Add (.ref l) (.ref b)) Q E s := by
  obtain ⟨tl, N, k⟩ := F.led1
  exact add_lists F.fr N hl hb (fun h' F' N' => h _ _ (k { s with heap := h' } _ F' N' rfl rfl)) hz

/-- a call of a def of the text: first its arguments -/
theorem r_callWith {f : Value} {first : List Value} {pos : Pos} {e : Expr} {rest : List Expr} {Q : Value → Shared → Prop} (F : Fm g c m mu fa s) (hk : keepIn (hd.heap_1 g.w.params) f = true)
    (h : wpAny (MM g) A (spliced (backTo pos (starEach (e :: rest) env))) (fun vs s₁ => (hd.heap_1 g.w.params).In s₁.heap ∧ wpAny (MM g) A (call f (first ++ vs)) Q E s₁) E s)
    (he : starEach (e :: rest) env = (false, eval e env) :: starEach rest env) (hp : (backTo pos (starEach rest env)).any (·.1) = false) :
    wpAny (MM g) A (callWith pos f first (backTo pos (starEach (e :: rest) env)) []) Q E s := callWith_K F.wd.X hk h he hp
end
end
-- Pu
section
/-- the three names of the law's menu -/
noncomputable def nms : List Str := [Str.ofString "a", Str.ofString "ab", Str.ofString "b"]
noncomputable def nm (i : Int) : Str := if i = 0 then Str.ofString "a" else if i = 1 then Str.ofString "ab" else Str.ofString "b"
/-- the row that a number draws -/
noncomputable def rowOf (n : Int) : List Str := [nm ((n.fdiv 12).fmod 3), nm ((n.fdiv 36).fmod 3), nm ((n.fdiv 108).fmod 3)].take (((n.fdiv 4).fmod 3) + 1).toNat
noncomputable def rowP (r : List Str) : PyData := .list (r.map PyData.str)
noncomputable def allRows : List (List Str) := nms.map (fun x => [x]) ++ nms.flatMap (fun x => nms.map fun y => [x, y]) ++ nms.flatMap fun x => nms.flatMap fun y => nms.map fun z => [x, y, z]
theorem nm_mem (i : Int) : nm i ∈ nms := by
  unfold nm nms
  split
  · exact .head _
  · split
    · exact .tail _ (.head _)
    · exact .tail _ (.tail _ (.head _))
theorem rowOf_mem (n : Int) : rowOf n ∈ allRows := by
  unfold rowOf allRows
  have h0 := Int.fmod_nonneg_of_pos (n.fdiv 4) (b := 3) (by decide)
  have h3 := Int.fmod_lt_of_pos (n.fdiv 4) (b := 3) (by decide)
  have hc : ((n.fdiv 4).fmod 3 + 1).toNat = 1 ∨ ((n.fdiv 4).fmod 3 + 1).toNat = 2 ∨ ((n.fdiv 4).fmod 3 + 1).toNat = 3 := by omega
  rcases hc with e | e | e <;> rw [e]
  · exact List.mem_append_left _ (List.mem_append_left _ (List.mem_map.mpr ⟨_, nm_mem _, rfl⟩))
  · exact List.mem_append_left _ (List.mem_append_right _ (List.mem_flatMap.mpr ⟨_, nm_mem _, List.mem_map.mpr ⟨_, nm_mem _, rfl⟩⟩))
  · exact List.mem_append_right _ (List.mem_flatMap.mpr ⟨_, nm_mem _, List.mem_flatMap.mpr ⟨_, nm_mem _, List.mem_map.mpr ⟨_, nm_mem _, rfl⟩⟩⟩)

theorem eqv_strs : ∀ a b : List Str, PyData.eqvAll (a.map PyData.str) (b.map PyData.str) = decide (a = b)
  | [], [] => by simp [PyData.eqvAll]
  | [], _ :: _ => by simp [PyData.eqvAll]
  | _ :: _, [] => by simp [PyData.eqvAll]
  | x :: r, y :: t => by
    simp only [List.map_cons, PyData.eqvAll, PyData.eqv, eqv_strs r t]
    by_cases h : x = y <;> by_cases h' : r = t <;> simp [h, h']
theorem eqv_row (a b : List Str) : PyData.eqv (rowP a) (rowP b) = decide (a = b) := by
  unfold rowP
  rw [PyData.eqv]
  exact eqv_strs a b
theorem any_row (xs : List (List Str)) (r : List Str) : ((xs.map rowP).any fun y => PyData.eqv y (rowP r)) = decide (r ∈ xs) := by
  induction xs with
  | nil => simp
  | cons x xs ih =>
    rw [List.map_cons, List.any_cons, ih, eqv_row, Bool.eq_iff_iff]
    simp only [Bool.or_eq_true, decide_eq_true_eq, List.mem_cons, eq_comm (a := x)]
theorem any_str (xs : List Str) (r : Str) : ((xs.map PyData.str).any fun y => PyData.eqv y (.str r)) = decide (r ∈ xs) := by
  induction xs with
  | nil => simp
  | cons x xs ih =>
    rw [List.map_cons, List.any_cons, ih, PyData.eqv, Bool.eq_iff_iff]
    simp only [Bool.or_eq_true, decide_eq_true_eq, List.mem_cons, beq_iff_eq, eq_comm (a := x)]
theorem rows_lay : ∀ r ∈ allRows, (rowP r).canLay0 = true := by decide +kernel
theorem row_depth (r : List Str) : (rowP r).depth = 1 := by
  unfold rowP
  simp only [PyData.depth, depthAll_strs']
theorem rows_depth : ∀ xs : List (List Str), PyData.depthAll (xs.map rowP) ≤ 1
  | [] => by simp [PyData.depthAll]
  | x :: xs => by
    have := rows_depth xs
    simp only [List.map_cons, PyData.depthAll, row_depth]
    omega
theorem rows_layAll : ∀ xs : List (List Str), (∀ r ∈ xs, r ∈ allRows) → PyData.canLayAll0 (xs.map rowP) = true
  | [], _ => rfl
  | x :: xs, h => by
    simp only [List.map_cons, PyData.canLayAll0, rows_lay x (h x (.head _)), rows_layAll xs (fun r hr => h r (.tail _ hr)), Bool.and_self]

/-- the law's files -/
noncomputable def baseRows : List (List Str) := [[Str.ofString "a"], [Str.ofString "a", Str.ofString "ab"], [Str.ofString "ab"], [Str.ofString "ab", Str.ofString "a"], [Str.ofString "b"], [Str.ofString "b", Str.ofString "a"]]
noncomputable def addRow (acc : List (List Str)) (r : List Str) : List (List Str) := if r ∈ acc then acc else acc ++ [r]
noncomputable def srcRows (ns : List Int) : List (List Str) := baseRows ++ (ns.filter fun n => n.fmod 4 == 3).map rowOf
noncomputable def filesOf (ns : List Int) : List (List Str) := (srcRows ns).foldl addRow []
theorem baseRows_mem : ∀ r ∈ baseRows, r ∈ allRows := by decide +kernel
theorem srcRows_mem (ns : List Int) : ∀ r ∈ srcRows ns, r ∈ allRows := by
  intro r h
  rcases List.mem_append.mp h with h | h
  · exact baseRows_mem r h
  · obtain ⟨n, _, rfl⟩ := List.mem_map.mp h
    exact rowOf_mem n
theorem addRow_pos {acc : List (List Str)} {r : List Str} (h : r ∈ acc) : addRow acc r = acc := if_pos h
theorem addRow_neg {acc : List (List Str)} {r : List Str} (h : ¬r ∈ acc) : addRow acc r = acc ++ [r] := if_neg h
theorem addRow_sub {acc : List (List Str)} {r x : List Str} (h : x ∈ addRow acc r) : x ∈ acc ∨ x = r := by
  unfold addRow at h
  split at h
  · exact .inl h
  · simpa using h
theorem foldl_addRow_sub : ∀ (l acc : List (List Str)) (x : List Str), x ∈ l.foldl addRow acc → x ∈ acc ∨ x ∈ l
  | [], _, _, h => .inl h
  | r :: l, acc, x, h => by
    rcases foldl_addRow_sub l _ x h with h | h
    · rcases addRow_sub h with h | h
      · exact .inl h
      · exact .inr (h ▸ .head _)
    · exact .inr (.tail _ h)
theorem srcRows_length (ns : List Int) : (srcRows ns).length ≤ 6 + ns.length := by
  unfold srcRows
  rw [List.length_append, List.length_map]
  have := List.length_filter_le (fun n : Int => n.fmod 4 == 3) ns
  show 6 + _ ≤ _
  omega
theorem filesOf_mem (ns : List Int) : ∀ r ∈ filesOf ns, r ∈ allRows := fun r h => by
  rcases foldl_addRow_sub _ _ _ h with h | h
  · cases h
  · exact srcRows_mem ns r h
theorem addRow_length (acc : List (List Str)) (r : List Str) : (addRow acc r).length ≤ acc.length + 1 := by
  unfold addRow
  split <;> simp
theorem foldl_addRow_length : ∀ (l acc : List (List Str)), (l.foldl addRow acc).length ≤ acc.length + l.length
  | [], acc => Nat.le_refl _
  | r :: l, acc => by
    have h1 := foldl_addRow_length l (addRow acc r)
    have h2 := addRow_length acc r
    rw [List.foldl_cons, List.length_cons]
    omega
theorem filesOf_length (ns : List Int) : (filesOf ns).length ≤ 6 + ns.length := by
  have h := foldl_addRow_length (srcRows ns) []
  have h2 : (srcRows ns).length ≤ 6 + ns.length := by
    unfold srcRows
    rw [List.length_append, List.length_map]
    have := List.length_filter_le (fun n : Int => n.fmod 4 == 3) ns
    show 6 + _ ≤ _
    omega
  unfold filesOf
  simp only [List.length_nil] at h
  omega
end
-- F5
section
section
variable {g : Gb} {c : Cx} {m : LM} {mu mu' : Led} {fa : List Fact} {s s' : Shared} {A : Around} {E : Value → Shared → Prop} {k : Nat} {env : Env}

theorem r_inD {v w : Value} {d : PyData} {ds : List PyData} {Q : Value → Shared → Prop} (R : Room A k) (hx : Rd v d s.heap) (hc : Rd w (.list ds) s.heap) (hl : PyData.canLayAll0 ds = true) (hd : d.canLay0 = true) (hz : d.depth ≤ 20)
    (h : Q (.bool (ds.any fun y => PyData.eqv y d)) s) : wpAny (MM g) A (compareOp .In v w) Q E s := by
  obtain ⟨_, rx⟩ := hx
  obtain ⟨_, rc⟩ := hc
  exact SeqAt.in_list_reads rc rx hl hd (by have := R.un; have := Nat.min_le_right (PyData.depthAll ds) d.depth; omega) h
theorem r_notInD {v w : Value} {d : PyData} {ds : List PyData} {Q : Value → Shared → Prop} (R : Room A k) (hx : Rd v d s.heap) (hc : Rd w (.list ds) s.heap) (hl : PyData.canLayAll0 ds = true) (hd : d.canLay0 = true) (hz : d.depth ≤ 20)
    (h : Q (.bool (!ds.any fun y => PyData.eqv y d)) s) : wpAny (MM g) A (compareOp .NotIn v w) Q E s := by
  obtain ⟨_, rx⟩ := hx
  obtain ⟨_, rc⟩ := hc
  exact SeqAt.notIn_list_reads rc rx hl hd (by have := R.un; have := Nat.min_le_right (PyData.depthAll ds) d.depth; omega) h
theorem r_eqD {v w : Value} {d e : PyData} {Q : Value → Shared → Prop} (R : Room A k) (hx : Rd v d s.heap) (hc : Rd w e s.heap) (hl : d.canLay0 = true) (hd : e.canLay0 = true) (hz : d.depth ≤ 20)
    (h : Q (.bool (PyData.eqv d e)) s) : wpAny (MM g) A (compareOp .Eq v w) Q E s := by
  obtain ⟨_, rx⟩ := hx
  obtain ⟨_, rc⟩ := hc
  exact SeqAt.compareEq_reads rx rc hl hd (by have := R.un; have := Nat.min_le_left d.depth e.depth; omega) h
theorem Fm.rdMu (F : Fm g c m mu fa s) {a : Addr} {vs : List Value} {n : Nat} {ds : List PyData} (h : (a, listOf vs.toArray n) ∈ mu) (r : RdAll vs ds s.heap) : Rd (.ref a) (.list ds) s.heap := Rd.list (F.at_ h) r
theorem r_getAppend {a : Addr} {vs : List Value} {n : Nat} {pl : Sem Bool} {Q : Value × List Value → Shared → Prop} (F : Fm g c m mu fa s) (hm : (a, listOf vs.toArray n) ∈ mu) (h : Q (.builtin "list.append", [.ref a]) s) :
    wpAny (MM g) A (getMethod (.ref a) "append" pl) Q E s := Calls.getMethod_list_append (F.at_ hm) rfl rfl h

theorem rd_int {v : Value} {i : Int} {h : Heap} (x : Rd v (.int i) h) : ∃ t, v = .int i t := by
  obtain ⟨_, r⟩ := x
  cases r
  exact ⟨_, rfl⟩
theorem rd_str {v : Value} {x : Str} {h : Heap} (r : Rd v (.str x) h) : ∃ t, v = .str x t := by
  obtain ⟨_, r⟩ := r
  cases r
  exact ⟨_, rfl⟩
theorem rd_bool {v : Value} {x : Bool} {h : Heap} (r : Rd v (.bool x) h) : v = .bool x := by
  obtain ⟨_, r⟩ := r
  cases r
  rfl
theorem rd_ref {v : Value} {ds : List PyData} {h : Heap} (r : Rd v (.list ds) h) : ∃ a, v = .ref a := by
  obtain ⟨_, r⟩ := r
  cases r
  exact ⟨_, rfl⟩
theorem rdAll_append {h : Heap} : ∀ {vs ws : List Value} {ds es : List PyData}, RdAll vs ds h → RdAll ws es h → RdAll (vs ++ ws) (ds ++ es) h
  | _, _, _, _, ⟨_, .nil⟩, y => y
  | _, _, _, _, ⟨_, .cons r rs⟩, y => RdAll.cons ⟨_, r⟩ (rdAll_append ⟨_, rs⟩ y)
theorem rdAll_strs {h : Heap} : ∀ {vs : List Value} {ss : List Str}, RdAll vs (ss.map PyData.str) h → StrsAre vs ss
  | _, [], ⟨_, .nil⟩ => .nil
  | _, _ :: _, ⟨_, .cons r rs⟩ => by
    obtain ⟨t, rfl⟩ := rd_str ⟨_, r⟩
    exact .cons _ _ (rdAll_strs ⟨_, rs⟩)
theorem strs_rdAll {h : Heap} : ∀ {vs : List Value} {ss : List Str}, StrsAre vs ss → RdAll vs (ss.map PyData.str) h
  | _, _, .nil => .nil
  | _, _, .cons _ _ r => .cons .str (strs_rdAll r)
theorem ints_rdAll {h : Heap} : ∀ {vs : List Value} {ns : List Int}, IntsAre vs ns → RdAll vs (ns.map PyData.int) h
  | _, _, .nil => .nil
  | _, _, .cons _ _ r => .cons .int (ints_rdAll r)

/-- the facts hold there -/
noncomputable def Knows (fa : List Fact) (hk : Heap) : Prop := ∀ R ∈ fa, R hk
theorem Knows.rd {fa : List Fact} {hk : Heap} {v : Value} {d : PyData} (q : Knows fa hk) (h : Rd v d ∈ fa) : Rd v d hk := q _ h
/-- a display whose items are data: known at once -/
theorem r_newListD {vs : List Value} {ds : List PyData} {Q : Value → Shared → Prop} (F : Fm g c m mu fa s) (hd : ∀ hk : Heap, Knows fa hk → RdAll vs ds hk) (h : ∀ a s', Fm g c m mu (Rd (.ref a) (.list ds) :: fa) s' → Q (.ref a) s') (hz : vs.length ≤ sizeLine) : wpAny (MM g) A (newList vs) Q E s :=
  r_newList F (fun a s' F' => h a s' (F'.freeze Rd.mono fun hk e q => Rd.list e (hd hk q))) hz

theorem strs3 {h : Heap} {vs : List Value} {x0 x1 x2 : Str} (r : RdAll vs [.str x0, .str x1, .str x2] h) : ∃ t0 t1 t2, vs = [.str x0 t0, .str x1 t1, .str x2 t2] := by
  obtain ⟨_, r⟩ := r
  cases r with | cons r1 r => cases r with | cons r2 r => cases r with | cons r3 r => cases r with | nil =>
    obtain ⟨t0, rfl⟩ := rd_str ⟨_, r1⟩
    obtain ⟨t1, rfl⟩ := rd_str ⟨_, r2⟩
    obtain ⟨t2, rfl⟩ := rd_str ⟨_, r3⟩
    exact ⟨_, _, _, rfl⟩
/-- an item of a data list of three texts -/
theorem r_item3D {value slice : Expr} {l : Addr} {x0 x1 x2 : Str} {i : Int} {u : Tok} {Q : Value → Shared → Prop} (F : Fm g c m mu fa s) (hv : Rd (.ref l) (.list [.str x0, .str x1, .str x2]) ∈ fa) (h0 : 0 ≤ i) (h3 : i < 3)
    (h : ∀ t, Q (.str (if i = 0 then x0 else if i = 1 then x1 else x2) t) s)
    (hs : subscripted slice false (.ref l) (.int i u) = operate [.ref l, .int i u] (getItem (.ref l) (.int i u))) : wpAny (MM g) A (subscriptTail value slice (.ref l) (.int i u)) Q E s := by
  obtain ⟨vs, h1, h2⟩ := rd_open (F.fact hv)
  obtain ⟨t0, t1, t2, rfl⟩ := strs3 h2
  exact r_item3 h1 h0 h3 h hs

/-- two data lists, one behind the other -/
theorem r_addD {v w : Value} {ds es : List PyData} {Q : Value → Shared → Prop} (F : Fm g c m mu fa s) (hx : Rd v (.list ds) ∈ fa) (hy : Rd w (.list es) ∈ fa) (hz : ds.length + es.length ≤ sizeLine)
    (h : ∀ a s', Fm g c m mu (Rd (.ref a) (.list (ds ++ es)) :: fa) s' → Q (.ref a) s') : wpAny (MM g) A (binaryOp .Add v w) Q E s := by
  obtain ⟨a, rfl⟩ := rd_ref (F.fact hx)
  obtain ⟨b, rfl⟩ := rd_ref (F.fact hy)
  obtain ⟨vs, F₁⟩ := F.openList hx
  obtain ⟨ws, F₂⟩ := F₁.openList (a := b) (ds := es) (.tail _ (.tail _ hy))
  have lv : vs.length = ds.length := (F₁.fact (.head _) : RdAll vs ds _).length
  have lw : ws.length = es.length := (F₂.fact (.head _) : RdAll ws es _).length
  refine r_addList F₂ (F₂.lsOf (.tail _ (.tail _ (.tail _ (.head _))))) (F₂.lsOf (.tail _ (.head _))) (by omega) fun r s₂ F₃ => h r s₂ ?_
  have F₄ := F₃.freeze (P := Rd (.ref r) (.list (ds ++ es))) Rd.mono fun hk e q => Rd.list e (rdAll_append (q _ (.tail _ (.tail _ (.head _)))) (q _ (.head _)))
  refine F₄.mono fun P hP => ?_
  rcases List.mem_cons.mp hP with rfl | hP
  · exact .head _
  · exact .tail _ (.tail _ (.tail _ (.tail _ (.tail _ hP))))

/-- a for over a list of data -/
theorem forAt_data {x : Str} {body : List Stmt} {Q : Flow → Shared → Prop} {xv : Value} {α : Type} (enc : α → PyData) (as : List α) (J : Nat → LM → Led → List Fact → Prop) (F : Fm g c m mu fa s) (hrd : Rd xv (.list (as.map enc)) ∈ fa) (hL : env.locals = c.L)
    (hz : as.length ≤ sizeLine) (hJ : J 0 m mu fa)
    (turn : ∀ i a v m₁ mu₁ fa₁ R I oI s₂, as[i]? = some a → J i m₁ mu₁ fa₁ → Fm g c ((x, v) :: m₁) ((I, oI) :: mu₁) (Rd v (enc a) :: R :: fa₁) s₂ →
      wpAny (MM g) A (execs body env) (fun f s₃ => match f with
        | .next | .cont => ∃ m₂ mu₂ fa₂, J (i + 1) m₂ mu₂ fa₂ ∧ Fm g c m₂ ((I, oI) :: mu₂) (R :: fa₂) s₃
        | .brk => Q .next s₃
        | .ret v => Q (.ret v) s₃) (fun _ _ => False) s₂)
    (done : ∀ m₁ mu₁ fa₁ s₂, J as.length m₁ mu₁ fa₁ → Fm g c m₁ mu₁ fa₁ s₂ → Q .next s₂) : ForAt g A env x body Q xv s := by
  obtain ⟨ax, rfl⟩ := rd_ref (F.fact hrd)
  obtain ⟨vs, F₁⟩ := F.openList hrd
  have lv : vs.length = as.length := by simpa using (F₁.fact (.head _) : RdAll vs _ _).length
  let R : Fact := fun h => Ls ax vs h ∧ RdAll vs (as.map enc) h
  have Rm : Mono R := fun h h' k q => ⟨Ls.mono h h' k q.1, RdAll.mono h h' k q.2⟩
  have F₂ : Fm g c m mu (R :: fa) s := (F₁.more (P := R) Rm fun hk q => ⟨q _ (.tail _ (.head _)), q _ (.head _)⟩).mono fun P hP => by
    rcases List.mem_cons.mp hP with rfl | hP
    · exact .head _
    · exact .tail _ (.tail _ (.tail _ hP))
  refine ⟨c, m, mu, R :: fa, ax, vs, fun i m₁ mu₁ fa' => ∃ fa₁, fa' = R :: fa₁ ∧ J i m₁ mu₁ fa₁, rfl, hL, F₂, by omega, ⟨fa, rfl, hJ⟩, ?_, ?_, ?_⟩
  · rintro i m₁ mu₁ fa' s₂ ⟨fa₁, rfl, _⟩ F'
    exact (F'.fact (.head _) : R _).1
  · rintro i v m₁ mu₁ fa' I oI s₂ hv ⟨fa₁, rfl, hj⟩ F'
    obtain ⟨a, ha⟩ : ∃ a, as[i]? = some a := by
      have hi : i < as.length := lv ▸ (List.getElem?_eq_some_iff.mp hv).1
      exact ⟨as[i], by simp⟩
    have F₃ := F'.more (P := Rd v (enc a)) Rd.mono fun hk q => by
      obtain ⟨d, d1, d2⟩ := RdAll.at_ (q R (.head _)).2 hv
      simp only [List.getElem?_map, ha, Option.map_some, Option.some.injEq] at d1
      exact d1 ▸ d2
    refine wpAny_mono (turn i a v m₁ mu₁ fa₁ R I oI s₂ ha hj F₃) (fun f s₃ h₃ => ?_) fun _ _ x => x
    cases f with
    | ret v => exact h₃
    | brk => exact h₃
    | next => obtain ⟨m₂, mu₂, fa₂, j, F₄⟩ := h₃; exact ⟨m₂, mu₂, R :: fa₂, ⟨fa₂, rfl, j⟩, F₄⟩
    | cont => obtain ⟨m₂, mu₂, fa₂, j, F₄⟩ := h₃; exact ⟨m₂, mu₂, R :: fa₂, ⟨fa₂, rfl, j⟩, F₄⟩
  · rintro m₁ mu₁ fa' s₂ ⟨fa₁, rfl, hj⟩ F'
    exact done m₁ mu₁ fa₁ s₂ (lv ▸ hj) (F'.mono fun P hP => .tail _ hP)
end
end
-- F6
section
section
variable {prog : Program} {w : World} {A : Around} {E : Value → Shared → Prop} {s : Shared}
theorem iss_str {dep : Int} {tk : Tok} {Q : Fin → Shared → Prop} (hq : Q (.done (.ret (.bool true))) s) :
    wpAny (model prog w) A (Builtin.«issubclass.nested» ⟨[.type "str", .type "str", .int dep tk], []⟩) Q E s := by
  have hm : (Value.type "type" == Value.type "type") = true := rfl
  have hself : isSubtype (.type "str") (.type "str") = pure true := rfl
  repeat (any_goals (first | assumption | (rw [if_pos hm]) | (rw [hself]) | wp_step))
theorem kind_issn : builtinKind "issubclass.nested" = none := by decide +kernel
theorem plain_issn : plainId "issubclass.nested" = true := by decide +kernel
theorem args_issn_3 (a b c : Value) : argsOk "issubclass.nested" ⟨[a, b, c], []⟩ := by unfold argsOk; kernel_rfl
theorem iss_strM {tk : Tok} {dep : Int} : Meets (Builtin.«issubclass.nested» ⟨[.type "str", .type "str", .int dep tk], []⟩) (fun _ R s => R (.ok (.ret (.bool true))) s) := by
  intro prog w A R s hs
  exact iss_str hs
theorem iss_tuple {tp : Addr} {tk : Tok} {its r : List Value} (hi : its = .type "str" :: r) :
    Meets (Builtin.«issubclass.nested» ⟨[.type "str", .ref tp, .int 0 tk], []⟩)
      (fun _ R s => s.heap.get? tp = some { cls := .type "tuple", data := .seq its.toArray } ∧ R (.ok (.ret (.bool true))) s) := by
  intro prog w A R s hs
  obtain ⟨h, g, d, tt, os⟩ := s
  obtain ⟨htp, hq⟩ := hs
  have hT2 : (⟨h, g, d, tt, os⟩ : Shared).TypeIs (.ref tp) "tuple" := ⟨_, htp, rfl⟩
  have f1 := F.isi_sub_tuple
  unfold Builtin.«issubclass.nested»
  repeat (any_goals (first | assumption | wp_step))
  refine wpAny_arrayLoop ?_
  simp only [Option.getD_some, List.toList_toArray]
  rw [hi, List.forIn_cons]
  refine wpAny_bind (wpAny_bind (call_function_meets kind_issn plain_issn PySem.F.entry_issubclass_nested (args_issn_3 _ _ _) (iss_strM) ?_))
  show wpAny _ _ (truthy (.bool true) >>= _) _ _ _
  refine wpAny_bind (m := truthy (.bool true)) (wpAny_pure ?_)
  simp only [if_true]
  repeat (any_goals (first | assumption | wp_step))
theorem call_iss {tp : Addr} {c : Value} {Q : Value → Shared → Prop} (htp : s.heap.get? tp = some { cls := .type "tuple", data := .seq [.type "str", c].toArray }) (h : Q (.bool true) s) : wpAny (model prog w) A (call (.builtin "issubclass") [.type "str", .ref tp]) Q E s :=
  call_issubclass (S := fun _ R s => s.heap.get? tp = some { cls := .type "tuple", data := .seq [.type "str", c].toArray } ∧ R (.ok (.ret (.bool true))) s)
    (fun _ _ _ _ _ hs => issubclass_outer (iss_tuple rfl _ _ _ _ _ hs)) ⟨htp, h⟩
end
section
variable {g : Gb} {c : Cx} {m : LM} {mu mu' : Led} {fa : List Fact} {s s' : Shared} {A : Around} {E : Value → Shared → Prop} {k : Nat} {env : Env}

/-- a tree that reads and then makes one object -/
theorem r_peekA {α : Type} {t : Sem α} {o : Obj} {g₁ : Addr → Sem α} {Q : α → Shared → Prop} {E : Value → Shared → Prop} (F : Fm g c m mu fa s) (hf : o.isFreed = false)
    (hp : peekA (hd.heap_1 g.w.params) ⟨PySem.Challenge.rw_in0181_01.row.prog, g.w.params⟩ t = some (o, g₁)) (h : ∀ a s', (a == sysModules) = false → Fm g c m ((a, o) :: mu) fa s' → wpAny (MM g) A (g₁ a) Q E s') : wpAny (MM g) A t Q E s := by
  obtain ⟨tl, N, k⟩ := F.led1
  exact wp_of_peekA F.fr N F.wdS.X hf t g₁ hp fun h' F' N' _ => h _ _ (beq_eq_false_iff_ne.mpr (Nat.ne_of_gt (modules_low F.wdS.T.nolimit))) (k { s with heap := h' } o F' N' rfl rfl)

/-- entering a def whose arguments are bound by trees that make objects -/
theorem enter_fmB (F : Fm g c m mu fa s) {Q : Value → Shared → Prop} {name qual : Str} {params : Arguments} {body : List Stmt} {scope : Scope} {dV kV doc pm cdv ct oc : Value} {an od : Option Addr} {osl : Array (Option Value)} {f : Addr} {vs : List Value} {kw : List (Str × Value)}
    (ho : (hd.heap_1 g.w.params).lookup f = some ⟨oc, od, .func (fnOf name qual params body scope dV kV doc pm an cdv ct), osl⟩) (hcd : codeIn (hd.heap_1 g.w.params) cdv qual = true) (hroom : A.depth < recursionLimit)
    (hbind : wpAny (MM g) A.in1 (bindArgs (fnOf name qual params body scope dV kV doc pm an cdv ct) ⟨vs, kw⟩) (fun binds s₂ => ∃ mv mu₂ fa₂, Fm g c m (mv ++ mu₂) fa₂ s₂ ∧ (∀ y ∈ binds, scope.names.lookup y.1 = some .local) ∧
      ∀ c' s₁, Fm g c' binds.reverse mv fa₂ s₁ → (∀ m'' mv' rest fa'' s'', mv'.map (·.1) = mv.map (·.1) → Fm g c' m'' (mv' ++ rest) fa'' s'' → Fm g c m (mv' ++ mu₂) fa'' s'') →
        wpAny (MM g) (A.deeper (envOf qual scope c'.L f cdv)) (execs body (envOf qual scope c'.L f cdv)) (fun fl s' => Q (match fl with | .ret v => v | _ => .none) s') (fun _ _ => False) s₁) (fun _ _ => False) s)
    (hco : scope.isCoroutine = false) (hgen : scope.isGenerator = false) (hk : scope.kind = .function)
    (hcell : ∀ x ∈ scope.names, x.2 ≠ .cell) : wpAny (MM g) A (call (.ref f) vs kw) Q E s := by
  have W := F.wdS
  refine wpAny_call ?_
  refine codeAny_call_function hroom (W.X _ _ ho) rfl hco hgen rfl (codeRec_of W.X hcd) (nofail (wpAny_mono hbind (fun binds s₂ h₂ => ?_) fun _ _ x => x))
  obtain ⟨mv, mu₂, fa₂, F₂, hloc, h⟩ := h₂
  obtain ⟨hb, kn, _, op, cl⟩ := F₂.open_
  refine wp_newEnv hloc (fun h₁ tk hns hk₁ _ => ?_) hk
  show (Heap.NoLimit h₁) ∧ codeAny _ _ (.func body (newEnv scope s₂.heap.objs.size mainGlobals (cellsFrom (s₂.heap.objs.size + 1) scope.names []) (qual ++ ".<locals>.") (some f) cdv none builtinsNs)) _ _
  rw [cellsFrom_none hcell]
  refine ⟨F₂.wdS.T.nolimit.keeps hk₁, codeAny_func ?_⟩
  exact wpAny_mono (h ⟨hb, kn, s₂.heap.objs.size, s₂⟩ _ (op h₁ tk _ [] hns hk₁ (fun _ h => nomatch h) .nil) fun m'' mv' rest fa'' s'' hm F2 => let ⟨_, x⟩ := cl _ _ _ _ _ hm F2; x.drop (List.sublist_cons_self _ _)) (fun fl s' hl => hl) fun _ _ y => y.elim

/-- f(*xs) -/
theorem r_star {e : Expr} {rest : List Expr} {pos p : Pos} {Q : List Value → Shared → Prop}
    (h : wpAny (MM g) A (eval e env) (fun v s₁ => ∃ (c : Cx) (m : LM) (mu : Led) (fa : List Fact) (ds : List PyData), Fm g c m mu fa s₁ ∧ Rd v (.list ds) ∈ fa ∧ ds.length ≤ sizeLine ∧
      ∀ vs s₂, RdAll vs ds s₂.heap → Fm g c m mu (RdAll vs ds :: fa) s₂ → wpAny (MM g) A (spliced (backTo pos (starEach rest env))) (fun ws s₃ => Q (vs ++ ws) s₃) E s₂) E s)
    (he : starEach (.Starred e p :: rest) env = (true, eval e env) :: starEach rest env) : wpAny (MM g) A (spliced (backTo pos (starEach (.Starred e p :: rest) env))) Q E s := by
  refine items_star (wpAny_mono h (fun v s₁ h₁ => ?_) fun _ _ x => x) he
  obtain ⟨c, m, mu, fa, ds, F, hv, hz, q⟩ := h₁
  obtain ⟨a, rfl⟩ := rd_ref (F.fact hv)
  obtain ⟨vs, F₁⟩ := F.openList hv
  have lv : vs.length = ds.length := (F₁.fact (.head _) : RdAll vs ds _).length
  obtain ⟨o, ho, hc, n, hd⟩ := F₁.lsOf (a := a) (vs := vs) (.tail _ (.head _))
  have hT : s₁.TypeIs (.ref a) "list" := ⟨o, ho, hc⟩
  unfold StarOf notIterableAtAll
  refine wpAny_bind (wpAny_specialOf hT PySem.F.slot_list_iter.lookup (wpAny_pure ⟨rfl, ?_⟩))
  refine wpAny_collect_seq a (.inl rfl) ho hc hd (fun h' hk => ?_) (by simpa [lv] using hz)
  have F₂ : Fm g c m mu (RdAll vs ds :: fa) { s₁ with heap := h' } := (F₁.grow (s' := { s₁ with heap := h' }) hk rfl rfl).mono fun P hP => by
    rcases List.mem_cons.mp hP with rfl | hP
    · exact .head _
    · exact .tail _ (.tail _ hP)
  exact q vs _ (F₂.fact (.head _)) F₂

theorem callWith_star {e : Expr} {rest : List Expr} {pos : Pos} {f : Value} {first : List Value} {Q : Value → Shared → Prop} (F : Fm g c m mu fa s) (hk : keepIn (hd.heap_1 g.w.params) f = true) (h : wpAny (MM g) A (spliced (backTo pos (starEach (e :: rest) env))) (fun vs s₁ => (hd.heap_1 g.w.params).In s₁.heap ∧ wpAny (MM g) A (call f (first ++ vs)) Q E s₁) E s)
    (he : starEach (e :: rest) env = (false, eval e env) :: starEach rest env) (hst : (backTo pos (starEach rest env)).any (·.1) = true) :
    wpAny (MM g) A (callWith pos f first (backTo pos (starEach (e :: rest) env)) []) Q E s := callWith_S2 F.wdS.X hk h he hst

noncomputable def Tp (a : Addr) (vs : List Value) : Fact := fun h => h.IsTuple a vs.toArray
theorem Tp.mono {a : Addr} {vs : List Value} : Mono (Tp a vs) := fun _ _ k ⟨o, e, c, n, d⟩ => ⟨o, k a o e, c, n, d⟩
theorem Tp.of {a : Addr} {vs : List Value} {hk : Heap} (e : hk.get? a = some { cls := .type "tuple", data := .seq vs.toArray }) : Tp a vs hk := ⟨_, e, rfl, _, rfl⟩

inductive ForTAt (g : Gb) (A : Around) (env : Env) (x : Str) (body : List Stmt) (Q : Flow → Shared → Prop) (xv : Value) (s₁ : Shared) : Prop where
  | mk (c : Cx) (m : LM) (mu : Led) (fa : List Fact) (ax : Addr) (vs : List Value) (J : Nat → LM → Led → List Fact → Prop) (h0 : xv = .ref ax) (h1 : env.locals = c.L) (h2 : Fm g c m mu (Tp ax vs :: fa) s₁) (h3 : J 0 m mu fa) (h4 : (∀ i v m₁ mu₁ fa₁ I oI s₂, vs[i]? = some v → J i m₁ mu₁ fa₁ → Fm g c ((x, v) :: m₁) ((I, oI) :: mu₁) (Tp ax vs :: fa₁) s₂ →
        wpAny (MM g) A (execs body env) (fun f s₃ => match f with
          | .next | .cont => ∃ m₂ mu₂ fa₂, J (i + 1) m₂ mu₂ fa₂ ∧ Fm g c m₂ ((I, oI) :: mu₂) (Tp ax vs :: fa₂) s₃
          | .brk => Q .next s₃
          | .ret v => Q (.ret v) s₃) (fun _ _ => False) s₂)) (h5 : ∀ m₁ mu₁ fa₁ s₂, J vs.length m₁ mu₁ fa₁ → Fm g c m₁ mu₁ fa₁ s₂ → Q .next s₂) : ForTAt g A env x body Q xv s₁
/-- a for over a tuple that stands -/
theorem r_ForT {x : Str} {px pos : Pos} {iter : Expr} {body : List Stmt} {Q : Flow → Shared → Prop} (hh : A.handled = none) (hk : env.scope.kind = .function) (hx : env.kindOf x = some .local)
    (h : wpAny (MM g) A (eval iter env) (fun xv s₁ => ForTAt g A env x body Q xv s₁) E s) (hs : ∀ x, foldedSetIterable iter env x = pure x) :
    wpAny (MM g) A (exec (.For (.Name x px) iter body [] pos) env) Q E s := by
  refine wpAny_For (wpAny_mono h (fun xv s₁ h₁ => ?_) fun _ _ e => e) hs
  obtain ⟨c, m, mu, fa, ax, vs, J, rfl, hL, F, hJ, turn, done⟩ := h₁
  have hl : s₁.heap.IsTuple ax vs.toArray := F.fact (P := Tp ax vs) (.head _)
  refine wpAny_pyIter_tuple hl ?_
  have F₀ := F.alloc (o := { cls := .type "tuple_iterator", data := .fields #[.ref ax, .int 0 0] }) rfl
  generalize hI : s₁.heap.objs.size = I at F₀
  have hne : ax ≠ I := hI ▸ Nat.ne_of_lt (let ⟨_, e, _⟩ := hl; Heap.lt_size e)
  have W := Walks.tuple (prog := PySem.Challenge.rw_in0181_01.row.prog) (w := g.w) hh I ax hne vs.toArray
  refine codeAny_forLoop
    (fun k s' => ∃ i m₁ mu₁ fa₁ oI, oI.cls = .type "tuple_iterator" ∧ oI.data = .fields #[.ref ax, .int (i : Nat) 0] ∧ J i m₁ mu₁ fa₁ ∧ Fm g c m₁ ((I, oI) :: mu₁) (Tp ax vs :: fa₁) s' ∧ i ≤ vs.length ∧ k = vs.length + 1 - i) ?_ (vs.length + 1)
    ⟨0, m, mu, fa, _, rfl, rfl, hJ, F₀, Nat.zero_le _, rfl⟩
  rintro k s' ⟨i, m₁, mu₁, fa₁, oI, c1, c2, hJ', F', hi, rfl⟩
  have st : s'.heap.IsTupleIter I ax i ∧ s'.heap.IsTuple ax vs.toArray := ⟨⟨oI, F'.at_ (.head _), c1, c2⟩, F'.fact (P := Tp ax vs) (.head _)⟩
  by_cases hlt : i < vs.length
  · refine W.item i s' _ _ (by simpa using hlt) st fun v h' tk hv st' hk' => ?_
    have hv : vs[i]? = some v := by simpa using hv
    obtain ⟨o', e1, e2, e3⟩ := st'.1
    have F₁ := F'.turn (s' := { s' with heap := h', toks := tk }) (o' := o') .head (fun b o hb e => hk' b o (by simpa using hb) e) e1 rfl rfl
    refine wpAny_assign_Name (r_store F₁ (fun s₂ F₂ => ?_) hL hk hx)
    refine nofail (wpAny_mono (turn i v m₁ mu₁ fa₁ I o' s₂ hv hJ' F₂) (fun f s₃ h₃ => ?_) fun _ _ x => x)
    cases f with
    | ret v => exact h₃
    | brk => exact h₃
    | next =>
      obtain ⟨m₂, mu₂, fa₂, j, F₃⟩ := h₃
      exact ⟨vs.length + 1 - (i + 1), by omega, i + 1, m₂, mu₂, fa₂, o', e2, e3, j, F₃, hlt, rfl⟩
    | cont =>
      obtain ⟨m₂, mu₂, fa₂, j, F₃⟩ := h₃
      exact ⟨vs.length + 1 - (i + 1), by omega, i + 1, m₂, mu₂, fa₂, o', e2, e3, j, F₃, hlt, rfl⟩
  · obtain rfl : i = vs.length := by omega
    have st'' : s'.heap.IsTupleIter I ax vs.toArray.size ∧ s'.heap.IsTuple ax vs.toArray := by rw [List.size_toArray]; exact st
    refine W.done s' _ _ st'' fun h' tk hk' => wpAny_execs_nil ?_
    exact done m₁ mu₁ fa₁ _ hJ' ((F'.lose (s' := { s' with heap := h', toks := tk }) (fun b o hb e => hk' b o (by simpa using hb) e) rfl rfl).mono fun P hP => .tail _ hP)

/-- a try whose body raises nothing -/
theorem r_try {body : List Stmt} {h₀ : ExceptHandler} {hs : List ExceptHandler} {pos : Pos} {Q : Flow → Shared → Prop} (h : wpAny (MM g) A (execs body env) Q (fun _ _ => False) s) :
    wpAny (MM g) A (exec (.Try body (h₀ :: hs) [] [] pos) env) Q E s := by
  refine wpAny_Try_except (nofail (wpAny_mono h (fun f s₁ h₁ => ?_) fun _ _ x => x))
  cases f <;> first | exact wpAny_execs_nil h₁ | exact h₁

/-- a text that is not empty -/
noncomputable def ne0 (x : Str) : Bool := !(x.length == 0)
theorem ne0_t {x : Str} (h : ne0 x = true) : (x.length == 0) = false := by simpa [ne0] using h
theorem ne0_f {x : Str} (h : ne0 x = false) : (x.length == 0) = true := by simpa [ne0] using h
theorem ne0_of {x : Str} (h : (x.length == 0) = false) : ne0 x = true := by simpa [ne0] using h
theorem r_truthyS {x : Str} {t : Tok} {Q : Bool → Shared → Prop} (F : Fm g c m mu fa s) (h : ∀ s', Fm g c m mu fa s' → Q (ne0 x) s') (hz : x.length ≤ sizeLine) : wpAny (MM g) A (truthy (.str x t)) Q E s := by
  refine PySem.P.truthy_str (by have := sizeLine_eq; omega) ?_
  have e : ((x.length : Int) != 0) = ne0 x := by
    unfold ne0
    rw [Bool.eq_iff_iff]
    simp
  rw [e]
  exact h _ (F.toks rfl)
theorem r_addS {x y : Str} {t u : Tok} {Q : Value → Shared → Prop} (F : Fm g c m mu fa s) (h : ∀ t s', Fm g c m mu fa s' → Q (.str (x ++ y) t) s') (hz : x.length + y.length ≤ sizeLine) : wpAny (MM g) A (binaryOp .Add (.str x t) (.str y u)) Q E s :=
  PyProof.Rows.add_str (fun _ _ => h _ _ (F.toks rfl)) hz
theorem r_iaddS {x y : Str} {t u : Tok} {Q : Value → Shared → Prop} (F : Fm g c m mu fa s) (h : ∀ t s', Fm g c m mu fa s' → Q (.str (x ++ y) t) s') (hz : x.length + y.length ≤ sizeLine) : wpAny (MM g) A (inplaceOp .Add (.str x t) (.str y u)) Q E s :=
  PyProof.Rows.iadd_str (fun _ _ => h _ _ (F.toks rfl)) hz
theorem r_loadL {x : Str} {v : Value} {Q : Value → Shared → Prop} (F : Fm g c m mu fa s) (hv : m.lookup x = some v) (h : Q v s)
    (hL : env.locals = c.L) (hk : env.scope.kind = .function) (hl : env.kindOf x = some .local) : wpAny (MM g) A (loadName env x) Q E s := wpAny_loadName_local hk hl (hL ▸ F.fr.ns) hv h
theorem Fm.atP (F : Fm g c m mu fa s) {a : Addr} {o : Obj} (h : (a, o) ∈ mu) : s.heap.get? a = some o := F.at_ h
theorem at_st {M : Model} {α : Type} {t : Sem α} {Q : α → Shared → Prop} (_ : Fm g c m mu fa s) (h : wpAny M A t Q E s) : wpAny M A t Q E s := h
theorem tok_wp {M : Model} {α : Type} {t : Sem α} {Q : α → Shared → Prop} {tk : Nat} (F : Fm g c m mu fa s) (h : ∀ s', Fm g c m mu fa s' → wpAny M A t Q E s') : wpAny M A t Q E { s with toks := tk } := h _ (F.toks rfl)
end
end
-- F7
section
section
variable {g : Gb} {c : Cx} {m : LM} {mu mu' : Led} {fa : List Fact} {s s' : Shared} {A : Around} {E : Value → Shared → Prop} {k : Nat} {env : Env}
theorem Fm.push (F : Fm g c m mu fa s) (ob : Obj) (k : Nat) : Fm g c m mu fa { s with heap := s.heap.push ob, toks := k } := F.grow (fun _ _ e => Heap.get?_push_of_some _ e) rfl rfl
theorem Fm.kept : KeptByPush (fun s => Fm g c m mu fa s) := fun _ ob k F => F.push ob k

theorem r_sliceS_ns {value up : Expr} {p pos : Pos} {Q : Value → Shared → Prop}
    (h : wpAny (MM g) A (eval value env) (fun o s₁ => wpAny (MM g) A (eval up env) (fun u s₂ => ∃ (c : Cx) (m : LM) (mu : Led) (fa : List Fact) (x : Str) (t : Tok) (j : Int) (tj : Tok), o = .str x t ∧ u = .int j tj ∧ Fm g c m mu fa s₂ ∧ x.length ≤ sizeLine ∧
      ∀ t' s', Fm g c m mu fa s' → Q (.str (Txt.slice x none (some j)) t') s') E s₁) E s)
    (hs : ∀ x t r, subscripted (.Slice none (some up) none p) false (.str x t) (.ref r) = operate [.ref r, .str x t] (getItem (.str x t) (.ref r))) :
    wpAny (MM g) A (eval (.Subscript value (.Slice none (some up) none p) pos) env) Q E s := by
  refine Subscript_ (wpAny_mono h (fun o s₁ h₁ => wpAny_Slice (wpAny_evalPart_none (wpAny_evalPart_some (wpAny_mono h₁ (fun u s₂ h₂ => wpAny_evalPart_none ?_) fun _ _ e => e)))) fun _ _ e => e)
  obtain ⟨c, m, mu, fa, x, t, j, tj, rfl, rfl, F, hz, hq⟩ := h₂
  obtain ⟨T, id, hl, hT, hg⟩ := SBG.sliceItem_ns (prog := PySem.Challenge.rw_in0181_01.row.prog) (w := g.w) (A := A) (E := E) (x := x) (t := t) (j := j) (uj := tj) (Q := Q) (Fm.kept (g := g) (c := c) (m := m) (mu := mu) (fa := fa)) F (fun s' t' F' => hq t' s' F') hz
  exact tail_any hT hl hg (hs _ _ _)
theorem r_sliceS_sn {value lo : Expr} {p pos : Pos} {Q : Value → Shared → Prop}
    (h : wpAny (MM g) A (eval value env) (fun o s₁ => wpAny (MM g) A (eval lo env) (fun u s₂ => ∃ (c : Cx) (m : LM) (mu : Led) (fa : List Fact) (x : Str) (t : Tok) (j : Int) (tj : Tok), o = .str x t ∧ u = .int j tj ∧ Fm g c m mu fa s₂ ∧ x.length ≤ sizeLine ∧
      ∀ t' s', Fm g c m mu fa s' → Q (.str (Txt.slice x (some j) none) t') s') E s₁) E s)
    (hs : ∀ x t r, subscripted (.Slice (some lo) none none p) false (.str x t) (.ref r) = operate [.ref r, .str x t] (getItem (.str x t) (.ref r))) :
    wpAny (MM g) A (eval (.Subscript value (.Slice (some lo) none none p) pos) env) Q E s := by
  refine Subscript_ (wpAny_mono h (fun o s₁ h₁ => wpAny_Slice (wpAny_evalPart_some (wpAny_mono h₁ (fun u s₂ h₂ => wpAny_evalPart_none (wpAny_evalPart_none ?_)) fun _ _ e => e))) fun _ _ e => e)
  obtain ⟨c, m, mu, fa, x, t, j, tj, rfl, rfl, F, hz, hq⟩ := h₂
  obtain ⟨T, id, hl, hT, hg⟩ := SBG.sliceItem_sn (prog := PySem.Challenge.rw_in0181_01.row.prog) (w := g.w) (A := A) (E := E) (x := x) (t := t) (i := j) (ui := tj) (Q := Q) (Fm.kept (g := g) (c := c) (m := m) (mu := mu) (fa := fa)) F (fun s' t' F' => hq t' s' F') hz
  exact tail_any hT hl hg (hs _ _ _)
theorem r_sliceS_ss {value lo up : Expr} {p pos : Pos} {Q : Value → Shared → Prop}
    (h : wpAny (MM g) A (eval value env) (fun o s₁ => wpAny (MM g) A (eval lo env) (fun l s₂ => wpAny (MM g) A (eval up env) (fun u s₃ => ∃ (c : Cx) (m : LM) (mu : Led) (fa : List Fact) (x : Str) (t : Tok) (i j : Int) (ti tj : Tok), o = .str x t ∧ l = .int i ti ∧ u = .int j tj ∧ Fm g c m mu fa s₃ ∧ x.length ≤ sizeLine ∧
      ∀ t' s', Fm g c m mu fa s' → Q (.str (Txt.slice x (some i) (some j)) t') s') E s₂) E s₁) E s)
    (hs : ∀ x t r, subscripted (.Slice (some lo) (some up) none p) false (.str x t) (.ref r) = operate [.ref r, .str x t] (getItem (.str x t) (.ref r))) :
    wpAny (MM g) A (eval (.Subscript value (.Slice (some lo) (some up) none p) pos) env) Q E s := by
  refine Subscript_ (wpAny_mono h (fun o s₁ h₁ => wpAny_Slice (wpAny_evalPart_some (wpAny_mono h₁ (fun l s₂ h₂ => wpAny_evalPart_some (wpAny_mono h₂ (fun u s₃ h₃ => wpAny_evalPart_none ?_) fun _ _ e => e)) fun _ _ e => e))) fun _ _ e => e)
  obtain ⟨c, m, mu, fa, x, t, i, j, ti, tj, rfl, rfl, rfl, F, hz, hq⟩ := h₃
  obtain ⟨T, id, hl, hT, hg⟩ := SBG.sliceItem_ss (prog := PySem.Challenge.rw_in0181_01.row.prog) (w := g.w) (A := A) (E := E) (x := x) (t := t) (i := i) (ui := ti) (j := j) (uj := tj) (Q := Q) (Fm.kept (g := g) (c := c) (m := m) (mu := mu) (fa := fa)) F (fun s' t' F' => hq t' s' F') hz
  exact tail_any hT hl hg (hs _ _ _)

theorem rdAll_strValues {h : Heap} : ∀ l : List (Str × Tok), RdAll (strValues l) ((l.map (·.1)).map PyData.str) h := fun l => ⟨_, readsAll_strValues h l⟩
theorem r_split {x y : Str} {t u : Tok} {Q : Value → Shared → Prop} (F : Fm g c m mu fa s) (hy : (y.length == 0) = false) (h : ∀ a s', Fm g c m mu (Rd (.ref a) (.list ((Txt.split x y).map PyData.str)) :: fa) s' → Q (.ref a) s') (hz : x.length + 2 ≤ sizeLine) :
    wpAny (MM g) A (call (.builtin "str.split") [.str x t, .str y u]) Q E s := by
  obtain ⟨tl, N, k⟩ := F.led1
  refine splitN1 F.fr N hy (fun l h' tk hl F' N' => ?_) hz
  refine h _ _ ((k { s with heap := h', toks := tk } _ F' N' rfl rfl).freeze Rd.mono fun hk e _ => Rd.list e ?_)
  rw [← hl]
  exact rdAll_strValues l
theorem r_joinS {x : Str} {t : Tok} {D : Addr} {vs : List Value} {ys : List Str} {Q : Value → Shared → Prop} (F : Fm g c m mu fa s) (hl : s.heap.IsList D vs.toArray) (hi : StrsAre vs ys) (h : ∀ t' s', Fm g c m mu fa s' → Q (.str (Txt.join x ys) t') s') (hz : (ys.map (·.length)).sum + ys.length * x.length ≤ 16777216) :
    wpAny (MM g) A (call (.builtin "str.join") [.str x t, .ref D]) Q E s := join_list hl hi hz fun _ _ => h _ _ (F.toks rfl)
theorem r_joinD {x : Str} {t : Tok} {v : Value} {ys : List Str} {Q : Value → Shared → Prop} (F : Fm g c m mu fa s) (hv : Rd v (.list (ys.map PyData.str)) ∈ fa) (h : ∀ t' s', Fm g c m mu fa s' → Q (.str (Txt.join x ys) t') s') (hz : (ys.map (·.length)).sum + ys.length * x.length ≤ 16777216) :
    wpAny (MM g) A (call (.builtin "str.join") [.str x t, v]) Q E s := by
  obtain ⟨a, rfl⟩ := rd_ref (F.fact hv)
  obtain ⟨vs, h1, h2⟩ := rd_open (F.fact hv)
  exact r_joinS F h1 (rdAll_strs h2) h hz
theorem r_truthyL {D : Addr} {vs : List Value} {Q : Bool → Shared → Prop} (F : Fm g c m mu fa s) (hl : s.heap.IsList D vs.toArray) (hz : vs.length ≤ sizeLine) (h : ∀ s', Fm g c m mu fa s' → Q (!vs.isEmpty) s') : wpAny (MM g) A (truthy (.ref D)) Q E s := by
  refine wpAny_truthy_list hl (by have := sizeLine_eq; rw [List.size_toArray]; omega) ?_
  have e : (!vs.toArray.isEmpty) = !vs.isEmpty := by simp
  rw [e]
  exact h _ (F.toks rfl)
theorem r_itemLast {value slice : Expr} {D : Addr} {vs : List Value} {v : Value} {u : Tok} {Q : Value → Shared → Prop} (hl : s.heap.IsList D (vs ++ [v]).toArray) (h : Q v s)
    (hs : subscripted slice false (.ref D) (.int (-1) u) = operate [.ref D, .int (-1) u] (getItem (.ref D) (.int (-1) u))) : wpAny (MM g) A (subscriptTail value slice (.ref D) (.int (-1) u)) Q E s := by
  have e : (-1 + ((vs ++ [v]).toArray.size : Int)).toNat = vs.length := by
    rw [List.size_toArray, List.length_append, List.length_singleton]
    omega
  refine tail_any hl.typeIs slot_list_getitem.lookup (wpAny_getItem_list_neg hl (by decide) (by rw [List.size_toArray, List.length_append, List.length_singleton]; omega) (by decide) ?_ h) hs
  rw [e]
  simp
theorem r_pop {a : Addr} {vs : List Value} {v : Value} {n : Nat} {Q : Value → Shared → Prop} (F : Fm g c m mu fa s) (t : Tn a (listOf (vs ++ [v]).toArray n) (listOf vs.toArray (n + 1)) mu mu') (h : ∀ s', Fm g c m mu' fa s' → Q v s') (hz : vs.length + 1 ≤ sizeLine) :
    wpAny (MM g) A (call (.builtin "list.pop") [.ref a]) Q E s := by
  have at_ := F.at_ t.mem
  have hk : (vs ++ [v]).toArray.size - 1 = vs.length := by rw [List.size_toArray, List.length_append]; rfl
  have hy : (vs ++ [v]).toArray[(vs ++ [v]).toArray.size - 1]? = some v := by rw [hk]; simp
  refine call_meets PySem.F.slot_list_pop ⟨_, at_, rfl⟩ PySem.F.entry_list_pop (PySem.F.args_list_pop_1 _) (PySem.MeetsSeq.list_pop_last a _ n v hy (by rw [List.size_toArray, List.length_append, List.length_singleton]; exact hz)) ⟨at_, h _ (F.turn t (fun b o hb e => (Heap.get?_update_other s.heap _ (Ne.symm hb)).trans e) ?_ rfl rfl)⟩
  have q := PySem.IsL.update at_ (fun its => its.eraseIdxIfInBounds ((vs ++ [v]).toArray.size - 1))
  have e1 : (vs ++ [v]).toArray.eraseIdxIfInBounds ((vs ++ [v]).toArray.size - 1) = vs.toArray := by
    rw [hk, kl_erase, List.append_nil]
  rw [e1, if_neg (by simp)] at q
  exact q
theorem r_unpackT {elts : List Expr} {kk : Nat} {pos : Pos} {D : Addr} {vs : List Value} {Q : Unit → Shared → Prop} (F : Fm g c m mu fa s) (hl : s.heap.IsTuple D vs.toArray) (hh : A.handled = none) (hn : (assignEach elts env).length = vs.length)
    (hstar : (assignEach elts env).findIdx? (·.1) = none) (h : ∀ s', Fm g c m mu fa s' → wpAny (MM g) A (assignInOrder ((assignEach elts env).map (·.2)) vs) Q E s') :
    wpAny (MM g) A (assign (.Tuple elts kk pos) env (.ref D)) Q E s := by
  rw [assign_Tuple]
  refine wpAny_bind (wpAny_standAt ?_)
  unfold unpack
  rw [hn, hstar]
  have e : vs.length = vs.toArray.size := by simp
  rw [e]
  refine wpAny_bind (wpAny_holding (unpackItems_tuple hh hl fun h' he => h _ ?_))
  exact F.grow (s' := { s with heap := h' }) (fun b o q => he b o (Nat.ne_of_lt (Heap.lt_size q)) q) rfl rfl
/-- an empty dict that nothing changes -/
noncomputable def Ed (b : Addr) : Fact := fun h => h.get? b = some { cls := .type "dict", data := .dict #[] } ∧ (b == sysModules) = false
theorem Ed.mono {b : Addr} : Mono (Ed b) := fun _ _ k q => ⟨k _ _ q.1, q.2⟩
theorem r_truthyEd {b : Addr} {Q : Bool → Shared → Prop} (F : Fm g c m mu fa s) (hb : Ed b ∈ fa) (h : ∀ s', Fm g c m mu fa s' → Q false s') : wpAny (MM g) A (truthy (.ref b)) Q E s := by
  obtain ⟨e1, e2⟩ := F.fact hb
  exact wpAny_truthy_dict (knd := strKind PySem.Challenge.rw_in0181_01.row.prog g.w) (kvs := []) e2 ⟨_, #[], 0, e1, ⟨rfl, rfl, rfl⟩, rfl, (fun _ he => nomatch (List.not_mem_nil (List.mem_toArray.mp he))), Pairs.nil, List.nodup_nil⟩ (by decide) (h _ (F.toks rfl))
theorem r_lenT {a : Addr} {vs : List Value} {Q : Value → Shared → Prop} (F : Fm g c m mu fa s) (ha : Tp a vs ∈ fa) (hz : vs.length ≤ sizeLine) (h : ∀ t s', Fm g c m mu fa s' → Q (.int vs.length t) s') : wpAny (MM g) A (call (.builtin "len") [.ref a]) Q E s := by
  have ht : s.heap.IsTuple a vs.toArray := F.fact ha
  have e : (vs.toArray.size : Int) = vs.length := by simp
  refine PyProof.Rows.len_tuple ht (by have := sizeLine_eq; rw [e]; omega) ?_
  rw [e]
  exact h _ _ (F.toks rfl)
theorem r_itemT {value slice : Expr} {a : Addr} {vs : List Value} {i : Nat} {v : Value} {u : Tok} {Q : Value → Shared → Prop} (F : Fm g c m mu fa s) (ha : Tp a vs ∈ fa) (hx : vs[i]? = some v) (hz : vs.length ≤ sizeLine) (h : Q v s)
    (hs : subscripted slice false (.ref a) (.int i u) = operate [.ref a, .int i u] (getItem (.ref a) (.int i u))) : wpAny (MM g) A (subscriptTail value slice (.ref a) (.int i u)) Q E s := by
  have ht : s.heap.IsTuple a vs.toArray := F.fact ha
  have hlt := (List.getElem?_eq_some_iff.mp hx).1
  have hsl := sizeLine_eq
  refine tail_any ht.typeIs PySem.F.slot_tuple_getitem.lookup (PyProof.Rows.getItem_tuple (j := i) ht (by omega) (by omega) ?_ (by simpa using hx) h) hs
  unfold seqIndex?
  simp only [List.size_toArray]
  split <;> simp_all <;> omega
end
end
-- Tac
local macro_rules | `(tactic| k_extra "mine_asm") => `(tactic| with_reducible assumption)
local macro_rules | `(tactic| k_extra "mine_at") => `(tactic| (show List.Mem _ _; first | with_reducible exact List.Mem.head _ | with_reducible assumption | (refine List.Mem.tail _ ?_; k_extra "mine_at")))
theorem sub_cons {x : Fact} {fa big : List Fact} (h : List.Mem x big) (t : ∀ P ∈ fa, P ∈ big) : ∀ P ∈ x :: fa, P ∈ big := fun P hP => by
  rcases List.mem_cons.mp hP with rfl | hP
  · exact h
  · exact t P hP
theorem sub_tail {x : Fact} {fa big : List Fact} (t : ∀ P ∈ fa, P ∈ big) : ∀ P ∈ fa, P ∈ x :: big := fun P hP => .tail _ (t P hP)
local macro_rules | `(tactic| k_extra "mine_sub") => `(tactic| first | with_reducible exact fun P h => h | ((with_reducible refine sub_cons (by k_extra "mine_at") ?_); k_extra "mine_sub") | ((with_reducible refine sub_tail ?_); k_extra "mine_sub"))
local macro_rules | `(tactic| k_extra "mine_tn") => `(tactic| first | exact Tn.head | ((refine' Tn.tail ?y); (case y => k_extra "mine_tn")))
local macro_rules | `(tactic| k_extra "mine_all") => `(tactic| first | exact RdAll.nil | exact RdAll.cons (by first | exact Rd.str | exact Rd.int | exact Rd.bool | exact Knows.rd (by k_extra "mine_asm") (by k_extra "mine_at")) (by k_extra "mine_all"))
local macro_rules | `(tactic| k_extra "mine_data") => `(tactic| (intro hk' q'; k_extra "mine_all"))
theorem if_t {a b : Prop} {i : Decidable (true = true)} (h : a) : @ite Prop (true = true) i a b := by rw [if_pos rfl]; exact h
theorem if_f {a b : Prop} {i : Decidable (false = true)} (h : b) : @ite Prop (false = true) i a b := by rw [if_neg Bool.false_ne_true]; exact h
theorem if_nt {a b : Prop} {i : Decidable ((!true) = true)} (h : b) : @ite Prop ((!true) = true) i a b := (if_neg Bool.false_ne_true).mpr h
theorem if_nf {a b : Prop} {i : Decidable ((!false) = true)} (h : a) : @ite Prop ((!false) = true) i a b := (if_pos (c := (!false) = true) rfl).mpr h
theorem if_nnt {a b : Prop} {i : Decidable ((!!true) = true)} (h : a) : @ite Prop ((!!true) = true) i a b := (if_pos (c := (!!true) = true) rfl).mpr h
theorem if_nnf {a b : Prop} {i : Decidable ((!!false) = true)} (h : b) : @ite Prop ((!!false) = true) i a b := (if_neg (c := (!!false) = true) Bool.false_ne_true).mpr h
theorem if_pos' {p a b : Prop} {i : Decidable p} (hp : p) (h : a) : @ite Prop p i a b := by rw [if_pos hp]; exact h
theorem if_neg' {p a b : Prop} {i : Decidable p} (hp : ¬p) (h : b) : @ite Prop p i a b := by rw [if_neg hp]; exact h
theorem call_app1 {M : Model} {A : Around} {f a v : Value} {Q E : Value → Shared → Prop} {s : Shared} (h : wpAny M A (call f [a, v]) Q E s) : wpAny M A (call f ([a] ++ [v])) Q E s := h
theorem call_app0 {M : Model} {A : Around} {f : Value} {vs : List Value} {Q E : Value → Shared → Prop} {s : Shared} (h : wpAny M A (call f vs) Q E s) : wpAny M A (call f ([] ++ vs)) Q E s := h
theorem bi1 : bootBuiltins (Str.ofString "issubclass") = some (.builtin "issubclass") := by kernel_rfl
theorem bi2 : bootBuiltins (Str.ofString "bytes") = some (.type "bytes") := by kernel_rfl
local macro_rules | `(tactic| k_extra "mine_ms") => `(tactic| first
  | ((with_reducible show wpAny _ _ (eval (Expr.Name _ _) _) _ _ _); first
      | ((refine' r_local ?z1 ?z2 ?z0 ?z3 ?z4 ?z5 ?z6); (case z1 => k_extra "mine_asm"); (case z3 => rfl); (case z4 => rfl); (case z5 => rfl); (case z6 => decide); (case z2 => first | rfl | assumption))
      | ((refine' r_glob ?z1 ?z2 ?z0 ?z3 ?z4 ?z5 ?z6); (case z1 => k_extra "mine_asm"); (case z3 => rfl); (case z4 => rfl); (case z5 => rfl); (case z6 => decide); (case z2 => k_is))
      | ((refine' r_blt ?z1 ?z2 ?z3 ?z0 ?z4 ?z5 ?z6 ?z7 ?z8 ?z9); (case z1 => k_extra "mine_asm"); (case z5 => rfl); (case z6 => rfl); (case z7 => rfl); (case z8 => rfl); (case z9 => decide); (case z4 => decide); (case z2 => k_is); (case z3 => first | exact bi1 | exact bi2 | boot_fast)))
  | ((with_reducible show wpAny _ _ (eval (Expr.Constant (Const.int _) _ _) _) _ _ _); (refine' r_cint ?z1 ?z0); (case z1 => k_extra "mine_asm"); intro t' s' F'; try dsimp only)
  | ((with_reducible show wpAny _ _ (eval (Expr.Constant (Const.str _) _ _) _) _ _ _); (refine' r_cstr ?z1 ?z0); (case z1 => k_extra "mine_asm"); intro t' s' F'; try dsimp only)
  | ((with_reducible show wpAny _ _ (eval (Expr.Constant Const.none _ _) _) _ _ _); refine' Constant_none ?z0; try dsimp only)
  | ((with_reducible show wpAny _ _ (eval (Expr.Constant (Const.bool _) _ _) _) _ _ _); refine' Constant_bool ?z0; try dsimp only)
  | ((with_reducible show wpAny _ _ (eval (Expr.BinOp _ _ _ _) _) _ _ _); refine' wpAny_BinOp ?z0)
  | ((with_reducible show wpAny _ _ (binaryOp Operator.FloorDiv (Value.int _ _) (Value.int _ _)) _ _ _); (refine' r_fdiv ?z1 ?z2 ?z0 ?z4); (case z1 => k_extra "mine_asm"); (case z2 => decide); (case z4 => decide); intro t' s' F'; try dsimp only)
  | ((with_reducible show wpAny _ _ (binaryOp Operator.Mod (Value.int _ _) (Value.int _ _)) _ _ _); (refine' r_fmod ?z1 ?z2 ?z0); (case z1 => k_extra "mine_asm"); (case z2 => decide); intro t' s' F'; try dsimp only)
  | ((with_reducible show wpAny _ _ (binaryOp Operator.Add (Value.int _ _) (Value.int _ _)) _ _ _); (refine' r_addI ?z1 ?z0); (case z1 => k_extra "mine_asm"); intro t' s' F'; try dsimp only)
  | ((with_reducible show wpAny _ _ (compareOp CmpOp.Eq (Value.int _ _) (Value.int _ _)) _ _ _); refine' eq_int ?z0; try dsimp only)
  | ((with_reducible show wpAny _ _ (truthy (Value.bool _)) _ _ _); refine' wpAny_truthy_bool ?z0; try dsimp only)
  | ((with_reducible show wpAny _ _ (storeName _ _ _) _ _ _); (refine' r_store ?z1 ?z0 ?z3 ?z4 ?z5); (case z1 => k_extra "mine_asm"); (case z3 => rfl); (case z4 => rfl); (case z5 => rfl); intro s' F'; try dsimp only)
  | ((with_reducible show wpAny _ _ (spliced (backTo _ (starEach [] _))) _ _ _); refine' args_nil ?z0; try dsimp only)
  | ((with_reducible show wpAny _ _ (spliced (backTo _ (starEach (_ :: _) _))) _ _ _); refine' args_cons ?z0)
  | ((with_reducible show wpAny _ _ (eval (Expr.List _ _) _) _ _ _); refine' List_ ?z0)
  | ((with_reducible show wpAny _ _ (newList []) _ _ _); (refine' r_newList ?z1 ?z0 ?z3); (case z1 => k_extra "mine_asm"); (case z3 => exact Nat.zero_le _); intro a' s' F'; try dsimp only)
  | ((with_reducible show wpAny _ _ (newList (_ :: _)) _ _ _); (refine' r_newListD ?z1 ?z2 ?z0 ?z4); (case z1 => k_extra "mine_asm"); (case z2 => k_extra "mine_data"); (case z4 => exact Nat.le_of_ble_eq_true rfl); intro a' s' F'; try dsimp only)
  | ((with_reducible show wpAny _ _ (eval (Expr.Subscript _ _ _) _) _ _ _); (fail_if_success (with_reducible show wpAny _ _ (eval (Expr.Subscript _ (Expr.Slice _ _ _ _) _) _) _ _ _)); refine' Subscript_ ?z0)
  | ((with_reducible show wpAny _ _ (eval (Expr.Compare _ [_] [_] _) _) _ _ _); refine' wpAny_Compare1 ?z0)
  | ((with_reducible show wpAny _ _ (PySem.isTrue (Expr.Compare _ [_] [_] _) _ _) _ _ _); refine' wpAny_isTrue_Compare1 ?z0)
  | ((with_reducible show wpAny _ _ (eval (Expr.Call (Expr.Attribute _ _ _) _ [] _) _) _ _ _); refine' MethodCall_ ?z0)
  | ((with_reducible show wpAny _ _ (eval (Expr.Call _ _ [] _) _) _ _ _); refine' Call_ ?z0)
  | ((with_reducible show wpAny _ _ (callWith _ (Value.ref _) _ (backTo _ (starEach (_ :: _) _)) []) _ _ _); (refine' r_callWith ?z1 ?z2 ?z0 ?z4 ?z5); (case z1 => k_extra "mine_asm"); (case z2 => k_is); (case z4 => rfl); (case z5 => rfl))
  | ((with_reducible show wpAny _ _ (callWith _ (Value.ref _) _ (backTo _ (starEach (_ :: _) _)) []) _ _ _); (refine' callWith_star ?z1 ?z2 ?z0 ?z4 ?z5); (case z1 => k_extra "mine_asm"); (case z2 => k_is); (case z4 => rfl); (case z5 => rfl))
  | ((with_reducible show wpAny _ _ (callWith _ (Value.builtin _) [] (backTo _ (starEach (_ :: _) _)) []) _ _ _); refine' PyProof.Rows.callWith_builtin1 ?z0)
  | ((with_reducible show wpAny _ _ (callWith _ (Value.builtin _) _ (backTo _ (starEach (_ :: _) _)) []) _ _ _); refine' callWith_method1 ?z0)
  | ((with_reducible show Frag.In _ _ ∧ _); refine ⟨(Fm.wdS (by k_extra "mine_asm")).X, ?_⟩; try dsimp only [List.nil_append, List.cons_append])
  | ((with_reducible show wpAny _ _ (execs [] _) _ _ _); refine' wpAny_execs_nil ?z0; try dsimp only)
  | ((with_reducible show wpAny _ _ (execs (_ :: _) _) _ _ _); refine' wpAny_execs_cons ?z0)
  | ((with_reducible show wpAny _ _ (exec (Stmt.Return (some _) _) _) _ _ _); refine' wpAny_Return_some ?z0)
  | ((with_reducible show wpAny _ _ (exec (Stmt.Expr _ _) _) _ _ _); refine' wpAny_Expr_any ?z0)
  | ((with_reducible show wpAny _ _ (exec (Stmt.Assign [Expr.Name _ _] _ _) _) _ _ _); refine' wpAny_Assign_Name ?z0)
  | ((with_reducible show wpAny _ _ (exec (Stmt.If _ _ _ _) _) _ _ _); refine' wpAny_If ?z0)
  | (with_reducible refine' call_app1 ?z0)
  | (with_reducible refine' if_t ?z0)
  | (with_reducible refine' if_f ?z0)
  | (with_reducible refine' if_nt ?z0)
  | (with_reducible refine' if_nf ?z0)
  | (with_reducible refine' if_nnt ?z0)
  | (with_reducible refine' if_nnf ?z0)
  | ((with_reducible show wpAny _ _ (getMethod (Value.ref _) (Str.ofString "append") _) _ _ _); (refine' r_getAppend ?z1 ?z2 ?z0); (case z1 => k_extra "mine_asm"); (case z2 => k_extra "mine_at"))
  | ((with_reducible show wpAny _ _ (call (Value.builtin "list.append") [_, _]) _ _ _); (refine' r_append ?z1 ?z2 ?z0 ?z3); (case z1 => k_extra "mine_asm"); (case z2 => k_extra "mine_tn"); intro s' F'; try dsimp only)
  | ((with_reducible show wpAny _ _ (call (Value.builtin "issubclass") [Value.type "str", Value.ref _]) _ _ _); (refine' call_iss ?z1 ?z0); (case z1 => ((with_reducible rename Fm _ _ _ _ _ _ => FF); (exact FF.atP (by k_extra "mine_at")))); try dsimp only)
  | ((with_reducible show wpAny _ _ (newTuple (_ :: _)) _ _ _); (refine' r_newTuple ?z1 ?z0 ?z3); (case z1 => k_extra "mine_asm"); (case z3 => exact Nat.le_of_ble_eq_true rfl); intro a' s' F'; try dsimp only)
  | ((with_reducible show wpAny _ _ (truthy (Value.str _ _)) _ _ _); (refine' r_truthyS ?z1 ?z0 ?zz); (case z1 => k_extra "mine_asm"); intro s' F'; try dsimp only)
  | ((with_reducible show wpAny _ _ (binaryOp Operator.Add (Value.str _ _) (Value.str _ _)) _ _ _); (refine' r_addS ?z1 ?z0 ?zz); (case z1 => k_extra "mine_asm"); intro t' s' F'; try dsimp only)
  | ((with_reducible show wpAny _ _ (inplaceOp Operator.Add (Value.str _ _) (Value.str _ _)) _ _ _); (refine' r_iaddS ?z1 ?z0 ?zz); (case z1 => k_extra "mine_asm"); intro t' s' F'; try dsimp only)
  | ((with_reducible show wpAny _ _ (loadName _ _) _ _ _); (refine' r_loadL ?z1 ?z2 ?z0 ?z3 ?z4 ?z5); (case z1 => k_extra "mine_asm"); (case z3 => rfl); (case z4 => rfl); (case z5 => rfl); (case z2 => first | rfl | assumption))
  | ((with_reducible show wpAny _ _ _ _ _ _); (fail_if_success (refine' at_st ?z1 ?z0; (case z1 => k_extra "mine_asm"))); (with_reducible refine' tok_wp ?z1 ?z0); (case z1 => k_extra "mine_asm"); intro s' F'; try dsimp only)
  | ((with_reducible show wpAny _ _ (getMethod (Value.ref _) (Str.ofString "pop") _) _ _ _); (refine' getMethod_builtin ?z1 PySem.F.plainAttrs_list PySem.F.slot_list_pop PySem.F.type_list_pop ?z2 ?z0); (case z1 => ((with_reducible rename Fm _ _ _ _ _ _ => FF); (exact ⟨_, FF.atP (by k_extra "mine_at"), rfl⟩))); (case z2 => ((with_reducible rename Fm _ _ _ _ _ _ => FF); (intro _ e; cases e; exact ⟨_, FF.atP (by k_extra "mine_at"), rfl⟩))))
  | ((with_reducible show wpAny _ _ _ _ _ _); (fail_if_success (with_reducible show wpAny _ _ (eval (Expr.Subscript _ (Expr.Slice _ _ _ _) _) _) _ _ _)); (fail_if_success (with_reducible show wpAny _ _ (call (Value.ref _) _ _) _ _ _)); (fail_if_success (with_reducible show wpAny _ _ (truthy (Value.ref _)) _ _ _)); (fail_if_success (with_reducible show wpAny _ _ (subscriptTail _ _ _ _) _ _ _)); (fail_if_success (with_reducible show wpAny _ _ (assign (Expr.Tuple _ _ _) _ _) _ _ _)); (fail_if_success (with_reducible show wpAny _ _ (call (Value.builtin _) (Value.ref _ :: _) _) _ _ _)); (fail_if_success (with_reducible show wpAny _ _ (call (Value.builtin "str.split") _ _) _ _ _)); (fail_if_success (with_reducible show wpAny _ _ (call (Value.builtin "str.join") _ _) _ _ _)); (fail_if_success (with_reducible show wpAny _ _ (compareOp _ (Value.ref _) _) _ _ _)); (fail_if_success (with_reducible show wpAny _ _ (compareOp _ _ (Value.ref _)) _ _ _)); (fail_if_success (with_reducible show wpAny _ _ (eval (Expr.ListComp _ _ _ _) _) _ _ _)); (fail_if_success (with_reducible show wpAny _ _ (exec (Stmt.For _ _ _ _ _) _) _ _ _)); (fail_if_success (with_reducible show wpAny _ _ (exec (Stmt.While _ _ _ _) _) _ _ _)); (fail_if_success (with_reducible show wpAny _ _ (exec (Stmt.Try _ _ _ _ _) _) _ _ _)); (fail_if_success (with_reducible show wpAny _ _ (getMethod (Value.ref _) _ _) _ _ _)); walk1))
local macro_rules | `(tactic| k_extra "mine_sls") => `(tactic| first
  | ((refine' r_sliceS_ns ?z0 ?z1); (case z1 => intro _ _ _; with_unfolding_all rfl))
  | ((refine' r_sliceS_sn ?z0 ?z1); (case z1 => intro _ _ _; with_unfolding_all rfl))
  | ((refine' r_sliceS_ss ?z0 ?z1); (case z1 => intro _ _ _; with_unfolding_all rfl)))
local macro_rules | `(tactic| k_extra "mine_hh") => `(tactic| first | exact Room.hh (by assumption) | exact (Room.deeper (by assumption) _).hh)
local macro_rules | `(tactic| k_extra "mine_comp") => `(tactic| ((with_reducible show wpAny _ _ (eval (Expr.ListComp _ _ _ _) _) _ _ _); refine' r_comp ?a1 ?a2 ?a3 ?a4 ?a5 ?a6 ?a7 ?z0; (case a1 => k_extra "mine_hh"); (case a2 => with_unfolding_all rfl); (case a3 => decide); (case a4 => with_unfolding_all rfl); (case a5 => decide); (case a6 => with_unfolding_all rfl); (case a7 => intro _; with_unfolding_all rfl)))
local macro_rules | `(tactic| k_extra "mine_for") => `(tactic| ((with_reducible show wpAny _ _ (exec (Stmt.For _ _ _ _ _) _) _ _ _); refine' r_For ?a1 ?a2 ?a3 ?z0 ?a5; (case a1 => k_extra "mine_hh"); (case a2 => rfl); (case a3 => rfl); (case a5 => intro _; with_unfolding_all rfl)))
-- C1
section
theorem fillK2 (w : World) (h : Heap) : (hd.heap_1 w.params).In h → PySem.Challenge.rw_in0181_01 = PySem.Challenge.rw_in0181_01 := by
  k_fill
  intro _; rfl
theorem row_call {g : Gb} {c : Cx} {m : LM} {mu : Led} {fa : List Fact} {s : Shared} {A : Around} {E : Value → Shared → Prop} {k : Nat} (R : Room A (k + 1)) (F : Fm g c m mu fa s) {n : Int} {t : Tok} {Q : Value → Shared → Prop}
    (h : ∀ r s', Fm g c m mu (Rd r (rowP (rowOf n)) :: fa) s' → Q r s') : wpAny (MM g) A (call (.ref 198) [.int n t]) Q E s := by
  k_dflt (refine enter_fm (mv := []) (binds := [(Str.ofString "n", .int n t)]) F (by k_is) (by k_is) R.d (BindsTo.of_eq rfl) (locs rfl) ?_ rfl rfl rfl (by decide))
  intro c' s₁ F₁ back
  repeat' k_extra "mine_ms"
  refine r_sliceUpto ?_ (fun _ _ => by with_unfolding_all rfl)
  repeat' k_extra "mine_ms"
  refine r_item3D (by k_extra "mine_asm") (by k_extra "mine_at") (Int.fmod_nonneg_of_pos _ (by decide)) (Int.fmod_lt_of_pos _ (by decide)) ?_ (by with_unfolding_all rfl)
  intro t1
  repeat' k_extra "mine_ms"
  refine r_item3D (by k_extra "mine_asm") (by k_extra "mine_at") (Int.fmod_nonneg_of_pos _ (by decide)) (Int.fmod_lt_of_pos _ (by decide)) ?_ (by with_unfolding_all rfl)
  intro t2
  repeat' k_extra "mine_ms"
  refine r_item3D (by k_extra "mine_asm") (by k_extra "mine_at") (Int.fmod_nonneg_of_pos _ (by decide)) (Int.fmod_lt_of_pos _ (by decide)) ?_ (by with_unfolding_all rfl)
  intro t3
  repeat' k_extra "mine_ms"
  rename Fm _ _ _ _ _ _ => F9
  obtain ⟨vs, F9⟩ := F9.openList (by k_extra "mine_at")
  have h1 := Int.fmod_nonneg_of_pos (n.fdiv 4) (b := 3) (by decide)
  have lv : vs.length = 3 := (F9.fact (.head _) : RdAll vs _ _).length
  refine ⟨_, _, _, _, _, vs, _, _, rfl, rfl, by omega, F9, F9.lsOf (.tail _ (.head _)), by rw [lv]; exact Nat.le_of_ble_eq_true rfl, ?_⟩
  intro r s2 F2
  have F3 := F2.freeze (P := Rd (.ref r) (rowP (rowOf n))) Rd.mono fun hk e q => by
    refine Rd.list e ?_
    unfold rowOf
    generalize ((n.fdiv 4).fmod 3 + 1).toNat = j
    rw [List.map_take]
    exact rdAll_take j (q _ (.head _))
  exact h _ _ (back _ [] _ _ _ rfl (F3.mono (by k_extra "mine_sub")))
end
-- C2
section
theorem fillKf (w : World) (h : Heap) : (hd.heap_1 w.params).In h → PySem.Challenge.rw_in0181_01 = PySem.Challenge.rw_in0181_01 := by
  k_fill
  intro _; rfl
section
variable {g : Gb} {c : Cx} {m : LM} {mu : Led} {fa : List Fact} {s : Shared} {A : Around} {E : Value → Shared → Prop} {k : Nat}
theorem files_call (R : Room A (k + 2)) (F : Fm g c m mu fa s) {v : Value} {ns : List Int} (hv : Rd v (.list (ns.map PyData.int)) ∈ fa) (hz : ns.length ≤ 1000) {Q : Value → Shared → Prop}
    (h : ∀ r s', Fm g c m mu (Rd r (.list ((filesOf ns).map rowP)) :: fa) s' → Q r s') : wpAny (MM g) A (call (.ref 203) [v]) Q E s := by
  obtain ⟨av, rfl⟩ := rd_ref (F.fact hv)
  have hv' : List.Mem _ _ := hv
  k_dflt (refine enter_fm (mv := []) (binds := [(Str.ofString "steps", .ref av)]) F (by k_is) (by k_is) R.d (BindsTo.of_eq rfl) (locs rfl) ?_ rfl rfl rfl (by decide))
  intro c' s₁ F₁ back
  repeat' k_extra "mine_ms"
  k_extra "mine_for"
  repeat' k_extra "mine_ms"
  k_extra "mine_comp"
  repeat' k_extra "mine_ms"
  refine ⟨Int, _, _, _, _, PyData.int, ns, fun n => n.fmod 4 == 3, fun n => rowP (rowOf n), (by k_extra "mine_asm"), (by k_extra "mine_at"), (by have := sizeLine_eq; omega), ?_, ?_, ?_⟩
  · intro c1 m1 mu1 R1 v n s2 _ _ hl F2
    obtain ⟨t, rfl⟩ := rd_int (F2.fact (.head _))
    refine wpAny_tests_one ?_
    repeat' k_extra "mine_ms"
    exact ⟨rfl, by k_extra "mine_asm"⟩
  · intro c1 m1 mu1 R1 v n s2 _ _ _ hl F2
    obtain ⟨t, rfl⟩ := rd_int (F2.fact (.head _))
    repeat' k_extra "mine_ms"
    rename Fm _ _ _ _ _ _ => F9
    refine row_call (Room.deeper R _) F9 fun r s3 F3 => F3.mono fun P hP => ?_
    rcases List.mem_cons.mp hP with rfl | hP
    · exact .head _
    · exact .tail _ (.tail _ hP)
  · intro b s2 F2
    refine r_addD F2 (by k_extra "mine_at") (by k_extra "mine_at") ?_ fun r s3 F3 => ?_
    · have := List.length_filter_le (fun n : Int => n.fmod 4 == 3) ns
      have := sizeLine_eq
      simp only [List.length_map, List.length_cons, List.length_nil]
      omega
    have F4 := (F3.more (P := Rd (.ref r) (.list ((srcRows ns).map rowP))) Rd.mono fun hk q => by
      have z := q _ (.head _)
      have e : (srcRows ns).map rowP = baseRows.map rowP ++ (ns.filter fun n => n.fmod 4 == 3).map fun n => rowP (rowOf n) := by
        unfold srcRows
        rw [List.map_append, List.map_map]
        rfl
      rw [e]
      exact z).more (P := RdAll [] []) RdAll.mono fun _ _ => RdAll.nil
    refine forAt_data rowP (srcRows ns) (fun i m₁ mu₁ fa₁ => m₁.lookup (Str.ofString "rows") = some (.ref _) ∧ ∃ ws n, mu₁ = [(_, listOf ws.toArray n)] ∧ fa₁ = RdAll ws ((((srcRows ns).take i).foldl addRow []).map rowP) :: Rd (.ref r) (.list ((srcRows ns).map rowP)) :: fa)
      (F4.mono (fa' := RdAll [] [] :: Rd (.ref r) (.list ((srcRows ns).map rowP)) :: fa) ?_) (.tail _ (.head _)) rfl ?_ ⟨rfl, [], 0, rfl, rfl⟩ ?_ ?_
    · intro P hP
      rcases List.mem_cons.mp hP with rfl | hP
      · exact .head _
      · rcases List.mem_cons.mp hP with rfl | hP
        · exact .tail _ (.head _)
        · simp only [List.mem_cons, hP, or_true]
    · have : (srcRows ns).length ≤ 6 + ns.length := by
        unfold srcRows
        rw [List.length_append, List.length_map]
        have := List.length_filter_le (fun n : Int => n.fmod 4 == 3) ns
        show 6 + _ ≤ _
        omega
      have := sizeLine_eq
      omega
    · rintro i row v m₁ mu₁ fa₁ RR I oI s₂ ha ⟨hl, ws, n, rfl, rfl⟩ F5
      repeat' k_extra "mine_ms"
      rename Fm _ _ _ _ _ _ => F9
      have hsub : ∀ r ∈ ((srcRows ns).take i).foldl addRow [], r ∈ allRows := fun r hr => by
        rcases foldl_addRow_sub _ _ _ hr with h | h
        · cases h
        · exact srcRows_mem ns r (List.mem_of_mem_take h)
      have hrow : row ∈ allRows := srcRows_mem ns row (List.mem_of_getElem? ha)
      have hfold : ((srcRows ns).take (i + 1)).foldl addRow [] = addRow (((srcRows ns).take i).foldl addRow []) row := by
        rw [List.take_add_one, ha]
        simp only [Option.toList_some, List.foldl_append, List.foldl_cons, List.foldl_nil]
      refine r_notInD (Room.deeper R _) (F9.fact (by k_extra "mine_at")) (F9.rdMu (by k_extra "mine_at") (F9.fact (by k_extra "mine_at"))) (rows_layAll _ hsub) (rows_lay _ hrow) (by rw [row_depth]; decide) ?_
      rw [any_row]
      by_cases hin : row ∈ List.foldl addRow [] (List.take i (srcRows ns))
      · simp only [hin, decide_true, Bool.not_true]
        repeat' k_extra "mine_ms"
        refine ⟨_, _, _, ⟨?_, ws, n, rfl, rfl⟩, F9.mono ?_⟩
        · exact hl
        · rw [hfold]
          rw [addRow_pos hin]
          k_extra "mine_sub"
      · simp only [hin, decide_false, Bool.not_false]
        repeat' k_extra "mine_ms"
        case z3 =>
          have h1 : ws.length = _ := (F9.fact (P := RdAll ws _) (.tail _ (.tail _ (.head _)))).length
          have h2 := foldl_addRow_length ((srcRows ns).take i) []
          have h3 := sizeLine_eq
          have h4 := srcRows_length ns
          rw [List.length_map] at h1
          rw [List.length_take, List.length_nil] at h2
          omega
        rename Fm _ _ _ _ _ _ => F8
        refine ⟨_, _, _, ⟨?_, ws ++ [v], n + 1, rfl, rfl⟩, (F8.more (P := RdAll (ws ++ [v]) _) RdAll.mono fun hk q => RdAll.snoc (d := rowP row) (q _ (by k_extra "mine_at")) (q (RdAll ws _) (.tail _ (.tail _ (.head _))))).mono ?_⟩
        · exact hl
        · rw [hfold, addRow_neg hin, List.map_append, List.map_singleton]
          k_extra "mine_sub"
    · rintro m₁ mu₁ fa₁ s₂ ⟨hl, ws, n, rfl, rfl⟩ F6
      rw [List.take_length] at F6
      have F7 := F6.freeze (P := Rd (.ref _) (.list ((filesOf ns).map rowP))) Rd.mono fun hk e q => Rd.list e (q _ (.head _))
      dsimp only
      repeat' k_extra "mine_ms"
      exact h _ _ (back _ [] _ _ _ rfl (F7.mono (by k_extra "mine_sub")))
end
end
-- C3
section
section
variable {g : Gb} {c : Cx} {m : LM} {mu : Led} {fa : List Fact} {s : Shared} {A : Around} {E : Value → Shared → Prop} {k : Nat}
theorem fspath_call (R : Room A (k + 1)) (F : Fm g c m mu fa s) {x : Str} {t : Tok} {Q : Value → Shared → Prop}
    (h : ∀ s', Fm g c m mu fa s' → Q (.str x t) s') : wpAny (MM g) A (call (.ref 94) [.str x t]) Q E s := by
  k_dflt (refine enter_fm (mv := []) (binds := [(Str.ofString "path", .str x t)]) F (by k_is) (by k_is) R.d (BindsTo.of_eq rfl) (locs rfl) ?_ rfl rfl rfl (by decide))
  intro c' s₁ F₁ back
  repeat' k_extra "mine_ms"
  rename Fm _ _ _ _ _ _ => F9
  exact h _ (back _ [] _ _ _ rfl F9)
theorem getsep_call (R : Room A (k + 1)) (F : Fm g c m mu fa s) {x : Str} {t : Tok} {Q : Value → Shared → Prop}
    (h : ∀ t s', Fm g c m mu fa s' → Q (.str (Str.ofString "/") t) s') : wpAny (MM g) A (call (.ref 177) [.str x t]) Q E s := by
  k_dflt (refine enter_fm (mv := []) (binds := [(Str.ofString "path", .str x t)]) F (by k_is) (by k_is) R.d (BindsTo.of_eq rfl) (locs rfl) ?_ rfl rfl rfl (by decide))
  intro c' s₁ F₁ back
  repeat' k_extra "mine_ms"
  rename Fm _ _ _ _ _ _ => F9
  exact h _ _ (back _ [] _ _ _ rfl F9)

/-- one turn of join -/
noncomputable def joinStep (path b : Str) : Str := if Txt.startswith b (Str.ofString "/") || path.length == 0 then b else if Txt.endswith path (Str.ofString "/") then path ++ b else path ++ (Str.ofString "/" ++ b)
noncomputable def joinS (a : Str) (ps : List Str) : Str := ps.foldl joinStep a

theorem joinStep_length (p b : Str) : (joinStep p b).length ≤ p.length + (b.length + 1) := by
  have h1 : (Str.ofString "/").length = 1 := rfl
  unfold joinStep
  split
  · omega
  · split
    · rw [Str.length_append]; omega
    · rw [Str.length_append, Str.length_append]; omega
theorem joinS_length : ∀ (ps : List Str) (a : Str), (joinS a ps).length ≤ a.length + (ps.map fun p => p.length + 1).sum
  | [], a => by simp [joinS]
  | b :: ps, a => by
    have h1 := joinS_length ps (joinStep a b)
    have h2 := joinStep_length a b
    show (joinS (joinStep a b) ps).length ≤ _
    rw [List.map_cons, List.sum_cons]
    omega
theorem joinS_bound {x : Str} {xs : List Str} {n i : Nat} {y : Str} (hz : x.length + (xs.map fun p => p.length + 1).sum ≤ n) (hy : xs[i]? = some y) : (joinS x (xs.take i)).length + y.length + 1 ≤ n := by
  have h1 := joinS_length (xs.take i) x
  have h2 := joinS_length [] x
  have hi := (List.getElem?_eq_some_iff.mp hy)
  obtain ⟨hi, e⟩ := hi
  have h3 : (xs.map fun p => p.length + 1).sum = ((xs.take i).map fun p => p.length + 1).sum + (y.length + 1) + ((xs.drop (i + 1)).map fun p => p.length + 1).sum := by
    have e2 : xs = xs.take i ++ y :: xs.drop (i + 1) := by rw [← e, ← List.drop_eq_getElem_cons hi, List.take_append_drop]
    have e3 := congrArg (fun l : List Str => (l.map fun p => p.length + 1).sum) e2
    simp only [List.map_append, List.sum_append, List.map_cons, List.sum_cons] at e3
    omega
  omega

theorem join_call (R : Room A (k + 2)) (F : Fm g c m mu fa s) {x : Str} {t : Tok} {ps : List Value} {xs : List Str} (hs : RdAll ps (xs.map PyData.str) s.heap) (hb : ps.length ≤ 5) (hz : x.length + (xs.map fun p => p.length + 1).sum ≤ 1000) {Q : Value → Shared → Prop}
    (h : ∀ t s', Fm g c m mu fa s' → Q (.str (joinS x xs) t) s') : wpAny (MM g) A (call (.ref 184) (.str x t :: ps)) Q E s := by
  k_dflt (refine enter_fmB F (by k_is) (by k_is) R.d ?_ rfl rfl rfl (by decide))
  refine r_peekA (o := { cls := .type "tuple", data := .seq ps.toArray }) (g₁ := fun a => pure [(Str.ofString "a", .str x t), (Str.ofString "p", .ref a)]) F rfl ?_ ?_
  · match ps, hb with
    | [], _ => rfl
    | [_], _ => rfl
    | [_, _], _ => rfl
    | [_, _, _], _ => rfl
    | [_, _, _, _], _ => rfl
    | [_, _, _, _, _], _ => rfl
    | _ :: _ :: _ :: _ :: _ :: _ :: _, hb => simp at hb
  intro ap s₂ _ F₂
  have F₃ := F₂.freeze (P := Tp ap ps) Tp.mono fun hk e _ => Tp.of e
  refine wpAny_pure ⟨[], _, _, F₃, locs rfl, ?_⟩
  intro c' s₁ F₁ back
  have hss := rdAll_strs hs
  repeat' k_extra "mine_ms"
  refine fspath_call (Room.deeper R _) F₁ fun s₃ F₄ => ?_
  repeat' k_extra "mine_ms"
  refine getsep_call (Room.deeper R _) (by k_extra "mine_asm") fun tsep s₅ F₆ => ?_
  repeat' k_extra "mine_ms"
  refine r_try ?_
  repeat' k_extra "mine_ms"
  refine r_ForT R.hh rfl rfl ?_ (fun _ => rfl)
  repeat' k_extra "mine_ms"
  rename Fm _ _ _ _ _ _ => F8
  refine ⟨_, _, _, _, _, ps, fun i m₁ mu₁ fa₁ => ∃ tp, m₁.lookup (Str.ofString "path") = some (.str (joinS x (xs.take i)) tp) ∧ m₁.lookup (Str.ofString "sep") = some (.str (Str.ofString "/") tsep) ∧ mu₁ = [] ∧ fa₁ = fa, rfl, rfl, F8, ⟨t, rfl, rfl, rfl, rfl⟩, ?_, ?_⟩
  · rintro i v m₁ mu₁ fa₁ I oI s₉ hv ⟨tp, hp, hsep, rfl, rfl⟩ F9
    obtain ⟨y, ty, hy, rfl⟩ : ∃ y ty, xs[i]? = some y ∧ v = .str y ty := by
      obtain ⟨d, d1, d2⟩ := RdAll.at_ hs hv
      rw [List.getElem?_map] at d1
      obtain ⟨y, y1, rfl⟩ := Option.map_eq_some_iff.mp d1
      obtain ⟨ty, rfl⟩ := rd_str d2
      exact ⟨y, ty, y1, rfl⟩
    have hstep : joinS x (xs.take (i + 1)) = joinStep (joinS x (xs.take i)) y := by
      unfold joinS
      rw [List.take_add_one, hy]
      simp only [Option.toList_some, List.foldl_append, List.foldl_cons, List.foldl_nil]
    have hlen1 : (joinS x (xs.take i)).length + y.length + 1 ≤ 1000 := joinS_bound hz hy
    have hsl := sizeLine_eq
    repeat' k_extra "mine_ms"
    refine fspath_call (Room.deeper R _) F9 fun s₃ F₄ => ?_
    repeat' k_extra "mine_ms"
    cases hsw : Txt.startswith y (Str.ofString "/") with
    | true =>
      repeat' k_extra "mine_ms"
      rename Fm _ _ _ _ _ _ => F9
      refine ⟨_, _, _, ⟨ty, ?_, ?_, rfl, rfl⟩, F9⟩
      · rw [hstep]
        unfold joinStep
        rw [hsw]
        rfl
      · exact hsep
    | false =>
      repeat' k_extra "mine_ms"
      case zz => omega
      cases hlen0 : ne0 (joinS x (xs.take i)) with
      | false =>
        have hlen := ne0_f hlen0
        repeat' k_extra "mine_ms"
        rename Fm _ _ _ _ _ _ => F9
        refine ⟨_, _, _, ⟨ty, ?_, ?_, rfl, rfl⟩, F9⟩
        · rw [hstep]
          unfold joinStep
          rw [hsw, hlen]
          rfl
        · exact hsep
      | true =>
        have hlen := ne0_t hlen0
        repeat' k_extra "mine_ms"
        cases hew : Txt.endswith (joinS x (xs.take i)) (Str.ofString "/") with
        | true =>
          repeat' k_extra "mine_ms"
          case zz => omega
          rename Fm _ _ _ _ _ _ => F9
          refine' ⟨_, _, _, ⟨_, ?qa, ?qb, rfl, rfl⟩, F9⟩
          case qa =>
            rw [hstep]
            unfold joinStep
            rw [hsw, hlen, hew]
            rfl
          case qb => exact hsep
        | false =>
          repeat' k_extra "mine_ms"
          case zz => rw [Str.length_append, show (Str.ofString "/").length = 1 from rfl]; omega
          case zz => rw [show (Str.ofString "/").length = 1 from rfl]; omega
          rename Fm _ _ _ _ _ _ => F9
          refine' ⟨_, _, _, ⟨_, ?qa, ?qb, rfl, rfl⟩, F9⟩
          case qa =>
            rw [hstep]
            unfold joinStep
            rw [hsw, hlen, hew]
            rfl
          case qb => exact hsep
  · rintro m₁ mu₁ fa₁ s₉ ⟨tp, hp, hsep, rfl, rfl⟩ F9
    repeat' k_extra "mine_ms"
    have e : ps.length = xs.length := by simpa using hs.length
    rw [e, List.take_length]
    exact h _ _ (back _ [] _ _ _ rfl F9)
end
end
-- C4
section
section
variable {g : Gb} {c : Cx} {m : LM} {mu : Led} {fa : List Fact} {s : Shared} {A : Around} {E : Value → Shared → Prop} {k : Nat}
noncomputable def freshS (x : Str) : Str := Txt.slice (x ++ Str.ofString "/") none (some (-1))
theorem fresh_call (R : Room A (k + 1)) (F : Fm g c m mu fa s) {x : Str} {t : Tok} (hz : x.length ≤ 1000) {Q : Value → Shared → Prop}
    (h : ∀ t s', Fm g c m mu fa s' → Q (.str (freshS x) t) s') : wpAny (MM g) A (call (.ref 115) [.str x t]) Q E s := by
  k_dflt (refine enter_fm (mv := []) (binds := [(Str.ofString "s", .str x t)]) F (by k_is) (by k_is) R.d (BindsTo.of_eq rfl) (locs rfl) ?_ rfl rfl rfl (by decide))
  intro c' s₁ F₁ back
  have hsl := sizeLine_eq
  have h1 : (Str.ofString "/").length = 1 := rfl
  repeat' k_extra "mine_ms"
  k_extra "mine_sls"
  repeat' k_extra "mine_ms"
  case zz => omega
  rename Fm _ _ _ _ _ _ => F9
  refine ⟨_, _, _, _, _, _, _, _, rfl, rfl, F9.toks rfl, by rw [Str.length_append]; omega, fun t' s' F' => ?_⟩
  exact h _ _ (back _ [] _ _ _ rfl F')
theorem kind_call (R : Room A (k + 1)) (F : Fm g c m mu fa s) {x y : Str} {t u : Tok} {Q : Value → Shared → Prop}
    (h : ∀ t s', Fm g c m mu fa s' → Q (.str (Str.ofString "") t) s') : wpAny (MM g) A (call (.ref 101) [.str y u, .str x t]) Q E s := by
  k_dflt (refine enter_fm (mv := []) (binds := [(Str.ofString "name", .str y u), (Str.ofString "x", .str x t)]) F (by k_is) (by k_is) R.d (BindsTo.of_eq rfl) (locs rfl) ?_ rfl rfl rfl (by decide))
  intro c' s₁ F₁ back
  repeat' k_extra "mine_ms"
  rename Fm _ _ _ _ _ _ => F9
  exact h _ _ (back _ [] _ _ _ rfl F9)
theorem splitroot_call (R : Room A (k + 2)) (F : Fm g c m mu fa s) {x : Str} {t : Tok} (hz : x.length ≤ 1000) (h1 : Txt.slice x none (some 1) = Str.ofString "/") (h2 : (Txt.slice x (some 1) (some 2) != Str.ofString "/") = true) {Q : Value → Shared → Prop}
    (h : ∀ r s' t1 t2 t3, Fm g c m mu (Tp r [.str (Str.ofString "") t1, .str (Str.ofString "/") t2, .str (Txt.slice x (some 1) none) t3] :: fa) s' → Q (.ref r) s') : wpAny (MM g) A (call (.ref 122) [.str x t]) Q E s := by
  k_dflt (refine enter_fm (mv := []) (binds := [(Str.ofString "p", .str x t)]) F (by k_is) (by k_is) R.d (BindsTo.of_eq rfl) (locs rfl) ?_ rfl rfl rfl (by decide))
  intro c' s₁ F₁ back
  have hsl := sizeLine_eq
  repeat' k_extra "mine_ms"
  k_extra "mine_sls"
  repeat' k_extra "mine_ms"
  refine ⟨_, _, _, _, _, _, _, _, rfl, rfl, by k_extra "mine_asm", by omega, fun t' s' F' => ?_⟩
  rw [h1]
  repeat' k_extra "mine_ms"
  rw [show (Str.ofString "/" != Str.ofString "/") = false from by decide]
  repeat' k_extra "mine_ms"
  k_extra "mine_sls"
  repeat' k_extra "mine_ms"
  refine ⟨_, _, _, _, _, _, _, _, _, _, rfl, rfl, rfl, by k_extra "mine_asm", by omega, fun t' s' F' => ?_⟩
  repeat' k_extra "mine_ms"
  rw [h2]
  repeat' k_extra "mine_ms"
  k_extra "mine_sls"
  repeat' k_extra "mine_ms"
  refine ⟨_, _, _, _, _, _, _, _, rfl, rfl, by k_extra "mine_asm", by omega, fun t' s' F' => ?_⟩
  repeat' k_extra "mine_ms"
  rename Fm _ _ _ _ _ _ => F9
  exact h _ _ _ _ _ (back _ [] _ _ _ rfl (F9.freeze Tp.mono fun hk e _ => Tp.of e))
theorem cpath_call (R : Room A (k + 2)) (F : Fm g c m mu fa s) {x y1 y2 y3 : Str} {t u1 u2 u3 : Tok} {a b : Addr} (ha : Tp a [.str x t] ∈ fa) (hb : Ed b ∈ fa) {Q : Value → Shared → Prop}
    (h : ∀ s', Fm g c m mu fa s' → Q (.str x t) s') : wpAny (MM g) A (call (.ref 108) [.str y1 u1, .str y2 u2, .str y3 u3, .ref a, .ref b]) Q E s := by
  k_dflt (refine enter_fm (mv := []) (binds := [(Str.ofString "name", .str y1 u1), (Str.ofString "cname", .str y2 u2), (Str.ofString "argname", .str y3 u3), (Str.ofString "args", .ref a), (Str.ofString "kwargs", .ref b)]) F (by k_is) (by k_is) R.d (BindsTo.of_eq rfl) (locs rfl) ?_ rfl rfl rfl (by decide))
  intro c' s₁ F₁ back
  have hsl := sizeLine_eq
  repeat' k_extra "mine_ms"
  refine r_lenT F₁ ha (Nat.le_of_ble_eq_true rfl) fun t1 s2 F2 => ?_
  repeat' k_extra "mine_ms"
  refine if_pos' rfl ?_
  repeat' k_extra "mine_ms"
  rename Fm _ _ _ _ _ _ => F3
  refine r_truthyEd F3 hb fun s4 F4 => ?_
  repeat' k_extra "mine_ms"
  rename Fm _ _ _ _ _ _ => F5
  refine r_itemT (i := 0) F5 ha rfl (Nat.le_of_ble_eq_true rfl) ?_ (by with_unfolding_all rfl)
  repeat' k_extra "mine_ms"
  refine kind_call (Room.deeper R _) (by k_extra "mine_asm") fun t7 s7 F7 => ?_
  repeat' k_extra "mine_ms"
  case zz => exact Nat.le_of_ble_eq_true rfl
  refine if_neg' (by decide) ?_
  repeat' k_extra "mine_ms"
  rename Fm _ _ _ _ _ _ => F9
  exact h _ (back _ [] _ _ _ rfl F9)
end
end
-- C5
section
section
variable {g : Gb} {c : Cx} {m : LM} {mu : Led} {fa : List Fact} {s : Shared} {A : Around} {E : Value → Shared → Prop} {k : Nat}
noncomputable def npStep (acc : List Str) (c : Str) : List Str :=
  if c.length == 0 then acc else if c == Str.ofString "." then acc else if c != Str.ofString ".." then acc ++ [c] else
    match acc.getLast? with
    | none => acc
    | some l => if l == Str.ofString ".." then acc ++ [c] else acc.dropLast
noncomputable def npComps (x : Str) : List Str := Txt.split (Txt.slice x (some 1) none) (Str.ofString "/")
noncomputable def npParts (x : Str) : List Str := (npComps x).foldl npStep []
noncomputable def npPath (x : Str) : Str := Str.ofString "/" ++ Txt.join (Str.ofString "/") (npParts x)
noncomputable def normS (x : Str) : Str := freshS (npPath x)
noncomputable def npOk (x : Str) : Bool := x.length ≤ 500 && Txt.slice x none (some 1) == Str.ofString "/" && (Txt.slice x (some 1) (some 2) != Str.ofString "/") && !(x.length == 0) && ((npComps x).length ≤ 1000 && (npComps x).all (fun y => y.length ≤ 1000)) && ((npParts x).map (·.length)).sum + (npParts x).length ≤ 1000 && (npPath x).length ≤ 1000 && !((npPath x).length == 0)
theorem npStep_length (acc : List Str) (c : Str) : (npStep acc c).length ≤ acc.length + 1 := by
  unfold npStep
  repeat' split
  all_goals simp
  omega
theorem foldl_npStep_length : ∀ (l acc : List Str), (l.foldl npStep acc).length ≤ acc.length + l.length
  | [], acc => Nat.le_refl _
  | r :: l, acc => by
    have h1 := foldl_npStep_length l (npStep acc r)
    have h2 := npStep_length acc r
    rw [List.foldl_cons, List.length_cons]
    omega
inductive NpJ (x : Str) (a : Addr) (t2 : Tok) (fa : List Fact) (i : Nat) (m₁ : LM) (mu₁ : Led) (fa₁ : List Fact) : Prop where
  | mk (aL) (td) (tdd) (ts) (h0 : m₁.lookup (Str.ofString "new_comps") = some (.ref aL)) (h1 : m₁.lookup (Str.ofString "dot") = some (.str (Str.ofString ".") td)) (h2 : m₁.lookup (Str.ofString "dotdot") = some (.str (Str.ofString "..") tdd)) (h3 : m₁.lookup (Str.ofString "sep") = some (.str (Str.ofString "/") ts)) (h4 : m₁.lookup (Str.ofString "initial_slashes") = some (.str (Str.ofString "/") t2)) (ws) (n) (h5 : mu₁ = [(aL, listOf ws.toArray n)]) (h6 : fa₁ = RdAll ws ((((npComps x).take i).foldl npStep []).map PyData.str) :: Rd (.ref a) (.list ((npComps x).map PyData.str)) :: fa) : NpJ x a t2 fa i m₁ mu₁ fa₁
theorem rdAll_unsnoc {h : Heap} {v : Value} : ∀ {ws : List Value} {ds : List PyData}, RdAll (ws ++ [v]) ds h → ∃ es d, ds = es ++ [d] ∧ RdAll ws es h ∧ Rd v d h
  | [], _, ⟨_, .cons r .nil⟩ => ⟨[], _, rfl, RdAll.nil, _, r⟩
  | _ :: ws, _, ⟨_, .cons r rs⟩ => by
    obtain ⟨es, d, rfl, h1, h2⟩ := rdAll_unsnoc (ws := ws) ⟨_, rs⟩
    exact ⟨_ :: es, d, rfl, RdAll.cons ⟨_, r⟩ h1, h2⟩
theorem le_line {n : Nat} (h : n ≤ 1000) : n ≤ sizeLine := Nat.le_trans h (by rw [sizeLine_eq]; decide)
theorem npath_call (R : Room A (k + 3)) (F : Fm g c m mu fa s) {x : Str} {t : Tok} (hok : npOk x = true) {Q : Value → Shared → Prop}
    (h : ∀ t s', Fm g c m mu fa s' → Q (.str (normS x) t) s') : wpAny (MM g) A (call (.ref 129) [.str x t]) Q E s := by
  unfold npOk at hok
  simp only [Bool.and_eq_true, decide_eq_true_eq, beq_iff_eq, Bool.not_eq_true', List.all_eq_true] at hok
  obtain ⟨⟨⟨⟨⟨⟨⟨hz, h1⟩, h2⟩, h0⟩, hc, hcl⟩, hj⟩, hp⟩, hq⟩ := hok
  unfold normS npPath at h
  unfold npPath at hp hq
  k_dflt (refine enter_fm (mv := []) (binds := [(Str.ofString "path", .str x t)]) F (by k_is) (by k_is) R.d (BindsTo.of_eq rfl) (locs rfl) ?_ rfl rfl rfl (by decide))
  intro c' s₁ F₁ back
  have hsl := sizeLine_eq
  repeat' k_extra "mine_ms"
  case zz => omega
  rw [ne0_of h0]
  repeat' k_extra "mine_ms"
  refine splitroot_call (Room.deeper R _) (by k_extra "mine_asm") (by omega) h1 h2 fun r s3 t1 t2 t3 F3 => ?_
  repeat' k_extra "mine_ms"
  refine r_unpackT F3 (F3.fact (P := Tp r _) (by k_extra "mine_at")) R.hh rfl rfl fun s4 F4 => ?_
  repeat' k_extra "mine_ms"
  have hsl2 := Txt.slice_le x (some 1) none
  refine r_split (by k_extra "mine_asm") (by decide) (fun a s5 F5 => ?_) (by omega)
  repeat' k_extra "mine_ms"
  k_extra "mine_for"
  repeat' k_extra "mine_ms"
  rename Fm _ _ _ _ _ _ => F9
  change Fm g c' _ _ (Rd (.ref a) (.list ((npComps x).map PyData.str)) :: _) _ at F9
  have F10 := F9.more (P := RdAll [] []) RdAll.mono fun _ _ => RdAll.nil
  refine forAt_data PyData.str (npComps x) (NpJ x a t2 fa)
    (F10.mono (fa' := RdAll [] [] :: Rd (.ref a) (.list ((npComps x).map PyData.str)) :: fa) (by k_extra "mine_sub")) (.tail _ (.head _)) rfl (by omega) ⟨_, _, _, _, rfl, rfl, rfl, rfl, rfl, [], 0, rfl, rfl⟩ ?_ ?_
  · rintro i y v m₁ mu₁ fa₁ RR I oI s₂ ha ⟨aL, td, tdd, ts, l1, l2, l3, l4, l5, ws, n, rfl, rfl⟩ F11
    obtain ⟨ty, rfl⟩ := rd_str (F11.fact (P := Rd v (.str y)) (.head _))
    have hfold : ((npComps x).take (i + 1)).foldl npStep [] = npStep (((npComps x).take i).foldl npStep []) y := by
      rw [List.take_add_one, ha]
      simp only [Option.toList_some, List.foldl_append, List.foldl_cons, List.foldl_nil]
    have hws : RdAll ws _ s₂.heap := F11.fact (.tail _ (.tail _ (.head _)))
    have hyl := hcl y (List.mem_of_getElem? ha)
    have fin (ws' : List Value) (n' : Nat) (fa₂ : List Fact) (s₃ : Shared) (F : Fm g c' ((Str.ofString "comp", .str y ty) :: m₁) [(I, oI), (aL, listOf ws'.toArray n')] fa₂ s₃) (ys : List Str) (e : npStep (((npComps x).take i).foldl npStep []) y = ys)
        (hs : ∀ P ∈ RR :: RdAll ws' (ys.map PyData.str) :: Rd (.ref a) (.list ((npComps x).map PyData.str)) :: fa, P ∈ fa₂) :
        ∃ m₂ mu₂ fa₂, NpJ x a t2 fa (i + 1) m₂ mu₂ fa₂ ∧ Fm g c' m₂ ((I, oI) :: mu₂) (RR :: fa₂) s₃ := by
      refine ⟨(Str.ofString "comp", .str y ty) :: m₁, _, _, ⟨aL, td, tdd, ts, l1, l2, l3, l4, l5, ws', n', rfl, rfl⟩, F.mono ?_⟩
      rw [hfold, e]
      exact hs
    repeat' k_extra "mine_ms"
    case zz => omega
    cases hy00 : ne0 y with
    | false =>
      have hy0 := ne0_f hy00
      repeat' k_extra "mine_ms"
      rename Fm _ _ _ _ _ _ => F12
      refine fin _ _ _ _ F12 _ ?_ (by k_extra "mine_sub")
      unfold npStep
      rw [hy0]
      rfl
    | true =>
      have hy0 := ne0_t hy00
      repeat' k_extra "mine_ms"
      cases hy1 : y == Str.ofString "." with
      | true =>
        repeat' k_extra "mine_ms"
        rename Fm _ _ _ _ _ _ => F12
        refine fin _ _ _ _ F12 _ ?_ (by k_extra "mine_sub")
        unfold npStep
        rw [hy0, hy1]
        rfl
      | false =>
        repeat' k_extra "mine_ms"
        cases hy2 : y != Str.ofString ".." with
        | true =>
          repeat' k_extra "mine_ms"
          case z3 =>
            have e1 := hws.length
            have e2 := foldl_npStep_length ((npComps x).take i) []
            rw [List.length_map] at e1
            rw [List.length_take, List.length_nil] at e2
            omega
          rename Fm _ _ _ _ _ _ => F12
          refine fin _ _ _ _ (F12.more (P := RdAll (ws ++ [.str y ty]) _) RdAll.mono fun hk q => RdAll.snoc (d := .str y) (q _ (by k_extra "mine_at")) (q (RdAll ws _) (.tail _ (.tail _ (.head _))))) (((npComps x).take i).foldl npStep [] ++ [y]) ?_ ?_
          · unfold npStep
            rw [hy0, hy1, hy2]
            rfl
          · rw [List.map_append, List.map_singleton]
            k_extra "mine_sub"
        | false =>
          have hwl : ws.length ≤ 1000 := by
            have e1 := hws.length
            have e2 := foldl_npStep_length ((npComps x).take i) []
            rw [List.length_map] at e1
            rw [List.length_take, List.length_nil] at e2
            omega
          repeat' k_extra "mine_ms"
          case zz => exact Nat.le_of_ble_eq_true rfl
          refine if_neg' (by decide) ?_
          repeat' k_extra "mine_ms"
          rename Fm _ _ _ _ _ _ => F12
          refine r_truthyL F12 (F12.isListMu (by k_extra "mine_at")) (by omega) (fun s7 F13 => ?_)
          rcases List.eq_nil_or_concat ws with rfl | ⟨ws', v, ews⟩
          · rw [List.isEmpty_nil]
            repeat' k_extra "mine_ms"
            rename Fm _ _ _ _ _ _ => F14
            refine r_truthyL F14 (F14.isListMu (by k_extra "mine_at")) (by omega) (fun s8 F15 => ?_)
            rw [List.isEmpty_nil]
            repeat' k_extra "mine_ms"
            have e1 : ((npComps x).take i).foldl npStep [] = [] := by
              have := hws.length
              rw [List.length_map] at this
              exact List.eq_nil_of_length_eq_zero this.symm
            refine fin _ _ _ _ F15 _ ?_ (by k_extra "mine_sub")
            rw [e1]
            unfold npStep
            rw [hy0, hy1, hy2]
            rfl
          · rw [List.concat_eq_append] at ews
            subst ews
            obtain ⟨es, d, e3, hws1, hv1⟩ := rdAll_unsnoc hws
            obtain ⟨acc', l1', e4, e5, e6⟩ := List.map_eq_append_iff.mp e3
            obtain ⟨lst, rfl, rfl⟩ : ∃ lst, l1' = [lst] ∧ d = .str lst := by
              cases l1' with
              | nil => cases e6
              | cons a r =>
                simp only [List.map_cons, List.cons.injEq, List.map_eq_nil_iff] at e6
                exact ⟨a, by rw [e6.2], e6.1.symm⟩
            subst e5
            obtain ⟨tl, rfl⟩ := rd_str hv1
            have e0 : (ws' ++ [Value.str lst tl]).isEmpty = false := by simp
            rw [e0]
            repeat' k_extra "mine_ms"
            rename Fm _ _ _ _ _ _ => F14
            refine r_itemLast (F14.isListMu (by k_extra "mine_at")) ?_ (by with_unfolding_all rfl)
            repeat' k_extra "mine_ms"
            have e7 : npStep (acc' ++ [lst]) y = if (lst == Str.ofString "..") = true then acc' ++ [lst] ++ [y] else acc' := by
              unfold npStep
              rw [hy0, hy1, hy2, List.getLast?_concat, List.dropLast_concat]
              rfl
            rw [e4] at fin
            rw [List.length_append, List.length_singleton] at hwl
            cases hl : lst == Str.ofString ".." with
            | true =>
              rw [hl] at e7
              repeat' k_extra "mine_ms"
              case z3 => rw [List.length_append, List.length_singleton]; omega
              rename Fm _ _ _ _ _ _ => F15
              refine fin _ _ _ _ (F15.more (P := RdAll (ws' ++ [.str lst tl] ++ [.str y ty]) _) RdAll.mono fun hk q => RdAll.snoc (d := .str y) (q _ (by k_extra "mine_at")) (q (RdAll (ws' ++ [.str lst tl]) _) (.tail _ (.tail _ (.head _))))) _ e7 ?_
              rw [if_pos rfl, List.map_append, List.map_singleton, ← e4]
              k_extra "mine_sub"
            | false =>
              rw [hl] at e7
              repeat' k_extra "mine_ms"
              rename Fm _ _ _ _ _ _ => F15
              refine r_truthyL F15 (F15.isListMu (by k_extra "mine_at")) (by rw [List.length_append, List.length_singleton]; omega) (fun s8 F16 => ?_)
              rw [e0]
              repeat' k_extra "mine_ms"
              rename Fm _ _ _ _ _ _ => F17
              refine r_pop F17 (by k_extra "mine_tn") (fun s9 F18 => ?_) (by omega)
              repeat' k_extra "mine_ms"
              refine fin _ _ _ _ (F18.more (P := RdAll ws' (acc'.map PyData.str)) RdAll.mono fun hk q => ?_) _ e7 ?_
              · have q1 := q (RdAll (ws' ++ [.str lst tl]) _) (.tail _ (.tail _ (.head _)))
                rw [e4, List.map_append, List.map_singleton] at q1
                obtain ⟨es2, d2, e8, q2, _⟩ := rdAll_unsnoc q1
                obtain ⟨rfl, _⟩ := List.append_inj_left' e8 rfl |> fun z => (⟨z, trivial⟩ : _ ∧ True)
                exact q2
              · rw [if_neg Bool.false_ne_true]
                k_extra "mine_sub"
  · rintro m₁ mu₁ fa₁ s₂ ⟨aL, td, tdd, ts, l1, l2, l3, l4, l5, ws, n, rfl, rfl⟩ F6
    rw [List.take_length] at F6
    have hlen1 : (Str.ofString "/").length = 1 := rfl
    have hpl : (Str.ofString "/").length + (Txt.join (Str.ofString "/") (npParts x)).length ≤ 1000 := by
      rw [← Str.length_append]
      exact hp
    repeat' k_extra "mine_ms"
    rename Fm _ _ _ _ _ _ => F7
    refine r_joinS (ys := npParts x) F7 (F7.isListMu (by k_extra "mine_at")) (rdAll_strs (F7.fact (P := RdAll ws ((npParts x).map PyData.str)) (.head _))) (fun t8 s8 F8 => ?_) (by rw [hlen1, Nat.mul_one]; exact Nat.le_trans hj (by decide))
    repeat' k_extra "mine_ms"
    case zz => exact le_line hp
    case zz => exact le_line hpl
    rw [ne0_of hq]
    repeat' k_extra "mine_ms"
    refine fresh_call (Room.deeper R _) (by k_extra "mine_asm") hp fun t9 s9 F9 => ?_
    repeat' k_extra "mine_ms"
    exact h _ _ (back _ [] _ _ _ rfl (F9.mono (by k_extra "mine_sub")))
theorem normpath_call (R : Room A (k + 4)) (F : Fm g c m mu fa s) {x : Str} {t : Tok} (hok : npOk x = true) {Q : Value → Shared → Prop}
    (h : ∀ t s', Fm g c m mu fa s' → Q (.str (normS x) t) s') : wpAny (MM g) A (call (.ref 136) [.str x t]) Q E s := by
  k_dflt (refine enter_fmB F (by k_is) (by k_is) R.d ?_ rfl rfl rfl (by decide))
  refine r_peekA (o := { cls := .type "tuple", data := .seq [.str x t].toArray }) F rfl rfl ?_
  intro ap s₂ _ F₂
  refine r_peekA (o := { cls := .type "dict", data := .dict #[] }) F₂ rfl rfl ?_
  intro ad s₃ had F₃
  have F₄ := (F₃.freeze (P := Ed ad) Ed.mono fun hk e _ => ⟨e, had⟩).freeze (P := Tp ap [.str x t]) Tp.mono fun hk e _ => Tp.of e
  refine wpAny_pure ⟨[], _, _, F₄, locs rfl, ?_⟩
  intro c' s₁ F₁ back
  repeat' k_extra "mine_ms"
  refine cpath_call (Room.deeper R _) (by k_extra "mine_asm") (by k_extra "mine_at") (by k_extra "mine_at") fun s5 F5 => ?_
  repeat' k_extra "mine_ms"
  refine npath_call (Room.deeper R _) (by k_extra "mine_asm") hok fun t7 s7 F7 => ?_
  repeat' k_extra "mine_ms"
  exact h _ _ (back _ [] _ _ _ rfl (F7.mono (by k_extra "mine_sub")))
end
end
-- F8
section
theorem relaid_plain {t t' : SetTable} {hs : Array Int} {n : Nat} {order : Array Nat} (e : t.relaid hs n = some (t', order)) : t'.plain = t.plain := by
  unfold SetTable.relaid SetTable.laid at e
  cases h : SetTable.layClean (SetTable.sizeAbove n - 1) hs with
  | none => rw [h] at e; cases e
  | some o =>
    rw [h] at e
    simp only [Option.bind_eq_bind, Option.bind_some, Option.pure_def, Option.some.injEq, Prod.mk.injEq] at e
    rw [← e.1]
theorem relayAll_plain {t : SetTable} {es : Array (Int × Value)} {n : Nat} (h : t.plain = false) : (relayAll t es n).2.1.plain = false := by
  unfold relayAll
  split
  · rename_i t' order e
    dsimp only
    split
    · exact (relaid_plain e).trans h
    · rfl
  · rfl

section
variable {prog : Program} {w : World} {A : Around} {E : Value → Shared → Prop} {s : Shared}
/-- a set of texts -/
structure StrSetO (prog : Program) (w : World) (o : Obj) (S : Str → Bool) (es : Array (Int × Value)) (ep : Nat) (t : SetTable) : Prop where
  ex : o.ExactSet
  data : o.data = .set es ep t
  el : ElemsOf (strKind prog w) es.toList
  mem : ∀ k, S k = true ↔ ∃ e ∈ es.toList, (strKind prog w).is k e.2 = true
  small : es.size < scanBound
  fits : t.fits es.size = true
  plain : es.size = 0 ∨ t.plain = false

theorem StrSetO.stored {o : Obj} {S : Str → Bool} {es es' : Array (Int × Value)} {ep : Nat} {t t' : SetTable} (x : StrSetO prog w o S es ep t) {S' : Str → Bool} (el : ElemsOf (strKind prog w) es'.toList)
    (mem : ∀ k, S' k = true ↔ ∃ e ∈ es'.toList, (strKind prog w).is k e.2 = true) (small : es'.size < scanBound) (fits : t'.fits es'.size = true) (plain : t'.plain = false) : StrSetO prog w (Obj.putSet es' t' o) S' es' (ep + 1) t' := by
  rw [putSet_of es' t' x.data]
  exact ⟨x.ex, rfl, el, mem, small, fits, .inr plain⟩

theorem strSet_add {a : Addr} {o : Obj} {S : Str → Bool} {es : Array (Int × Value)} {ep : Nat} {t : SetTable} {y : Str} {ty : Tok} {Q : Bool → Shared → Prop} (ho : s.heap.get? a = some o) (x : StrSetO prog w o S es ep t) (hroom : es.size + 1 < scanBound)
    (h : ∀ h' o' es' ep' t', Heap.SameBut a s.heap h' → h'.get? a = some o' → StrSetO prog w o' (fun k => S k || decide (k = y)) es' ep' t' → es'.size ≤ es.size + 1 → ∀ b, Q b { s with heap := h' }) :
    wpAny (model prog w) A (setAddHashed a (.str y ty) ((strKind prog w).hash y)) Q E s := by
  have hkey := strKind_is prog w y ty
  unfold setAddHashed setAddHashedIn
  refine wpAny_holding (wpAny_bind (wpAny_setState_of ho x.data x.fits ?_))
  dsimp only
  rw [byScan_of rfl x.small x.el, if_pos rfl]
  unfold setAddByScan
  refine wpAny_bind (wpAny_bind (wpAny_rule (wpAny_bind (wpAny_setScan_of hkey ho x.data x.fits x.el ?_))))
  cases hr : List.findIdx? (fun e => (strKind prog w).is y e.2) es.toList with
  | some j =>
    dsimp only
    obtain ⟨hj, hpj, _⟩ := List.findIdx?_eq_some_iff_getElem.mp hr
    have hSk : S y = true := (x.mem y).mpr ⟨es.toList[j], List.getElem_mem hj, hpj⟩
    refine wpAny_pure (wpAny_pure ?_)
    refine h s.heap o es ep t (Heap.SameBut.refl a s.heap) ho ⟨x.ex, x.data, x.el, fun k => ?_, x.small, x.fits, x.plain⟩ (Nat.le_succ _) _
    rw [Bool.or_eq_true, decide_eq_true_eq, ← x.mem k]
    exact ⟨fun hk => hk.elim id (fun e => e ▸ hSk), .inl⟩
  | none =>
    dsimp only
    have hperm := layNew_perm t es ((strKind prog w).hash y) (.str y ty)
    have hfits := layNew_fits t es ((strKind prog w).hash y) (.str y ty)
    generalize layNew t es ((strKind prog w).hash y) (.str y ty) = L at hperm hfits ⊢
    obtain ⟨es1, t1, wasDummy, gave⟩ := L
    dsimp only at hperm hfits ⊢
    rw [Array.toList_push] at hperm
    have hel1 : ElemsOf (strKind prog w) es1.toList := (x.el.push hkey rfl).perm hperm
    have hmem1 : ∀ k', (S k' || decide (k' = y)) = true ↔ ∃ e ∈ es1.toList, (strKind prog w).is k' e.2 = true := mem_push_iff hkey x.mem hperm
    have hsz1 : es1.size = es.size + 1 := by rw [← Array.length_toList, hperm.length_eq, List.length_append, Array.length_toList]; rfl
    have hb1 : es1.size < scanBound := by rw [hsz1]; exact hroom
    have gv : ∀ (b : Bool) {s₁ : Shared} {Q' : Unit → Shared → Prop}, Q' () s₁ → wpAny (model prog w) A (match b with | true => rule "set.scan.the-table-gave-way" | false => pure ()) Q' E s₁ :=
      fun b _ _ hq => by cases b <;> first | exact wpAny_pure hq | exact wpAny_rule hq
    have tail : ∀ t2 : SetTable, t2.plain = false → t2.fits es1.size = true → wpAny (model prog w) A (do
        storeSet a es1 t2
        if (!wasDummy && t2.tooFull) = true then do
            (match (relayAll t2 es1 (SetTable.grown es1.size)).2.2 with | true => rule "set.scan.the-table-gave-way" | false => pure ())
            storeSet a (relayAll t2 es1 (SetTable.grown es1.size)).1 (relayAll t2 es1 (SetTable.grown es1.size)).2.1
            pure (some true)
          else pure (some true)) (fun r s' => wpAny (model prog w) A (match r with | some added => pure added | none => setAddHashedIn a (.str y ty) ((strKind prog w).hash y) 99999) Q E s') E s := by
      intro t2 hp2 hf2
      have x1 := x.stored hel1 hmem1 hb1 hf2 hp2
      have g1 : (s.heap.update a (Obj.putSet es1 t2)).get? a = some (Obj.putSet es1 t2 o) := Heap.get?_update_self _ ho (by rw [putSet_of es1 t2 x.data]; rfl)
      have b1 := Heap.SameBut.update s.heap a (Obj.putSet es1 t2)
      refine wpAny_bind (wpAny_storeSet_of ho x.data ?_ (fits_of_scanBound hb1))
      split
      · have hp := relayAll_perm t2 es1 (SetTable.grown es1.size)
        have hfr := relayAll_fits t2 es1 (SetTable.grown es1.size)
        have hpl := relayAll_plain (t := t2) (es := es1) (n := SetTable.grown es1.size) hp2
        generalize relayAll t2 es1 (SetTable.grown es1.size) = Rl at hp hfr hpl ⊢
        obtain ⟨es2, t3, gave2⟩ := Rl
        dsimp only at hp hfr hpl ⊢
        have hsz : es2.size = es1.size := by rw [← Array.length_toList, hp.length_eq, Array.length_toList]
        have x2 := x1.stored (hel1.perm hp) (fun k' => (hmem1 k').trans ⟨fun ⟨e, he, q⟩ => ⟨e, hp.mem_iff.mpr he, q⟩, fun ⟨e, he, q⟩ => ⟨e, hp.mem_iff.mp he, q⟩⟩) (by rw [hsz]; exact hb1) hfr hpl
        refine wpAny_bind (gv _ ?_)
        refine wpAny_bind (wpAny_storeSet_of g1 x1.data ?_ (fits_of_scanBound (by rw [hsz]; exact hb1)))
        refine wpAny_pure (wpAny_pure (h _ _ _ _ _ (b1.trans (Heap.SameBut.update _ a _)) (Heap.get?_update_self _ g1 (by rw [putSet_of es2 t3 x1.data]; rfl)) x2 (by omega) _))
      · exact wpAny_pure (wpAny_pure (h _ _ _ _ _ b1 g1 x1 (by omega) _))
    refine wpAny_bind (gv _ ?_)
    cases hpl : t1.plain with
    | true =>
      rw [if_pos rfl]
      refine wpAny_bind ?_
      rw [hashByValue_scannable 8 rfl]
      refine wpAny_pure ?_
      exact tail { t1 with plain := false } rfl (SetTable.fits_plain_off hfits)
    | false =>
      rw [if_neg Bool.false_ne_true]
      refine wpAny_bind (wpAny_pure ?_)
      exact tail t1 hpl hfits
end
end
-- F9
section
section
variable {prog : Program} {w : World} {A : Around} {E : Value → Shared → Prop} {s : Shared} {R : Result → Shared → Prop}
noncomputable def IsStrSet (prog : Program) (w : World) (h : Heap) (a : Addr) (S : Str → Bool) (n : Nat) : Prop := ∃ o es ep t, h.get? a = some o ∧ StrSetO prog w o S es ep t ∧ es.size ≤ n
theorem IsStrSet.keep {h h' : Heap} {a : Addr} {S : Str → Bool} {n : Nat} (x : IsStrSet prog w h a S n) (k : ∀ o, h.get? a = some o → h'.get? a = some o) : IsStrSet prog w h' a S n :=
  let ⟨o, es, ep, t, e, r⟩ := x; ⟨o, es, ep, t, k o e, r⟩
theorem strsAre_at : ∀ {vs : List Value} {ns : List Str}, StrsAre vs ns → ∀ (i : Nat) (v : Value), vs[i]? = some v → ∃ x t, ns[i]? = some x ∧ v = .str x t
  | _, _, .nil, i, v, h => by simp at h
  | _, _, .cons x t hr, 0, v, h => by simp at h; exact ⟨x, t, rfl, h.symm⟩
  | _, _, .cons x t hr, i + 1, v, h => by
    simp only [List.getElem?_cons_succ] at h ⊢
    exact strsAre_at hr i v h
theorem strsAre_length : ∀ {vs : List Value} {ns : List Str}, StrsAre vs ns → vs.length = ns.length
  | _, _, .nil => rfl
  | _, _, .cons x t hr => by simp [strsAre_length hr]

theorem strSet_loop {S I l : Addr} {items : Array Value} {ns : List Str} (hh : A.handled = none) (hSl : S ≠ l) (hSI : S ≠ I) (hlI : l ≠ I) (hi : StrsAre items.toList ns) (hb : items.size + 1 < scanBound) :
    ∀ (k i : Nat) (s : Shared), items.size - i = k → i ≤ items.size → s.heap.IsListIter I l i → s.heap.IsList l items → IsStrSet prog w s.heap S (fun k' => decide (k' ∈ ns.take i)) i →
      (∀ h' tk, (∀ b o, b ≠ S → b ≠ I → s.heap.get? b = some o → h'.get? b = some o) → IsStrSet prog w h' S (fun k' => decide (k' ∈ ns)) items.size → R (.ok (.ret .none)) { s with heap := h', toks := tk }) →
      codeAny (model prog w) A (.builtin "set.update.loop" ⟨[.ref S, .ref I], []⟩) R s := by
  have hln : items.size = ns.length := by simpa using strsAre_length hi
  intro k
  induction k with
  | zero =>
    intro i s hk hle hit hl hS hR
    obtain rfl : i = items.size := by omega
    refine codeAny_builtin F.entry_set_update_loop ?_
    rw [Around.under_plainId F.plain_set_update_loop _]
    show wpAny _ A.in1 (pyNext (.ref I) >>= _) _ _ s
    refine wpAny_bind (wpAny_pyNext_list_end (by simpa using hh) hit hl (by simp) fun h' he => ?_)
    show wpAny _ A.in1 (ret Value.none) _ _ _
    rw [hln, List.take_length] at hS
    refine wpAny_pure (hR h' s.toks (fun b o _ hbI e => he b o hbI e) ?_)
    rw [hln]
    exact hS.keep fun o e => he S o hSI e
  | succ k ih =>
    intro i s hk hle hit hl hS hR
    have hlt : i < items.size := by omega
    refine codeAny_builtin F.entry_set_update_loop ?_
    rw [Around.under_plainId F.plain_set_update_loop _]
    show wpAny _ A.in1 (pyNext (.ref I) >>= _) _ _ s
    refine wpAny_bind (wpAny_pyNext_list_item hit hl (x := items[i]) (by simp [hlt]) fun h₁ hit₁ hs₁ => ?_)
    obtain ⟨x, t, hx, ev⟩ := strsAre_at hi i items[i] (by simp [hlt])
    rw [ev]
    have hS₁ := hS.keep (h' := h₁) fun o e => hs₁.extBut S o hSI e
    show wpAny _ A.in1 (holding [Value.str x t] (setAdd S (.str x t)) >>= _) _ _ _
    refine wpAny_bind (wpAny_holding ?_)
    unfold setAdd
    refine wpAny_holding ?_
    refine wpAny_bind ((strKind prog w).pyHash (k := x) (strKind_is _ _ _ _) ?_)
    obtain ⟨o, es, ep, tb, ho, so, hz⟩ := hS₁
    refine strSet_add (s := { s with heap := h₁, toks := s.toks + 1 }) ho so (by omega) fun h₂ o₂ es₂ ep₂ t₂ hsb ho₂ so₂ hz₂ b => ?_
    have tk1 : ns.take (i + 1) = ns.take i ++ [x] := by rw [List.take_add_one, hx]; rfl
    have hS₂ : IsStrSet prog w h₂ S (fun k' => decide (k' ∈ ns.take (i + 1))) (i + 1) := by
      refine ⟨o₂, es₂, ep₂, t₂, ho₂, ⟨so₂.ex, so₂.data, so₂.el, fun k' => ?_, so₂.small, so₂.fits, so₂.plain⟩, by omega⟩
      rw [← so₂.mem k', tk1]
      simp
    refine wpAny_pure ⟨plainId_quiet F.plain_set_update_loop _, ih (i + 1) _ (by omega) hlt ?_ ?_ hS₂ fun h₃ tk₃ k₃ hS₃ => ?_⟩
    · exact hit₁.extBut hsb.extBut (Ne.symm hSI)
    · exact (hl.extBut hs₁.extBut hlI).extBut hsb.extBut (Ne.symm hSl)
    · exact hR h₃ tk₃ (fun b o hbS hbI e => k₃ b o hbS hbI (hsb.extBut b o hbS (hs₁.extBut b o hbI e))) hS₃

abbrev emptySet (led : Bool) : Obj := { cls := .type "set", dict := none, data := .set #[] 0 (.fresh 0 0 led) }
theorem emptySet_str (led : Bool) : StrSetO prog w (emptySet led) (fun _ => false) #[] 0 (.fresh 0 0 led) :=
  ⟨⟨rfl, rfl, rfl⟩, rfl, (fun e he => by simp at he), (fun k => by simp), by decide, rfl, .inl rfl⟩
set_option maxHeartbeats 3200000 in
theorem strSet_call {l : Addr} {items : Array Value} {ns : List Str} {Q : Value → Shared → Prop} (hh : A.handled = none) (hl : s.heap.IsList l items) (hi : StrsAre items.toList ns) (hb : items.size + 1 < scanBound)
    (h : ∀ (h' : Heap) (tk : Nat), IsStrSet prog w h' s.heap.objs.size (fun k' => decide (k' ∈ ns)) items.size → (∀ b o, b < s.heap.objs.size → s.heap.get? b = some o → h'.get? b = some o) → Q (.ref s.heap.objs.size) { s with heap := h', toks := tk }) :
    wpAny (model prog w) A (call (.type "set") [.ref l]) Q E s := by
  obtain ⟨c, tl, hmro⟩ := PySem.F.called_set.mro
  have hmade := PySem.F.called_set.made
  have hsub := PySem.F.called_set.sub
  refine wpAny_call (codeAny_of_tree ?_)
  show wpAny _ _ (callAny (.type "set") _) _ _ _
  refine wpAny_pure ⟨Code.quiet_builtin _ (by decide +kernel), codeAny_builtin PySem.F.entry_type_call ?_⟩
  rw [Around.under_plain (weight_type_call_type "set" [.ref l] []) rfl]
  have h1 := PySem.F.called_set.notType
  have h2 := PySem.F.called_set.canCreate
  have hct := PySem.F.typeCall_set_1 (.ref l)
  repeat (any_goals (first | assumption | wp_step))
  refine codeAny_mono (code_set_new_1 (.ref l) (E := E) (Q₁ := fun obj s₁ => ∃ led : Bool, obj = .ref s.heap.objs.size ∧ s₁ = { s with heap := s.heap.push (emptySet led) }) fun led => ⟨led, rfl, rfl⟩) fun r s₁ hr => ?_
  rcases r with e | (obj | _ | _ | _) <;> first | exact hr | exact hr.elim | skip
  obtain ⟨led, rfl, rfl⟩ := hr
  have hS : (s.heap.push (emptySet led)).get? s.heap.objs.size = some (emptySet led) := Heap.get?_push_size _ rfl
  have hT : Shared.TypeIs { s with heap := s.heap.push (emptySet led) } (.ref s.heap.objs.size) "set" := ⟨_, hS, rfl⟩
  have hli := PySem.F.called_set.init.lookup
  have hbi := PySem.F.called_set.init.bind (.ref s.heap.objs.size)
  repeat (any_goals (first | assumption | wp_step))
  refine codeAny_mono (codeAny_call_builtin (R := wants (fun r s₂ => r = .none ∧ ∃ h' tk, s₂ = { s with heap := h', toks := tk } ∧ IsStrSet prog w h' s.heap.objs.size (fun k' => decide (k' ∈ ns)) items.size ∧
      (∀ b o, b < s.heap.objs.size → s.heap.get? b = some o → h'.get? b = some o)) E) PySem.F.called_set.init.plain PySem.F.entry_set_init (check_set_init_1 hT ?_)) fun r₂ s₂ hr₂ => ?_
  · obtain ⟨⟨ocls, odict, odata, oslots⟩, hol, hcl, nl, hdl⟩ := hl
    simp only at hcl hdl
    subst hcl hdl
    have hol' : (s.heap.push (emptySet led)).get? l = some { cls := .type "list", dict := odict, data := .seq items nl, slots := oslots } := Heap.get?_push_of_some _ hol
    have hsls := PySem.F.sub_list_set
    have hslf := PySem.F.sub_list_frozenset
    have hne : (Value.type "list" == Value.type "dict") = false := by decide
    have hl1 : (s.heap.push (emptySet led)).IsList l items := ⟨_, hol', rfl, nl, rfl⟩
    have hlS : l < s.heap.objs.size := Heap.lt_size hol
    unfold Builtin.«set.__init__» noKeywords Builtin.Frozenset.updateFrom
    generalize hPI : pyIter = PI
    wp_walk
    subst hPI
    refine wpAny_pyIter_list hl1 ?_
    refine wpAny_bind (wpAny_runValue ?_)
    refine strSet_loop (items := items) (ns := ns) (l := l) (by simp [hh]) (Nat.ne_of_gt hlS) (by rw [Heap.size_push]; exact Nat.ne_of_lt (Nat.lt_succ_self _)) (by rw [Heap.size_push]; exact Nat.ne_of_lt (Nat.lt_succ_of_lt hlS)) hi hb items.size 0 _ (by omega) (Nat.zero_le _)
      ⟨_, Heap.get?_push_size _ rfl, rfl, rfl⟩ (hl1.push _) ⟨_, _, _, _, Heap.get?_push_of_some _ hS, by simpa using emptySet_str led, by simp⟩ fun h' tk k' hS' => ?_
    show wpAny _ _ _ _ _ _
    refine wpAny_pure ?_
    show wpAny _ _ (ret Value.none) _ _ _
    refine wpAny_pure ⟨rfl, h', tk, rfl, hS', fun b o hb e => ?_⟩
    exact k' b o (Nat.ne_of_lt hb) (by rw [Heap.size_push]; exact Nat.ne_of_lt (Nat.lt_succ_of_lt hb)) (Heap.get?_push_of_some _ (Heap.get?_push_of_some _ e))
  · rcases r₂ with e | (obj | _ | _ | _) <;> first | exact hr₂ | exact hr₂.elim | skip
    obtain ⟨rfl, h', tk, rfl, hS', hk'⟩ := hr₂
    repeat (any_goals (first | assumption | wp_step))
    exact h _ _ hS' hk'
end
end
-- F10
section
section
variable {g : Gb} {c : Cx} {m : LM} {mu mu' : Led} {hk : Heap} {fa : List Fact} {s s' : Shared} {A : Around} {E : Value → Shared → Prop} {k : Nat} {env : Env}
noncomputable abbrev Kh (g : Gb) : Frag := hd.heap_1 g.w.params

/-- the ledger's whole; what is known beside it lies apart -/
theorem Fm.ledA (F : Fm g c m mu fa s) : ∃ tl : Led, News c.hb c.L s.heap (mu ++ tl) ∧ (∀ p ∈ mu, ∀ q ∈ tl, q.1 ≠ p.1) ∧ ∀ (s' : Shared) (m' : LM) (mu' : Led), Fr c.hb c.L s'.heap (mapOf m') → News c.hb c.L s'.heap (mu' ++ tl) →
    (mu'.map (·.1) = mu.map (·.1)) → s'.gens = s.gens → s'.os = s.os → Fm g c m' mu' fa s' := by
  obtain ⟨hk, T, q⟩ := F
  let tl : Led := (List.range s.heap.objs.size).filterMap fun a => if (c.hb.get? a).isNone then (hk.get? a).map fun o => (a, o) else none
  have tl1 : ∀ p ∈ tl, hk.get? p.1 = some p.2 ∧ c.hb.get? p.1 = none := fun p hp => by
    obtain ⟨a, _, e⟩ := List.mem_filterMap.mp hp
    split at e
    · rename_i h
      obtain ⟨o, h1, rfl⟩ := Option.map_eq_some_iff.mp e
      exact ⟨h1, Option.isNone_iff_eq_none.mp h⟩
    · cases e
  have tl2 : ∀ a o, hk.get? a = some o → c.hb.get? a = none → (a, o) ∈ tl := fun a o e h =>
    List.mem_filterMap.mpr ⟨a, List.mem_range.mpr (Heap.lt_size (T.kh a o e)), by rw [if_pos (Option.isNone_iff_eq_none.mpr h), e]; rfl⟩
  refine ⟨tl, fun p hp => ?_, fun p hp q hq e => ?_, fun s' m' mu' F' N' hmu hg ho => ?_⟩
  · rcases List.mem_append.mp hp with hp | hp
    · exact T.news p hp
    · obtain ⟨h1, h2⟩ := tl1 p hp
      exact ⟨T.kh _ _ h1, (fun e => by rw [e, T.kL] at h1; cases h1), h2⟩
  · have h1 := (tl1 q hq).1
    rw [e, (T.mus p hp).2.2.2] at h1
    cases h1
  · refine ⟨hk, ⟨F'.ns, F'.keep, T.above, T.kk, fun b o e => ?_, T.kf, T.kL, T.kb, fun p hp => ?_, hmu ▸ T.nd, T.wd, hg.trans T.gens, ho.trans T.os⟩, q⟩
    · rcases T.kf b o e with h | h
      · exact F'.keep b o (T.kb b o h)
      · exact (N' (b, o) (List.mem_append_right _ (tl2 b o e h))).1
    · have z := N' p (List.mem_append_left _ hp)
      refine ⟨z.1, z.2.1, z.2.2, ?_⟩
      have hp' : p.1 ∈ mu.map (·.1) := hmu ▸ List.mem_map_of_mem hp
      obtain ⟨p', hp', e⟩ := List.mem_map.mp hp'
      rw [← e]
      exact (T.mus p' hp').2.2.2

theorem Tn.split {a : Addr} {o o' : Obj} : ∀ {l l' : Led}, Tn a o o' l l' → ∃ pre post, l = pre ++ (a, o) :: post ∧ l' = pre ++ (a, o') :: post
  | _, _, .head => ⟨[], _, rfl, rfl⟩
  | _, _, .tail (p := p) t => let ⟨pre, post, e1, e2⟩ := t.split; ⟨p :: pre, post, by rw [e1]; rfl, by rw [e2]; rfl⟩

/-- x.name = v, on an object of the class C that the call has made -/
theorem r_setAttr {x dx C : Addr} {es : List DictEntry} {n : Nat} {name : Str} {v : Value} {mu' : Tok → Led} {Q : Unit → Shared → Prop} (F : Fm g c m mu fa s) (hx : (x, instObj C dx) ∈ mu)
    (hs : findIn (Kh g) (.ref C) "__setattr__" = some (some (.builtin "object.__setattr__"))) (hp : plainOver (Kh g) C = true) (ht : takerIn (Kh g) C name = some none) (hh : hasDictIn (Kh g) C = true)
    (hl : (getL name es).isSome = true) (hz : ∀ tk, (putL name (PyData.keyHash g.w.params name) (.str name tk) v es).length ≤ 1000)
    (U : ∀ tk, Tn dx (dictOf es n) (dictOf (putL name (PyData.keyHash g.w.params name) (.str name tk) v es) (putN name es n)) mu (mu' tk))
    (h : ∀ tk s', Fm g c m (mu' tk) fa s' → Q () s') : wpAny (MM g) A (setAttr (.ref x) name v) Q E s := by
  obtain ⟨tl, N, ap, k⟩ := F.ledA
  have X := F.wd.X
  obtain ⟨pre, post, e1, e2⟩ := (U (s.toks + 1)).split
  have I : InstAt s.heap x (instObj C dx) C (some (dictOf es n)) := ⟨F.at_ hx, rfl, rfl, F.at_ ((U (s.toks + 1)).mem)⟩
  have nd : (mu.map (·.1)).Nodup := let ⟨_, T, _⟩ := F; T.nd
  rw [e1, List.map_append, List.map_cons, List.nodup_append, List.nodup_cons] at nd
  have N' : News c.hb c.L s.heap (pre ++ (dx, dictOf es n) :: (post ++ tl)) := by
    rw [e1, List.append_assoc, List.cons_append] at N
    exact N
  have hh' := hh
  refine set_plain (X.keeps F.fr.keep) I hs (osa_dict (s := { s with toks := s.toks + 1 }) F.fr N' (X.keeps F.fr.keep) I rfl hp ht hh hl ?_ ?_ (by rw [putName_dict]) rfl (hz (s.toks + 1)) fun h' F' N'' => ?_)
  · exact fun p hp e => nd.2.2 p.1 (List.mem_map_of_mem hp) dx (.head _) e
  · intro p hp e
    rcases List.mem_append.mp hp with hp | hp
    · exact nd.2.1.1 (List.mem_map.mpr ⟨p, hp, e⟩)
    · exact ap (dx, dictOf es n) (U 0).mem p hp e
  · refine h (s.toks + 1) _ (k { s with heap := h', toks := s.toks + 2 } _ _ F' ?_ ?_ rfl rfl)
    · rw [e2, List.append_assoc, List.cons_append]
      exact N''
    · rw [e1, e2]; simp

theorem r_getAttr {x dx C : Addr} {es : List DictEntry} {n : Nat} {name : Str} {v : Value} {expr : Bool} {attr : Option Value} {Q : Value → Shared → Prop} (F : Fm g c m mu fa s) (hx : s.heap.get? x = some (instObj C dx)) (hdx : s.heap.get? dx = some (dictOf es n))
    (hg : plainGet (Kh g) C name = true) (hh : hasDictIn (Kh g) C = true) (ha : findIn (Kh g) (.ref C) name = some attr) (hn : noGet (Kh g) attr = true) (hl : getL name es = some (some v)) (hv : handedIn v = true)
    (h : ∀ s', Fm g c m mu fa s' → Q v s') : wpAny (MM g) A (getAttr (.ref x) name expr) Q E s :=
  get_own F.fr F.wd.X ⟨hx, rfl, rfl, hdx⟩ hg hh ha hn hl hv (h _ (F.toks rfl))

theorem r_getMeth {x dx C : Addr} {es : List DictEntry} {n : Nat} {name : Str} {f : Addr} {pl : Sem Bool} {Q : Value × List Value → Shared → Prop} (F : Fm g c m mu fa s) (hx : s.heap.get? x = some (instObj C dx)) (hdx : s.heap.get? dx = some (dictOf es n))
    (hg : plainGet (Kh g) C name = true) (hf : findIn (Kh g) (.ref C) name = some (some (.ref f))) (ht : isFn (Kh g) (.ref f) = true) (hl : getL name es = some none)
    (h : Q (.ref f, [.ref x]) s) : wpAny (MM g) A (getMethod (.ref x) name pl) Q E s :=
  method_inst F.fr F.wd.X ⟨hx, rfl, rfl, hdx⟩ hg hf ht hl h

/-- a class of the text is called: a new object, then its __init__ -/
theorem r_make {C fI : Addr} {vs : List Value} {kw : List (Str × Value)} {Q : Value → Shared → Prop} (F : Fm g c m mu fa s) (hm : makesIn (Kh g) C = true) (hi : findIn (Kh g) (.ref C) "__init__" = some (some (.ref fI)))
    (hf : typeIn (Kh g) (.ref fI) = some (.type "function"))
    (h : ∀ x dx s', Fm g c m ((x, instObj C dx) :: (dx, dictOf [] 0) :: mu) fa s' → codeAny (MM g) (A.under (.builtin "type.__call__" ⟨.ref C :: vs, kw⟩)) (.call (.ref fI) ⟨.ref x :: vs, kw⟩)
      (InitBack x fun r s' => match r with | .ok (.ret v) => Q v s' | .ok _ => False | .error e => E e s') s') : wpAny (MM g) A (call (.ref C) vs kw) Q E s := by
  have W := F.wdS
  have F₁ := F.alloc (o := emptyDict) rfl
  have F₂ := F₁.alloc (o := instObj C s.heap.objs.size) rfl
  have e : (s.heap.push emptyDict).objs.size = s.heap.objs.size + 1 := Heap.size_push _ _
  dsimp only at F₂
  rw [e] at F₂
  have z := h _ _ _ F₂
  obtain ⟨hh, gg, d, t, os⟩ := s
  exact wpAny_call (make_core (makes_of W.X hm) (looks_findIn W.X hi) (fun self => bind_fn W.X self hf) (.inl rfl) z)

/-- as open_, and what the inner frame has made is handed back -/
theorem Fm.openR {mv : Led} (F : Fm g c m (mv ++ mu) fa s) : ∃ (hb : Heap) (kn : Heap), (∀ p ∈ mu, hb.get? p.1 = some p.2) ∧
    (∀ (h₁ : Heap) (tk : Nat) (m₁ : LM) (more : Led), h₁.Ns s.heap.objs.size (mapOf m₁) → Gr s.heap h₁ → (∀ p ∈ more, h₁.get? p.1 = some p.2 ∧ s.heap.objs.size < p.1) → (more.map (·.1)).Nodup →
      Fm g ⟨hb, kn, s.heap.objs.size, s⟩ m₁ (more ++ mv) fa { s with heap := h₁, toks := tk }) ∧
    ∀ m'' mv' rest fa'' s'', mv'.map (·.1) = mv.map (·.1) → Fm g ⟨hb, kn, s.heap.objs.size, s⟩ m'' (mv' ++ rest) fa'' s'' → Fm g c m (mv' ++ (rest ++ mu)) fa'' s'' := by
  obtain ⟨hkn, F, q⟩ := F
  obtain ⟨n1, n2, n3, n4⟩ := F.size_none
  have nm : ∀ b, b ∈ mv.map (·.1) → c.hb.get? b = none ∧ hkn.get? b = none := fun b hb => by
    obtain ⟨p, hp, rfl⟩ := List.mem_map.mp hb
    exact (F.mus p (List.mem_append_left _ hp)).2.2
  have nd := F.nd
  rw [List.map_append, List.nodup_append] at nd
  have up : Gr c.hb (hideAll s.heap (mv.map (·.1))) := fun b o e => hideAll_get _ (F.keep b o e) fun z => by rw [(nm b z).1] at e; cases e
  have lt : ∀ p ∈ mv, p.1 < s.heap.objs.size := fun p hp => Heap.lt_size (F.mus p (List.mem_append_left _ hp)).1
  have big : ∀ (a : Addr) (h : Heap), s.heap.objs.size < a → Gr h s.heap → h.get? a = none := fun a h ha kk => by
    cases z : h.get? a with
    | none => rfl
    | some o => exact absurd (Nat.lt_trans (Heap.lt_size (kk a o z)) ha) (Nat.lt_irrefl _)
  refine ⟨hideAll s.heap (mv.map (·.1)), hkn, fun p hp => hideAll_get _ (F.mus p (List.mem_append_right _ hp)).1 fun y => nd.2.2 _ y _ (List.mem_map_of_mem hp) rfl, fun h₁ tk m₁ more hns hk₁ hmore hnd => ?_, ?_⟩
  · refine ⟨hkn, ⟨hns, fun b o e => hk₁ b o (of_hideAll _ e), Nat.le_of_eq (hideAll_size _ _), Gr.rfl', F.kh.trans hk₁, fun _ _ e => .inl e, n2,
      fun b o e => hideAll_get _ (F.kh b o e) (fun z => by rw [(nm b z).2] at e; cases e), fun p hp => ?_, ?_, F.wd.keeps up, rfl, rfl⟩, q⟩
    · rcases List.mem_append.mp hp with hp | hp
      · obtain ⟨e1, e2⟩ := hmore p hp
        exact ⟨e1, Nat.ne_of_gt e2, big _ _ e2 fun b o e => of_hideAll _ e, big _ _ e2 F.kh⟩
      · have z := F.mus p (List.mem_append_left _ hp)
        exact ⟨hk₁ _ _ z.1, n4 p (List.mem_append_left _ hp), hideAll_none _ (List.mem_map_of_mem hp), z.2.2.2⟩
    · rw [List.map_append, List.nodup_append]
      refine ⟨hnd, nd.1, fun a ha b hb e => ?_⟩
      obtain ⟨p, hp, rfl⟩ := List.mem_map.mp ha
      obtain ⟨p', hp', rfl⟩ := List.mem_map.mp hb
      exact absurd (lt p' hp') (Nat.not_lt.mpr (Nat.le_of_lt (e ▸ (hmore p hp).2)))
  · rintro m'' mv' rest fa'' s₃ hmv ⟨hk2, F2, q2⟩
    have keepS : ∀ b o, b ∉ mv.map (·.1) → s.heap.get? b = some o → s₃.heap.get? b = some o := fun b o hb e => F2.keep b o (hideAll_get _ e hb)
    have kf2 : ∀ b, b ∉ mv.map (·.1) → hkn.get? b = none → (∃ o, s.heap.get? b = some o) → hk2.get? b = none := fun b hb e ⟨o, e'⟩ => by
      cases z : hk2.get? b with
      | none => rfl
      | some o2 =>
        rcases F2.kf b o2 z with y | y
        · dsimp only at y; rw [e] at y; cases y
        · rw [hideAll_get _ e' hb] at y; cases y
    have nL : c.L ∉ mv.map (·.1) := fun z => by
      obtain ⟨p, hp, e⟩ := List.mem_map.mp z
      exact (F.mus p (List.mem_append_left _ hp)).2.1 e
    have hcL : (hideAll s.heap (mv.map (·.1))).get? c.L ≠ none := fun e => by
      obtain ⟨o, _, _, e2, _⟩ := F.ns
      rw [hideAll_get _ e2 nL] at e; cases e
    have hrest : ∀ p ∈ rest, p.1 ≠ c.L ∧ c.hb.get? p.1 = none ∧ ∀ q ∈ mu, q.1 ≠ p.1 := fun p hp => by
      have z := (F2.mus p (List.mem_append_right _ hp)).2.2.1
      dsimp only at z
      refine ⟨fun e => hcL (e ▸ z), ?_, fun q hq e => ?_⟩
      · cases y : c.hb.get? p.1 with
        | none => rfl
        | some o => rw [up _ _ y] at z; cases z
      · rw [← e, hideAll_get _ (F.mus q (List.mem_append_right _ hq)).1 (fun y => nd.2.2 _ y _ (List.mem_map_of_mem hq) rfl)] at z
        cases z
    have nd2 := F2.nd
    rw [List.map_append, List.nodup_append] at nd2
    refine ⟨hk2, ⟨F.ns.at' fun o e => keepS _ o nL e, fun b o e => F2.keep b o (up b o e), F.above, F.kk.trans F2.kk, F2.kh, fun b o e => ?_, ?_, F.kb, fun p hp => ?_, ?_, F.wd, ?_, ?_⟩, q2⟩
    · rcases F2.kf b o e with y | y
      · exact F.kf b o y
      · refine .inr ?_
        cases z : c.hb.get? b with
        | none => rfl
        | some o2 => rw [up b o2 z] at y; cases y
    · obtain ⟨o, _, _, e, _⟩ := F.ns
      exact kf2 _ nL F.kL ⟨o, e⟩
    · rcases List.mem_append.mp hp with hp | hp
      · have z := F2.mus p (List.mem_append_left _ hp)
        have hm : p.1 ∈ mv.map (·.1) := hmv ▸ List.mem_map_of_mem hp
        exact ⟨z.1, fun e => nL (e ▸ hm), (nm _ hm).1, z.2.2.2⟩
      rcases List.mem_append.mp hp with hp | hp
      · have z := F2.mus p (List.mem_append_right _ hp)
        exact ⟨z.1, (hrest p hp).1, (hrest p hp).2.1, z.2.2.2⟩
      · have z := F.mus p (List.mem_append_right _ hp)
        have nb : p.1 ∉ mv.map (·.1) := fun y => nd.2.2 _ y _ (List.mem_map_of_mem hp) rfl
        exact ⟨keepS _ _ nb z.1, z.2.1, z.2.2.1, kf2 _ nb z.2.2.2 ⟨_, z.1⟩⟩
    · rw [List.map_append, List.map_append, List.nodup_append, List.nodup_append]
      refine ⟨nd2.1, ⟨nd2.2.1, nd.2.1, fun a ha b hb e => ?_⟩, fun a ha b hb e => ?_⟩
      · obtain ⟨p, hp, rfl⟩ := List.mem_map.mp ha
        obtain ⟨p', hp', rfl⟩ := List.mem_map.mp hb
        exact (hrest p hp).2.2 p' hp' e.symm
      · rcases List.mem_append.mp hb with hb | hb
        · exact nd2.2.2 a ha b hb e
        · exact nd.2.2 a (hmv ▸ ha) b hb e
    · exact F2.gens.trans F.gens
    · exact F2.os.trans F.os

/-- entering a def at the level of its code -/
theorem enter_code {mv : Led} (F : Fm g c m (mv ++ mu) fa s) {R : Result → Shared → Prop} {name qual : Str} {params : Arguments} {body : List Stmt} {scope : Scope} {dV kV doc pm cdv ct oc : Value} {an od : Option Addr} {osl : Array (Option Value)} {f : Addr} {vs : List Value} {kw : List (Str × Value)} {binds : List (Str × Value)}
    (ho : (hd.heap_1 g.w.params).lookup f = some ⟨oc, od, .func (fnOf name qual params body scope dV kV doc pm an cdv ct), osl⟩) (hcd : codeIn (hd.heap_1 g.w.params) cdv qual = true) (hroom : A.depth < recursionLimit)
    (hbind : BindsTo s (fnOf name qual params body scope dV kV doc pm an cdv ct) ⟨vs, kw⟩ binds) (hloc : ∀ y ∈ binds, scope.names.lookup y.1 = some .local)
    (h : ∀ c' s₁, Fm g c' binds.reverse mv fa s₁ → (∀ m'' mv' rest fa'' s'', mv'.map (·.1) = mv.map (·.1) → Fm g c' m'' (mv' ++ rest) fa'' s'' → Fm g c m (mv' ++ (rest ++ mu)) fa'' s'') →
      wpAny (MM g) (A.deeper (envOf qual scope c'.L f cdv)) (execs body (envOf qual scope c'.L f cdv))
        (fun fl s' => R (.ok (.ret (match fl with | .ret v => v | _ => .none))) s') (fun _ _ => False) s₁)
    (hco : scope.isCoroutine = false) (hgen : scope.isGenerator = false) (hk : scope.kind = .function)
    (hcell : ∀ x ∈ scope.names, x.2 ≠ .cell) : codeAny (MM g) A (.call (.ref f) ⟨vs, kw⟩) R s := by
  have W := F.wdS
  obtain ⟨hb, kn, _, op, cl⟩ := F.openR
  refine codeAny_call_def (fd := fnOf name qual params body scope dV kV doc pm an cdv ct) (body := body) (binds := binds) hroom (W.X _ _ ho) rfl W.T.nolimit (codeRec_of W.X hcd) rfl hbind hcell hloc (fun h₁ hns hk₁ => ?_) hco hgen hk
  exact wpAny_mono (h ⟨hb, kn, s.heap.objs.size, s⟩ _ (op h₁ _ _ [] hns hk₁ (fun _ h => nomatch h) .nil) fun m'' mv' rest fa'' s'' hm F2 => cl _ _ _ _ _ hm F2) (fun fl s' hl => hl) fun _ _ y => y.elim

/-- a dict of texts -/
abbrev Dt (g : Gb) (o : Obj) (kvs : List (Str × Value)) : Prop := o.IsDictOf (strKind PySem.Challenge.rw_in0181_01.row.prog g.w) kvs
theorem Fm.dictOf (F : Fm g c m mu fa s) {d : Addr} {o : Obj} {kvs : List (Str × Value)} (h : (d, o) ∈ mu) (D : Dt g o kvs) : s.heap.DictOf (strKind PySem.Challenge.rw_in0181_01.row.prog g.w) d kvs := Heap.dictOf_iff.mpr ⟨o, F.at_ h, D⟩
/-- {'k': v}: one text, one value -/
theorem r_dict1 {ke ve : Expr} {pos : Pos} {Q : Value → Shared → Prop} (F : Fm g c m mu fa s)
    (h : ∀ D s₁, (D == sysModules) = false → Fm g c m ((D, emptyDict) :: mu) fa s₁ → wpAny (MM g) A (eval ke env) (fun kv s₂ => wpAny (MM g) A (eval ve env) (fun vv s₃ => ∃ c' m' mu' fa' x t, kv = .str x t ∧ Fm g c' m' ((D, emptyDict) :: mu') fa' s₃ ∧
      ∀ o s₄, Dt g o [(x, vv)] → Fm g c' m' ((D, o) :: mu') fa' s₄ → Q (.ref D) s₄) E s₂) E s₁) :
    wpAny (MM g) A (eval (.Dict [some ke] [ve] pos) env) Q E s := by
  refine wpAny_Dict_walk (knd := strKind PySem.Challenge.rw_in0181_01.row.prog g.w) rfl rfl (List.cons_ne_nil _ _) (Nat.le_of_ble_eq_true rfl) ?_
  have low : (s.heap.objs.size == sysModules) = false := beq_eq_false_iff_ne.mpr (Nat.ne_of_gt (modules_low F.wdS.T.nolimit))
  refine pairTrees_cons_walk (wpAny_mono (h _ _ low (F.alloc (o := emptyDict) rfl)) (fun kv s₂ h₂ => wpAny_mono h₂ (fun vv s₃ h₃ => pairTrees_nil_walk ?_) fun _ _ x => x) fun _ _ x => x)
  obtain ⟨c', m', mu', fa', x, t, rfl, F₃, q⟩ := h₃
  have e : s₃.heap.get? s.heap.objs.size = some emptyDict := F₃.at_ (.head _)
  refine ⟨[(x, vv)], ⟨strKind_is _ _ _ _, rfl, trivial⟩, ⟨_, #[], 0, e, ⟨rfl, rfl, rfl⟩, rfl, (fun _ he => nomatch (List.not_mem_nil (List.mem_toArray.mp he))), Pairs.nil, List.nodup_nil⟩, fun h' hd hs => ?_⟩
  obtain ⟨o, ho, D⟩ := Heap.dictOf_iff.mp hd
  exact q o _ D (F₃.turn (s' := { s₃ with heap := h', toks := _ }) .head (fun b o hb e => hs.extBut b o hb e) ho rfl rfl)

theorem valueAt_nil (k : Str) : valueAt ([] : List (Str × Value)) k = none := rfl
theorem valueAt_cons (p : Str × Value) (l : List (Str × Value)) (k : Str) : valueAt (p :: l) k = if p.1 = k then some p.2 else valueAt l k := by
  unfold valueAt
  rw [List.find?_cons]
  by_cases h : p.1 = k <;> simp [h]
theorem valueAt_append (l : List (Str × Value)) (q : Str × Value) (k : Str) (h : l.any (fun kv => decide (kv.1 = q.1)) = false) : valueAt (l ++ [q]) k = if q.1 = k then some q.2 else valueAt l k := by
  induction l with
  | nil => rw [List.nil_append, valueAt_cons]
  | cons p l ih =>
    rw [List.any_cons, Bool.or_eq_false_iff] at h
    rw [List.cons_append, valueAt_cons, valueAt_cons, ih h.2]
    by_cases e : p.1 = k
    · subst e
      have : ¬ (q.1 = p.1) := fun e => by simp [e] at h
      simp [this]
    · simp [e]
theorem valueAt_set (l : List (Str × Value)) (k' : Str) (v : Value) (k : Str) (h : l.any (fun kv => decide (kv.1 = k')) = true) : valueAt (l.map fun kv => if kv.1 = k' then (kv.1, v) else kv) k = if k' = k then some v else valueAt l k := by
  induction l with
  | nil => cases h
  | cons p l ih =>
    rw [List.map_cons, valueAt_cons, valueAt_cons]
    by_cases e : p.1 = k'
    · rw [if_pos e]
      subst e
      by_cases e2 : p.1 = k
      · simp [e2]
      · simp only [e2, if_false]
        cases hl : l.any (fun kv => decide (kv.1 = p.1)) with
        | true => rw [ih hl, if_neg e2]
        | false =>
          have : (l.map fun kv => if kv.1 = p.1 then (kv.1, v) else kv) = l := by
            refine (List.map_congr_left fun q hq => ?_).trans (List.map_id l)
            have := List.any_eq_false.mp hl q hq
            simp only [decide_eq_true_eq] at this
            rw [if_neg this]; rfl
          rw [this]
    · rw [if_neg e]
      rw [List.any_cons] at h
      have h2 : l.any (fun kv => decide (kv.1 = k')) = true := by simpa [e] using h
      rw [ih h2]
      by_cases e2 : p.1 = k
      · subst e2
        have : ¬ (k' = p.1) := fun q => e q.symm
        simp [this]
      · simp [e2]
theorem valueAt_stored (l : List (Str × Value)) (k' : Str) (v : Value) (k : Str) : valueAt (stored l k' v) k = if k' = k then some v else valueAt l k := by
  unfold stored
  split
  · rename_i h
    exact valueAt_set l k' v k h
  · rename_i h
    exact valueAt_append l (k', v) k (by rw [Bool.not_eq_true] at h; exact h)

/-- a dict from texts to ints -/
noncomputable def Dtf (g : Gb) (o : Obj) (f : Str → Option Int) (n : Nat) : Prop := ∃ kvs, Dt g o kvs ∧ kvs.length ≤ n ∧ ∀ k, match f k with | none => valueAt kvs k = none | some i => ∃ t, valueAt kvs k = some (.int i t)
theorem Dtf.one {o : Obj} {x : Str} {i : Int} {t : Tok} (D : Dt g o [(x, .int i t)]) : Dtf g o (fun k => if x = k then some i else none) 1 := ⟨_, D, Nat.le_refl _, fun k => by
  rw [valueAt_cons]
  by_cases h : x = k
  · simp [h]
  · simp [h, valueAt_nil]⟩
theorem r_inDt {d : Addr} {o : Obj} {f : Str → Option Int} {n : Nat} {x : Str} {t : Tok} {Q : Value → Shared → Prop} (F : Fm g c m mu fa s) (hm : (d, o) ∈ mu) (D : Dtf g o f n) (low : (d == sysModules) = false)
    (h : ∀ s', Fm g c m mu fa s' → Q (.bool (f x).isSome) s') : wpAny (MM g) A (compareOp .In (.str x t) (.ref d)) Q E s := by
  obtain ⟨kvs, D, _, q⟩ := D
  refine wpAny_in_of (strKind_is _ _ _ _) low (F.dictOf hm D).mapOf ?_
  have e : (valueAt kvs x).isSome = (f x).isSome := by
    have := q x
    cases hf : f x with
    | none => rw [hf] at this; dsimp only at this; rw [this]; rfl
    | some i => rw [hf] at this; obtain ⟨t, e⟩ := this; rw [e]; rfl
  rw [e]
  exact h _ (F.toks rfl)
theorem r_itemDt {value slice : Expr} {d : Addr} {o : Obj} {f : Str → Option Int} {n : Nat} {x : Str} {t : Tok} {i : Int} {Q : Value → Shared → Prop} (F : Fm g c m mu fa s) (hm : (d, o) ∈ mu) (D : Dtf g o f n) (hv : f x = some i)
    (h : ∀ s' t, Fm g c m mu fa s' → Q (.int i t) s') (hs : subscripted slice false (.ref d) (.str x t) = operate [.ref d, .str x t] (getItem (.ref d) (.str x t))) : wpAny (MM g) A (subscriptTail value slice (.ref d) (.str x t)) Q E s := by
  obtain ⟨kvs, D, _, q⟩ := D
  have := q x
  rw [hv] at this
  obtain ⟨t', e⟩ := this
  exact tail_any (F.dictOf hm D).typeIs slot_dict_getitem.lookup (wpAny_getItem_of (strKind_is _ _ _ _) (F.dictOf hm D).mapOf e (h _ _ (F.toks rfl))) hs
theorem r_setDt {d : Addr} {o : Obj} {f : Str → Option Int} {n : Nat} {x : Str} {t u : Tok} {i : Int} {mu' : Obj → Led} {Q : Unit → Shared → Prop} (F : Fm g c m mu fa s) (D : Dtf g o f n) (hz : n ≤ 1000) (U : ∀ o', Tn d o o' mu (mu' o'))
    (h : ∀ o' s', Dtf g o' (fun k => if x = k then some i else f k) (n + 1) → Fm g c m (mu' o') fa s' → Q () s') : wpAny (MM g) A (setItem (.ref d) (.str x t) (.int i u)) Q E s := by
  obtain ⟨kvs, D, hn, q⟩ := D
  refine wpAny_setItem_pairs (strKind_is _ _ _ _) (F.dictOf (U o).mem D) (fun h' hd hs => ?_) (by have := sizeLine_eq; omega)
  obtain ⟨o', ho, D'⟩ := Heap.dictOf_iff.mp hd
  refine h o' _ ⟨_, D', Nat.le_trans (stored_length_le _ _ _) (Nat.succ_le_succ hn), fun k => ?_⟩ (F.turn (s' := { s with heap := h', toks := _ }) (U o') (fun b o hb e => hs.extBut b o hb e) ho rfl rfl)
  rw [valueAt_stored]
  by_cases e : x = k
  · simp [e]
  · simp only [e, if_false]
    exact q k
end
end
-- F11
section
theorem slot_sit_next : Slot "set_iterator" "__next__" "set_iterator.__next__" :=
  .of (owner := "set_iterator") (n := "__next__") (by rw [typeLookup_type, builtinLookup_eq_fast]; kernel_rfl) (by decide +kernel) (by decide +kernel) (by decide +kernel)
    (by first | exact .inl (by decide +kernel) | exact .inr (by decide +kernel)) (by rw [isSubtype_type]; kernel_rfl)
theorem entry_sit_next : entryFor table "set_iterator.__next__" = some Builtin.«set_iterator.__next__» := entryFor_of_tree (by kernel_rfl)
theorem owner_sit : Manifest.owners.lookup (String.ofList ['r', 'o', 't', 'a', 'r', 'e', 't', 'i', '_', 't', 'e', 's'].reverse) = some Manifest.sig_set_iterator := by kernel_rfl
theorem args_sit_next (a : Value) : argsOk "set_iterator.__next__" ⟨[a], []⟩ := by
  unfold argsOk; rw [signature?_of (id := "set_iterator.__next__") (n := ['_', '_', 't', 'x', 'e', 'n', '_', '_']) (o := ['r', 'o', 't', 'a', 'r', 'e', 't', 'i', '_', 't', 'e', 's']) (by kernel_rfl) owner_sit]; kernel_rfl
theorem entry_set_iter : entryFor table "set.__iter__" = some Builtin.«frozenset.__iter__» :=
  entryFor_alias (id' := "frozenset.__iter__") (by kernel_rfl) rfl (by decide +kernel) (by kernel_rfl)

theorem erase_perm {α : Type} {xs : List α} {i : Nat} (h : i < xs.length) : (xs[i] :: xs.eraseIdx i).Perm xs := by
  rw [List.eraseIdx_eq_take_drop_succ]
  have e : xs.take i ++ xs[i] :: xs.drop (i + 1) = xs := by rw [← List.drop_eq_getElem_cons h, List.take_append_drop]
  exact List.perm_middle.symm.trans (.of_eq e)
section
variable {M : Model} {A : Around} {E : Value → Shared → Prop} {s : Shared}
theorem wp_drawOrder {α : Type} : ∀ (n : Nat) (xs : List α) (s : Shared) (Q : List α → Shared → Prop), xs.length ≤ n → (∀ ys dr, ys.Perm xs → Q ys { s with drawn := dr }) → wpAny M A (drawOrder n xs) Q E s
  | 0, xs, s, Q, hl, h => by
    obtain rfl := List.eq_nil_of_length_eq_zero (Nat.le_zero.mp hl)
    exact wpAny_pure (h [] s.drawn (.refl _))
  | n + 1, [], s, Q, _, h => wpAny_pure (h [] s.drawn (.refl _))
  | n + 1, x :: r, s, Q, hl, h => by
    unfold drawOrder
    have hne : (x :: r).length ≠ 0 := by simp
    refine fun Γ p hΓ => ⟨hne, ?_⟩
    have hlt := Nat.mod_lt (M.w.draws .order (s.drawn.get .order)) (Nat.pos_of_ne_zero hne)
    generalize M.w.draws .order (s.drawn.get .order) % (x :: r).length = i at hlt
    refine (?_ : wpAny M A (match (x :: r)[i]? with
      | some y => (do return y :: (← drawOrder n ((x :: r).eraseIdx i)))
      | none => unsupported "internal:drawOrder") Q E { s with drawn := s.drawn.bump .order }) Γ p hΓ
    have hi : (x :: r)[i]? = some (x :: r)[i] := List.getElem?_eq_getElem hlt
    rw [hi]
    refine wpAny_bind (wp_drawOrder n ((x :: r).eraseIdx i) _ _ ?_ fun ys dr hp => wpAny_pure (h _ dr ?_))
    · rw [List.length_eraseIdx_of_lt hlt]
      simp only [List.length_cons] at hl ⊢
      omega
    · exact (List.Perm.cons _ hp).trans (erase_perm hlt)
end

theorem pickOrder_go_perm {α : Type} (next : Nat → Nat) : ∀ (fuel k : Nat) (left : List α) (out : Array α), left.length ≤ fuel → (pickOrder.go next fuel k left out).toList.Perm (out.toList ++ left)
  | 0, k, left, out, h => by
    obtain rfl := List.eq_nil_of_length_eq_zero (Nat.le_zero.mp h)
    simp [pickOrder.go]
  | fuel + 1, k, left, out, h => by
    unfold pickOrder.go
    cases hl : left with
    | nil => simp
    | cons x r =>
      rw [hl] at h
      have hlt := Nat.mod_lt (next k) (show (x :: r).length > 0 by simp)
      generalize next k % (x :: r).length = i at hlt
      have hi : (x :: r)[i]? = some (x :: r)[i] := List.getElem?_eq_getElem hlt
      rw [hi]
      dsimp only
      have ih := pickOrder_go_perm next fuel (k + 1) ((x :: r).eraseIdx i) (out.push (x :: r)[i]) (by
        rw [List.length_eraseIdx_of_lt hlt]
        simp only [List.length_cons] at h ⊢
        omega)
      refine ih.trans ?_
      rw [Array.toList_push, List.append_assoc]
      exact List.Perm.append_left _ (erase_perm hlt)
theorem pickOrder_perm {α : Type} (next : Nat → Nat) (xs : Array α) : (pickOrder next xs).toList.Perm xs.toList := by
  have := pickOrder_go_perm next xs.size 0 xs.toList #[] (by simp)
  simpa [pickOrder] using this

section
variable {prog : Program} {w : World} {A : Around} {E : Value → Shared → Prop} {s : Shared}
theorem IsStrSet.typeIs {a : Addr} {S : Str → Bool} {n : Nat} (x : IsStrSet prog w s.heap a S n) : s.TypeIs (.ref a) "set" := let ⟨o, _, _, _, e, y, _⟩ := x; ⟨o, e, y.ex.1⟩
theorem IsStrSet.setOf {h : Heap} {a : Addr} {S : Str → Bool} {n : Nat} (x : IsStrSet prog w h a S n) : ∃ k, h.SetOf (strKind prog w) a S k :=
  let ⟨o, es, ep, t, e, y, _⟩ := x; ⟨es.size, o, es, ep, t, e, y.ex, y.data, y.el, y.mem, y.small, y.fits, rfl⟩
theorem inStrSet {a : Addr} {S : Str → Bool} {n : Nat} {x : Str} {tk : Tok} {Q : Value → Shared → Prop} (hS : IsStrSet prog w s.heap a S n) (h : Q (.bool (S x)) { s with toks := s.toks + 1 }) :
    wpAny (model prog w) A (compareOp .In (.str x tk) (.ref a)) Q E s := let ⟨_, y⟩ := hS.setOf; wpAny_inSet_of (strKind_is prog w x tk) rfl y h


noncomputable def atPlace (es : Array (Int × Value)) (j : Nat) : Value := (es[j]?.getD (0, .none)).2
/-- where a set's iterator takes its items from -/
noncomputable def SitFrom (w : World) (h : Heap) (S : Addr) (es : Array (Int × Value)) (ep : Nat) (ord : List Value) (first : Value) : Prop :=
  (first = .int 0 0 ∧ w.params.followText "set-order" = true ∧ ord = (pickOrder (w.params.setOrder S ep) es).toList.map (·.2)) ∨
  (∃ (T : Addr) (ys : List Nat), first = .ref T ∧ h.IsTuple T (ys.map fun j => Value.int (j : Nat) 0).toArray ∧ ord = ys.map (atPlace es) ∧ ∀ j ∈ ys, j < es.size)
abbrev sitData (S : Addr) (n ep : Nat) (first : Value) (i : Nat) : Data := .fields #[first, .int (i : Nat) 0, .ref S, .int (n : Nat) 0, .int (ep : Nat) 0]

theorem ite_wp {α : Type} {M : Model} {p : Prop} {i : Decidable p} {a b : Sem α} {Q : α → Shared → Prop} (hp : p) (h : wpAny M A a Q E s) : wpAny M A (@ite _ p i a b) Q E s := by rw [if_pos hp]; exact h
theorem ite_wn {α : Type} {M : Model} {p : Prop} {i : Decidable p} {a b : Sem α} {Q : α → Shared → Prop} (hp : ¬p) (h : wpAny M A b Q E s) : wpAny M A (@ite _ p i a b) Q E s := by rw [if_neg hp]; exact h
theorem setWalk_text {S : Addr} {o : Obj} {es : Array (Int × Value)} {ep : Nat} {t : SetTable} {Q : Array (Int × Value) → Shared → Prop} (hS : s.heap.get? S = some o) (hdS : o.data = .set es ep t) (hf : t.fits es.size = true) (hp : w.params.followText "set-order" = true)
    (h : Q (pickOrder (w.params.setOrder S ep) es) s) : wpAny (model prog w) A (setWalk S) Q E s := by
  unfold setWalk
  refine wpAny_bind (wpAny_setState_of hS hdS hf ?_)
  dsimp only
  refine wpAny_bind (wpAny_bind (wpAny_askSetting (wpAny_pure ?_)))
  refine ite_wp ?_ ?_
  · exact hp
  · exact wpAny_bind (wpAny_askSetting (wpAny_pure h))
theorem sit_item {I S : Addr} {oI o : Obj} {es : Array (Int × Value)} {ep i : Nat} {t : SetTable} {ord : List Value} {first v : Value} {Q : Option Value → Shared → Prop}
    (hI : s.heap.get? I = some oI) (hc : oI.cls = .type "set_iterator") (hd : oI.data = sitData S es.size ep first i) (hS : s.heap.get? S = some o) (hdS : o.data = .set es ep t) (hf : t.fits es.size = true)
    (hfr : SitFrom w s.heap S es ep ord first) (hv : ord[i]? = some v)
    (hQ : ∀ h' oI', Heap.SameBut I s.heap h' → h'.get? I = some oI' → oI'.cls = .type "set_iterator" → oI'.data = sitData S es.size ep first (i + 1) → Q (some v) { s with heap := h' }) :
    wpAny (model prog w) A (pyNext (.ref I)) Q E s := by
  have hT : s.TypeIs (.ref I) "set_iterator" := ⟨oI, hI, hc⟩
  unfold pyNext
  refine wpAny_bind (wpAny_attempt (wpAny_callSpecial?_slot (name := Str.ofString "__next__") hT slot_sit_next
    (wpAny_call_entry slot_sit_next hT entry_sit_next ?_ (args_sit_next _))))
  show wpAny _ _ (fieldsOf (.ref I) >>= _) _ _ s
  refine wpAny_bind (wpAny_fieldsOf hI hd ?_)
  dsimp only
  show wpAny _ _ (setEntries S >>= _) _ _ s
  refine wpAny_bind (wpAny_setEntries_of hS hdS hf ?_)
  rw [if_neg (by simp)]
  rcases hfr with ⟨rfl, hp, ho⟩ | ⟨T, ys, rfl, hT2, ho, hys⟩
  · dsimp only
    show wpAny _ _ (setNext S 0 i ep >>= _) _ _ s
    unfold setNext
    refine wpAny_bind (wpAny_bind (wpAny_setState_of hS hdS hf ?_))
    dsimp only
    refine wpAny_bind (wpAny_bind (wpAny_askSetting (wpAny_pure ?_)))
    refine ite_wp (by exact hp) (ite_wn (by simp) ?_)
    refine wpAny_bind (setWalk_text hS hdS hf hp (wpAny_pure ?_))
    have hx : ∃ e, (pickOrder (w.params.setOrder S ep) es)[i]? = some e ∧ e.2 = v := by
      rw [ho, List.getElem?_map] at hv
      obtain ⟨e, e1, e2⟩ := Option.map_eq_some_iff.mp hv
      exact ⟨e, by simpa using e1, e2⟩
    obtain ⟨e, e1, rfl⟩ := hx
    rw [e1]
    dsimp only [Option.map_some]
    refine wpAny_bind (wpAny_setField hI hd (Nat.le_of_ble_eq_true rfl) ?_)
    have hI2 := Heap.get?_update_self (Obj.mapFields (·.setIfInBounds 0 (rawInt ((0 : Nat) : Int)))) hI (Obj.isFreed_of_fields (Obj.data_mapFields hd _))
    have hd2 := Obj.data_mapFields hd (·.setIfInBounds 0 (rawInt ((0 : Nat) : Int)))
    refine wpAny_bind (wpAny_setField hI2 hd2 (Nat.le_of_ble_eq_true rfl) ?_)
    have hI3 := Heap.get?_update_self (Obj.mapFields (·.setIfInBounds 1 (rawInt ((i : Nat) + 1 : Int)))) hI2 (Obj.isFreed_of_fields (Obj.data_mapFields hd2 _))
    have hd3 := Obj.data_mapFields hd2 (·.setIfInBounds 1 (rawInt ((i : Nat) + 1 : Int)))
    refine wpAny_pure ⟨_, rfl, wpAny_pure (hQ _ _ ((Heap.SameBut.update ..).trans (Heap.SameBut.update ..)) hI3 ?_ ?_)⟩
    · rw [Obj.cls_mapFields, Obj.cls_mapFields]; exact hc
    · rw [hd3]
      simp [rawInt, sitData]
  · dsimp only
    obtain ⟨oT, hoT, hcT, nT, hdT⟩ := hT2
    refine wpAny_bind (wpAny_seqItems hoT hdT ?_)
    have hx : ∃ j e, ys[i]? = some j ∧ es[j]? = some e ∧ e.2 = v := by
      rw [ho, List.getElem?_map] at hv
      obtain ⟨j, e1, e2⟩ := Option.map_eq_some_iff.mp hv
      have hj := hys j (List.mem_of_getElem? e1)
      exact ⟨j, es[j], e1, by simp [hj], by rw [← e2]; simp [atPlace, hj]⟩
    obtain ⟨j, e, e1, e2, rfl⟩ := hx
    have e3 : (ys.map fun j => Value.int (j : Nat) 0).toArray[((i : Nat) : Int).toNat]? = some (.int (j : Nat) 0) := by simp [e1]
    dsimp only
    rw [e3]
    dsimp only
    unfold setNextDrawn
    refine wpAny_bind (wpAny_bind (wpAny_setState_of hS hdS hf ?_))
    dsimp only
    rw [if_neg (by simp)]
    have e4 : es[((j : Nat) : Int).toNat]? = some e := by simpa using e2
    rw [e4]
    refine wpAny_pure ?_
    refine wpAny_bind (wpAny_setField hI hd (Nat.le_of_ble_eq_true rfl) ?_)
    have hI2 := Heap.get?_update_self (Obj.mapFields (·.setIfInBounds 1 (rawInt ((i : Nat) + 1 : Int)))) hI (Obj.isFreed_of_fields (Obj.data_mapFields hd _))
    have hd2 := Obj.data_mapFields hd (·.setIfInBounds 1 (rawInt ((i : Nat) + 1 : Int)))
    refine wpAny_pure ⟨_, rfl, wpAny_pure (hQ _ _ (Heap.SameBut.update ..) hI2 ?_ ?_)⟩
    · rw [Obj.cls_mapFields]; exact hc
    · rw [hd2]
      simp [rawInt, sitData]

theorem stop_end {B : Around} {Q : Option Value → Shared → Prop} (hh : B.handled = none) (h : ∀ h', (∀ b o, s.heap.get? b = some o → h'.get? b = some o) → Q none { s with heap := h' }) :
    wpAny (model prog w) B (do raiseNew (← newExc (.type "StopIteration") [])) (fun (fin : Fin) s' => ∃ v, fin = .done (.ret v) ∧ wpAny (model prog w) A (pure (some v)) Q E s')
      (fun e s' => wpAny (model prog w) A (do if ← isInstance e (.type "StopIteration") then pure none else throw e) Q E s') s := by
  show wpAny _ _ (newExc (.type "StopIteration") [] >>= _) _ _ _
  refine wpAny_bind ?_
  simp only [newExc, newTuple]
  refine wpAny_bind (wpAny_newObj_type ?_ (by size_fits))
  refine wpAny_bind (m := firstArgMember _ _) (wpAny_of_eq (a := Value.none) (by first | rfl | (simp only [firstArgMember]; rfl)) ?_)
  refine wpAny_newObj_type ?_ (by size_fits)
  simp only [raiseNew]
  refine wpAny_bind (wpAny_handled ?_)
  rw [hh]
  refine wpAny_bind (wpAny_pure (wpAny_throw ?_))
  refine wpAny_bind (wpAny_isInstance (T := "StopIteration") (b := true) ⟨_, Heap.get?_push_size _ rfl, rfl⟩ isSubtype_stop ?_)
  exact wpAny_pure (h _ fun b o e => Heap.get?_push_of_some _ (Heap.get?_push_of_some _ e))

theorem sit_end {I S : Addr} {oI o : Obj} {es : Array (Int × Value)} {ep i : Nat} {t : SetTable} {ord : List Value} {first : Value} {Q : Option Value → Shared → Prop} (hh : A.handled = none)
    (hI : s.heap.get? I = some oI) (hc : oI.cls = .type "set_iterator") (hd : oI.data = sitData S es.size ep first i) (hS : s.heap.get? S = some o) (hdS : o.data = .set es ep t) (hf : t.fits es.size = true)
    (hfr : SitFrom w s.heap S es ep ord first) (hv : ord[i]? = none)
    (hQ : ∀ h', Heap.ExtBut I s.heap h' → Q none { s with heap := h' }) :
    wpAny (model prog w) A (pyNext (.ref I)) Q E s := by
  have hT : s.TypeIs (.ref I) "set_iterator" := ⟨oI, hI, hc⟩
  unfold pyNext
  refine wpAny_bind (wpAny_attempt (wpAny_callSpecial?_slot (name := Str.ofString "__next__") hT slot_sit_next
    (wpAny_call_entry slot_sit_next hT entry_sit_next ?_ (args_sit_next _))))
  show wpAny _ _ (fieldsOf (.ref I) >>= _) _ _ s
  refine wpAny_bind (wpAny_fieldsOf hI hd ?_)
  dsimp only
  show wpAny _ _ (setEntries S >>= _) _ _ s
  refine wpAny_bind (wpAny_setEntries_of hS hdS hf ?_)
  rw [if_neg (by simp)]
  rcases hfr with ⟨rfl, hp, ho⟩ | ⟨T, ys, rfl, hT2, ho, hys⟩
  · dsimp only
    show wpAny _ _ (setNext S 0 i ep >>= _) _ _ s
    unfold setNext
    refine wpAny_bind (wpAny_bind (wpAny_setState_of hS hdS hf ?_))
    dsimp only
    refine wpAny_bind (wpAny_bind (wpAny_askSetting (wpAny_pure ?_)))
    refine ite_wp (by exact hp) (ite_wn (by simp) ?_)
    refine wpAny_bind (setWalk_text hS hdS hf hp (wpAny_pure ?_))
    have e1 : (pickOrder (w.params.setOrder S ep) es)[i]? = none := by
      rw [ho, List.getElem?_map] at hv
      simpa using hv
    rw [e1]
    dsimp only [Option.map_none]
    refine wpAny_bind (wpAny_setField hI hd (Nat.le_of_ble_eq_true rfl) ?_)
    exact stop_end (by exact hh) fun h' k => hQ h' fun b o hb e => k b o ((Heap.SameBut.update s.heap I _).extBut b o hb e)
  · dsimp only
    obtain ⟨oT, hoT, hcT, nT, hdT⟩ := hT2
    refine wpAny_bind (wpAny_seqItems hoT hdT ?_)
    have e1 : ys[i]? = none := by
      rw [ho, List.getElem?_map] at hv
      simpa using hv
    have e3 : (ys.map fun j => Value.int (j : Nat) 0).toArray[((i : Nat) : Int).toNat]? = none := by simpa using e1
    dsimp only
    rw [e3]
    dsimp only
    refine wpAny_bind (wpAny_setField hI hd (Nat.le_of_ble_eq_true rfl) ?_)
    have hI2 := Heap.get?_update_self (Obj.mapFields (·.setIfInBounds 0 (rawInt 0))) hI (Obj.isFreed_of_fields (Obj.data_mapFields hd _))
    have hd2 := Obj.data_mapFields hd (·.setIfInBounds 0 (rawInt 0))
    refine wpAny_bind (wpAny_setField hI2 hd2 (Nat.le_of_ble_eq_true rfl) ?_)
    exact stop_end (by exact hh) fun h' k => hQ h' fun b o hb e => k b o (((Heap.SameBut.update s.heap I _).trans (Heap.SameBut.update _ I _)).extBut b o hb e)

/-- where a new iterator takes its items from -/
noncomputable def SitNew (w : World) (h h' : Heap) (I S : Addr) (es : Array (Int × Value)) (ep : Nat) (ord : List Value) (first : Value) : Prop :=
  (first = .int 0 0 ∧ w.params.followText "set-order" = true ∧ ord = (pickOrder (w.params.setOrder S ep) es).toList.map (·.2)) ∨
  (∃ (T : Addr) (ys : List Nat) (oT : Obj) (n : Nat), first = .ref T ∧ h.get? T = none ∧ T ≠ I ∧ h'.get? T = some oT ∧ oT.cls = .type "tuple" ∧ oT.data = .seq (ys.map fun j => Value.int (j : Nat) 0).toArray n ∧ ord = ys.map (atPlace es) ∧ ∀ j ∈ ys, j < es.size)
theorem sit_start {S : Addr} {o : Obj} {es : Array (Int × Value)} {ep : Nat} {t : SetTable} {Q : Value → Shared → Prop} (hc : o.cls = .type "set") (hS : s.heap.get? S = some o) (hdS : o.data = .set es ep t) (hf : t.fits es.size = true) (hpl : t.plain = false) (h2 : 1 < es.size) (hz : es.size ≤ sizeLine)
    (hQ : ∀ h' dr I oI ord first, (∀ b o, s.heap.get? b = some o → h'.get? b = some o) → s.heap.get? I = none → h'.get? I = some oI → oI.cls = .type "set_iterator" → oI.data = sitData S es.size ep first 0 → SitNew w s.heap h' I S es ep ord first → ord.Perm (es.toList.map (·.2)) →
      Q (.ref I) { s with heap := h', drawn := dr }) :
    wpAny (model prog w) A (pyIter (.ref S)) Q E s := by
  have hT : s.TypeIs (.ref S) "set" := ⟨o, hS, hc⟩
  refine wpAny_pyIter_slot hT PySem.F.slot_set_iter (wpAny_call_entry PySem.F.slot_set_iter hT entry_set_iter ?_ (PySem.F.args_set_iter_1 _))
  unfold Builtin.«frozenset.__iter__»
  show wpAny _ _ (Builtin.Frozenset.sizeOf S >>= _) _ _ s
  unfold Builtin.Frozenset.sizeOf
  refine wpAny_bind (wpAny_bind (wpAny_setEntries_of hS hdS hf (wpAny_pure ?_)))
  unfold setDrawn
  refine wpAny_bind (wpAny_bind (wpAny_setState_of hS hdS hf ?_))
  dsimp only
  refine wpAny_bind (wpAny_bind (wpAny_askSetting (wpAny_pure (wpAny_pure ?_))))
  cases hp : w.params.followText "set-order" with
  | true =>
    refine ite_wn ?_ ?_
    · show ¬ ((!(w.params.followText "set-order") && _) = true)
      rw [hp]
      simp
    refine wpAny_bind (wpAny_pure ?_)
    unfold setEpoch newFields
    refine wpAny_bind (wpAny_bind (wpAny_setState_of hS hdS hf (wpAny_pure ?_)))
    refine wpAny_bind (wpAny_newObj_type (wpAny_pure ⟨_, rfl, "set_iterator", _, ⟨_, Heap.get?_push_size _ rfl, rfl⟩, slot_sit_next.lookup, ?_⟩) (by size_fits))
    refine hQ _ s.drawn _ _ ((pickOrder (w.params.setOrder S ep) es).toList.map (·.2)) _ (fun b o e => Heap.get?_push_of_some _ e) (Heap.get?_none_of_le (Nat.le_refl _)) (Heap.get?_push_size _ rfl) rfl rfl (.inl ⟨rfl, hp, rfl⟩) ?_
    exact (pickOrder_perm _ _).map _
  | false =>
    refine ite_wp ?_ ?_
    · show (!(w.params.followText "set-order") && (!t.plain && decide (es.size > 1))) = true
      rw [hp, hpl]
      simp [h2]
    refine wpAny_bind (wp_drawOrder es.size (List.range es.size) _ _ (by simp) fun ys dr hys => ?_)
    have hl : ys.length = es.size := by rw [hys.length_eq]; simp
    refine wpAny_bind (wpAny_newObj_type ?_ ?_)
    · unfold setEpoch newFields
      refine wpAny_bind (wpAny_bind (wpAny_setState_of (Heap.get?_push_of_some _ hS) hdS hf (wpAny_pure ?_)))
      refine wpAny_bind (wpAny_newObj_type (wpAny_pure ⟨_, rfl, "set_iterator", _, ⟨_, Heap.get?_push_size _ rfl, rfl⟩, slot_sit_next.lookup, ?_⟩) (by size_fits))
      refine hQ _ dr _ _ (ys.map (atPlace es)) _ (fun b o e => Heap.get?_push_of_some _ (Heap.get?_push_of_some _ e)) ?_ (Heap.get?_push_size _ rfl) rfl rfl (.inr ⟨_, ys, _, _, rfl, Heap.get?_none_of_le (Nat.le_refl _), ?_, Heap.get?_push_of_some _ (Heap.get?_push_size _ rfl), rfl, rfl, rfl, fun j hj => ?_⟩) ?_
      · exact Heap.get?_none_of_le (by rw [Heap.size_push]; exact Nat.le_succ _)
      · rw [Heap.size_push]; exact Nat.ne_of_lt (Nat.lt_succ_self _)
      · have := hys.mem_iff.mp hj
        simpa using this
      · refine (hys.map (atPlace es)).trans (.of_eq ?_)
        refine List.ext_getElem (by simp) fun i h1 h2 => ?_
        simp only [List.length_map, List.length_range] at h1
        simp [atPlace, h1]
    · show (ys.map fun j => rawInt (j : Nat)).toArray.size ≤ sizeLine
      rw [List.size_toArray, List.length_map, hl]
      exact hz

theorem SitFrom.keeps {h h' : Heap} {S : Addr} {es : Array (Int × Value)} {ep : Nat} {ord : List Value} {first : Value} (x : SitFrom w h S es ep ord first) (k : Gr h h') : SitFrom w h' S es ep ord first := by
  rcases x with x | ⟨T, ys, a, ⟨o, e, r⟩, b⟩
  · exact .inl x
  · exact .inr ⟨T, ys, a, ⟨o, k _ _ e, r⟩, b⟩
end

/-- a set of texts that stands -/
noncomputable def Ss (g : Gb) (S : Addr) (ms : List Str) : Fact := fun h => IsStrSet PySem.Challenge.rw_in0181_01.row.prog g.w h S (fun k => decide (k ∈ ms)) ms.length
theorem Ss.mono {g : Gb} {S : Addr} {ms : List Str} : Mono (Ss g S ms) := fun _ _ k x => x.keep fun o e => k _ o e

section
variable {g : Gb} {c : Cx} {m : LM} {mu mu' : Led} {fa : List Fact} {s s' : Shared} {A : Around} {E : Value → Shared → Prop} {k : Nat} {env : Env}
theorem Fm.adoptL (F : Fm g c m mu fa s) {more : Led} (k : Gr s.heap s'.heap) (hm : ∀ p ∈ more, s.heap.get? p.1 = none ∧ s'.heap.get? p.1 = some p.2) (nd : (more.map (·.1)).Nodup) (hg : s'.gens = s.gens) (hs : s'.os = s.os) : Fm g c m (more ++ mu) fa s' := by
  obtain ⟨hk, T, q⟩ := F
  have none_of : ∀ (h : Heap) (a : Addr), s.heap.get? a = none → Gr h s.heap → h.get? a = none := fun h a hn kk => by
    cases e : h.get? a with
    | none => rfl
    | some o' => rw [kk _ _ e] at hn; cases hn
  have aL : ∀ a, s.heap.get? a = none → a ≠ c.L := fun a hn e => by
    obtain ⟨o, _, _, e', _⟩ := T.ns
    rw [e, e'] at hn
    cases hn
  refine ⟨hk, T.move [] (T.ns.keeps k) (fun b o _ _ e => k b o e) (fun _ h => nomatch h) (fun p hp => ?_) ?_ hg hs, q⟩
  · rcases List.mem_append.mp hp with hp | hp
    · obtain ⟨h1, h2⟩ := hm p hp
      exact ⟨h2, aL _ h1, none_of _ _ h1 T.keep, none_of _ _ h1 T.kh⟩
    · exact ⟨k _ _ (T.mus p hp).1, (T.mus p hp).2⟩
  · rw [List.map_append, List.nodup_append]
    refine ⟨nd, T.nd, fun a ha b hb e => ?_⟩
    obtain ⟨p, hp, rfl⟩ := List.mem_map.mp ha
    obtain ⟨p', hp', rfl⟩ := List.mem_map.mp hb
    have := (T.mus p' hp').1
    rw [← e, (hm p hp).1] at this
    cases this
theorem Fm.adopt (F : Fm g c m mu fa s) {a : Addr} {o : Obj} (k : Gr s.heap s'.heap) (hn : s.heap.get? a = none) (ho : s'.heap.get? a = some o) (hg : s'.gens = s.gens) (hs : s'.os = s.os) : Fm g c m ((a, o) :: mu) fa s' :=
  F.adoptL (more := [(a, o)]) k (fun p hp => by rw [List.mem_singleton.mp hp]; exact ⟨hn, ho⟩) (by simp) hg hs
theorem Fm.adopt2 (F : Fm g c m mu fa s) {a b : Addr} {o p : Obj} (k : Gr s.heap s'.heap) (hn : s.heap.get? a = none) (hm : s.heap.get? b = none) (ab : a ≠ b) (ho : s'.heap.get? a = some o) (hp : s'.heap.get? b = some p) (hg : s'.gens = s.gens) (hs : s'.os = s.os) : Fm g c m ((a, o) :: (b, p) :: mu) fa s' := by
  refine F.adoptL (more := [(a, o), (b, p)]) k (fun q hq => ?_) (by simp [ab]) hg hs
  rcases List.mem_cons.mp hq with rfl | hq
  · exact ⟨hn, ho⟩
  · rw [List.mem_singleton.mp hq]; exact ⟨hm, hp⟩

inductive ForSAt (g : Gb) (A : Around) (env : Env) (x : Str) (body : List Stmt) (Q : Flow → Shared → Prop) (xv : Value) (s₁ : Shared) : Prop where
  | mk (c : Cx) (m : LM) (mu : Led) (fa : List Fact) (S : Addr) (ms : List Str) (hit : Str → Prop) (J : LM → Led → List Fact → Prop) (h0 : xv = .ref S) (h1 : env.locals = c.L) (h2 : Fm g c m mu fa s₁) (h3 : Ss g S ms ∈ fa) (h4 : (∃ a b, a ∈ ms ∧ b ∈ ms ∧ a ≠ b)) (h5 : ms.length ≤ 1000) (h6 : J m mu fa) (h7 : (∀ y ty m₁ mu₁ fa₁ I oI R s₂, y ∈ ms → J m₁ mu₁ fa₁ → Fm g c ((x, .str y ty) :: m₁) ((I, oI) :: mu₁) (R :: fa₁) s₂ →
        wpAny (MM g) A (execs body env) (fun f s₃ => match f with
          | .next | .cont => ¬hit y ∧ ∃ m₂ mu₂ fa₂, J m₂ mu₂ fa₂ ∧ Fm g c m₂ ((I, oI) :: mu₂) (R :: fa₂) s₃
          | .brk => Q .next s₃
          | .ret v => Q (.ret v) s₃) (fun _ _ => False) s₂)) (h8 : ∀ m₁ mu₁ fa₁ s₂, J m₁ mu₁ fa₁ → (∀ y ∈ ms, ¬hit y) → Fm g c m₁ mu₁ fa₁ s₂ → Q .next s₂) : ForSAt g A env x body Q xv s₁
theorem r_ForS {x : Str} {px pos : Pos} {iter : Expr} {body : List Stmt} {Q : Flow → Shared → Prop} (hh : A.handled = none) (hk : env.scope.kind = .function) (hx : env.kindOf x = some .local)
    (h : wpAny (MM g) A (eval iter env) (fun xv s₁ => ForSAt g A env x body Q xv s₁) E s) (hs : ∀ x, foldedSetIterable iter env x = pure x) :
    wpAny (MM g) A (exec (.For (.Name x px) iter body [] pos) env) Q E s := by
  refine wpAny_For (wpAny_mono h (fun xv s₁ h₁ => ?_) fun _ _ e => e) hs
  obtain ⟨c, m, mu, fa, S, ms, hit, J, rfl, hL, F, hS, ⟨a, b, ha, hb, hab⟩, hz, hJ, turn, done⟩ := h₁
  obtain ⟨o, es, ep, t, ho, so, hn⟩ := F.fact hS
  have h2 : 1 < es.size := by
    obtain ⟨ea, ea1, ea2⟩ := (so.mem a).mp (by simpa using ha)
    obtain ⟨eb, eb1, eb2⟩ := (so.mem b).mp (by simpa using hb)
    have ne : ea ≠ eb := fun q => hab ((strKind _ _).inj ea.2 a b ea2 (q ▸ eb2))
    rcases hl : es.toList with _ | ⟨e0, _ | ⟨e1, r⟩⟩
    · rw [hl] at ea1; cases ea1
    · rw [hl] at ea1 eb1
      exact absurd ((List.mem_singleton.mp ea1).trans (List.mem_singleton.mp eb1).symm) ne
    · have : es.size = es.toList.length := by simp
      rw [this, hl]
      simp
  have hpl : t.plain = false := by
    rcases so.plain with z | z
    · omega
    · exact z
  refine sit_start so.ex.1 ho so.data so.fits hpl h2 (by have := sizeLine_eq; omega) fun h' dr I oI ord first kG hnI hI hIc hId hfr hord => ?_
  have F₀ : Fm g c m ((I, oI) :: mu) fa { s₁ with heap := h', drawn := dr } := F.adopt kG hnI hI rfl rfl
  let R : Fact := fun h => h.get? S = some o ∧ SitFrom g.w h S es ep ord first
  have Rm : Mono R := fun h h' k q => ⟨k _ _ q.1, q.2.keeps k⟩
  have F₁ : Fm g c m ((I, oI) :: mu) (R :: fa) { s₁ with heap := h', drawn := dr } := by
    have own : ∀ hk : Heap, Ss g S ms hk → Gr hk h' → hk.get? S = some o := fun hk q kk => by
      obtain ⟨o2, _, _, _, e2, _⟩ := q
      have z := kk _ _ e2
      rw [kG _ _ ho] at z
      cases z
      exact e2
    rcases hfr with hA | ⟨T, ys, oT, nT, rfl, hTn, hTI, hT, hTc, hTd, hord2, hys⟩
    · obtain ⟨hk, T, q⟩ := F₀
      refine ⟨hk, T, fun P hP => ?_⟩
      rcases List.mem_cons.mp hP with rfl | hP
      · exact ⟨Rm, own hk (q _ hS).2 T.kh, .inl hA⟩
      · exact q P hP
    · have F₂ := F.adopt2 kG hTn hnI hTI hT hI (s' := { s₁ with heap := h', drawn := dr }) rfl rfl
      have F₃ := F₂.freeze (P := fun h => h.get? T = some oT) (fun _ _ k e => k _ _ e) fun hk e _ => e
      obtain ⟨hk, T', q⟩ := F₃
      refine ⟨hk, T', fun P hP => ?_⟩
      rcases List.mem_cons.mp hP with rfl | hP
      · exact ⟨Rm, own hk (q _ (.tail _ hS)).2 T'.kh, .inr ⟨T, ys, rfl, ⟨oT, (q _ (.head _)).2, hTc, nT, hTd⟩, hord2, hys⟩⟩
      · exact q P (.tail _ hP)
  have hlen : ord.length = es.size := by rw [hord.length_eq]; simp
  refine codeAny_forLoop
    (fun k s' => ∃ i m₁ mu₁ fa₁ oI, oI.cls = .type "set_iterator" ∧ oI.data = sitData S es.size ep first i ∧ J m₁ mu₁ fa₁ ∧ Fm g c m₁ ((I, oI) :: mu₁) (R :: fa₁) s' ∧ i ≤ ord.length ∧ (∀ j y ty, j < i → ord[j]? = some (.str y ty) → ¬hit y) ∧ k = ord.length + 1 - i) ?_ (ord.length + 1)
    ⟨0, m, mu, fa, oI, hIc, hId, hJ, F₁, Nat.zero_le _, (fun _ _ _ h => nomatch h), rfl⟩
  rintro k s' ⟨i, m₁, mu₁, fa₁, oI, c1, c2, hJ', F', hi, hpast, rfl⟩
  have hR : R s'.heap := F'.fact (.head _)
  by_cases hlt : i < ord.length
  · obtain ⟨v, hv⟩ : ∃ v, ord[i]? = some v := ⟨ord[i], by simp⟩
    obtain ⟨y, ty, rfl, hy⟩ : ∃ y ty, v = .str y ty ∧ y ∈ ms := by
      obtain ⟨e, e1, rfl⟩ := List.mem_map.mp (hord.mem_iff.mp (List.mem_of_getElem? hv))
      obtain ⟨⟨y, hy, _⟩, _⟩ := so.el e e1
      obtain ⟨ty, hy'⟩ := Value.isStrOf_shape hy
      exact ⟨y, ty, hy', by simpa using (so.mem y).mpr ⟨e, e1, hy⟩⟩
    refine sit_item (F'.at_ (.head _)) c1 c2 hR.1 so.data so.fits hR.2 hv fun h' oI' hsb hI' c1' c2' => ?_
    have F₁ := F'.turn (s' := { s' with heap := h' }) (o' := oI') .head (fun b o hb e => hsb.extBut b o hb e) hI' rfl rfl
    refine wpAny_assign_Name (r_store F₁ (fun s₂ F₂ => ?_) hL hk hx)
    refine nofail (wpAny_mono (turn y ty m₁ mu₁ fa₁ I oI' R s₂ hy hJ' F₂) (fun f s₃ h₃ => ?_) fun _ _ x => x)
    have next : ¬hit y → ∀ j y' ty', j < i + 1 → ord[j]? = some (.str y' ty') → ¬hit y' := fun ny j y' ty' hj e => by
      rcases Nat.lt_succ_iff_lt_or_eq.mp hj with hj | rfl
      · exact hpast j y' ty' hj e
      · rw [hv] at e; cases e; exact ny
    cases f with
    | ret v => exact h₃
    | brk => exact h₃
    | next =>
      obtain ⟨ny, m₂, mu₂, fa₂, j, F₃⟩ := h₃
      exact ⟨ord.length + 1 - (i + 1), by omega, i + 1, m₂, mu₂, fa₂, oI', c1', c2', j, F₃, hlt, next ny, rfl⟩
    | cont =>
      obtain ⟨ny, m₂, mu₂, fa₂, j, F₃⟩ := h₃
      exact ⟨ord.length + 1 - (i + 1), by omega, i + 1, m₂, mu₂, fa₂, oI', c1', c2', j, F₃, hlt, next ny, rfl⟩
  · obtain rfl : i = ord.length := by omega
    refine sit_end hh (F'.at_ (.head _)) c1 c2 hR.1 so.data so.fits hR.2 (by simp) fun h' he => wpAny_execs_nil ?_
    refine done m₁ mu₁ fa₁ _ hJ' (fun y hy => ?_) ((F'.lose (s' := { s' with heap := h' }) (fun b o hb e => he b o hb e) rfl rfl).mono fun P hP => .tail _ hP)
    obtain ⟨e, e1, e2⟩ := (so.mem y).mp (by simpa using hy)
    obtain ⟨ty, e3⟩ := Value.isStrOf_shape e2
    have : e.2 ∈ ord := hord.mem_iff.mpr (List.mem_map_of_mem e1)
    obtain ⟨j, hj, e4⟩ := List.mem_iff_getElem.mp this
    exact hpast j y ty hj (by rw [List.getElem?_eq_getElem hj, e4, e3])
end
end
-- Tac2
local macro_rules | `(tactic| k_extra "mine_mt") => `(tactic| first
  | ((with_reducible show wpAny _ _ (exec (Stmt.Assign [Expr.Attribute _ _ _] _ _) _) _ _ _); (refine' plainObj_wpAny_Assign_Attribute ?z0 ?z1); (case z1 => with_unfolding_all rfl))
  | ((with_reducible show wpAny _ _ (exec (Stmt.Assign [Expr.Subscript _ _ _] _ _) _) _ _ _); (refine' wpAny_Assign_Subscript ?z0 ?z1); (case z1 => with_unfolding_all rfl))
  | ((with_reducible show wpAny _ _ (spliced (backTo _ (starEach (Expr.Starred _ _ :: _) _))) _ _ _); (refine' r_star ?z0 ?z1); (case z1 => rfl))
  | ((with_reducible show wpAny _ _ (eval (Expr.IfExp _ _ _ _) _) _ _ _); refine' wpAny_IfExp ?z0)
  | ((with_reducible show wpAny _ _ (PySem.isTrue (Expr.UnaryOp UnaryOp.Not _ _) _ _) _ _ _); refine' isTrue_not ?z0)
  | ((with_reducible show wpAny _ _ (eval (Expr.Attribute (Expr.Name _ _) _ _) _) _ _ _); refine' Attribute_name ?z0)
  | ((fail_if_success (with_reducible show wpAny _ _ (newList (Value.none :: _)) _ _ _)); (fail_if_success (with_reducible show wpAny _ _ (setAttr _ _ _) _ _ _)); (fail_if_success (with_reducible show wpAny _ _ (getAttr _ _ _) _ _ _)); (fail_if_success (with_reducible show wpAny _ _ (setItem _ _ _) _ _ _)); (fail_if_success (with_reducible show wpAny _ _ (call (Value.type _) _ _) _ _ _)); (fail_if_success (with_reducible show wpAny _ _ (eval (Expr.Dict _ _ _) _) _ _ _)); k_extra "mine_ms"))
-- C6
section
section
variable {g : Gb} {c : Cx} {m : LM} {mu : Led} {fa : List Fact} {s : Shared} {A : Around} {E : Value → Shared → Prop} {k : Nat}
theorem r_setOf {v : Value} {ms : List Str} {Q : Value → Shared → Prop} (F : Fm g c m mu fa s) (hh : A.handled = none) (hv : Rd v (.list (ms.map PyData.str)) ∈ fa) (hz : ms.length ≤ 1000) (h : ∀ S s', Fm g c m mu (Ss g S ms :: fa) s' → Q (.ref S) s') :
    wpAny (MM g) A (call (.type "set") [v]) Q E s := by
  obtain ⟨a, rfl⟩ := rd_ref (F.fact hv)
  obtain ⟨vs, h1, h2⟩ := rd_open (F.fact hv)
  have hl : vs.length = ms.length := by simpa using h2.length
  refine strSet_call hh h1 (rdAll_strs h2) (by rw [List.size_toArray, hl]; unfold scanBound; omega) fun h' tk hS kp => ?_
  have kG : Gr s.heap h' := fun b o e => kp b o (Heap.lt_size e) e
  obtain ⟨o, es, ep, t, ho, so, hn⟩ := hS
  have F₁ := F.adopt (s' := { s with heap := h', toks := tk }) kG (Heap.get?_none_of_le (Nat.le_refl _)) ho rfl rfl
  refine h _ _ (F₁.freeze Ss.mono fun hk e _ => ⟨o, es, ep, t, e, so, ?_⟩)
  have e2 : vs.toArray.size = vs.length := List.size_toArray
  omega
theorem Room.under {C : Addr} {rest : List Value} {kw : List (Str × Value)} {n : Nat} (R : Room A (n + 1)) : Room (A.under (.builtin "type.__call__" ⟨.ref C :: rest, kw⟩)) n := by
  have w1 : (Code.builtin "type.__call__" ⟨.ref C :: rest, kw⟩).weight = 1 := by kernel_rfl
  have w2 : (Code.builtin "type.__call__" ⟨.ref C :: rest, kw⟩).cUnits ≤ 50 := by
    have : (Code.builtin "type.__call__" ⟨.ref C :: rest, kw⟩).cUnits = 1 := by kernel_rfl
    omega
  exact ⟨R.hh, by have := R.dp; show A.depth + _ + n + 1 < _; rw [w1]; omega, by have := R.un; show A.units + _ + 100 * (n + 1) < _; omega⟩

theorem kc1 (w : World) : makesIn (hd.heap_1 w.params) 159 = true := by k_is
theorem kc2 (w : World) : findIn (hd.heap_1 w.params) (.ref 159) "__init__" = some (some (.ref 149)) := by k_is
theorem kc3 (w : World) : typeIn (hd.heap_1 w.params) (.ref 149) = some (.type "function") := by k_is
theorem kc4 (w : World) : findIn (hd.heap_1 w.params) (.ref 159) "__setattr__" = some (some (.builtin "object.__setattr__")) := by k_is
theorem kc5 (w : World) : plainOver (hd.heap_1 w.params) 159 = true := by k_is
theorem kc6 (w : World) : takerIn (hd.heap_1 w.params) 159 "_mods" = some none ∧ takerIn (hd.heap_1 w.params) 159 "_dirs" = some none ∧ takerIn (hd.heap_1 w.params) 159 "_ignore" = some none := ⟨by k_is, by k_is, by k_is⟩
theorem kc7 (w : World) : hasDictIn (hd.heap_1 w.params) 159 = true := by k_is
theorem kc8 (w : World) : plainGet (hd.heap_1 w.params) 159 "x" = true := by k_is
theorem kc9 (w : World) : findIn (hd.heap_1 w.params) (.ref 159) "_mods" = some none ∧ findIn (hd.heap_1 w.params) (.ref 159) "_dirs" = some none ∧ findIn (hd.heap_1 w.params) (.ref 159) "_ignore" = some none := ⟨by k_is, by k_is, by k_is⟩
theorem kc10 (w : World) : findIn (hd.heap_1 w.params) (.ref 159) "names" = some (some (.ref 156)) := by k_is
theorem kc11 (w : World) : isFn (hd.heap_1 w.params) (.ref 156) = true := by k_is

abbrev igDict (h1 h2 h3 : Int) (t1 t2 t3 : Tok) (S D dI : Addr) : List DictEntry := [⟨h1, .str (Str.ofString "_mods") t1, .ref S⟩, ⟨h2, .str (Str.ofString "_dirs") t2, .ref D⟩, ⟨h3, .str (Str.ofString "_ignore") t3, .ref dI⟩]
/-- a reader: the modules and the folders that it leaves out -/
noncomputable def IgO (g : Gb) (x dI : Addr) (mods dirs : List Str) : Fact := fun h => ∃ dx S D h1 h2 h3 t1 t2 t3 n, h.get? x = some (instObj 159 dx) ∧ h.get? dx = some (dictOf (igDict h1 h2 h3 t1 t2 t3 S D dI) n) ∧ Ss g S mods h ∧ Rd (.ref D) (.list (dirs.map PyData.str)) h
theorem IgO.mono {x dI : Addr} {mods dirs : List Str} : Mono (IgO g x dI mods dirs) := fun h h' k ⟨dx, S, D, h1, h2, h3, t1, t2, t3, n, a, b, e, f⟩ => ⟨dx, S, D, h1, h2, h3, t1, t2, t3, n, k _ _ a, k _ _ b, Ss.mono h h' k e, Rd.mono h h' k f⟩

theorem r_truthyD {v : Value} {ys : List Str} {Q : Bool → Shared → Prop} (F : Fm g c m mu fa s) (hv : Rd v (.list (ys.map PyData.str)) ∈ fa) (hz : ys.length ≤ 1000) (h : ∀ s', Fm g c m mu fa s' → Q (!ys.isEmpty) s') : wpAny (MM g) A (truthy v) Q E s := by
  obtain ⟨a, rfl⟩ := rd_ref (F.fact hv)
  obtain ⟨vs, h1, h2⟩ := rd_open (F.fact hv)
  have hl : vs.length = ys.length := by simpa using h2.length
  have e : vs.isEmpty = ys.isEmpty := by cases vs <;> cases ys <;> simp_all
  refine r_truthyL F h1 (by have := sizeLine_eq; omega) fun s' F' => ?_
  rw [e]
  exact h s' F'
theorem isEmpty_f {α : Type} {l : List α} (h : l ≠ []) : l.isEmpty = false := by cases l with | nil => exact absurd rfl h | cons _ _ => rfl
theorem make_call (R : Room A (k + 7)) (F : Fm g c m mu fa s) {vm vd : Value} {ms ds : List Str} (hm : Rd vm (.list (ms.map PyData.str)) ∈ fa) (hd' : Rd vd (.list (ds.map PyData.str)) ∈ fa) (hmn : ms ≠ []) (hdn : ds ≠ []) (hml : ms.length ≤ 1000) (hdl : ds.length ≤ 1000) (hok : ∀ d ∈ ds, npOk d = true) {Q : Value → Shared → Prop}
    (h : ∀ x dI oI s', (dI == sysModules) = false → Dtf g oI (fun k => if Str.ofString "<string>" = k then some 1 else none) 1 → Fm g c m ((dI, oI) :: mu) (IgO g x dI ms (ds.map normS) :: fa) s' → Q (.ref x) s') : wpAny (MM g) A (call (.ref 159) [vm, vd]) Q E s := by
  obtain ⟨am, rfl⟩ := rd_ref (F.fact hm)
  obtain ⟨ad, rfl⟩ := rd_ref (F.fact hd')
  refine r_make F (kc1 _) (kc2 _) (kc3 _) fun x dx s₁ F₁ => ?_
  k_dflt (refine enter_code (mv := [(x, instObj 159 dx), (dx, dictOf [] 0)]) (binds := [(Str.ofString "self", .ref x), (Str.ofString "modules", .ref am), (Str.ofString "dirs", .ref ad)]) F₁ (by k_is) (by k_is) (Room.under R).d (binds_K (Fm.wdS F₁).X rfl (by k_is) rfl rfl rfl) (locs rfl) ?_ rfl rfl rfl (by decide))
  intro c' s₂ F₂ back
  have R' := Room.under (C := 159) (rest := [Value.ref am, Value.ref ad]) (kw := []) R
  have hm' : List.Mem _ _ := hm
  have hd'' : List.Mem _ _ := hd'
  repeat' k_extra "mine_mt"
  refine r_truthyD (by k_extra "mine_asm") hm hml fun s3 F3 => ?_
  rw [isEmpty_f hmn]
  repeat' k_extra "mine_mt"
  refine r_setOf (by k_extra "mine_asm") (Room.deeper R' _).hh (by k_extra "mine_at") hml fun S s4 F4 => ?_
  repeat' k_extra "mine_mt"
  refine r_setAttr (C := 159) (es := []) (n := 0) (by k_extra "mine_asm") (by k_extra "mine_at") (kc4 _) (kc5 _) (kc6 _).1 (kc7 _) (by rfl) (fun _ => Nat.le_of_ble_eq_true rfl) (fun _ => by k_extra "mine_tn") fun t1 s5 F5 => ?_
  change Fm g c' _ [(x, _), (dx, dictOf [⟨_, .str (Str.ofString "_mods") t1, .ref S⟩] 1)] _ _ at F5
  repeat' k_extra "mine_mt"
  refine r_truthyD (by k_extra "mine_asm") (by k_extra "mine_at") hdl fun s6 F6 => ?_
  rw [isEmpty_f hdn]
  repeat' k_extra "mine_mt"
  k_extra "mine_comp"
  repeat' k_extra "mine_mt"
  refine ⟨Str, _, _, _, _, PyData.str, ds, fun _ => true, fun d => PyData.str (normS d), (by k_extra "mine_asm"), (by k_extra "mine_at"), (by have := sizeLine_eq; omega), ?_, ?_, ?_⟩
  · intro c1 m1 mu1 R1 v n s2 _ _ hl F2
    exact wpAny_pure ⟨rfl, F2⟩
  · intro c1 m1 mu1 R1 v d s2 hmem _ _ hl F2
    obtain ⟨t, rfl⟩ := rd_str (F2.fact (P := Rd v (PyData.str d)) (.head _))
    repeat' k_extra "mine_mt"
    rename Fm _ _ _ _ _ _ => F9
    refine normpath_call (Room.deeper R' _) F9 (hok d hmem) fun t3 s3 F3 => ?_
    exact (F3.more (P := Rd (.str (normS d) t3) (PyData.str (normS d))) Rd.mono fun _ _ => Rd.str).mono (by k_extra "mine_sub")
  · intro r s7 F7
    repeat' k_extra "mine_mt"
    refine r_setAttr (C := 159) (es := [⟨_, .str (Str.ofString "_mods") t1, .ref S⟩]) (n := 1) (by k_extra "mine_asm") (by k_extra "mine_at") (kc4 _) (kc5 _) (kc6 _).2.1 (kc7 _) (by rfl) (fun _ => Nat.le_of_ble_eq_true rfl) (fun _ => by k_extra "mine_tn") fun t2 s8 F8 => ?_
    obtain ⟨D, rfl⟩ := rd_ref (F7.fact (P := Rd r _) (.head _))
    change Fm g c' _ [(x, _), (dx, dictOf [⟨_, .str (Str.ofString "_mods") t1, .ref S⟩, ⟨_, .str (Str.ofString "_dirs") t2, .ref D⟩] 2)] _ _ at F8
    repeat' k_extra "mine_mt"
    refine r_dict1 F8 fun dI s9 hlow F9 => ?_
    refine r_cstr F9 fun t3 s10 F10 => ?_
    refine r_cint F10 fun t4 s11 F11 => ?_
    refine ⟨_, _, _, _, _, _, rfl, F11, fun oI s12 hD F12 => ?_⟩
    repeat' k_extra "mine_mt"
    refine r_setAttr (C := 159) (es := [⟨_, .str (Str.ofString "_mods") t1, .ref S⟩, ⟨_, .str (Str.ofString "_dirs") t2, .ref D⟩]) (n := 2) (by k_extra "mine_asm") (by k_extra "mine_at") (kc4 _) (kc5 _) (kc6 _).2.2 (kc7 _) (by rfl) (fun _ => Nat.le_of_ble_eq_true rfl) (fun _ => by k_extra "mine_tn") fun t5 s13 F13 => ?_
    change Fm g c' _ [(dI, oI), (x, _), (dx, dictOf (igDict _ _ _ t1 t2 t5 S D dI) 3)] _ _ at F13
    repeat' k_extra "mine_mt"
    refine ⟨rfl, ?_⟩
    have F14 := back _ [(x, instObj 159 dx), (dx, dictOf (igDict _ _ _ t1 t2 t5 S D dI) 3)] [(dI, oI)] _ _ rfl (F13.perm (List.perm_append_comm (l₁ := [_, _]) (l₂ := [_])))
    have F15 := (F14.freeze (P := fun h => h.get? x = some (instObj 159 dx)) (fun _ _ k e => k _ _ e) fun hk e _ => e).freeze (P := IgO g x dI ms (ds.map normS)) IgO.mono fun hk e q => ?_
    · exact h x dI oI _ hlow (Dtf.one hD) (F15.mono (by k_extra "mine_sub"))
    · refine ⟨dx, S, D, _, _, _, t1, t2, t5, 3, q _ (.head _), e, q _ (by k_extra "mine_at"), ?_⟩
      have z := q (Rd (.ref D) _) (.tail _ (.head _))
      rw [show (ds.filter fun _ => true) = ds from List.filter_eq_self.mpr fun _ _ => rfl] at z
      rw [List.map_map]
      exact z
end
end
-- C7
section
section
variable {g : Gb} {c : Cx} {m : LM} {mu : Led} {fa : List Fact} {s : Shared} {A : Around} {E : Value → Shared → Prop} {k : Nat}
noncomputable def IgA (x dx : Addr) (es : List DictEntry) (n : Nat) : Fact := fun h => h.get? x = some (instObj 159 dx) ∧ h.get? dx = some (dictOf es n)
theorem IgA.mono {x dx : Addr} {es : List DictEntry} {n : Nat} : Mono (IgA x dx es n) := fun _ _ k q => ⟨k _ _ q.1, k _ _ q.2⟩
theorem Fm.openIg (F : Fm g c m mu fa s) {x dI : Addr} {ms ds : List Str} (h : IgO g x dI ms ds ∈ fa) : ∃ dx S D h1 h2 h3 t1 t2 t3 n, Fm g c m mu (IgA x dx (igDict h1 h2 h3 t1 t2 t3 S D dI) n :: Ss g S ms :: Rd (.ref D) (.list (ds.map PyData.str)) :: fa) s := by
  obtain ⟨hk, F, q⟩ := F
  obtain ⟨dx, S, D, h1, h2, h3, t1, t2, t3, n, a, b, e, f⟩ := (q _ h).2
  refine ⟨dx, S, D, h1, h2, h3, t1, t2, t3, n, hk, F, fun P hP => ?_⟩
  rcases List.mem_cons.mp hP with rfl | hP
  · exact ⟨IgA.mono, a, b⟩
  rcases List.mem_cons.mp hP with rfl | hP
  · exact ⟨Ss.mono, e⟩
  rcases List.mem_cons.mp hP with rfl | hP
  · exact ⟨Rd.mono, f⟩
  · exact q P hP
theorem r_igIgnore {x dx S D dI : Addr} {h1 h2 h3 : Int} {t1 t2 t3 : Tok} {n : Nat} {expr : Bool} {Q : Value → Shared → Prop} (F : Fm g c m mu fa s) (hi : IgA x dx (igDict h1 h2 h3 t1 t2 t3 S D dI) n ∈ fa) (h : ∀ s', Fm g c m mu fa s' → Q (.ref dI) s') :
    wpAny (MM g) A (getAttr (.ref x) (Str.ofString "_ignore") expr) Q E s := r_getAttr F (F.fact hi).1 (F.fact hi).2 (kc8 _) (kc7 _) (kc9 _).2.2 rfl rfl rfl h
theorem r_igMods {x dx S D dI : Addr} {h1 h2 h3 : Int} {t1 t2 t3 : Tok} {n : Nat} {expr : Bool} {Q : Value → Shared → Prop} (F : Fm g c m mu fa s) (hi : IgA x dx (igDict h1 h2 h3 t1 t2 t3 S D dI) n ∈ fa) (h : ∀ s', Fm g c m mu fa s' → Q (.ref S) s') :
    wpAny (MM g) A (getAttr (.ref x) (Str.ofString "_mods") expr) Q E s := r_getAttr F (F.fact hi).1 (F.fact hi).2 (kc8 _) (kc7 _) (kc9 _).1 rfl rfl rfl h
theorem r_igDirs {x dx S D dI : Addr} {h1 h2 h3 : Int} {t1 t2 t3 : Tok} {n : Nat} {expr : Bool} {Q : Value → Shared → Prop} (F : Fm g c m mu fa s) (hi : IgA x dx (igDict h1 h2 h3 t1 t2 t3 S D dI) n ∈ fa) (h : ∀ s', Fm g c m mu fa s' → Q (.ref D) s') :
    wpAny (MM g) A (getAttr (.ref x) (Str.ofString "_dirs") expr) Q E s := r_getAttr F (F.fact hi).1 (F.fact hi).2 (kc8 _) (kc7 _) (kc9 _).2.1 rfl rfl rfl h
theorem r_igNames {x dI : Addr} {ms ds : List Str} {pl : Sem Bool} {Q : Value × List Value → Shared → Prop} (F : Fm g c m mu fa s) (hi : IgO g x dI ms ds ∈ fa) (h : Q (.ref 156, [.ref x]) s) :
    wpAny (MM g) A (getMethod (.ref x) (Str.ofString "names") pl) Q E s := by
  obtain ⟨dx, S, D, h1, h2, h3, t1, t2, t3, n, a, b, e, f⟩ := F.fact hi
  exact r_getMeth F a b (kc8 _) (kc10 _) (kc11 _) rfl h

theorem names_hit (R : Room A (k + 2)) {x dI : Addr} {oI : Obj} {f : Str → Option Int} {n : Nat} {ms ds : List Str} (F : Fm g c m ((dI, oI) :: mu) fa s) (hx : IgO g x dI ms ds ∈ fa) (D : Dtf g oI f n) (low : (dI == sysModules) = false) {fv : Value} {mn : Str} {t : Tok} {i : Int} (hv : f mn = some i) {Q : Value → Shared → Prop}
    (h : ∀ s' t, Fm g c m ((dI, oI) :: mu) fa s' → Q (.int i t) s') : wpAny (MM g) A (call (.ref 156) [.ref x, fv, .str mn t]) Q E s := by
  k_dflt (refine enter_fm (mv := [(dI, oI)]) (binds := [(Str.ofString "self", .ref x), (Str.ofString "filename", fv), (Str.ofString "modulename", .str mn t)]) F (by k_is) (by k_is) R.d (BindsTo.of_eq rfl) (locs rfl) ?_ rfl rfl rfl (by decide))
  intro c' s₁ F₁ back
  obtain ⟨dx, S, Da, h1, h2, h3, t1, t2, t3, n', F₂⟩ := F₁.openIg hx
  clear F₁
  repeat' k_extra "mine_mt"
  refine r_igIgnore F₂ (by k_extra "mine_at") fun s3 F3 => ?_
  repeat' k_extra "mine_mt"
  refine r_inDt F3 (by k_extra "mine_at") D low fun s4 F4 => ?_
  rw [show (f mn).isSome = true by rw [hv]; rfl]
  repeat' k_extra "mine_mt"
  refine r_igIgnore (by k_extra "mine_asm") (by k_extra "mine_at") fun s5 F5 => ?_
  repeat' k_extra "mine_mt"
  refine r_itemDt F5 (by k_extra "mine_at") D hv (fun s6 t6 F6 => ?_) (by with_unfolding_all rfl)
  repeat' k_extra "mine_mt"
  exact h _ _ (back _ [(dI, oI)] [] _ _ rfl (F6.mono (by k_extra "mine_sub")))

/-- a module or a file is left out -/
noncomputable def leftOut (ms ds : List Str) (mn fnm : Str) : Bool := decide (mn ∈ ms) || ms.any (fun y => Txt.startswith mn (y ++ Str.ofString ".")) || ds.any (fun d => Txt.startswith fnm (d ++ Str.ofString "/"))
theorem names_miss (R : Room A (k + 2)) {x dI : Addr} {oI : Obj} {f : Str → Option Int} {n : Nat} {ms ds : List Str} (F : Fm g c m ((dI, oI) :: mu) fa s) (hx : IgO g x dI ms ds ∈ fa) (D : Dtf g oI f n) (hn : n ≤ 1000) (low : (dI == sysModules) = false) {fnm mn : Str} {t u : Tok} (hv : f mn = none)
    (hms : ∀ y ∈ ms, y.length ≤ 1000) (hds : ∀ y ∈ ds, y.length ≤ 1000) (hml : ms.length ≤ 1000) (hdl : ds.length ≤ 1000) (h2' : ∃ a b, a ∈ ms ∧ b ∈ ms ∧ a ≠ b) {Q : Value → Shared → Prop}
    (h : ∀ o' s' t, Dtf g o' (fun k => if mn = k then some (if leftOut ms ds mn fnm then 1 else 0) else f k) (n + 1) → Fm g c m ((dI, o') :: mu) fa s' → Q (.int (if leftOut ms ds mn fnm then 1 else 0) t) s') : wpAny (MM g) A (call (.ref 156) [.ref x, .str fnm u, .str mn t]) Q E s := by
  k_dflt (refine enter_fm (mv := [(dI, oI)]) (binds := [(Str.ofString "self", .ref x), (Str.ofString "filename", .str fnm u), (Str.ofString "modulename", .str mn t)]) F (by k_is) (by k_is) R.d (BindsTo.of_eq rfl) (locs rfl) ?_ rfl rfl rfl (by decide))
  intro c' s₁ F₁ back
  obtain ⟨dx, S, Da, h1, h2, h3, t1, t2, t3, n', F₂⟩ := F₁.openIg hx
  clear F₁
  have hsl := sizeLine_eq
  have one : leftOut ms ds mn fnm = true → ∀ o' s' t', Dtf g o' (fun k => if mn = k then some 1 else f k) (n + 1) → Fm g c m ((dI, o') :: mu) fa s' → Q (.int 1 t') s' := fun e => by
    rw [e] at h
    exact h
  have zero : leftOut ms ds mn fnm = false → ∀ o' s' t', Dtf g o' (fun k => if mn = k then some 0 else f k) (n + 1) → Fm g c m ((dI, o') :: mu) fa s' → Q (.int 0 t') s' := fun e => by
    rw [e] at h
    exact h
  clear h
  repeat' k_extra "mine_mt"
  refine r_igIgnore F₂ (by k_extra "mine_at") fun s3 F3 => ?_
  repeat' k_extra "mine_mt"
  refine r_inDt F3 (by k_extra "mine_at") D low fun s4 F4 => ?_
  rw [show (f mn).isSome = false by rw [hv]; rfl]
  repeat' k_extra "mine_mt"
  refine r_igMods (by k_extra "mine_asm") (by k_extra "mine_at") fun s5 F5 => ?_
  repeat' k_extra "mine_mt"
  refine inStrSet (F5.fact (P := Ss g S ms) (by k_extra "mine_at")) ?_
  by_cases hmn : mn ∈ ms
  · rw [decide_eq_true hmn]
    repeat' k_extra "mine_mt"
    refine r_igIgnore (by k_extra "mine_asm") (by k_extra "mine_at") fun s6 F6 => ?_
    repeat' k_extra "mine_mt"
    refine r_setDt (by k_extra "mine_asm") D hn (fun _ => by k_extra "mine_tn") fun o' s7 D' F7 => ?_
    repeat' k_extra "mine_mt"
    rename Fm _ _ _ _ _ _ => F9
    exact one (by unfold leftOut; rw [decide_eq_true hmn]; rfl) _ _ _ D' (back _ [(dI, o')] [] _ _ rfl (F9.mono (by k_extra "mine_sub")))
  · rw [decide_eq_false hmn]
    repeat' k_extra "mine_mt"
    refine r_ForS (Room.deeper R _).hh rfl rfl ?_ (fun _ => rfl)
    repeat' k_extra "mine_mt"
    refine r_igMods (by k_extra "mine_asm") (by k_extra "mine_at") fun s6 F6 => ?_
    refine ⟨_, _, _, _, S, ms, fun y => Txt.startswith mn (y ++ Str.ofString ".") = true, fun m₁ mu₁ fa₁ => m₁.lookup (Str.ofString "self") = some (.ref x) ∧ m₁.lookup (Str.ofString "filename") = some (.str fnm u) ∧ m₁.lookup (Str.ofString "modulename") = some (.str mn t) ∧ mu₁ = [(dI, oI)] ∧
        fa₁ = IgA x dx (igDict h1 h2 h3 t1 t2 t3 S Da dI) n' :: Ss g S ms :: Rd (Value.ref Da) (PyData.list (List.map PyData.str ds)) :: fa, rfl, rfl, F6, by k_extra "mine_at", h2', hml, ⟨rfl, rfl, rfl, rfl, rfl⟩, ?_, ?_⟩
    · rintro y ty m₁ mu₁ fa₁ I oT RR s₂ hy ⟨l1, l2, l3, rfl, rfl⟩ F7
      have hyl := hms y hy
      repeat' k_extra "mine_mt"
      case zz => rw [show (Str.ofString ".").length = 1 from rfl]; omega
      cases hst : Txt.startswith mn (y ++ Str.ofString ".") with
      | true =>
        repeat' k_extra "mine_mt"
        refine r_igIgnore (by k_extra "mine_asm") (by k_extra "mine_at") fun s6 F6 => ?_
        repeat' k_extra "mine_mt"
        refine r_setDt (by k_extra "mine_asm") D hn (fun _ => by k_extra "mine_tn") fun o' s7 D' F7 => ?_
        repeat' k_extra "mine_mt"
        rename Fm _ _ _ _ _ _ => F9
        refine one ?_ _ _ _ D' (back _ [(dI, o')] [(I, oT)] _ _ rfl ((F9.perm (List.Perm.swap _ _ _)).mono (by k_extra "mine_sub")))
        unfold leftOut
        rw [List.any_eq_true.mpr ⟨y, hy, hst⟩]
        simp
      | false =>
        repeat' k_extra "mine_mt"
        rename Fm _ _ _ _ _ _ => F9
        refine' ⟨by simp, _, _, _, ⟨?qa, ?qb, ?qc, rfl, rfl⟩, F9⟩
        case qa => exact l1
        case qb => exact l2
        case qc => exact l3
    · rintro m₁ mu₁ fa₁ s₂ ⟨l1, l2, l3, rfl, rfl⟩ hno F7
      repeat' k_extra "mine_mt"
      k_extra "mine_for"
      repeat' k_extra "mine_mt"
      refine r_igDirs (by k_extra "mine_asm") (by k_extra "mine_at") fun s6 F6 => ?_
      refine forAt_data PyData.str ds (fun i m₁ mu₁ fa₁ => m₁.lookup (Str.ofString "self") = some (.ref x) ∧ m₁.lookup (Str.ofString "filename") = some (.str fnm u) ∧ m₁.lookup (Str.ofString "modulename") = some (.str mn t) ∧ mu₁ = [(dI, oI)] ∧
        fa₁ = IgA x dx (igDict h1 h2 h3 t1 t2 t3 S Da dI) n' :: Ss g S ms :: Rd (Value.ref Da) (PyData.list (List.map PyData.str ds)) :: fa ∧ ∀ d ∈ ds.take i, Txt.startswith fnm (d ++ Str.ofString "/") = false) F6 (by k_extra "mine_at") rfl (by omega) ⟨l1, l2, l3, rfl, rfl, (fun _ h => nomatch h)⟩ ?_ ?_
      · rintro i d v m₁ mu₁ fa₁ RR I oT s₂ hd ⟨l1, l2, l3, rfl, rfl, hpast⟩ F7
        obtain ⟨td, rfl⟩ := rd_str (F7.fact (P := Rd v (PyData.str d)) (.head _))
        have hdm := List.mem_of_getElem? hd
        have hdl := hds d hdm
        repeat' k_extra "mine_mt"
        case zz => rw [show (Str.ofString "/").length = 1 from rfl]; omega
        cases hst : Txt.startswith fnm (d ++ Str.ofString "/") with
        | true =>
          repeat' k_extra "mine_mt"
          refine r_igIgnore (by k_extra "mine_asm") (by k_extra "mine_at") fun s6 F6 => ?_
          repeat' k_extra "mine_mt"
          refine r_setDt (by k_extra "mine_asm") D hn (fun _ => by k_extra "mine_tn") fun o' s7 D' F7 => ?_
          repeat' k_extra "mine_mt"
          rename Fm _ _ _ _ _ _ => F9
          refine one ?_ _ _ _ D' (back _ [(dI, o')] [(I, oT)] _ _ rfl ((F9.perm (List.Perm.swap _ _ _)).mono (by k_extra "mine_sub")))
          unfold leftOut
          have e : ds.any (fun d => Txt.startswith fnm (d ++ Str.ofString "/")) = true := List.any_eq_true.mpr ⟨d, hdm, hst⟩
          rw [e]
          simp
        | false =>
          k_extra "mine_mt"
          k_extra "mine_mt"
          k_extra "mine_mt"
          rename Fm _ _ _ _ _ _ => F9
          refine' ⟨_, _, _, ⟨?qa, ?qb, ?qc, rfl, rfl, ?qd⟩, F9.mono (by k_extra "mine_sub")⟩
          case qa => exact l1
          case qb => exact l2
          case qc => exact l3
          rw [List.take_add_one, hd]
          intro d' hd'
          rcases List.mem_append.mp hd' with h | h
          · exact hpast d' h
          · simp only [Option.toList_some, List.mem_singleton] at h
            rw [h]
            exact hst
      · rintro m₁ mu₁ fa₁ s₂ ⟨l1, l2, l3, rfl, rfl, hpast⟩ F7
        rw [List.take_length] at hpast
        repeat' k_extra "mine_mt"
        refine r_igIgnore (by k_extra "mine_asm") (by k_extra "mine_at") fun s6 F6 => ?_
        repeat' k_extra "mine_mt"
        refine r_setDt (by k_extra "mine_asm") D hn (fun _ => by k_extra "mine_tn") fun o' s7 D' F7 => ?_
        repeat' k_extra "mine_mt"
        rename Fm _ _ _ _ _ _ => F9
        refine zero ?_ _ _ _ D' (back _ [(dI, o')] [] _ _ rfl (F9.mono (by k_extra "mine_sub")))
        unfold leftOut
        rw [decide_eq_false hmn, Bool.false_or, Bool.or_eq_false_iff]
        exact ⟨List.any_eq_false.mpr hno, List.any_eq_false.mpr fun d hd => by rw [hpast d hd]; simp⟩
end
end
-- Pu2
section
/-- a row's file and module -/
noncomputable def fileS (r : List Str) : Str := joinS (Str.ofString "/") (r ++ [Str.ofString "f.py"])
noncomputable def modS (r : List Str) : Str := Txt.join (Str.ofString ".") (r ++ [Str.ofString "f"])
noncomputable def strOk (n : Nat) (r : List Str) : Bool := r.length ≤ 3 && ((r.map fun p => p.length + 1).sum ≤ n)
theorem rows_ok : ∀ r ∈ allRows, strOk 9 r = true := by decide +kernel
theorem rows_nodup : (allRows.map modS).Nodup := by decide +kernel
theorem files_len : ∀ r ∈ allRows, (fileS r).length ≤ 100 := by decide +kernel
theorem mods_ne : ∀ r ∈ allRows, Str.ofString "<string>" ≠ modS r := by decide +kernel
theorem nodup_map_inj {α β : Type} {f : α → β} : ∀ {l : List α}, (l.map f).Nodup → ∀ a ∈ l, ∀ b ∈ l, f a = f b → a = b
  | x :: l, h, a, ha, b, hb, e => by
    rw [List.map_cons, List.nodup_cons] at h
    rcases List.mem_cons.mp ha with ha' | ha'
    · rcases List.mem_cons.mp hb with hb' | hb'
      · rw [ha', hb']
      · exact absurd (ha' ▸ e ▸ List.mem_map_of_mem (f := f) hb') h.1
    · rcases List.mem_cons.mp hb with hb' | hb'
      · exact absurd (hb' ▸ e ▸ List.mem_map_of_mem (f := f) ha') h.1
      · exact nodup_map_inj h.2 a ha' b hb' e
theorem modS_inj {a b : List Str} (ha : a ∈ allRows) (hb : b ∈ allRows) (e : modS a = modS b) : a = b := nodup_map_inj rows_nodup a ha b hb e
theorem rows_small {r : List Str} (h : r ∈ allRows) : r.length ≤ 3 ∧ (r.map fun p => p.length + 1).sum ≤ 9 := by
  have := rows_ok r h
  unfold strOk at this
  simpa using this
/-- what a reader keeps -/
noncomputable def keptOf (ms ds : List Str) (rows : List (List Str)) : List (List Str) := rows.filter fun r => !leftOut ms ds (modS r) (fileS r)
end
-- C8
section
section
variable {g : Gb} {c : Cx} {m : LM} {mu : Led} {fa : List Fact} {s : Shared} {A : Around} {E : Value → Shared → Prop} {k : Nat}
theorem join_row (R : Room A (k + 2)) (F : Fm g c m mu fa s) {row : List Str} (hrow : row ∈ allRows) {vs : List Value} (hvs : RdAll vs (row.map PyData.str) ∈ fa) {t u : Tok} {Q : Value → Shared → Prop} (h : ∀ t s', Fm g c m mu fa s' → Q (.str (fileS row) t) s') :
    wpAny (MM g) A (call (.ref 184) (.str (Str.ofString "/") t :: (vs ++ [.str (Str.ofString "f.py") u]))) Q E s := by
  have hv := F.fact hvs
  have hl : vs.length = row.length := by simpa using hv.length
  obtain ⟨h1, h2⟩ := rows_small hrow
  refine join_call (xs := row ++ [Str.ofString "f.py"]) R F ?_ ?_ ?_ h
  · rw [List.map_append]
    exact rdAll_append hv (RdAll.cons Rd.str RdAll.nil)
  · rw [List.length_append, List.length_singleton]; omega
  · rw [List.map_append, List.sum_append]
    have e1 : (Str.ofString "/").length = 1 := rfl
    have e2 : ([Str.ofString "f.py"].map fun p => p.length + 1).sum = 5 := rfl
    omega
theorem mod_sum {row : List Str} (hrow : row ∈ allRows) : ((row ++ [Str.ofString "f"]).map (·.length)).sum + (row ++ [Str.ofString "f"]).length * (Str.ofString ".").length ≤ 16777216 := by
  obtain ⟨h1, h2⟩ := rows_small hrow
  have h3 : ∀ l : List Str, (l.map (·.length)).sum ≤ (l.map fun p => p.length + 1).sum := fun l => by
    induction l with
    | nil => simp
    | cons a l ih => simp only [List.map_cons, List.sum_cons]; omega
  have h4 := h3 row
  have e1 : (Str.ofString ".").length = 1 := rfl
  have e2 : ([Str.ofString "f"].map (·.length)).sum = 1 := rfl
  rw [List.map_append, List.sum_append, List.length_append, List.length_singleton, e1, e2]
  omega
theorem names_missV (R : Room A (k + 2)) {x dI : Addr} {oI : Obj} {f : Str → Option Int} {n : Nat} {ms ds : List Str} (F : Fm g c m ((dI, oI) :: mu) fa s) (hx : IgO g x dI ms ds ∈ fa) (D : Dtf g oI f n) (hn : n ≤ 1000) (low : (dI == sysModules) = false) {fnm mn : Str} {t u : Tok} (hv : f mn = none)
    (hms : ∀ y ∈ ms, y.length ≤ 1000) (hds : ∀ y ∈ ds, y.length ≤ 1000) (hml : ms.length ≤ 1000) (hdl : ds.length ≤ 1000) (h2 : ∃ a b, a ∈ ms ∧ b ∈ ms ∧ a ≠ b) {v : Int} (hvv : (if leftOut ms ds mn fnm then 1 else 0) = v) {Q : Value → Shared → Prop}
    (h : ∀ o' s' t, Dtf g o' (fun k => if mn = k then some v else f k) (n + 1) → Fm g c m ((dI, o') :: mu) fa s' → Q (.int v t) s') : wpAny (MM g) A (call (.ref 156) [.ref x, .str fnm u, .str mn t]) Q E s := by
  subst hvv
  exact names_miss R F hx D hn low hv hms hds hml hdl h2 h
theorem nodup_take {α : Type} : ∀ {l : List α} {i : Nat} {a : α}, l.Nodup → l[i]? = some a → a ∉ l.take i
  | x :: l, 0, a, _, _ => by simp
  | x :: l, i + 1, a, h, e => by
    rw [List.nodup_cons] at h
    rw [List.getElem?_cons_succ] at e
    rw [List.take_succ_cons, List.mem_cons, not_or]
    exact ⟨fun q => h.1 (q ▸ List.mem_of_getElem? e), nodup_take h.2 e⟩
inductive KeptJ (g : Gb) (x dI aK aA : Addr) (vr : Value) (ms ds : List Str) (rows : List (List Str)) (fa : List Fact) (i : Nat) (m₁ : LM) (mu₁ : Led) (fa₁ : List Fact) : Prop where
  | mk (h0 : m₁.lookup (Str.ofString "reader") = some (.ref x)) (h1 : m₁.lookup (Str.ofString "kept") = some (.ref aK)) (h2 : m₁.lookup (Str.ofString "again") = some (.ref aA)) (ks us : List Value) (nk nu : Nat) (oI : Obj) (f : Str → Option Int) (h3 : mu₁ = [(aA, listOf us.toArray nu), (aK, listOf ks.toArray nk), (dI, oI)]) (h4 : Dtf g oI f (i + 1)) (h5 : (∀ k, f k ≠ none → k = Str.ofString "<string>" ∨ ∃ r ∈ rows.take i, k = modS r)) (h6 : fa₁ = RdAll ks ((keptOf ms ds (rows.take i)).map fun r => PyData.str (fileS r)) :: RdAll us (List.replicate i (PyData.bool true)) :: fa) : KeptJ g x dI aK aA vr ms ds rows fa i m₁ mu₁ fa₁

theorem keptJ_next {x dI aK aA I : Addr} {vr : Value} {ms ds : List Str} {rows : List (List Str)} {i : Nat} {row : List Str} {m₂ : LM} {us ks' : List Value} {nu nk : Nat} {o' oT : Obj} {f : Str → Option Int} {vv : Int} {fa₃ : List Fact} {RR : Fact} (ha : rows[i]? = some row)
    (F : Fm g c m₂ [(I, oT), (aA, listOf (us ++ [Value.bool true]).toArray nu), (aK, listOf ks'.toArray nk), (dI, o')] fa₃ s) (l1 : m₂.lookup (Str.ofString "reader") = some (.ref x)) (l2 : m₂.lookup (Str.ofString "kept") = some (.ref aK)) (l3 : m₂.lookup (Str.ofString "again") = some (.ref aA))
    (D : Dtf g o' (fun k => if modS row = k then some vv else f k) (i + 1 + 1)) (hf : ∀ k, f k ≠ none → k = Str.ofString "<string>" ∨ ∃ r ∈ rows.take i, k = modS r)
    (hks : RdAll ks' ((keptOf ms ds (rows.take (i + 1))).map fun r => PyData.str (fileS r)) ∈ fa₃) (hus : RdAll us (List.replicate i (PyData.bool true)) ∈ fa₃) (hR : RR ∈ fa₃) (hfa : ∀ P ∈ fa, P ∈ fa₃) :
    ∃ m₂ mu₂ fa₂, KeptJ g x dI aK aA vr ms ds rows fa (i + 1) m₂ mu₂ fa₂ ∧ Fm g c m₂ ((I, oT) :: mu₂) (RR :: fa₂) s := by
  have e : rows.take (i + 1) = rows.take i ++ [row] := by rw [List.take_add_one, ha]; rfl
  refine ⟨m₂, _, _, ⟨l1, l2, l3, ks', us ++ [.bool true], nk, nu, o', _, rfl, D, fun k hk => ?_, rfl⟩, (F.more (P := RdAll (us ++ [.bool true]) (List.replicate (i + 1) (PyData.bool true))) RdAll.mono fun hk q => ?_).mono fun P hP => ?_⟩
  · by_cases h : modS row = k
    · exact .inr ⟨row, by rw [e]; simp, h.symm⟩
    · rw [if_neg h] at hk
      rcases hf k hk with h | ⟨r, hr, h⟩
      · exact .inl h
      · exact .inr ⟨r, by rw [e]; exact List.mem_append_left _ hr, h⟩
  · rw [List.replicate_succ']
    exact RdAll.snoc (d := .bool true) Rd.bool (q _ hus)
  · rcases List.mem_cons.mp hP with rfl | hP
    · exact .tail _ hR
    rcases List.mem_cons.mp hP with rfl | hP
    · exact .tail _ hks
    rcases List.mem_cons.mp hP with rfl | hP
    · exact .head _
    · exact .tail _ (hfa P hP)
theorem keptOf_snoc {ms ds : List Str} {rows : List (List Str)} {i : Nat} {row : List Str} (ha : rows[i]? = some row) : keptOf ms ds (rows.take (i + 1)) = keptOf ms ds (rows.take i) ++ (if leftOut ms ds (modS row) (fileS row) then [] else [row]) := by
  unfold keptOf
  rw [List.take_add_one, ha, List.filter_append]
  congr 1
  cases h : leftOut ms ds (modS row) (fileS row) <;> simp [h]
theorem kept_call (R : Room A (k + 4)) {x dI : Addr} {oI : Obj} {ms ds : List Str} (F : Fm g c m ((dI, oI) :: mu) fa s) (hx : IgO g x dI ms ds ∈ fa) (D : Dtf g oI (fun k => if Str.ofString "<string>" = k then some 1 else none) 1) (low : (dI == sysModules) = false)
    (hms : ∀ y ∈ ms, y.length ≤ 1000) (hds : ∀ y ∈ ds, y.length ≤ 1000) (hml : ms.length ≤ 1000) (hdl : ds.length ≤ 1000) (h2' : ∃ a b, a ∈ ms ∧ b ∈ ms ∧ a ≠ b)
    {vr : Value} {rows : List (List Str)} (hr : Rd vr (.list (rows.map rowP)) ∈ fa) (hrl : rows.length ≤ 900) (hra : ∀ r ∈ rows, r ∈ allRows) (hrn : rows.Nodup) {Q : Value → Shared → Prop}
    (h : ∀ r s', Fm g c m mu (Rd r (.list [.list ((keptOf ms ds rows).map fun r => PyData.str (fileS r)), .list (List.replicate rows.length (.bool true))]) :: fa) s' → Q r s') : wpAny (MM g) A (call (.ref 210) [.ref x, vr]) Q E s := by
  obtain ⟨ar, rfl⟩ := rd_ref (F.fact hr)
  have hr' : List.Mem _ _ := hr
  have hx' : List.Mem _ _ := hx
  k_dflt (refine enter_fm (mv := [(dI, oI)]) (binds := [(Str.ofString "reader", .ref x), (Str.ofString "rows", .ref ar)]) F (by k_is) (by k_is) R.d (BindsTo.of_eq rfl) (locs rfl) ?_ rfl rfl rfl (by decide))
  intro c' s₁ F₁ back
  have hsl := sizeLine_eq
  repeat' k_extra "mine_mt"
  k_extra "mine_for"
  repeat' k_extra "mine_mt"
  rename Fm _ _ _ _ _ _ => F2
  have F3 := (F2.more (P := RdAll [] []) RdAll.mono fun _ _ => RdAll.nil).more (P := RdAll [] []) RdAll.mono fun _ _ => RdAll.nil
  refine forAt_data rowP rows (KeptJ g x dI _ _ (.ref ar) ms ds rows fa) (F3.mono (fa' := RdAll [] [] :: RdAll [] [] :: fa) (by k_extra "mine_sub")) (.tail _ (.tail _ hr)) rfl (by omega)
    ⟨rfl, rfl, rfl, [], [], 0, 0, oI, _, rfl, D, ?_, rfl⟩ ?_ ?_
  · intro k hk
    by_cases e : Str.ofString "<string>" = k
    · exact .inl e.symm
    · rw [if_neg e] at hk; exact absurd rfl hk
  · rintro i row v m₁ mu₁ fa₁ RR I oT s₂ ha ⟨l1, l2, l3, ks, us, nk, nu, oI', f, rfl, D', hf, rfl⟩ F4
    have hrow : row ∈ allRows := hra row (List.mem_of_getElem? ha)
    have hix : List.Mem (IgO g x dI ms ds) fa := hx
    obtain ⟨hsm1, hsm2⟩ := rows_small hrow
    change Fm g c' _ _ (Rd v (.list (row.map PyData.str)) :: _) _ at F4
    repeat' k_extra "mine_mt"
    refine r_igNames (by k_extra "mine_asm") (by k_extra "mine_at") ?_
    repeat' k_extra "mine_mt"
    refine ⟨_, _, _, _, row.map PyData.str, (by k_extra "mine_asm"), (by k_extra "mine_at"), by rw [List.length_map]; omega, fun vs s5 _ F5 => ?_⟩
    repeat' k_extra "mine_mt"
    refine join_row (Room.deeper R _) (by k_extra "mine_asm") hrow (by k_extra "mine_at") fun t6 s6 F6 => ?_
    repeat' k_extra "mine_mt"
    refine r_addD (ds := row.map PyData.str) (es := [PyData.str (Str.ofString "f")]) (by k_extra "mine_asm") (by k_extra "mine_at") (by k_extra "mine_at") (by rw [List.length_map, List.length_singleton]; omega) fun a7 s7 F7 => ?_
    rw [show row.map PyData.str ++ [PyData.str (Str.ofString "f")] = (row ++ [Str.ofString "f"]).map PyData.str from by rw [List.map_append]; rfl] at F7
    repeat' k_extra "mine_mt"
    refine r_joinD (ys := row ++ [Str.ofString "f"]) (by k_extra "mine_asm") (by k_extra "mine_at") (fun t8 s8 F8 => ?_) (mod_sum hrow)
    repeat' k_extra "mine_mt"
    rename Fm _ _ _ _ _ _ => F9
    have hnew : f (modS row) = none := by
      cases e : f (modS row) with
      | none => rfl
      | some z =>
        rcases hf (modS row) (by rw [e]; exact Option.some_ne_none z) with q | ⟨r, hr, q⟩
        · exact absurd q.symm (mods_ne row hrow)
        · have : row = r := modS_inj hrow (hra r (List.mem_of_mem_take hr)) q
          exact absurd (this ▸ hr) (nodup_take hrn ha)
    have hi : i < rows.length := (List.getElem?_eq_some_iff.mp ha).1
    generalize hvv : (if leftOut ms ds (modS row) (fileS row) then (1 : Int) else 0) = vv
    refine names_missV (Room.deeper R _) (F9.perm (mu' := (dI, oI') :: [_, _, _]) (List.perm_append_comm (l₁ := [_]) (l₂ := [_, _, _]))) (by k_extra "mine_at") D' (by omega) low hnew hms hds hml hdl h2' hvv fun o' s9 t9 D9 F9 => ?_
    repeat' k_extra "mine_mt"
    cases hlo : leftOut ms ds (modS row) (fileS row) with
    | true =>
      rw [hlo, if_pos rfl] at hvv
      subst hvv
      rw [show ((1 : Int) == 0) = false from rfl]
      repeat' k_extra "mine_mt"
      refine r_igNames (by k_extra "mine_asm") (by k_extra "mine_at") ?_
      repeat' k_extra "mine_mt"
      refine r_newList (by k_extra "mine_asm") (fun aN s10 F10 => ?_) (Nat.le_of_ble_eq_true rfl)
      repeat' k_extra "mine_mt"
      refine r_item (Fm.isListMu (n := 0) (by k_extra "mine_asm") (by k_extra "mine_at")) (by decide) (by decide) rfl ?_ (by with_unfolding_all rfl)
      repeat' k_extra "mine_mt"
      refine r_addD (ds := row.map PyData.str) (es := [PyData.str (Str.ofString "f")]) (by k_extra "mine_asm") (by k_extra "mine_at") (by k_extra "mine_at") (by rw [List.length_map, List.length_singleton]; omega) fun a7 s7 F7 => ?_
      rw [show row.map PyData.str ++ [PyData.str (Str.ofString "f")] = (row ++ [Str.ofString "f"]).map PyData.str from by rw [List.map_append]; rfl] at F7
      repeat' k_extra "mine_mt"
      refine r_joinD (ys := row ++ [Str.ofString "f"]) (by k_extra "mine_asm") (by k_extra "mine_at") (fun t8 s8 F8 => ?_) (mod_sum hrow)
      repeat' k_extra "mine_mt"
      rename Fm _ _ _ _ _ _ => F11
      refine names_hit (Room.deeper R _) (F11.perm (mu' := (dI, o') :: (aN, _) :: _) (List.Perm.swap _ _ _)) (by k_extra "mine_at") D9 low (if_pos rfl) fun s12 t12 F12 => ?_
      repeat' k_extra "mine_mt"
      case z3 =>
        have e1 : us.length = _ := (F4.fact (P := RdAll us _) (by k_extra "mine_at")).length
        rw [List.length_replicate] at e1
        omega
      rename Fm _ _ _ _ _ _ => F14
      have F15 := (F14.drop (mu' := [(dI, o'), (I, oT), (_, _), (_, _)]) (.cons_cons _ (.cons _ (List.Sublist.refl _)))).perm (mu' := [(I, oT), (_, _), (_, _), (dI, o')]) (List.perm_append_comm (l₁ := [_, _, _]) (l₂ := [_]))
      refine keptJ_next (ks' := ks) (us := us) (nu := nu + 1) (nk := nk) (o' := o') ha F15 l1 l2 l3 D9 hf ?_ (by k_extra "mine_at") (by k_extra "mine_at") (by k_extra "mine_sub")
      rw [keptOf_snoc ha, hlo, if_pos rfl, List.append_nil]
      k_extra "mine_at"
    | false =>
      rw [hlo, if_neg Bool.false_ne_true] at hvv
      subst hvv
      rw [show ((0 : Int) == 0) = true from rfl]
      repeat' k_extra "mine_mt"
      refine ⟨_, _, _, _, row.map PyData.str, (by k_extra "mine_asm"), (by k_extra "mine_at"), by rw [List.length_map]; omega, fun vs2 s15 _ F15 => ?_⟩
      repeat' k_extra "mine_mt"
      refine join_row (Room.deeper R _) (by k_extra "mine_asm") hrow (by k_extra "mine_at") fun t16 s16 F16 => ?_
      repeat' k_extra "mine_mt"
      case z3 =>
        have e1 : ks.length = _ := (F4.fact (P := RdAll ks _) (by k_extra "mine_at")).length
        rw [List.length_map] at e1
        have e2 : (keptOf ms ds (rows.take i)).length ≤ (rows.take i).length := List.length_filter_le _ _
        rw [List.length_take] at e2
        omega
      refine r_igNames (by k_extra "mine_asm") (by k_extra "mine_at") ?_
      repeat' k_extra "mine_mt"
      refine r_newList (by k_extra "mine_asm") (fun aN s10 F10 => ?_) (Nat.le_of_ble_eq_true rfl)
      repeat' k_extra "mine_mt"
      refine r_item (Fm.isListMu (n := 0) (by k_extra "mine_asm") (by k_extra "mine_at")) (by decide) (by decide) rfl ?_ (by with_unfolding_all rfl)
      repeat' k_extra "mine_mt"
      refine r_addD (ds := row.map PyData.str) (es := [PyData.str (Str.ofString "f")]) (by k_extra "mine_asm") (by k_extra "mine_at") (by k_extra "mine_at") (by rw [List.length_map, List.length_singleton]; omega) fun a7 s7 F7 => ?_
      rw [show row.map PyData.str ++ [PyData.str (Str.ofString "f")] = (row ++ [Str.ofString "f"]).map PyData.str from by rw [List.map_append]; rfl] at F7
      repeat' k_extra "mine_mt"
      refine r_joinD (ys := row ++ [Str.ofString "f"]) (by k_extra "mine_asm") (by k_extra "mine_at") (fun t8 s8 F8 => ?_) (mod_sum hrow)
      repeat' k_extra "mine_mt"
      rename Fm _ _ _ _ _ _ => F11
      refine names_hit (Room.deeper R _) (F11.perm (mu' := (dI, o') :: (aN, _) :: _) (List.Perm.swap _ _ _)) (by k_extra "mine_at") D9 low (if_pos rfl) fun s12 t12 F12 => ?_
      repeat' k_extra "mine_mt"
      case z3 =>
        have e1 : us.length = _ := (F4.fact (P := RdAll us _) (by k_extra "mine_at")).length
        rw [List.length_replicate] at e1
        omega
      rename Fm _ _ _ _ _ _ => F14
      rw [show ((0 : Int) == 0) = true from rfl] at F14
      have F15 := (F14.drop (mu' := [(dI, o'), (I, oT), (_, _), (_, _)]) (.cons_cons _ (.cons _ (List.Sublist.refl _)))).perm (mu' := [(I, oT), (_, _), (_, _), (dI, o')]) (List.perm_append_comm (l₁ := [_, _, _]) (l₂ := [_]))
      have F16 := F15.more (P := RdAll (ks ++ [.str (fileS row) t16]) ((keptOf ms ds (rows.take (i + 1))).map fun r => PyData.str (fileS r))) RdAll.mono fun hk q => by
        rw [keptOf_snoc ha, hlo, if_neg Bool.false_ne_true, List.map_append]
        exact RdAll.snoc (d := .str (fileS row)) Rd.str (q (RdAll ks _) (by k_extra "mine_at"))
      refine keptJ_next (m₂ := (Str.ofString "told", .int 0 t9) :: (Str.ofString "row", v) :: m₁) (ks' := ks ++ [.str (fileS row) t16]) (us := us) (nu := nu + 1) (nk := nk + 1) (o' := o') ha F16 l1 l2 l3 D9 hf ?_ ?_ ?_ ?_
      · k_extra "mine_at"
      · k_extra "mine_at"
      · k_extra "mine_at"
      · k_extra "mine_sub"
  · rintro m₁ mu₁ fa₁ s₂ ⟨l1, l2, l3, ks, us, nk, nu, oI', f, rfl, D', hf, rfl⟩ F4
    rw [List.take_length] at F4
    have F5 := (F4.freeze (P := Rd (.ref _) (.list (List.replicate rows.length (PyData.bool true)))) Rd.mono fun hk e q => Rd.list e (q _ (.tail _ (.head _)))).freeze (P := Rd (.ref _) (.list ((keptOf ms ds rows).map fun r => PyData.str (fileS r)))) Rd.mono fun hk e q => Rd.list e (q _ (.tail _ (.head _)))
    dsimp only
    repeat' k_extra "mine_mt"
    rename Fm _ _ _ _ _ _ => F9
    exact h _ _ ((back _ [(dI, oI')] [] _ _ rfl (F9.mono (by k_extra "mine_sub"))).drop (List.sublist_cons_self _ _))
end
end
-- F13
section
section
variable {g : Gb} {c : Cx} {m : LM} {mu mu' : Led} {hk : Heap} {fa : List Fact} {s s' : Shared} {A : Around} {E : Value → Shared → Prop} {k : Nat} {env : Env}
noncomputable def isDictO (o : Obj) : Prop := ∃ es n, o.data = .dict es n
/-- a new frame is opened; the caller's own frame is handed on with the rest -/
theorem Fm.openH {mv : Led} (F : Fm g c m (mv ++ mu) fa s) : ∃ (hb : Heap) (kn : Heap) (oL : Obj), isDictO oL ∧
    (∀ (h₁ : Heap) (tk : Nat) (m₁ : LM) (more : Led), h₁.Ns s.heap.objs.size (mapOf m₁) → Gr s.heap h₁ → (∀ p ∈ more, h₁.get? p.1 = some p.2 ∧ s.heap.objs.size < p.1) → (more.map (·.1)).Nodup →
      Fm g ⟨hb, kn, s.heap.objs.size, s⟩ m₁ (more ++ (c.L, oL) :: mv) fa { s with heap := h₁, toks := tk }) ∧
    ∀ m'' oL' mv' rest fa'' s'', mv'.map (·.1) = mv.map (·.1) → oL'.data = oL.data → Fm g ⟨hb, kn, s.heap.objs.size, s⟩ m'' ((c.L, oL') :: (mv' ++ rest)) fa'' s'' → Fm g c m (mv' ++ mu) fa'' s'' := by
  obtain ⟨hkn, F, q⟩ := F
  obtain ⟨n1, n2, n3, n4⟩ := F.size_none
  obtain ⟨oL, es, ep, hoL, hdL, _⟩ := id F.ns
  have nm : ∀ b, b ∈ mv.map (·.1) → c.hb.get? b = none ∧ hkn.get? b = none := fun b hb => by
    obtain ⟨p, hp, rfl⟩ := List.mem_map.mp hb
    exact (F.mus p (List.mem_append_left _ hp)).2.2
  have nm' : ∀ b, b ∈ c.L :: mv.map (·.1) → c.hb.get? b = none ∧ hkn.get? b = none := fun b hb => by
    rcases List.mem_cons.mp hb with rfl | hb
    · exact ⟨F.hbL, F.kL⟩
    · exact nm b hb
  have nL : c.L ∉ mv.map (·.1) := fun z => by
    obtain ⟨p, hp, e⟩ := List.mem_map.mp z
    exact (F.mus p (List.mem_append_left _ hp)).2.1 e
  have nd := F.nd
  rw [List.map_append, List.nodup_append] at nd
  have big : ∀ (a : Addr) (h : Heap), s.heap.objs.size < a → Gr h s.heap → h.get? a = none := fun a h ha kk => by
    cases z : h.get? a with
    | none => rfl
    | some o => exact absurd (Nat.lt_trans (Heap.lt_size (kk a o z)) ha) (Nat.lt_irrefl _)
  have lt : ∀ b ∈ c.L :: mv.map (·.1), b < s.heap.objs.size := fun b hb => by
    rcases List.mem_cons.mp hb with rfl | hb
    · exact Heap.lt_size hoL
    · obtain ⟨p, hp, rfl⟩ := List.mem_map.mp hb
      exact Heap.lt_size (F.mus p (List.mem_append_left _ hp)).1
  have up : Gr c.hb (hideAll s.heap (c.L :: mv.map (·.1))) := fun b o e => hideAll_get _ (F.keep b o e) fun z => by rw [(nm' b z).1] at e; cases e
  refine ⟨hideAll s.heap (c.L :: mv.map (·.1)), hkn, oL, ⟨_, _, hdL⟩, fun h₁ tk m₁ more hns hk₁ hmore hmnd => ?_, ?_⟩
  · refine ⟨hkn, ⟨hns, fun b o e => hk₁ b o (of_hideAll _ e), Nat.le_of_eq (hideAll_size _ _), Gr.rfl', F.kh.trans hk₁, fun _ _ e => .inl e, n2,
      fun b o e => hideAll_get _ (F.kh b o e) (fun z => by rw [(nm' b z).2] at e; cases e), fun p hp => ?_, ?_, F.wd.keeps up, rfl, rfl⟩, q⟩
    · rcases List.mem_append.mp hp with hp | hp
      · obtain ⟨e1, e2⟩ := hmore p hp
        exact ⟨e1, Nat.ne_of_gt e2, big _ _ e2 fun b o e => of_hideAll _ e, big _ _ e2 F.kh⟩
      rcases List.mem_cons.mp hp with rfl | hp
      · exact ⟨hk₁ _ _ hoL, fun e => n3 e.symm, hideAll_none _ (.head _), F.kL⟩
      · have z := F.mus p (List.mem_append_left _ hp)
        exact ⟨hk₁ _ _ z.1, n4 p (List.mem_append_left _ hp), hideAll_none _ (.tail _ (List.mem_map_of_mem hp)), z.2.2.2⟩
    · rw [List.map_append, List.nodup_append, List.map_cons, List.nodup_cons]
      refine ⟨hmnd, ⟨nL, nd.1⟩, fun a ha b hb e => ?_⟩
      obtain ⟨p, hp, rfl⟩ := List.mem_map.mp ha
      exact absurd (lt b hb) (Nat.not_lt.mpr (Nat.le_of_lt (e ▸ (hmore p hp).2)))
  · rintro m'' oL' mv' rest fa'' s₃ hmv hdL' ⟨hk2, F2, q2⟩
    have keepS : ∀ b o, b ∉ c.L :: mv.map (·.1) → s.heap.get? b = some o → s₃.heap.get? b = some o := fun b o hb e => F2.keep b o (hideAll_get _ e hb)
    have kf2 : ∀ b, b ∉ c.L :: mv.map (·.1) → hkn.get? b = none → (∃ o, s.heap.get? b = some o) → hk2.get? b = none := fun b hb e ⟨o, e'⟩ => by
      cases z : hk2.get? b with
      | none => rfl
      | some o2 =>
        rcases F2.kf b o2 z with y | y
        · dsimp only at y; rw [e] at y; cases y
        · rw [hideAll_get _ e' hb] at y; cases y
    have zL := F2.mus (c.L, oL') (.head _)
    have ns3 : s₃.heap.Ns c.L (mapOf m) := by
      obtain ⟨o, es, ep, a, b, r⟩ := F.ns
      rw [hoL] at a
      cases a
      exact ⟨oL', es, ep, zL.1, hdL'.trans b, r⟩
    refine ⟨hk2, ⟨ns3, fun b o e => F2.keep b o (up b o e), F.above, F.kk.trans F2.kk, F2.kh, fun b o e => ?_, zL.2.2.2, F.kb, fun p hp => ?_, ?_, F.wd, ?_, ?_⟩, q2⟩
    · rcases F2.kf b o e with y | y
      · exact F.kf b o y
      · refine .inr ?_
        cases z : c.hb.get? b with
        | none => rfl
        | some o2 => rw [up b o2 z] at y; cases y
    · rcases List.mem_append.mp hp with hp | hp
      · have z := F2.mus p (.tail _ (List.mem_append_left _ hp))
        have hm : p.1 ∈ mv.map (·.1) := hmv ▸ List.mem_map_of_mem hp
        exact ⟨z.1, fun e => nL (e ▸ hm), (nm _ hm).1, z.2.2.2⟩
      · have z := F.mus p (List.mem_append_right _ hp)
        have nb : p.1 ∉ c.L :: mv.map (·.1) := fun y => by
          rcases List.mem_cons.mp y with y | y
          · exact z.2.1 y
          · exact nd.2.2 _ y _ (List.mem_map_of_mem hp) rfl
        exact ⟨keepS _ _ nb z.1, z.2.1, z.2.2.1, kf2 _ nb z.2.2.2 ⟨_, z.1⟩⟩
    · rw [List.map_append, hmv, ← List.map_append]
      exact F.nd
    · exact F2.gens.trans F.gens
    · exact F2.os.trans F.os

/-- entering a def, the caller's frame handed on -/
theorem enter_fmH {mv : Led} (F : Fm g c m (mv ++ mu) fa s) {Q : Value → Shared → Prop} {name qual : Str} {params : Arguments} {body : List Stmt} {scope : Scope} {dV kV doc pm cdv ct oc : Value} {an od : Option Addr} {osl : Array (Option Value)} {f : Addr} {vs : List Value} {kw : List (Str × Value)} {binds : List (Str × Value)}
    (ho : (hd.heap_1 g.w.params).lookup f = some ⟨oc, od, .func (fnOf name qual params body scope dV kV doc pm an cdv ct), osl⟩) (hcd : codeIn (hd.heap_1 g.w.params) cdv qual = true) (hroom : A.depth < recursionLimit)
    (hbind : BindsTo s (fnOf name qual params body scope dV kV doc pm an cdv ct) ⟨vs, kw⟩ binds) (hloc : ∀ y ∈ binds, scope.names.lookup y.1 = some .local)
    (h : ∀ c' s₁ oL, isDictO oL → Fm g c' binds.reverse ((c.L, oL) :: mv) fa s₁ → (∀ m'' oL' mv' rest fa'' s'', mv'.map (·.1) = mv.map (·.1) → oL'.data = oL.data → Fm g c' m'' ((c.L, oL') :: (mv' ++ rest)) fa'' s'' → Fm g c m (mv' ++ mu) fa'' s'') →
      wpAny (MM g) (A.deeper (envOf qual scope c'.L f cdv)) (execs body (envOf qual scope c'.L f cdv))
        (fun fl s' => Q (match fl with | .ret v => v | _ => .none) s') (fun _ _ => False) s₁)
    (hco : scope.isCoroutine = false) (hgen : scope.isGenerator = false) (hk : scope.kind = .function)
    (hcell : ∀ x ∈ scope.names, x.2 ≠ .cell) : wpAny (MM g) A (call (.ref f) vs kw) Q E s := by
  have W := F.wdS
  obtain ⟨hb, kn, oL, hdL, op, cl⟩ := F.openH
  refine wpAny_call ?_
  refine codeAny_call_def (fd := fnOf name qual params body scope dV kV doc pm an cdv ct) (body := body) (binds := binds) hroom (W.X _ _ ho) rfl W.T.nolimit (codeRec_of W.X hcd) rfl hbind hcell hloc (fun h₁ hns hk₁ => ?_) hco hgen hk
  exact wpAny_mono (h ⟨hb, kn, s.heap.objs.size, s⟩ _ oL hdL (op h₁ _ _ [] hns hk₁ (fun _ h => nomatch h) .nil) cl) (fun fl s' hl => hl) fun _ _ y => y.elim
/-- entering a def whose frame has cells, the caller's frame handed on -/
theorem enter_fmCH {mv : Led} (F : Fm g c m (mv ++ mu) fa s) {Q : Value → Shared → Prop} {name qual : Str} {params : Arguments} {body : List Stmt} {scope : Scope} {dV kV doc pm cdv ct oc : Value} {an od : Option Addr} {osl : Array (Option Value)} {f : Addr} {vs : List Value} {kw : List (Str × Value)} {binds : List (Str × Value)}
    (ho : (hd.heap_1 g.w.params).lookup f = some ⟨oc, od, .func (fnOf name qual params body scope dV kV doc pm an cdv ct), osl⟩) (hcd : codeIn (hd.heap_1 g.w.params) cdv qual = true) (hroom : A.depth < recursionLimit)
    (hbind : BindsTo s (fnOf name qual params body scope dV kV doc pm an cdv ct) ⟨vs, kw⟩ binds) (hloc : ∀ y ∈ binds, scope.names.lookup y.1 = some .local)
    (h : ∀ c' s₁ oL, isDictO oL → Fm g c' binds.reverse (cellLed c'.L scope.names [] ++ (c.L, oL) :: mv) fa s₁ → (∀ m'' oL' mv' rest fa'' s'', mv'.map (·.1) = mv.map (·.1) → oL'.data = oL.data → Fm g c' m'' ((c.L, oL') :: (mv' ++ rest)) fa'' s'' → Fm g c m (mv' ++ mu) fa'' s'') →
      wpAny (MM g) (A.deeper (envOfC qual scope c'.L f cdv)) (execs body (envOfC qual scope c'.L f cdv))
        (fun fl s' => Q (match fl with | .ret v => v | _ => .none) s') (fun _ _ => False) s₁)
    (hco : scope.isCoroutine = false) (hgen : scope.isGenerator = false) (hk : scope.kind = .function) : wpAny (MM g) A (call (.ref f) vs kw) Q E s := by
  have W := F.wdS
  obtain ⟨hb, kn, oL, hdL, op, cl⟩ := F.openH
  refine wpAny_call ?_
  refine codeAny_call_function hroom (W.X _ _ ho) rfl hco hgen rfl (codeRec_of W.X hcd) (hbind _ _ _ _ ?_)
  refine wp_newEnv hloc (fun h₁ tk hns hk₁ hcs => ?_) hk
  refine ⟨W.T.nolimit.keeps hk₁, codeAny_func ?_⟩
  refine wpAny_mono (h ⟨hb, kn, s.heap.objs.size, s⟩ _ oL hdL (op h₁ tk _ _ hns hk₁ (fun p hp => ?_) (cells_nd _ _)) cl) (fun fl s' hl => hl) fun _ _ y => y.elim
  obtain ⟨q, hq, rfl⟩ := List.mem_map.mp hp
  rcases hcs q.1 q.2 hq with z | z
  · cases z
  · exact z
end
end
-- F14
section
noncomputable def FrL (L0 : Addr) (l : List Env) (fr : Led) : Prop := ∀ e ∈ l, e.scope.kind = .function ∧ ∃ L, e.frame = some L ∧ (L = L0 ∨ L ∈ fr.map (·.1))
noncomputable def DictL (fr : Led) : Prop := ∀ p ∈ fr, isDictO p.2
noncomputable def SameF (fr fr' : Led) : Prop := fr'.map (·.1) = fr.map (·.1) ∧ fr'.map (·.2.data) = fr.map (·.2.data)
theorem SameF.refl {fr : Led} : SameF fr fr := ⟨rfl, rfl⟩
theorem SameF.trans {a b d : Led} (x : SameF a b) (y : SameF b d) : SameF a d := ⟨y.1.trans x.1, y.2.trans x.2⟩
theorem SameF.dict {fr fr' : Led} (x : SameF fr fr') (h : DictL fr) : DictL fr' := fun p hp => by
  have : p.2.data ∈ fr.map (·.2.data) := x.2 ▸ List.mem_map_of_mem hp
  obtain ⟨q, hq, e⟩ := List.mem_map.mp this
  obtain ⟨es, n, h⟩ := h q hq
  exact ⟨es, n, e ▸ h⟩
theorem SameF.frl {L0 : Addr} {l : List Env} {fr fr' : Led} (x : SameF fr fr') (h : FrL L0 l fr) : FrL L0 l fr' := fun e he => by
  obtain ⟨a, L, b, d⟩ := h e he
  exact ⟨a, L, b, d.imp id fun h => x.1 ▸ h⟩
section
variable {g : Gb} {c : Cx} {m : LM} {mu mu' fr : Led} {hk : Heap} {fa : List Fact} {s s' : Shared} {A : Around} {E : Value → Shared → Prop} {k : Nat} {env : Env}
theorem Fm.slots (F : Fm g c m (mu ++ fr) fa s) {S : List Addr} {h' : Heap} (x : Heap.SlotsOnly S s.heap h') (hS : ∀ b ∈ S, b = c.L ∨ b ∈ fr.map (·.1)) : ∃ fr', SameF fr fr' ∧ Fm g c m (mu ++ fr') fa { s with heap := h' } := by
  obtain ⟨hk, T, q⟩ := F
  let fr' : Led := fr.map fun p => (p.1, (h'.get? p.1).getD p.2)
  have e1 : fr'.map (·.1) = fr.map (·.1) := by simp [fr']
  have at' : ∀ p ∈ fr, ∃ sl, h'.get? p.1 = some { p.2 with slots := sl } := fun p hp => x.2.2 p.1 p.2 (T.mus p (List.mem_append_right _ hp)).1
  have keep : ∀ b o, b ≠ c.L → b ∉ fr.map (·.1) → s.heap.get? b = some o → h'.get? b = some o := fun b o h1 h2 e => (x.2.1 b fun h => (hS b h).elim h1 h2).trans e
  have nd := T.nd
  rw [List.map_append, List.nodup_append] at nd
  refine ⟨fr', ⟨e1, ?_⟩, hk, T.move (fr.map (·.1)) ?_ keep (fun b hb => ?_) (fun p hp => ?_) ?_ rfl rfl, q⟩
  · show (fr.map _).map _ = _
    rw [List.map_map]
    refine List.map_congr_left fun p hp => ?_
    obtain ⟨sl, e⟩ := at' p hp
    show ((h'.get? p.1).getD p.2).data = p.2.data
    rw [e]; rfl
  · obtain ⟨o, es, ep, a, b, r⟩ := T.ns
    obtain ⟨sl, e⟩ := x.2.2 c.L o a
    exact ⟨_, es, ep, e, b, r⟩
  · obtain ⟨p, hp, rfl⟩ := List.mem_map.mp hb
    exact (T.mus p (List.mem_append_right _ hp)).2.2
  · rcases List.mem_append.mp hp with hp | hp
    · have z := T.mus p (List.mem_append_left _ hp)
      exact ⟨keep _ _ z.2.1 (fun y => nd.2.2 _ (List.mem_map_of_mem hp) _ y rfl) z.1, z.2⟩
    · obtain ⟨p0, hp0, rfl⟩ := List.mem_map.mp hp
      have z := T.mus p0 (List.mem_append_right _ hp0)
      obtain ⟨sl, e⟩ := at' p0 hp0
      refine ⟨?_, z.2⟩
      show h'.get? p0.1 = some ((h'.get? p0.1).getD p0.2)
      rw [e]; rfl
  · show ((mu ++ fr').map _).Nodup
    rw [List.map_append, e1, ← List.map_append]
    exact T.nd

theorem Fm.funFrames (F : Fm g c m (mu ++ fr) fa s) {l : List Env} (hl : FrL c.L l fr) (hd : DictL fr) : s.heap.FunFrames ({} : Heap) l := by
  induction l with
  | nil => trivial
  | cons e l ih =>
    obtain ⟨h1, L, h2, h3⟩ := hl e (.head _)
    refine ⟨by rw [h1]; decide, ⟨L, ?_⟩, ih fun e he => hl e (.tail _ he)⟩
    rcases h3 with rfl | h3
    · obtain ⟨o, es, ep, a, b, r⟩ := F.fr.ns
      exact ⟨o, h2, rfl, a, fun vs e => by rw [b] at e; cases e⟩
    · obtain ⟨p, hp, rfl⟩ := List.mem_map.mp h3
      obtain ⟨es, n, b⟩ := hd p hp
      exact ⟨p.2, h2, rfl, F.at_ (List.mem_append_right _ hp), fun vs e => by rw [b] at e; cases e⟩

/-- a fresh exception is noted in the frame at hand -/
theorem r_noteNew {e : Addr} {oe : Obj} {vs : Array Value} {outer : List Env} {Q : Unit → Shared → Prop} (F : Fm g c m ((e, oe) :: mu ++ fr) fa s) (hfr : A.frames = some (env :: outer)) (hl : FrL c.L (env :: outer) fr) (hdl : DictL fr) (hf : env.frame = some c.L)
    (hd : oe.data = .fields vs) (h1 : vs[1]? = some .none)
    (h : ∀ T oT oe' fr' ts s', SameF fr fr' → oT.data = .fields ts → ts[3]? = some (rawInt c.L) → oe'.cls = oe.cls → oe'.data = .fields (vs.setIfInBounds 1 (.ref T)) → Fm g c m ((T, oT) :: (e, oe') :: mu ++ fr') fa s' → Q () s') :
    wpAny (MM g) A (noteFrame (.ref e) env) Q E s := by
  unfold noteFrame
  simp only [hf]
  refine wpAny_bind (wpAny_field (F.at_ (.head _)) hd h1 ?_)
  rw [if_neg (by decide)]
  refine wpAny_bind (wpAny_frameOf_fun hfr (F.funFrames hl hdl) hf fun h₁ hs₁ => ?_)
  obtain ⟨fr', sf, F₁⟩ := F.slots hs₁ (fun b hb => by
    obtain ⟨e', he', hb'⟩ := List.mem_filterMap.mp hb
    obtain ⟨_, L, hL, hL'⟩ := hl e' he'
    rw [hL] at hb'
    cases hb'
    exact hL')
  refine wpAny_bind (wpAny_entryPlaceOf fun pl hpl => ?_)
  unfold EntryCells.newEntry newFields
  refine wpAny_bind (wpAny_newObj_type ?_ (hpl.sizeOk5 _ _ _ _ _))
  have F₂ := F₁.alloc (o := { cls := .type "traceback", dict := none, data := .fields ([Value.none, .ref c.L, .none, rawInt c.L, .none] ++ (if pl.isEmpty then List.replicate 6 Value.none else pl)).toArray }) rfl
  refine wpAny_setField (F₂.at_ (.tail _ (.head _))) hd (Array.getElem?_eq_some_iff.mp h1).1 ?_
  refine h _ _ (Obj.mapFields (·.setIfInBounds 1 (.ref _)) oe) fr' _ _ sf rfl ?_ (Obj.cls_mapFields ..) (Obj.data_mapFields hd _) (F₂.turn (s' := { s with heap := _ }) (.tail .head) (fun b o hb e => ?_) ?_ rfl rfl)
  · first | (simp; done) | (rcases hpl with rfl | ⟨_, _, _, _, _, _, _, rfl⟩ <;> simp)
  · exact (Heap.get?_update_other _ _ (Ne.symm hb)).trans e
  · exact Heap.get?_update_self _ (F₂.at_ (.tail _ (.head _))) (Obj.isFreed_of_fields (Obj.data_mapFields hd _))

theorem r_noteHeld {e T : Addr} {oe oT : Obj} {vs ts : Array Value} {Q : Unit → Shared → Prop} (F : Fm g c m mu fa s) (he : (e, oe) ∈ mu) (hT : (T, oT) ∈ mu) (hf : env.frame = some c.L) (hd : oe.data = .fields vs) (h1 : vs[1]? = some (.ref T)) (hdT : oT.data = .fields ts) (h3 : ts[3]? = some (rawInt c.L))
    (h : Q () s) : wpAny (MM g) A (noteFrame (.ref e) env) Q E s := by
  unfold noteFrame
  simp only [hf]
  refine wpAny_bind (wpAny_field (F.at_ he) hd h1 ?_)
  rw [if_pos (show (Value.ref T != Value.none) = true from by simp)]
  refine wpAny_bind (wpAny_field (F.at_ hT) hdT h3 ?_)
  rw [if_pos (show (rawInt c.L == rawInt c.L) = true from by simp)]
  exact wpAny_pure h

theorem r_flight {e T : Addr} {oe oT : Obj} {vs ts : Array Value} {fl : Option Addr} {mu' : Obj → Led} {Q : Unit → Shared → Prop} (F : Fm g c m mu fa s) (he : (e, oe) ∈ mu) (hd : oe.data = .fields vs) (h1 : vs[1]? = some (.ref T)) (hdT : oT.data = .fields ts) (h3 : 3 < ts.size) (U : ∀ o', Tn T oT o' mu (mu' o'))
    (h : ∀ o' s', o'.data = .fields (ts.setIfInBounds 3 (fl.elim .none fun f => rawInt f)) → Fm g c m (mu' o') fa s' → Q () s') : wpAny (MM g) A (setFlight (.ref e) fl) Q E s := by
  unfold setFlight
  refine wpAny_bind (wpAny_field (F.at_ he) hd h1 ?_)
  rw [if_pos (show (Value.ref T != Value.none) = true from by simp)]
  refine wpAny_setField (F.at_ (U oT).mem) hdT h3 ?_
  refine h (Obj.mapFields (·.setIfInBounds 3 (fl.elim .none fun f => rawInt f)) oT) _ (Obj.data_mapFields hdT _) (F.turn (s' := { s with heap := _ }) (U _) (fun b o hb e => (Heap.get?_update_other _ _ (Ne.symm hb)).trans e) ?_ rfl rfl)
  exact Heap.get?_update_self _ (F.at_ (U oT).mem) (Obj.isFreed_of_fields (Obj.data_mapFields hdT _))
end
end
-- F15
section
/-- an exception that is new -/
inductive XN (g : Gb) (c : Cx) (m : LM) (mu fr : Led) (fa : List Fact) (e : Addr) (cx : Value) (s : Shared) : Prop where
  | mk (oe) (vs) (fr') (h0 : SameF fr fr') (h1 : Fm g c m ((e, oe) :: mu ++ fr') fa s) (h2 : oe.cls = .type "IndexError") (h3 : oe.data = .fields vs) (h4 : vs[1]? = some .none) (h5 : vs[2]? = some cx) : XN g c m mu fr fa e cx s
/-- an exception that is noted, and where it is in flight -/
inductive XF (g : Gb) (c : Cx) (m : LM) (mu fr : Led) (fa : List Fact) (e : Addr) (fl cx : Value) (s : Shared) : Prop where
  | mk (oe) (T) (oT) (vs) (ts) (fr') (h0 : SameF fr fr') (h1 : Fm g c m ((T, oT) :: (e, oe) :: mu ++ fr') fa s) (h2 : oe.cls = .type "IndexError") (h3 : oe.data = .fields vs) (h4 : vs[1]? = some (.ref T)) (h5 : vs[2]? = some cx) (h6 : oT.data = .fields ts) (h7 : ts[3]? = some fl) : XF g c m mu fr fa e fl cx s
structure FrOk (A : Around) (env : Env) (c : Cx) (fr : Led) : Prop where
  fs : ∃ outer, A.frames = some (env :: outer) ∧ FrL c.L (env :: outer) fr
  dl : DictL fr
  hf : env.frame = some c.L
section
variable {g : Gb} {c : Cx} {m : LM} {mu mu' fr : Led} {hk : Heap} {fa : List Fact} {s s' : Shared} {A : Around} {E : Value → Shared → Prop} {k : Nat} {env : Env} {e : Addr} {fl cx : Value}
theorem x_note (X : XN g c m mu fr fa e cx s) (O : FrOk A env c fr) {Q : Unit → Shared → Prop} (h : ∀ s', XF g c m mu fr fa e (rawInt c.L) cx s' → Q () s') : wpAny (MM g) A (noteFrame (.ref e) env) Q E s := by
  obtain ⟨oe, vs, fr', sf, F, hc, hd, h1, h2⟩ := X
  obtain ⟨outer, hfr, hl⟩ := O.fs
  refine r_noteNew F hfr (sf.frl hl) (sf.dict O.dl) O.hf hd h1 fun T oT oe' fr2 ts s' sf2 e1 e2 e3 e4 F' => h s' ⟨oe', T, oT, _, ts, fr2, sf.trans sf2, F', e3.trans hc, e4, ?_, ?_, e1, e2⟩
  · have := (Array.getElem?_eq_some_iff.mp h1).1
    simp [this]
  · rw [Array.getElem?_setIfInBounds_ne (by decide)]
    exact h2
theorem x_noted (X : XF g c m mu fr fa e (rawInt c.L) cx s) (O : FrOk A env c fr) {Q : Unit → Shared → Prop} (h : Q () s) : wpAny (MM g) A (noteFrame (.ref e) env) Q E s := by
  obtain ⟨oe, T, oT, vs, ts, fr', sf, F, hc, hd, h1, h2, h3, h4⟩ := X
  exact r_noteHeld F (.tail _ (.head _)) (.head _) O.hf hd h1 h3 h4 h
theorem x_flight (X : XF g c m mu fr fa e fl cx s) {f : Option Addr} {Q : Unit → Shared → Prop} (h : ∀ s', XF g c m mu fr fa e (f.elim .none fun f => rawInt f) cx s' → Q () s') : wpAny (MM g) A (setFlight (.ref e) f) Q E s := by
  obtain ⟨oe, T, oT, vs, ts, fr', sf, F, hc, hd, h1, h2, h3, h4⟩ := X
  have hsz := (Array.getElem?_eq_some_iff.mp h4).1
  exact r_flight (mu' := fun o' => (T, o') :: (e, oe) :: mu ++ fr') F (.tail _ (.head _)) hd h1 h3 hsz (fun _ => .head) fun o' s' hd' F' => h s' ⟨oe, T, o', vs, _, fr', sf, F', hc, hd, h1, h2, hd', by simp [hsz]⟩
theorem x_field (X : XF g c m mu fr fa e fl cx s) {Q : Value → Shared → Prop} (h : ∀ T, Q (.ref T) s) : wpAny (MM g) A (field (.ref e) 1) Q E s := by
  obtain ⟨oe, T, oT, vs, ts, fr', sf, F, hc, hd, h1, h2, h3, h4⟩ := X
  exact wpAny_field (F.at_ (.tail _ (.head _))) hd h1 (h T)
theorem x_back (X : XF g c m mu fr fa e fl cx s) (hf : env.frame = some c.L) (h : ∀ s', XF g c m mu fr fa e (rawInt c.L) cx s' → E (.ref e) s') : cameBackBy (MM g) A env E (.ref e) s := by
  unfold cameBackBy
  refine wpAny_bind (x_field X fun T => ?_)
  rw [if_neg (show ¬ ((Value.ref T == Value.none) = true) from by simp)]
  rw [hf]
  exact x_flight X h
theorem x_passOn {α : Type} {what : String} {Q : α → Shared → Prop} (X : XF g c m mu fr fa e fl cx s) (hf : env.frame = some c.L) (h : ∀ s', XF g c m mu fr fa e (rawInt c.L) cx s' → E (.ref e) s') : wpAny (MM g) A (PySem.passOn what (.ref e) env : Sem α) Q E s := by
  unfold PySem.passOn
  refine wpAny_bind (x_field X fun T => ?_)
  rw [if_neg (show ¬ ((Value.ref T == Value.none) = true) from by simp)]
  rw [hf]
  exact wpAny_bind (x_flight X fun s' X' => wpAny_throw (h s' X'))
theorem XF.fm (X : XF g c m mu fr fa e fl cx s) : ∃ fr', SameF fr fr' ∧ Fm g c m (mu ++ fr') fa s := by
  obtain ⟨oe, T, oT, vs, ts, fr', sf, F, _⟩ := X
  exact ⟨fr', sf, F.drop (.cons _ (.cons _ (List.Sublist.refl _)))⟩
theorem XF.typeIs (X : XF g c m mu fr fa e fl cx s) : s.TypeIs (.ref e) "IndexError" := by
  obtain ⟨oe, T, oT, vs, ts, fr', sf, F, hc, _⟩ := X
  exact ⟨oe, F.at_ (.tail _ (.head _)), hc⟩

/-- xs[i] behind the list's end -/
theorem r_itemOut {value slice : Expr} {l : Addr} {vs : List Value} {i : Int} {u : Tok} {Q : Value → Shared → Prop} (F : Fm g c m (mu ++ fr) fa s) (hh : A.handled = none) (hl : s.heap.IsList l vs.toArray) (h0 : (vs.length : Int) ≤ i) (hi : i < 2 ^ 63)
    (hE : ∀ e s', XN g c m mu fr fa e .none s' → E (.ref e) s') (hs : subscripted slice false (.ref l) (.int i u) = operate [.ref l, .int i u] (getItem (.ref l) (.int i u))) : wpAny (MM g) A (subscriptTail value slice (.ref l) (.int i u)) Q E s := by
  refine tail_any hl.typeIs slot_list_getitem.lookup (wpAny_getItem_list_out hh hl (.inr (by simpa using h0)) (by omega) hi fun h' tk e x => ?_) hs
  obtain ⟨ob, t, h1, h2, h3⟩ := x.there
  exact hE e _ ⟨ob, _, fr, .refl, F.adopt (s' := { s with heap := h', toks := tk }) x.keeps x.new h1 rfl rfl, h2, h3, rfl, rfl⟩

theorem entry_unchain : entryFor table "proto.unchain" = some Builtin.«proto.unchain» := entryFor_of_tree (by kernel_rfl)
theorem plain_unchain : plainId "proto.unchain" = true := by decide +kernel

/-- xs[i] behind the list's end, an exception being handled -/
theorem r_itemOutH {value slice : Expr} {l h0 : Addr} {oh : Obj} {vs : List Value} {ws : Array Value} {i : Int} {u : Tok} {Q : Value → Shared → Prop} (F : Fm g c m (mu ++ fr) fa s) (hh : A.handled = some (.ref h0)) (ho : (h0, oh) ∈ mu) (hdo : oh.data = .fields ws) (hw : ws[2]? = some .none)
    (hl : s.heap.IsList l vs.toArray) (hlen : (vs.length : Int) ≤ i) (hi : i < 2 ^ 63)
    (hE : ∀ e s', XN g c m mu fr fa e (.ref h0) s' → E (.ref e) s') (hs : subscripted slice false (.ref l) (.int i u) = operate [.ref l, .int i u] (getItem (.ref l) (.int i u))) : wpAny (MM g) A (subscriptTail value slice (.ref l) (.int i u)) Q E s := by
  refine tail_any hl.typeIs slot_list_getitem.lookup ?_ hs
  obtain ⟨o, hlo, hc, ne, hd⟩ := id hl
  unfold getItem
  try with_reducible refine wpAny_holding ?_
  first | refine wpAny_bind (wpAny_pure ?_) | skip
  refine wpAny_bind (wpAny_sequenceKey hl.typeIs (by decide) ?_)
  refine wpAny_bind (wpAny_callSpecial?_slot (name := Str.ofString "__getitem__") hl.typeIs slot_list_getitem
    (wpAny_call_entry slot_list_getitem hl.typeIs entry_list_getitem ?_ (args_list_getitem _ _)))
  show wpAny _ _ (Builtin.List.listSubscript? (.int i u) >>= _) _ _ s
  refine wpAny_bind (wpAny_listSubscript_int (fitsIndex_both (by omega) hi) ?_)
  obtain ⟨j, rfl⟩ : ∃ j : Nat, i = Int.ofNat j := ⟨i.toNat, by simp only [Int.ofNat_eq_natCast]; omega⟩
  have hx : vs.toArray[j]? = none := Array.getElem?_eq_none (by rw [List.size_toArray]; simp only [Int.ofNat_eq_natCast] at hlen; omega)
  show wpAny _ _ ((seqItemAt l j >>= fun r => pure (r.map (j, ·))) >>= _) _ _ s
  refine wpAny_bind (wpAny_bind (wpAny_seqItemAt hlo hd (wpAny_pure ?_)))
  rw [hx]
  have key : ∀ {α : Type} {Q' : α → Shared → Prop}, wpAny (MM g) A.in1 (raiseErrorWords "IndexError" "list index out of range" : Sem α) Q' E s := by
    intro α Q'
    unfold raiseErrorWords
    refine wpAny_bind (wpAny_mkText (wpAny_bind (wpAny_newExc_plain plainExc_IndexError fun h' e hm => ?_)))
    obtain ⟨t, he, htn, ht⟩ := hm.there
    have F₁ := (F.toks (tk := s.toks + 1) rfl).adopt (s' := { s with heap := h', toks := s.toks + 1 }) hm.keeps hm.new he rfl rfl
    unfold raiseNew
    refine wpAny_bind (wpAny_handled ?_)
    rw [show A.in1.handled = some (.ref h0) from hh]
    dsimp only
    have hne : (Value.ref h0 != Value.ref e) = true := by
      have : h0 ≠ e := fun q => by
        have := hm.new
        rw [← q, F.at_ (List.mem_append_left _ ho)] at this
        cases this
      simp [this]
    rw [if_pos hne]
    refine wpAny_bind (wpAny_holding (wpAny_runValue (codeAny_builtin entry_unchain ?_)))
    show wpAny _ _ (field (.ref h0) 2 >>= _) _ _ _
    refine wpAny_bind (wpAny_field (F₁.at_ (.tail _ (List.mem_append_left _ ho))) hdo hw ?_)
    rw [if_pos (show (Value.none == Value.none) = true from rfl)]
    refine wpAny_pure ?_
    refine wpAny_bind (?_ : wpAny (MM g) A.in1 (setField (.ref e) 2 (.ref h0)) _ _ _)
    refine wpAny_setField he rfl (Nat.le_of_ble_eq_true rfl) (wpAny_throw ?_)
    have hg := Heap.get?_update_self (Obj.mapFields (·.setIfInBounds 2 (.ref h0))) he rfl
    exact hE e _ ⟨_, _, fr, .refl, F₁.turn (s' := { s with heap := _, toks := s.toks + 1 }) .head (fun b o hb q => (Heap.get?_update_other _ _ (Ne.symm hb)).trans q) hg rfl rfl, rfl, rfl, rfl, rfl⟩
  first
    | exact wpAny_bind (wpAny_rule key)
    | exact wpAny_bind (wpAny_rule (wpAny_bind key))
    | exact wpAny_bind (wpAny_bind (wpAny_rule key))
    | exact wpAny_rule key

theorem FrOk.mark (O : FrOk A env c fr) {v : Option Value} : FrOk (A.mark v) env c fr := ⟨O.fs, O.dl, O.hf⟩
theorem FrOk.same {fr' : Led} (O : FrOk A env c fr) (h : SameF fr fr') : FrOk A env c fr' := ⟨let ⟨o, a, b⟩ := O.fs; ⟨o, a, h.frl b⟩, h.dict O.dl, O.hf⟩
/-- a while whose test is asked once: false, or an exception -/
theorem r_while1 {test : Expr} {body : List Stmt} {pos : Pos} {Q : Flow → Shared → Prop} (O : FrOk A env c fr)
    (h : wpAny (MM g) A (isTrue test env (eval test env)) (fun b s₂ => b = false ∧ Q .next s₂) (fun ev s₂ => ∃ e cx m mu fa, ev = .ref e ∧ XN g c m mu fr fa e cx s₂ ∧ ∀ s', XF g c m mu fr fa e (rawInt c.L) cx s' → E (.ref e) s') s) :
    wpAny (MM g) A (exec (.While test body [] pos) env) Q E s := by
  refine wpAny_While (codeAny_whileLoop (fun _ s' => s' = s) (fun n s' hs => ?_) 0 rfl)
  subst hs
  refine wpAny_mono h (fun b s₂ h₂ => ?_) fun ev s₂ h₂ => ?_
  · obtain ⟨rfl, h₂⟩ := h₂
    rw [if_neg Bool.false_ne_true]
    exact wpAny_execs_nil h₂
  · obtain ⟨e, cx, m, mu, fa, rfl, X, hE⟩ := h₂
    exact x_note X O fun s' X' => x_back X' O.hf hE
/-- while True -/
theorem r_WhileT {body : List Stmt} {k : Nat} {p pos : Pos} {Q : Flow → Shared → Prop} (J : Nat → Shared → Prop) (n : Nat) (h : J n s)
    (turn : ∀ n s, J n s → wpAny (MM g) A (execs body env) (fun f s₃ => match f with
      | .next | .cont => ∃ m, m < n ∧ J m s₃
      | .brk => Q .next s₃
      | .ret v => Q (.ret v) s₃) (fun _ _ => False) s) :
    wpAny (MM g) A (exec (.While (.Constant (.bool true) k p) body [] pos) env) Q E s := by
  refine wpAny_While (codeAny_whileLoop J (fun n s' hs => ?_) n h)
  refine isTrue_plain (Constant_bool (wpAny_truthy_bool ?_)) (by with_unfolding_all rfl)
  rw [if_pos rfl]
  exact wpAny_mono (turn n s' hs) (fun f s₃ h₃ => h₃) fun _ _ x => x.elim
/-- try .. except IndexError -/
theorem r_tryIdx {body : List Stmt} {b₀ : Stmt} {suite : List Stmt} {np hpos pos : Pos} {Q : Flow → Shared → Prop}
    (hni : ∀ P : Params, nsIn (hd.heap_1 P) mainGlobals "IndexError" = some none) (hg : env.globals = mainGlobals) (hb : env.builtins = builtinsNs) (hk : env.scope.kind = .function) (hx : env.kindOf "IndexError" = some .globalImplicit)
    (h : wpAny (MM g) A (execs body env) (fun f s₁ => Q f s₁) (fun ev s₁ => ∃ c m mu fr fa e cx, ev = .ref e ∧ FrOk A env c fr ∧ (XN g c m mu fr fa e cx s₁ ∨ XF g c m mu fr fa e (rawInt c.L) cx s₁) ∧
      ∀ s₂ fr', SameF fr fr' → Fm g c m (mu ++ fr') fa s₂ → wpAny (MM g) (A.mark (some (.ref e))) (execs (b₀ :: suite) env) Q (fun _ _ => False) s₂) s) :
    wpAny (MM g) A (exec (.Try body [.ExceptHandler (some (.Name (Str.ofString "IndexError") np)) none (b₀ :: suite) hpos] [] [] pos) env) Q E s := by
  refine wpAny_Try_except (wpAny_mono h (fun f s₁ h₁ => ?_) fun ev s₁ h₁ => ?_)
  · cases f <;> first | exact wpAny_execs_nil h₁ | exact h₁
  obtain ⟨c, m, mu, fr, fa, e, cx, rfl, O, X, hs⟩ := h₁
  have key : ∀ s₂, XF g c m mu fr fa e (rawInt c.L) cx s₂ → wpAny (MM g) A (setFlight (.ref e) none) (fun _ s₃ => wpAny (MM g) A (handleBy (.ref e) env [.ExceptHandler (some (.Name (Str.ofString "IndexError") np)) none (b₀ :: suite) hpos]) Q E s₃) E s₂ := fun s₂ X₂ => by
    refine x_flight X₂ fun s₃ X₃ => ?_
    have F := X₃
    obtain ⟨oe, T, oT, vs, ts, fr', sf, F, _⟩ := F
    refine wpAny_handleBy_builtin (X := "IndexError") (T := "IndexError") (b := true) PySem.F.isExc_IndexError PySem.F.notTuple_IndexError PySem.F.self_IndexError ?_
    refine r_blt F (hni _) PyProof.Rows.Boot.«IndexError» ⟨rfl, X₃.typeIs, ?_⟩ (by decide) hg hb hk hx (by decide)
    rw [if_pos rfl]
    refine x_flight X₃ fun s₄ X₄ => ?_
    obtain ⟨fr2, sf2, F₂⟩ := X₄.fm
    exact nofail (hs s₄ fr2 sf2 F₂)
  rcases X with X | X
  · exact x_note X O key
  · exact x_noted X O (key _ X)
/-- try .. finally -/
theorem r_tryFin {body : List Stmt} {f₀ : Stmt} {fs : List Stmt} {pos : Pos} {Q : Flow → Shared → Prop} (O : FrOk A env c fr)
    (h : wpAny (MM g) A (execs body env)
      (fun f s₁ => f = .next ∧ wpAny (MM g) A (execs (f₀ :: fs) env) (fun fl s' => fl = .next ∧ Q .next s') (fun ev s' => ∃ e cx m mu fa, ev = .ref e ∧ XF g c m mu fr fa e (rawInt c.L) cx s' ∧ ∀ s'', XF g c m mu fr fa e (rawInt c.L) cx s'' → E (.ref e) s'') s₁)
      (fun ev s₁ => ∃ e cx m mu fa, ev = .ref e ∧ XF g c m mu fr fa e (rawInt c.L) cx s₁ ∧ ∀ s₂, XF g c m mu fr fa e .none cx s₂ →
        wpAny (MM g) (A.mark (some (.ref e))) (execs (f₀ :: fs) env) (fun fl s' => fl = .next ∧ ∃ m mu fa, XF g c m mu fr fa e .none cx s' ∧ ∀ s'', XF g c m mu fr fa e (rawInt c.L) cx s'' → E (.ref e) s'')
          (fun ev s' => ∃ e cx m mu fa, ev = .ref e ∧ XF g c m mu fr fa e (rawInt c.L) cx s' ∧ ∀ s'', XF g c m mu fr fa e (rawInt c.L) cx s'' → E (.ref e) s'') s₂) s) :
    wpAny (MM g) A (exec (.Try body [] [] (f₀ :: fs) pos) env) Q E s := by
  refine wpAny_Try_finally (wpAny_mono h (fun f s₁ h₁ => ?_) fun ev s₁ h₁ => ?_)
  · obtain ⟨rfl, h₁⟩ := h₁
    refine wpAny_execs_nil (wpAny_mono h₁ (fun fl s' h' => ?_) fun ev s' h' => ?_)
    · obtain ⟨rfl, h'⟩ := h'
      exact h'
    · obtain ⟨e, cx, m, mu, fa, rfl, X, hE⟩ := h'
      exact x_noted X O (x_back X O.hf hE)
  · obtain ⟨e, cx, m, mu, fa, rfl, X, hs⟩ := h₁
    refine x_noted X O ?_
    refine ⟨ref_ne_byPass e, ?_⟩
    refine x_noted X O ?_
    refine x_flight (f := none) X fun s₂ X₂ => ?_
    refine wpAny_mono (hs s₂ X₂) (fun fl s' h' => ?_) fun ev s' h' => ?_
    · obtain ⟨rfl, m, mu, fa, X₃, hE⟩ := h'
      exact x_passOn X₃ O.hf hE
    · obtain ⟨e, cx, m, mu, fa, rfl, X₃, hE⟩ := h'
      exact x_noted X₃ O.mark (x_back X₃ O.hf hE)
theorem XN.base {fr0 : Led} (X : XN g c m mu fr fa e cx s) (h : SameF fr0 fr) : XN g c m mu fr0 fa e cx s := let ⟨a, b, d, sf, r1, r2, r3, r4, r5⟩ := X; ⟨a, b, d, h.trans sf, r1, r2, r3, r4, r5⟩
theorem XF.base {fr0 : Led} (X : XF g c m mu fr fa e fl cx s) (h : SameF fr0 fr) : XF g c m mu fr0 fa e fl cx s := let ⟨a, b, d, f, i, j, sf, r1, r2, r3, r4, r5, r6, r7⟩ := X; ⟨a, b, d, f, i, j, h.trans sf, r1, r2, r3, r4, r5, r6, r7⟩
theorem SameF.cons {a : Addr} {o : Obj} {l l' : Led} (h : SameF ((a, o) :: l) l') : ∃ o' l2, l' = (a, o') :: l2 ∧ o'.data = o.data ∧ SameF l l2 := by
  obtain ⟨h1, h2⟩ := h
  cases l' with
  | nil => cases h1
  | cons p l2 =>
    simp only [List.map_cons, List.cons.injEq] at h1 h2
    exact ⟨p.2, l2, by rw [← h1.1], h2.1, h1.2, h2.2⟩
/-- xs[i:] of a list -/
theorem r_sliceFrom {value lo : Expr} {p pos : Pos} {Q : Value → Shared → Prop}
    (h : wpAny (MM g) A (eval value env) (fun o s₁ => wpAny (MM g) A (eval lo env) (fun u s₂ => ∃ (c : Cx) (m : LM) (mu : Led) (fa : List Fact) (l : Addr) (vs : List Value) (k : Nat) (t : Tok), o = .ref l ∧ u = .int k t ∧ Fm g c m mu fa s₂ ∧ s₂.heap.IsList l vs.toArray ∧ vs.length ≤ sizeLine ∧
      ∀ a s', Fm g c m ((a, listOf (vs.drop k).toArray 0) :: mu) fa s' → Q (.ref a) s') E s₁) E s)
    (hs : ∀ l n, subscripted (.Slice (some lo) none none p) false (.ref l) (.ref n) = operate [.ref n, .ref l] (getItem (.ref l) (.ref n))) :
    wpAny (MM g) A (eval (.Subscript value (.Slice (some lo) none none p) pos) env) Q E s := by
  refine Subscript_ (wpAny_mono h (fun o s₁ h₁ => wpAny_Slice (wpAny_evalPart_some (wpAny_mono h₁ (fun u s₂ h₂ => wpAny_evalPart_none (wpAny_evalPart_none ?_)) fun _ _ e => e))) fun _ _ e => e)
  obtain ⟨c, m, mu, fa, l, vs, k, t, rfl, rfl, F, hl, hz, hq⟩ := h₂
  refine kba_turn (value' := PySem.Expr.Name (PySem.Str.ofString "_") ⟨0, 0, 0, 0⟩) (fun _ => rfl) ?_
  refine slice_listK hl (.int k t) .none ?_ (hs l _) (fun _ => rfl) (by simpa using hz)
  have F₁ := F.alloc (o := { cls := .type "slice", data := .fields #[.int k t, .none, .none] }) rfl
  have F₂ := F₁.alloc (o := listOf (slicePick vs.toArray (some k) none none) 0) rfl
  have e : slicePick vs.toArray (some (k : Int)) none none = (vs.drop k).toArray := by
    simpa using slicePick_from' vs.toArray k
  rw [e] at F₂ ⊢
  have F₃ := (F₂.drop (mu' := ((s₂.heap.push { cls := .type "slice", data := .fields #[.int k t, .none, .none] }).objs.size, listOf (vs.drop k).toArray 0) :: mu) (List.Sublist.cons_cons _ (List.sublist_cons_self _ _)))
  have := hq _ _ F₃
  rw [Heap.size_push] at this
  exact this
/-- xs.extend(ys) -/
theorem r_extend {a b : Addr} {vs ws : List Value} {n n2 : Nat} {Q : Value → Shared → Prop} (F : Fm g c m mu fa s) (hb : (b, listOf ws.toArray n2) ∈ mu) (hz : vs.length + ws.length ≤ 100000) {mu' : Nat → Led} (t : ∀ n', Tn a (listOf vs.toArray n) (listOf (vs ++ ws).toArray n') mu (mu' n'))
    (h : ∀ n' s', Fm g c m (mu' n') fa s' → Q .none s') : wpAny (MM g) A (call (.builtin "list.extend") [.ref a, .ref b]) Q E s := by
  have at_ := F.at_ (t 0).mem
  have bt_ := F.at_ hb
  have hsl := sizeLine_eq
  refine call_meets PySem.F.slot_list_extend ⟨_, at_, rfl⟩ PySem.F.entry_list_extend (PySem.F.args_list_extend_2 _ _) (PySem.AutoSeq1.list_extend_list_list_0 a _ n b _ n2 ?_ ?_ ?_) ⟨at_, bt_, ?_⟩
  · unfold Builtin.List.listTooLong
    rw [List.size_toArray, List.size_toArray]
    have : ¬ (vs.length + ws.length > sizeLine) := by omega
    simp [this]
  · rw [List.size_toArray]; omega
  · rw [List.size_toArray, List.size_toArray]; omega
  · have q := PySem.IsL.update at_ (fun its => its ++ ws.toArray)
    have e1 : vs.toArray ++ ws.toArray = (vs ++ ws).toArray := by simp
    rw [e1] at q
    exact h _ _ (F.turn (s' := { s with heap := _, toks := s.toks }) (t _) (fun b o hb e => (Heap.get?_update_other s.heap _ (Ne.symm hb)).trans e) q rfl rfl)
end
end
-- Pu3
section
noncomputable def ltS (a b : Str) : Bool := decide (a.cps.toList < b.cps.toList)
theorem ltS_irrefl (a : Str) : ltS a a = false := by
  unfold ltS
  exact decide_eq_false (List.lt_irrefl _)
/-- what two sorted lists have alone -/
noncomputable def diffS : List Str → List Str → List Str × List Str
  | [], ys => ([], ys)
  | x :: xs, [] => (x :: xs, [])
  | x :: xs, y :: ys => if ltS x y then (x :: (diffS xs (y :: ys)).1, (diffS xs (y :: ys)).2) else if ltS y x then ((diffS (x :: xs) ys).1, y :: (diffS (x :: xs) ys).2) else diffS xs ys
termination_by xs ys => xs.length + ys.length
theorem diffS_nil (ys : List Str) : diffS [] ys = ([], ys) := by rw [diffS]
theorem diffS_nil' (xs : List Str) : diffS xs [] = (xs, []) := by cases xs <;> rw [diffS]
theorem diffS_lt {x y : Str} {xs ys : List Str} (h : ltS x y = true) : diffS (x :: xs) (y :: ys) = (x :: (diffS xs (y :: ys)).1, (diffS xs (y :: ys)).2) := by rw [diffS, if_pos h]
theorem diffS_gt {x y : Str} {xs ys : List Str} (h1 : ltS x y = false) (h : ltS y x = true) : diffS (x :: xs) (y :: ys) = ((diffS (x :: xs) ys).1, y :: (diffS (x :: xs) ys).2) := by rw [diffS, if_neg (by rw [h1]; decide), if_pos h]
theorem diffS_eq {x y : Str} {xs ys : List Str} (h1 : ltS x y = false) (h : ltS y x = false) : diffS (x :: xs) (y :: ys) = diffS xs ys := by rw [diffS, if_neg (by rw [h1]; decide), if_neg (by rw [h]; decide)]
/-- where the walk stands: what is found so far, and what is left -/
noncomputable def DiffAt (xs ys : List Str) (i j : Nat) (ms us : List Str) : Prop := diffS xs ys = (ms ++ (diffS (xs.drop i) (ys.drop j)).1, us ++ (diffS (xs.drop i) (ys.drop j)).2)
theorem DiffAt.start {xs ys : List Str} : DiffAt xs ys 0 0 [] [] := by unfold DiffAt; simp
theorem drop_at {α : Type} {xs : List α} {i : Nat} {x : α} (h : xs[i]? = some x) : xs.drop i = x :: xs.drop (i + 1) := by
  obtain ⟨hi, rfl⟩ := List.getElem?_eq_some_iff.mp h
  exact List.drop_eq_getElem_cons hi
theorem DiffAt.lt {xs ys ms us : List Str} {i j : Nat} {x y : Str} (D : DiffAt xs ys i j ms us) (hx : xs[i]? = some x) (hy : ys[j]? = some y) (h : ltS x y = true) : DiffAt xs ys (i + 1) j (ms ++ [x]) us := by
  unfold DiffAt at *
  rw [D, drop_at hx, drop_at hy, diffS_lt h, List.append_assoc, List.singleton_append]
theorem DiffAt.gt {xs ys ms us : List Str} {i j : Nat} {x y : Str} (D : DiffAt xs ys i j ms us) (hx : xs[i]? = some x) (hy : ys[j]? = some y) (h1 : ltS x y = false) (h : ltS y x = true) : DiffAt xs ys i (j + 1) ms (us ++ [y]) := by
  unfold DiffAt at *
  rw [D, drop_at hx, drop_at hy, diffS_gt h1 h, List.append_assoc, List.singleton_append]
theorem DiffAt.eq {xs ys ms us : List Str} {i j : Nat} {x y : Str} (D : DiffAt xs ys i j ms us) (hx : xs[i]? = some x) (hy : ys[j]? = some y) (h1 : ltS x y = false) (h : ltS y x = false) : DiffAt xs ys (i + 1) (j + 1) ms us := by
  unfold DiffAt at *
  rw [D, drop_at hx, drop_at hy, diffS_eq h1 h]
theorem DiffAt.done {xs ys ms us : List Str} {i j : Nat} (D : DiffAt xs ys i j ms us) (h : xs.length ≤ i ∨ ys.length ≤ j) : diffS xs ys = (ms ++ xs.drop i, us ++ ys.drop j) := by
  unfold DiffAt at D
  rw [D]
  rcases h with h | h
  · rw [List.drop_eq_nil_of_le h, diffS_nil]
  · rw [List.drop_eq_nil_of_le h, diffS_nil']
/-- strictly sorted -/
noncomputable def SortedS (xs : List Str) : Prop := xs.Pairwise fun a b => ltS a b = true
theorem SortedS.next {xs : List Str} (h : SortedS xs) {i : Nat} {x y : Str} (hx : xs[i]? = some x) (hy : xs[i + 1]? = some y) : (y == x) = false := by
  obtain ⟨hi, rfl⟩ := List.getElem?_eq_some_iff.mp hx
  obtain ⟨hj, rfl⟩ := List.getElem?_eq_some_iff.mp hy
  have := List.pairwise_iff_getElem.mp h i (i + 1) hi hj (Nat.lt_succ_self _)
  cases e : xs[i + 1] == xs[i] with
  | false => rfl
  | true =>
    rw [beq_iff_eq.mp e, ltS_irrefl] at this
    cases this
end
-- Tac3
theorem r_iaddI {g : Gb} {c : Cx} {m : LM} {mu : Led} {fa : List Fact} {s : Shared} {A : Around} {E : Value → Shared → Prop} {a b : Int} {t u : Tok} {Q : Value → Shared → Prop} (F : Fm g c m mu fa s) (h : ∀ t s', Fm g c m mu fa s' → Q (.int (a + b) t) s') :
    wpAny (MM g) A (inplaceOp .Add (.int a t) (.int b u)) Q E s := PyProof.Rows.iadd_int (h _ _ (F.toks rfl))
local macro_rules | `(tactic| k_extra "mine_mw") => `(tactic| first
  | ((with_reducible show wpAny _ _ (exec (Stmt.Assign [_, _] _ _) _) _ _ _); (refine' wpAny_Assign_two ?z0 ?z1 ?z2); (case z1 => with_unfolding_all rfl); (case z2 => with_unfolding_all rfl))
  | ((with_reducible show wpAny _ _ (assign (Expr.Name _ _) _ _) _ _ _); refine' wpAny_assign_Name ?z0)
  | ((with_reducible show wpAny _ _ (inplaceOp Operator.Add (Value.int _ _) (Value.int _ _)) _ _ _); (refine' r_iaddI ?z1 ?z0); (case z1 => k_extra "mine_asm"); intro t' s' F'; try dsimp only)
  | ((with_reducible show wpAny _ _ (exec (Stmt.Break _) _) _ _ _); refine' wpAny_Break ?z0; try dsimp only)
  | k_extra "mine_mt")
-- C9
section
section
variable {g : Gb} {c : Cx} {m : LM} {mu fr : Led} {fa : List Fact} {s : Shared} {A : Around} {E : Value → Shared → Prop} {k : Nat} {env : Env}
theorem kIdx (P : Params) : nsIn (hd.heap_1 P) mainGlobals "IndexError" = some none := by k_is
structure SldL (aE aA aM aU : Addr) (i j : Nat) (m : LM) : Prop where
  he : m.lookup (Str.ofString "expected") = some (.ref aE)
  ha : m.lookup (Str.ofString "actual") = some (.ref aA)
  hm : m.lookup (Str.ofString "missing") = some (.ref aM)
  hu : m.lookup (Str.ofString "unexpected") = some (.ref aU)
  hi : ∃ t, m.lookup (Str.ofString "i") = some (.int (i : Nat) t)
  hj : ∃ t, m.lookup (Str.ofString "j") = some (.int (j : Nat) t)
noncomputable def SldD (xs ys : List Str) (i j : Nat) (ms us : List Str) : Prop := DiffAt xs ys i j ms us ∧ ms.length ≤ i ∧ us.length ≤ j ∧ i ≤ xs.length ∧ j ≤ ys.length
inductive SldJ (g : Gb) (c : Cx) (aE aA aM aU : Addr) (fr : Led) (fa : List Fact) (xs ys : List Str) (n : Nat) (s : Shared) : Prop where
  | mk (i) (j) (m) (fr') (ms) (us) (ws) (us') (nw) (nu) (h0 : SldL aE aA aM aU i j m) (h1 : SameF fr fr') (h2 : Fm g c m ((aM, listOf (ws : List Value).toArray nw) :: (aU, listOf (us' : List Value).toArray nu) :: fr') (RdAll ws ((ms : List Str).map PyData.str) :: RdAll us' ((us : List Str).map PyData.str) :: fa) s) (h3 : SldD xs ys i j ms us) (h4 : n = xs.length + ys.length - i - j) : SldJ g c aE aA aM aU fr fa xs ys n s
inductive SldX (g : Gb) (c : Cx) (aE aA aM aU : Addr) (fr : Led) (fa : List Fact) (xs ys : List Str) (ev : Value) (s : Shared) : Prop where
  | mk (i) (j) (m) (ms) (us) (ws) (us') (nw) (nu) (e) (cx) (h0 : ev = .ref e) (h1 : SldL aE aA aM aU i j m) (h2 : SldD xs ys i j ms us) (h3 : (xs.length ≤ i ∨ ys.length ≤ j)) (h4 : (XN g c m [(aM, listOf (ws : List Value).toArray nw), (aU, listOf (us' : List Value).toArray nu)] fr (RdAll ws ((ms : List Str).map PyData.str) :: RdAll us' ((us : List Str).map PyData.str) :: fa) e cx s ∨
     XF g c m [(aM, listOf (ws : List Value).toArray nw), (aU, listOf (us' : List Value).toArray nu)] fr (RdAll ws ((ms : List Str).map PyData.str) :: RdAll us' ((us : List Str).map PyData.str) :: fa) e (rawInt c.L) cx s)) : SldX g c aE aA aM aU fr fa xs ys ev s
theorem XF.less {e : Addr} {fl cx : Value} {mu mu' : Led} (X : XF g c m mu fr fa e fl cx s) (h : mu'.Sublist mu) : XF g c m mu' fr fa e fl cx s :=
  let ⟨oe, T, oT, vs, ts, fr', sf, F, r1, r2, r3, r4, r5, r6⟩ := X
  ⟨oe, T, oT, vs, ts, fr', sf, F.drop (.cons_cons _ (.cons_cons _ (h.append (List.Sublist.refl _)))), r1, r2, r3, r4, r5, r6⟩
theorem rdAll_drop {h : Heap} : ∀ {vs : List Value} {ds : List PyData} (j : Nat), RdAll vs ds h → RdAll (vs.drop j) (ds.drop j) h
  | _, _, 0, r => r
  | _, _, _ + 1, ⟨_, .nil⟩ => RdAll.nil
  | _, _, j + 1, ⟨_, .cons r rs⟩ => rdAll_drop j ⟨_, rs⟩
theorem strAt {vs : List Value} {xs : List Str} {h : Heap} {i : Nat} {x : Str} (r : RdAll vs (xs.map PyData.str) h) (hx : xs[i]? = some x) : ∃ t, vs[i]? = some (.str x t) := by
  have hi : i < vs.length := by
    have := r.length
    rw [List.length_map] at this
    rw [this]
    exact (List.getElem?_eq_some_iff.mp hx).1
  obtain ⟨d, d1, d2⟩ := RdAll.at_ r (List.getElem?_eq_getElem hi)
  rw [List.getElem?_map, hx] at d1
  cases d1
  obtain ⟨t, e⟩ := rd_str d2
  exact ⟨t, by rw [List.getElem?_eq_getElem hi, e]⟩
/-- an item of a list of texts, or none -/
theorem r_itemS {value slice : Expr} {l : Addr} {vs : List Value} {xs : List Str} {i : Nat} {z : Int} {u : Tok} {mu : Led} {Q : Value → Shared → Prop} (F : Fm g c m (mu ++ fr) fa s) (hl : Ls l vs ∈ fa) (hr : RdAll vs (xs.map PyData.str) ∈ fa) (hz : z = (i : Nat)) (hi : i ≤ 2000)
    (h1 : ∀ x t, xs[i]? = some x → Q (.str x t) s) (h2 : xs.length ≤ i → wpAny (MM g) A (subscriptTail value slice (.ref l) (.int z u)) Q E s)
    (hs : subscripted slice false (.ref l) (.int z u) = operate [.ref l, .int z u] (getItem (.ref l) (.int z u))) : wpAny (MM g) A (subscriptTail value slice (.ref l) (.int z u)) Q E s := by
  rcases Nat.lt_or_ge i xs.length with hlt | hge
  · have hx : xs[i]? = some xs[i] := List.getElem?_eq_getElem hlt
    obtain ⟨t, e⟩ := strAt (F.fact hr) hx
    exact r_item (F.lsOf hl) (by omega) (by omega) (by rw [hz]; exact e) (h1 _ t hx) hs
  · exact h2 hge
theorem FrOk.deeper (O : FrOk A env c fr) {oL : Obj} (hoL : isDictO oL) {env' : Env} {c' : Cx} (hk : env'.scope.kind = .function) (hf : env'.frame = some c'.L) : FrOk (A.deeper env') env' c' ((c.L, oL) :: fr) := by
  obtain ⟨outer, h1, h2⟩ := O.fs
  refine ⟨⟨env :: outer, ?_, fun e he => ?_⟩, fun p hp => ?_, hf⟩
  · show A.frames.map _ = _
    rw [h1]; rfl
  · rcases List.mem_cons.mp he with rfl | he
    · exact ⟨hk, _, hf, .inl rfl⟩
    · obtain ⟨a, L, b, d⟩ := h2 e he
      refine ⟨a, L, b, .inr ?_⟩
      rcases d with rfl | d
      · exact .head _
      · exact .tail _ d
  · rcases List.mem_cons.mp hp with rfl | hp
    · exact hoL
    · exact O.dl p hp
theorem sld_call (R : Room A (k + 2)) (O : FrOk A env c fr) (F : Fm g c m (fr ++ mu) fa s) {v w : Value} {xs ys : List Str} (hx : Rd v (.list (xs.map PyData.str)) ∈ fa) (hy : Rd w (.list (ys.map PyData.str)) ∈ fa) (hxl : xs.length ≤ 1000) (hyl : ys.length ≤ 1000) (hxs : SortedS xs) (hys : SortedS ys) {Q : Value → Shared → Prop}
    (h : ∀ r aM aU fr' s', SameF fr fr' → Fm g c m (fr' ++ mu) (Tp r [.ref aM, .ref aU] :: Rd (.ref aM) (.list ((diffS xs ys).1.map PyData.str)) :: Rd (.ref aU) (.list ((diffS xs ys).2.map PyData.str)) :: fa) s' → Q (.ref r) s') : wpAny (MM g) A (call (.ref 191) [v, w]) Q E s := by
  obtain ⟨aE, rfl⟩ := rd_ref (F.fact hx)
  obtain ⟨aA, rfl⟩ := rd_ref (F.fact hy)
  k_dflt (refine enter_fmH (mv := fr) (binds := [(Str.ofString "expected", .ref aE), (Str.ofString "actual", .ref aA)]) F (by k_is) (by k_is) R.d (BindsTo.of_eq rfl) (locs rfl) ?_ rfl rfl rfl (by decide))
  intro c' s₁ oL hoL F₁ back
  have hsl := sizeLine_eq
  obtain ⟨vE, F₂⟩ := F₁.openList hx
  obtain ⟨vA, F₃⟩ := F₂.openList (a := aA) (ds := ys.map PyData.str) (.tail _ (.tail _ hy))
  have lE : vE.length = xs.length := by simpa using (F₂.fact (.head _) : RdAll vE _ _).length
  have lA : vA.length = ys.length := by simpa using (F₃.fact (.head _) : RdAll vA _ _).length
  clear F₁ F₂
  repeat' k_extra "mine_mw"
  rename_i aM s4a F4a s4b F4b aU s4c F4c s4d F4
  clear F4a F4b F4c
  refine r_WhileT (SldJ g c' aE aA aM aU ((c.L, oL) :: fr) (RdAll vA (ys.map PyData.str) :: Ls aA vA :: RdAll vE (xs.map PyData.str) :: Ls aE vE :: fa) xs ys) (xs.length + ys.length)
    ⟨0, 0, _, _, [], [], [], [], 0, 0, ⟨rfl, rfl, rfl, rfl, ⟨_, rfl⟩, ⟨_, rfl⟩⟩, .refl, ((F4.perm (List.Perm.swap _ _ _)).more (P := RdAll [] []) RdAll.mono fun _ _ => RdAll.nil).more (P := RdAll [] []) RdAll.mono fun _ _ => RdAll.nil, ⟨.start, Nat.le_refl _, Nat.le_refl _, Nat.zero_le _, Nat.zero_le _⟩, rfl⟩ ?_
  rintro n s5 ⟨i, j, m5, fr5, ms, us, ws, us', nw, nu, ⟨l1, l2, l3, l4, ⟨ti, l5⟩, ⟨tj, l6⟩⟩, sf5, F5, ⟨dD, dm, du, di, dj⟩, rfl⟩
  repeat' k_extra "mine_mw"
  refine r_tryIdx kIdx rfl rfl rfl rfl (wpAny_mono (E := SldX g c' aE aA aM aU ((c.L, oL) :: fr) (RdAll vA (ys.map PyData.str) :: Ls aA vA :: RdAll vE (xs.map PyData.str) :: Ls aE vE :: fa) xs ys) ?b (fun _ _ q => q) ?x)
  case b =>
    have mkN : ∀ {i j : Nat} {m6 : LM} {ms us : List Str} {ws us' : List Value} {nw nu : Nat} {e : Addr} {cx : Value} {s6 : Shared}, XN g c' m6 [(aM, listOf ws.toArray nw), (aU, listOf us'.toArray nu)] fr5 (RdAll ws (ms.map PyData.str) :: RdAll us' (us.map PyData.str) :: RdAll vA (ys.map PyData.str) :: Ls aA vA :: RdAll vE (xs.map PyData.str) :: Ls aE vE :: fa) e cx s6 → SldL aE aA aM aU i j m6 → SldD xs ys i j ms us → (xs.length ≤ i ∨ ys.length ≤ j) →
        SldX g c' aE aA aM aU ((c.L, oL) :: fr) (RdAll vA (ys.map PyData.str) :: Ls aA vA :: RdAll vE (xs.map PyData.str) :: Ls aE vE :: fa) xs ys (.ref e) s6 := fun X h1 h2 h3 => ⟨_, _, _, _, _, _, _, _, _, _, _, rfl, h1, h2, h3, .inl (X.base sf5)⟩
    have mkF : ∀ {i j : Nat} {m6 : LM} {ms us : List Str} {ws us' : List Value} {nw nu : Nat} {e : Addr} {cx : Value} {s6 : Shared}, XF g c' m6 [(aM, listOf ws.toArray nw), (aU, listOf us'.toArray nu)] fr5 (RdAll ws (ms.map PyData.str) :: RdAll us' (us.map PyData.str) :: RdAll vA (ys.map PyData.str) :: Ls aA vA :: RdAll vE (xs.map PyData.str) :: Ls aE vE :: fa) e (rawInt c'.L) cx s6 → SldL aE aA aM aU i j m6 → SldD xs ys i j ms us → (xs.length ≤ i ∨ ys.length ≤ j) →
        SldX g c' aE aA aM aU ((c.L, oL) :: fr) (RdAll vA (ys.map PyData.str) :: Ls aA vA :: RdAll vE (xs.map PyData.str) :: Ls aE vE :: fa) xs ys (.ref e) s6 := fun X h1 h2 h3 => ⟨_, _, _, _, _, _, _, _, _, _, _, rfl, h1, h2, h3, .inr (X.base sf5)⟩
    have mkJ : ∀ {i' j' : Nat} {m6 : LM} {ms us : List Str} {ws us' : List Value} {nw nu : Nat} {s6 : Shared}, Fm g c' m6 ((aM, listOf ws.toArray nw) :: (aU, listOf us'.toArray nu) :: fr5) (RdAll ws (ms.map PyData.str) :: RdAll us' (us.map PyData.str) :: RdAll vA (ys.map PyData.str) :: Ls aA vA :: RdAll vE (xs.map PyData.str) :: Ls aE vE :: fa) s6 →
        SldL aE aA aM aU i' j' m6 → SldD xs ys i' j' ms us → i + j < i' + j' → ∃ m, m < xs.length + ys.length - i - j ∧ SldJ g c' aE aA aM aU ((c.L, oL) :: fr) (RdAll vA (ys.map PyData.str) :: Ls aA vA :: RdAll vE (xs.map PyData.str) :: Ls aE vE :: fa) xs ys m s6 := fun {i' j'} _ _ _ _ _ _ _ _ F h1 h2 h3 => by
      have := h2.2.2.2
      exact ⟨xs.length + ys.length - i' - j', by omega, i', j', _, fr5, _, _, _, _, _, _, h1, sf5, F, h2, rfl⟩
    have dD0 : SldD xs ys i j ms us := ⟨dD, dm, du, di, dj⟩
    repeat' k_extra "mine_mw"
    refine r_itemS (i := i) (mu := [(aM, _), (aU, _)]) (fr := fr5) F5 (by k_extra "mine_at") (by k_extra "mine_at") rfl (by omega) (fun x tx hxi => ?_) (fun hout => ?_) (by with_unfolding_all rfl)
    rotate_left
    · exact r_itemOut (mu := [(aM, _), (aU, _)]) (fr := fr5) F5 (Room.deeper R _).hh (F5.lsOf (by k_extra "mine_at")) (by omega) (by omega) (fun e s6 X => mkN X ⟨l1, l2, l3, l4, ⟨_, l5⟩, ⟨_, l6⟩⟩ dD0 (.inl hout)) (by with_unfolding_all rfl)
    repeat' k_extra "mine_mw"
    rename Fm _ _ _ _ _ _ => F6
    refine r_itemS (i := j) (mu := [(aM, _), (aU, _)]) (fr := fr5) F6 (by k_extra "mine_at") (by k_extra "mine_at") rfl (by omega) (fun y ty hyj => ?_) (fun hout => ?_) (by with_unfolding_all rfl)
    rotate_left
    · exact r_itemOut (mu := [(aM, _), (aU, _)]) (fr := fr5) F6 (Room.deeper R _).hh (F6.lsOf (by k_extra "mine_at")) (by omega) (by omega) (fun e s6 X => mkN X ⟨l1, l2, l3, l4, ⟨_, l5⟩, ⟨_, l6⟩⟩ dD0 (.inr hout)) (by with_unfolding_all rfl)
    repeat' k_extra "mine_mw"
    have hi1 : i < xs.length := (List.getElem?_eq_some_iff.mp hxi).1
    have hj1 : j < ys.length := (List.getElem?_eq_some_iff.mp hyj).1
    have hwl : ws.length ≤ 1000 := by
      have := (F5.fact (P := RdAll ws _) (by k_extra "mine_at")).length
      rw [List.length_map] at this
      omega
    have hul : us'.length ≤ 1000 := by
      have := (F5.fact (P := RdAll us' _) (by k_extra "mine_at")).length
      rw [List.length_map] at this
      omega
    rw [show decide (x.cps.toList < y.cps.toList) = ltS x y from rfl]
    cases hlt : ltS x y with
    | true =>
      repeat' k_extra "mine_mw"
      case z3 => omega
      rename Fm _ _ _ _ _ _ => F7
      have F8 := (F7.more (P := RdAll (ws ++ [.str x tx]) ((ms ++ [x]).map PyData.str)) RdAll.mono fun hk q => by
        rw [List.map_append]
        exact RdAll.snoc (d := .str x) Rd.str (q (RdAll ws _) (by k_extra "mine_at"))).mono (fa' := RdAll (ws ++ [.str x tx]) ((ms ++ [x]).map PyData.str) :: RdAll us' (us.map PyData.str) :: RdAll vA (ys.map PyData.str) :: Ls aA vA :: RdAll vE (xs.map PyData.str) :: Ls aE vE :: fa) (by k_extra "mine_sub")
      clear F7
      have dD1 : SldD xs ys (i + 1) j (ms ++ [x]) us := ⟨dD.lt hxi hyj hlt, by rw [List.length_append, List.length_singleton]; omega, du, by omega, dj⟩
      refine r_while1 ((O.deeper hoL rfl rfl).same sf5) ?_
      repeat' k_extra "mine_mw"
      rename Fm _ _ _ _ _ _ => F9
      refine r_itemS (i := i + 1) (mu := [(aM, _), (aU, _)]) (fr := fr5) F9 (by k_extra "mine_at") (by k_extra "mine_at") rfl (by omega) (fun x2 tx2 hxi2 => ?_) (fun hout => ?_) (by with_unfolding_all rfl)
      rotate_left
      · exact r_itemOut (mu := [(aM, _), (aU, _)]) (fr := fr5) F9 (Room.deeper R _).hh (F9.lsOf (by k_extra "mine_at")) (by omega) (by omega) (fun e s6 X => ⟨e, _, _, _, _, rfl, X, fun s7 X7 => mkF X7 ⟨l1, l2, l3, l4, ⟨_, rfl⟩, ⟨_, l6⟩⟩ dD1 (.inl hout)⟩) (by with_unfolding_all rfl)
      repeat' k_extra "mine_mw"
      refine ⟨hxs.next hxi hxi2, ?_⟩
      repeat' k_extra "mine_mw"
      exact mkJ (i' := i + 1) (j' := j) F9 ⟨l1, l2, l3, l4, ⟨_, rfl⟩, ⟨_, l6⟩⟩ dD1 (by omega)
    | false =>
      repeat' k_extra "mine_mw"
      rw [show decide (y.cps.toList < x.cps.toList) = ltS y x from rfl]
      cases hgt : ltS y x with
      | true =>
        repeat' k_extra "mine_mw"
        case z3 => omega
        rename Fm _ _ _ _ _ _ => F7
        have F8 := (F7.more (P := RdAll (us' ++ [.str y ty]) ((us ++ [y]).map PyData.str)) RdAll.mono fun hk q => by
          rw [List.map_append]
          exact RdAll.snoc (d := .str y) Rd.str (q (RdAll us' _) (by k_extra "mine_at"))).mono (fa' := RdAll ws (ms.map PyData.str) :: RdAll (us' ++ [.str y ty]) ((us ++ [y]).map PyData.str) :: RdAll vA (ys.map PyData.str) :: Ls aA vA :: RdAll vE (xs.map PyData.str) :: Ls aE vE :: fa) (by k_extra "mine_sub")
        clear F7
        have dD1 : SldD xs ys i (j + 1) ms (us ++ [y]) := ⟨dD.gt hxi hyj hlt hgt, dm, by rw [List.length_append, List.length_singleton]; omega, di, by omega⟩
        refine r_while1 ((O.deeper hoL rfl rfl).same sf5) ?_
        repeat' k_extra "mine_mw"
        rename Fm _ _ _ _ _ _ => F9
        refine r_itemS (i := j + 1) (mu := [(aM, _), (aU, _)]) (fr := fr5) F9 (by k_extra "mine_at") (by k_extra "mine_at") rfl (by omega) (fun x2 tx2 hxi2 => ?_) (fun hout => ?_) (by with_unfolding_all rfl)
        rotate_left
        · exact r_itemOut (mu := [(aM, _), (aU, _)]) (fr := fr5) F9 (Room.deeper R _).hh (F9.lsOf (by k_extra "mine_at")) (by omega) (by omega) (fun e s6 X => ⟨e, _, _, _, _, rfl, X, fun s7 X7 => mkF X7 ⟨l1, l2, l3, l4, ⟨_, l5⟩, ⟨_, rfl⟩⟩ dD1 (.inr hout)⟩) (by with_unfolding_all rfl)
        repeat' k_extra "mine_mw"
        refine ⟨hys.next hyj hxi2, ?_⟩
        repeat' k_extra "mine_mw"
        exact mkJ (i' := i) (j' := j + 1) F9 ⟨l1, l2, l3, l4, ⟨_, l5⟩, ⟨_, rfl⟩⟩ dD1 (by omega)
      | false =>
        repeat' k_extra "mine_mw"
        have dD1 : SldD xs ys (i + 1) (j + 1) ms us := ⟨dD.eq hxi hyj hlt hgt, by omega, by omega, by omega, by omega⟩
        refine r_tryFin ((O.deeper hoL rfl rfl).same sf5) ?_
        repeat' k_extra "mine_mw"
        refine r_while1 ((O.deeper hoL rfl rfl).same sf5) ?_
        repeat' k_extra "mine_mw"
        rename Fm _ _ _ _ _ _ => F9
        refine r_itemS (i := i + 1) (mu := [(aM, _), (aU, _)]) (fr := fr5) F9 (by k_extra "mine_at") (by k_extra "mine_at") rfl (by omega) (fun x2 tx2 hxi2 => ?_) (fun hout => ?_) (by with_unfolding_all rfl)
        · repeat' k_extra "mine_mw"
          refine ⟨hxs.next hxi hxi2, ?_⟩
          repeat' k_extra "mine_mw"
          refine ⟨rfl, ?_⟩
          repeat' k_extra "mine_mw"
          refine r_while1 ((O.deeper hoL rfl rfl).same sf5) ?_
          repeat' k_extra "mine_mw"
          rename Fm _ _ _ _ _ _ => F9
          refine r_itemS (i := j + 1) (mu := [(aM, _), (aU, _)]) (fr := fr5) F9 (by k_extra "mine_at") (by k_extra "mine_at") rfl (by omega) (fun x2 tx2 hxi2 => ?_) (fun hout => ?_) (by with_unfolding_all rfl)
          · repeat' k_extra "mine_mw"
            refine ⟨hys.next hyj hxi2, ?_⟩
            repeat' k_extra "mine_mw"
            refine ⟨rfl, ?_⟩
            repeat' k_extra "mine_mw"
            exact mkJ (i' := i + 1) (j' := j + 1) F9 ⟨l1, l2, l3, l4, ⟨_, rfl⟩, ⟨_, rfl⟩⟩ dD1 (by omega)
          · exact r_itemOut (mu := [(aM, _), (aU, _)]) (fr := fr5) F9 (Room.deeper R _).hh (F9.lsOf (by k_extra "mine_at")) (by omega) (by omega) (fun e s6 X => ⟨e, _, _, _, _, rfl, X, fun s7 X7 => ⟨e, _, _, _, _, rfl, X7, fun s8 X8 => mkF X8 ⟨l1, l2, l3, l4, ⟨_, rfl⟩, ⟨_, rfl⟩⟩ dD1 (.inr hout)⟩⟩) (by with_unfolding_all rfl)
        · refine r_itemOut (mu := [(aM, _), (aU, _)]) (fr := fr5) F9 (Room.deeper R _).hh (F9.lsOf (by k_extra "mine_at")) (by omega) (by omega) (fun e s6 X => ⟨e, _, _, _, _, rfl, X, fun s7 X7 => ⟨e, _, _, _, _, rfl, X7, fun s8 X8 => ?_⟩⟩) (by with_unfolding_all rfl)
          obtain ⟨oe, T, oT, vx, tx', fr8, sf8, F10, x1, x2, x3, x4, x5, x6⟩ := X8
          clear F9 F6 F5 F4
          repeat' k_extra "mine_mw"
          refine r_while1 ((O.deeper hoL rfl rfl).same (sf5.trans sf8)).mark ?_
          repeat' k_extra "mine_mw"
          rename Fm _ _ _ _ _ _ => F11
          refine r_itemS (i := j + 1) (mu := [(T, oT), (e, oe), (aM, _), (aU, _)]) (fr := fr8) F11 (by k_extra "mine_at") (by k_extra "mine_at") rfl (by omega) (fun xx2 tx2 hxi2 => ?_) (fun hout2 => ?_) (by with_unfolding_all rfl)
          · repeat' k_extra "mine_mw"
            refine ⟨hys.next hyj hxi2, ?_⟩
            repeat' k_extra "mine_mw"
            exact ⟨rfl, _, _, _, ⟨oe, T, oT, vx, tx', fr8, sf8, F11, x1, x2, x3, x4, x5, x6⟩, fun s9 X9 => mkF X9 ⟨l1, l2, l3, l4, ⟨_, rfl⟩, ⟨_, rfl⟩⟩ dD1 (.inl hout)⟩
          · exact r_itemOutH (mu := [(T, oT), (e, oe), (aM, _), (aU, _)]) (fr := fr8) F11 rfl (.tail _ (.head _)) x2 x4 (F11.lsOf (by k_extra "mine_at")) (by omega) (by omega) (fun e2 s9 X9 => ⟨e2, _, _, _, _, rfl, X9, fun s10 X10 => ⟨e2, _, _, _, _, rfl, (X10.base sf8).less (.cons _ (.cons _ (List.Sublist.refl _))), fun s11 X11 => mkF X11 ⟨l1, l2, l3, l4, ⟨_, rfl⟩, ⟨_, rfl⟩⟩ dD1 (.inl hout)⟩⟩) (by with_unfolding_all rfl)
  case x =>
    clear F5 F4
    rintro ev s6 ⟨i', j', m6, ms', us2, ws2, us2', nw2, nu2, e, cx, rfl, ⟨l1, l2, l3, l4, ⟨ti, l5⟩, ⟨tj, l6⟩⟩, ⟨dD, dm, du, di, dj⟩, hend, X⟩
    refine ⟨c', m6, _, (c.L, oL) :: fr, _, e, cx, rfl, O.deeper hoL rfl rfl, X, fun s7 fr7 sf7 F7 => ?_⟩
    change Fm g c' _ ((aM, _) :: (aU, _) :: fr7) _ _ at F7
    have hwl : ws2.length ≤ 1000 := by
      have := (F7.fact (P := RdAll ws2 _) (by k_extra "mine_at")).length
      rw [List.length_map] at this
      omega
    have hul : us2'.length ≤ 1000 := by
      have := (F7.fact (P := RdAll us2' _) (by k_extra "mine_at")).length
      rw [List.length_map] at this
      omega
    repeat' k_extra "mine_mw"
    refine getMethod_builtin ⟨_, F7.at_ (.head _), rfl⟩ PySem.F.plainAttrs_list PySem.F.slot_list_extend PySem.F.type_list_extend (fun _ e => by cases e; exact ⟨_, F7.at_ (.head _), rfl⟩) ?_
    repeat' k_extra "mine_mw"
    refine r_sliceFrom ?_ (fun _ _ => by with_unfolding_all rfl)
    repeat' k_extra "mine_mw"
    refine ⟨_, _, _, _, _, vE, i', ti, rfl, rfl, F7, F7.lsOf (by k_extra "mine_at"), by omega, fun b1 s8 F8 => ?_⟩
    repeat' k_extra "mine_mw"
    refine r_extend (vs := ws2) (ws := vE.drop i') (n2 := 0) (mu' := fun n' => (b1, listOf (vE.drop i').toArray 0) :: (aM, listOf (ws2 ++ vE.drop i').toArray n') :: (aU, listOf us2'.toArray nu2) :: fr7) F8 (.head _) (by have := List.length_drop (l := vE) (i := i'); omega) (fun _ => by k_extra "mine_tn") fun nw3 s9 F9 => ?_
    repeat' k_extra "mine_mw"
    refine getMethod_builtin ⟨_, F9.at_ (p := (aU, _)) (.tail _ (.tail _ (.head _))), rfl⟩ PySem.F.plainAttrs_list PySem.F.slot_list_extend PySem.F.type_list_extend (fun _ e => by cases e; exact ⟨_, F9.at_ (p := (aU, _)) (.tail _ (.tail _ (.head _))), rfl⟩) ?_
    repeat' k_extra "mine_mw"
    refine r_sliceFrom ?_ (fun _ _ => by with_unfolding_all rfl)
    repeat' k_extra "mine_mw"
    refine ⟨_, _, _, _, _, vA, j', tj, rfl, rfl, F9, F9.lsOf (by k_extra "mine_at"), by omega, fun b2 s10 F10 => ?_⟩
    repeat' k_extra "mine_mw"
    refine r_extend (vs := us2') (ws := vA.drop j') (n2 := 0) (mu' := fun n' => (b2, listOf (vA.drop j').toArray 0) :: (b1, listOf (vE.drop i').toArray 0) :: (aM, listOf (ws2 ++ vE.drop i').toArray nw3) :: (aU, listOf (us2' ++ vA.drop j').toArray n') :: fr7) F10 (.head _) (by have := List.length_drop (l := vA) (i := j'); omega) (fun _ => by k_extra "mine_tn") fun nu3 s11 F11 => ?_
    repeat' k_extra "mine_mw"
    rename Fm _ _ _ _ _ _ => F12
    obtain ⟨oL', fr8, rfl, hoL', sf8⟩ := sf7.cons
    have hd1 := dD.done hend
    have F13 := F12.freeze (P := Tp _ [.ref aM, .ref aU]) Tp.mono fun hk e _ => Tp.of e
    have F14 := F13.drop (mu' := (aM, listOf (ws2 ++ vE.drop i').toArray nw3) :: (aU, listOf (us2' ++ vA.drop j').toArray nu3) :: (c.L, oL') :: fr8) (.cons _ (.cons _ (List.Sublist.refl _)))
    have F15 := F14.freeze (P := Rd (.ref aM) (.list ((diffS xs ys).1.map PyData.str))) Rd.mono fun hk e q => by
      rw [hd1, List.map_append]
      refine Rd.list e (rdAll_append (q (RdAll ws2 _) (by k_extra "mine_at")) ?_)
      rw [List.map_drop]
      exact rdAll_drop i' (q (RdAll vE _) (by k_extra "mine_at"))
    have F16 := F15.freeze (P := Rd (.ref aU) (.list ((diffS xs ys).2.map PyData.str))) Rd.mono fun hk e q => by
      rw [hd1, List.map_append]
      refine Rd.list e (rdAll_append (q (RdAll us2' _) (by k_extra "mine_at")) ?_)
      rw [List.map_drop]
      exact rdAll_drop j' (q (RdAll vA _) (by k_extra "mine_at"))
    exact h _ aM aU fr8 _ sf8 ((back _ oL' fr8 [] _ _ sf8.1 hoL' (by rw [List.append_nil]; exact F16)).mono (by k_extra "mine_sub"))
end
end
-- Pu4
section
theorem ltS_trans {a b c : Str} (h1 : ltS a b = true) (h2 : ltS b c = true) : ltS a c = true := by
  unfold ltS at *
  exact decide_eq_true (List.lt_trans (of_decide_eq_true h1) (of_decide_eq_true h2))
theorem ltS_anti {a b : Str} (h1 : ltS a b = false) (h2 : ltS b a = false) : a = b := by
  unfold ltS at *
  have e1 := of_decide_eq_false h1
  have e2 := of_decide_eq_false h2
  have e : a.cps.toList = b.cps.toList := List.le_antisymm (List.not_lt.mp e2) (List.not_lt.mp e1)
  cases a; cases b
  simp only [Str.mk.injEq]
  exact Array.toList_inj.mp e
theorem ltS_asymm {a b : Str} (h : ltS a b = true) : ltS b a = false := by
  cases e : ltS b a with
  | false => rfl
  | true => have := ltS_trans h e; rw [ltS_irrefl] at this; cases this
theorem le_trans {a b c : Str} (h1 : ltS b a = false) (h2 : ltS c b = false) : ltS c a = false := by
  cases e : ltS c a with
  | false => rfl
  | true =>
    cases e1 : ltS a b with
    | true => rw [ltS_trans e e1] at h2; cases h2
    | false => rw [ltS_anti e1 h1, h2] at e; cases e
/-- sorted: no later text is less -/
noncomputable def LeAll (l : List Str) : Prop := l.Pairwise fun a b => ltS b a = false
theorem ltCps_dec : ∀ a b : List Nat, PySem.Spec.ltCps a b = decide (a < b)
  | [], [] => by simp [PySem.Spec.ltCps]
  | [], _ :: _ => by simp [PySem.Spec.ltCps]
  | _ :: _, [] => by simp [PySem.Spec.ltCps]
  | a :: r, b :: t => by
    rw [PySem.Spec.ltCps, ltCps_dec r t, Bool.eq_iff_iff]
    simp [List.cons_lt_cons_iff]
theorem rising_le : ∀ (l : List Str) (p : Str), risingS p l = true → LeAll (p :: l)
  | [], p, _ => List.pairwise_singleton _ _
  | x :: r, p, h => by
    have h' : (!PySem.Spec.ltCps x.cps.toList p.cps.toList && risingS x r) = true := h
    rw [Bool.and_eq_true, Bool.not_eq_true'] at h'
    have ih := rising_le r x h'.2
    have hxp : ltS x p = false := (ltCps_dec _ _).symm.trans h'.1
    refine List.pairwise_cons.mpr ⟨fun y hy => ?_, ih⟩
    rcases List.mem_cons.mp hy with rfl | hy
    · exact hxp
    · exact le_trans hxp ((List.pairwise_cons.mp ih).1 y hy)
theorem sortedS_le : ∀ (l : List Str), sortedS l = true → LeAll l
  | [], _ => List.Pairwise.nil
  | x :: r, h => rising_le r x h
/-- a sorting -/
noncomputable def insS (x : Str) : List Str → List Str
  | [] => [x]
  | y :: r => if ltS y x then y :: insS x r else x :: y :: r
noncomputable def srt : List Str → List Str
  | [] => []
  | x :: r => insS x (srt r)
theorem insS_perm (x : Str) : ∀ l, (insS x l).Perm (x :: l)
  | [] => .refl _
  | y :: r => by
    unfold insS
    split
    · exact (List.Perm.cons _ (insS_perm x r)).trans (List.Perm.swap _ _ _)
    · exact .refl _
theorem srt_perm : ∀ l, (srt l).Perm l
  | [] => .refl _
  | x :: r => (insS_perm x _).trans (List.Perm.cons _ (srt_perm r))
theorem insS_le (x : Str) : ∀ l, LeAll l → LeAll (insS x l)
  | [], _ => List.pairwise_singleton _ _
  | y :: r, h => by
    have h1 := List.pairwise_cons.mp h
    unfold insS
    split
    · rename_i hyx
      refine List.pairwise_cons.mpr ⟨fun z hz => ?_, insS_le x r h1.2⟩
      rcases List.mem_cons.mp ((insS_perm x r).mem_iff.mp hz) with rfl | hz
      · exact ltS_asymm hyx
      · exact h1.1 z hz
    · rename_i hyx
      have hyx : ltS y x = false := by simpa using hyx
      refine List.pairwise_cons.mpr ⟨fun z hz => ?_, h⟩
      rcases List.mem_cons.mp hz with rfl | hz
      · exact hyx
      · exact le_trans hyx (h1.1 z hz)
theorem srt_le : ∀ l, LeAll (srt l)
  | [] => List.Pairwise.nil
  | x :: r => insS_le x _ (srt_le r)
theorem le_unique : ∀ {a b : List Str}, LeAll a → LeAll b → a.Perm b → a = b
  | [], b, _, _, h => by rw [List.nil_perm.mp h]
  | x :: a, [], _, _, h => by cases List.perm_nil.mp h
  | x :: a, y :: b, ha, hb, h => by
    have ha1 := List.pairwise_cons.mp ha
    have hb1 := List.pairwise_cons.mp hb
    have e : x = y := by
      have h1 : x ∈ y :: b := h.mem_iff.mp (.head _)
      have h2 : y ∈ x :: a := h.mem_iff.mpr (.head _)
      rcases List.mem_cons.mp h1 with e | h1
      · exact e
      rcases List.mem_cons.mp h2 with e | h2
      · exact e.symm
      exact ltS_anti (hb1.1 x h1) (ha1.1 y h2) |> fun q => q
    subst e
    rw [le_unique ha1.2 hb1.2 (List.Perm.cons_inv h)]
theorem srt_of {l l' : List Str} (h1 : l'.Perm l) (h2 : sortedS l' = true) : l' = srt l := le_unique (sortedS_le _ h2) (srt_le _) (h1.trans (srt_perm l).symm)
theorem srt_perm_eq {l l' : List Str} (h : l'.Perm l) : srt l' = srt l := le_unique (srt_le _) (srt_le _) (((srt_perm _).trans h).trans (srt_perm _).symm)
theorem srt_strict {l : List Str} (h : l.Nodup) : SortedS (srt l) := by
  have h1 := srt_le l
  have h2 : (srt l).Nodup := (srt_perm l).nodup_iff.mpr h
  unfold SortedS
  refine (h1.and h2).imp fun {a b} q => ?_
  cases e : ltS a b with
  | true => rfl
  | false => exact absurd (ltS_anti e q.1) q.2
theorem strict_le {l : List Str} (h : SortedS l) : LeAll l := h.imp fun q => ltS_asymm q
theorem srt_self {l : List Str} (h : LeAll l) : srt l = l := le_unique (srt_le l) h (srt_perm l)
theorem srt_length (l : List Str) : (srt l).length = l.length := (srt_perm l).length_eq

/-- what two sorted lists have alone -/
theorem diffS_spec : ∀ (xs ys : List Str), SortedS xs → SortedS ys → (diffS xs ys).1 = xs.filter (fun x => !decide (x ∈ ys)) ∧ (diffS xs ys).2 = ys.filter (fun y => !decide (y ∈ xs))
  | [], ys, _, _ => by
    rw [diffS_nil]
    refine ⟨rfl, ?_⟩
    exact (List.filter_eq_self.mpr fun _ _ => by simp).symm
  | x :: xs, [], _, _ => by
    rw [diffS_nil']
    exact ⟨(List.filter_eq_self.mpr fun _ _ => by simp).symm, rfl⟩
  | x :: xs, y :: ys, hx, hy => by
    have hx1 := List.pairwise_cons.mp hx
    have hy1 := List.pairwise_cons.mp hy
    cases hlt : ltS x y with
    | true =>
      rw [diffS_lt hlt]
      have ih := diffS_spec xs (y :: ys) hx1.2 hy
      have hn : x ∉ y :: ys := fun h => by
        rcases List.mem_cons.mp h with rfl | h
        · rw [ltS_irrefl] at hlt; cases hlt
        · have := ltS_trans hlt (hy1.1 x h); rw [ltS_irrefl] at this; cases this
      refine ⟨?_, ?_⟩
      · rw [List.filter_cons_of_pos (by simp only [decide_eq_false hn, Bool.not_false]), ← ih.1]
      · show (diffS xs (y :: ys)).2 = _
        rw [ih.2]
        refine List.filter_congr fun z hz => ?_
        have : z ≠ x := fun e => hn (e ▸ hz)
        simp [this]
    | false =>
      cases hgt : ltS y x with
      | true =>
        rw [diffS_gt hlt hgt]
        have ih := diffS_spec (x :: xs) ys hx hy1.2
        have hn : y ∉ x :: xs := fun h => by
          rcases List.mem_cons.mp h with rfl | h
          · rw [ltS_irrefl] at hgt; cases hgt
          · have := ltS_trans hgt (hx1.1 y h); rw [ltS_irrefl] at this; cases this
        refine ⟨?_, ?_⟩
        · show (diffS (x :: xs) ys).1 = _
          rw [ih.1]
          refine List.filter_congr fun z hz => ?_
          have : z ≠ y := fun e => hn (e ▸ hz)
          simp [this]
        · rw [List.filter_cons_of_pos (by simp only [decide_eq_false hn, Bool.not_false]), ← ih.2]
      | false =>
        rw [diffS_eq hlt hgt]
        obtain rfl := ltS_anti hlt hgt
        have ih := diffS_spec xs ys hx1.2 hy1.2
        have nx : ∀ z ∈ xs, z ≠ x := fun z hz e => by have := hx1.1 z hz; rw [e, ltS_irrefl] at this; cases this
        have ny : ∀ z ∈ ys, z ≠ x := fun z hz e => by have := hy1.1 z hz; rw [e, ltS_irrefl] at this; cases this
        refine ⟨?_, ?_⟩
        · rw [List.filter_cons_of_neg (by simp), ih.1]
          refine List.filter_congr fun z hz => ?_
          simp [nx z hz]
        · rw [List.filter_cons_of_neg (by simp), ih.2]
          refine List.filter_congr fun z hz => ?_
          simp [ny z hz]
termination_by xs ys => xs.length + ys.length
end
-- Pu5
section
noncomputable def dirS (r : List Str) : Str := joinS (Str.ofString "/") r
noncomputable def dirS2 (r : List Str) : Str := joinS (Str.ofString "/") (Str.ofString "b" :: Str.ofString ".." :: r)
noncomputable def modQ (r : List Str) : Str := Txt.join (Str.ofString ".") r
noncomputable def rowDir (r : List Str) : Str := Str.ofString "/" ++ Txt.join (Str.ofString "/") r
noncomputable def fileL (r : List Str) : Str := Str.ofString "/" ++ Txt.join (Str.ofString "/") r ++ Str.ofString "/f.py"
noncomputable def begins (q r : List Str) : Bool := r.take q.length == q
abbrev zSl : Str := ⟨#[47]⟩
abbrev zDot : Str := ⟨#[46]⟩
abbrev zDd : Str := ⟨#[46, 46]⟩
abbrev zB : Str := ⟨#[98]⟩
abbrev zF : Str := ⟨#[102]⟩
abbrev zFpy : Str := ⟨#[102, 46, 112, 121]⟩
abbrev zSfpy : Str := ⟨#[47, 102, 46, 112, 121]⟩
theorem eSl : Str.ofString "/" = zSl := by decide +kernel
theorem eDot : Str.ofString "." = zDot := by decide +kernel
theorem eDd : Str.ofString ".." = zDd := by decide +kernel
theorem eB : Str.ofString "b" = zB := by decide +kernel
theorem eF : Str.ofString "f" = zF := by decide +kernel
theorem eFpy : Str.ofString "f.py" = zFpy := by decide +kernel
theorem eSfpy : Str.ofString "/f.py" = zSfpy := by decide +kernel
noncomputable def zNms : List Str := [⟨#[97]⟩, ⟨#[97, 98]⟩, ⟨#[98]⟩]
noncomputable def zRows : List (List Str) := zNms.map (fun x => [x]) ++ zNms.flatMap (fun x => zNms.map fun y => [x, y]) ++ zNms.flatMap fun x => zNms.flatMap fun y => zNms.map fun z => [x, y, z]
theorem eNms : nms = zNms := by decide +kernel
theorem eRows : allRows = zRows := by unfold allRows zRows; rw [eNms]
noncomputable def zJoinStep (path b : Str) : Str := if Txt.startswith b zSl || path.length == 0 then b else if Txt.endswith path zSl then path ++ b else path ++ (zSl ++ b)
theorem eJoinStep : joinStep = zJoinStep := by funext p b; unfold joinStep zJoinStep; rw [eSl]
noncomputable def zJoin (a : Str) (ps : List Str) : Str := ps.foldl zJoinStep a
theorem eJoin : joinS = zJoin := by funext a ps; unfold joinS zJoin; rw [eJoinStep]
noncomputable def zFresh (x : Str) : Str := Txt.slice (x ++ zSl) none (some (-1))
theorem eFresh : freshS = zFresh := by funext x; unfold freshS zFresh; rw [eSl]
noncomputable def zStep (acc : List Str) (c : Str) : List Str :=
  if c.length == 0 then acc else if c == zDot then acc else if c != zDd then acc ++ [c] else
    match acc.getLast? with
    | none => acc
    | some l => if l == zDd then acc ++ [c] else acc.dropLast
theorem eStep : npStep = zStep := by
  funext acc c
  unfold npStep zStep
  rw [eDot, eDd]
  all_goals rfl
noncomputable def zComps (x : Str) : List Str := Txt.split (Txt.slice x (some 1) none) zSl
theorem eComps : npComps = zComps := by funext x; unfold npComps zComps; rw [eSl]
noncomputable def zParts (x : Str) : List Str := (zComps x).foldl zStep []
theorem eParts : npParts = zParts := by funext x; unfold npParts zParts; rw [eComps, eStep]
noncomputable def zPath (x : Str) : Str := zSl ++ Txt.join zSl (zParts x)
theorem ePath : npPath = zPath := by funext x; unfold npPath zPath; rw [eParts, eSl]
noncomputable def zNorm (x : Str) : Str := zFresh (zPath x)
theorem eNorm : normS = zNorm := by funext x; unfold normS zNorm; rw [eFresh, ePath]
noncomputable def zOk (x : Str) : Bool := x.length ≤ 500 && Txt.slice x none (some 1) == zSl && (Txt.slice x (some 1) (some 2) != zSl) && !(x.length == 0) && ((zComps x).length ≤ 1000 && (zComps x).all (fun y => y.length ≤ 1000)) && ((zParts x).map (·.length)).sum + (zParts x).length ≤ 1000 && (zPath x).length ≤ 1000 && !((zPath x).length == 0)
theorem eOk : npOk = zOk := by funext x; unfold npOk zOk; rw [eSl, eComps, eParts, ePath]
noncomputable def zRowDir (r : List Str) : Str := zSl ++ Txt.join zSl r
theorem eRowDir : rowDir = zRowDir := by funext r; unfold rowDir zRowDir; rw [eSl]
noncomputable def zFileL (r : List Str) : Str := zSl ++ Txt.join zSl r ++ zSfpy
theorem eFileL : fileL = zFileL := by funext r; unfold fileL zFileL; rw [eSl, eSfpy]
theorem eDirS (r : List Str) : dirS r = zJoin zSl r := by unfold dirS; rw [eJoin, eSl]
theorem eDirS2 (r : List Str) : dirS2 r = zJoin zSl (zB :: zDd :: r) := by unfold dirS2; rw [eJoin, eSl, eB, eDd]
theorem eFileS (r : List Str) : fileS r = zJoin zSl (r ++ [zFpy]) := by unfold fileS; rw [eJoin, eSl, eFpy]
theorem eModS (r : List Str) : modS r = Txt.join zDot (r ++ [zF]) := by unfold modS; rw [eDot, eF]
theorem eModQ (r : List Str) : modQ r = Txt.join zDot r := by unfold modQ; rw [eDot]
theorem dir_ok : ∀ r ∈ allRows, npOk (dirS r) = true ∧ npOk (dirS2 r) = true := by
  have h : ∀ r ∈ zRows, zOk (zJoin zSl r) = true ∧ zOk (zJoin zSl (zB :: zDd :: r)) = true := by decide +kernel
  intro r hr
  rw [eRows] at hr
  rw [eDirS, eDirS2, eOk]
  exact h r hr
theorem dir_norm : ∀ r ∈ allRows, normS (dirS r) = rowDir r ∧ normS (dirS2 r) = rowDir r := by
  have h : ∀ r ∈ zRows, zNorm (zJoin zSl r) = zRowDir r ∧ zNorm (zJoin zSl (zB :: zDd :: r)) = zRowDir r := by decide +kernel
  intro r hr
  rw [eRows] at hr
  rw [eDirS, eDirS2, eNorm, eRowDir]
  exact h r hr
theorem file_same : ∀ r ∈ allRows, fileS r = fileL r := by
  have h : ∀ r ∈ zRows, zJoin zSl (r ++ [zFpy]) = zFileL r := by decide +kernel
  intro r hr
  rw [eRows] at hr
  rw [eFileS, eFileL]
  exact h r hr
theorem file_nodup : (allRows.map fileL).Nodup := by
  have h : (zRows.map zFileL).Nodup := by decide +kernel
  rw [eRows, eFileL]
  exact h
theorem file_begins : ∀ q ∈ allRows, ∀ r ∈ allRows, Txt.startswith (fileS r) (rowDir q ++ Str.ofString "/") = begins q r := by
  have h : ∀ q ∈ zRows, ∀ r ∈ zRows, Txt.startswith (zFileL r) (zRowDir q ++ zSl) = begins q r := by decide +kernel
  intro q hq r hr
  rw [file_same r hr, eFileL, eRowDir, eSl]
  rw [eRows] at hq hr
  exact h q hq r hr
theorem mod_begins : ∀ q ∈ allRows, ∀ r ∈ allRows, Txt.startswith (modS r) (modQ q ++ Str.ofString ".") = begins q r := by
  have h : ∀ q ∈ zRows, ∀ r ∈ zRows, Txt.startswith (Txt.join zDot (r ++ [zF])) (Txt.join zDot q ++ zDot) = begins q r := by decide +kernel
  intro q hq r hr
  rw [eModS, eModQ, eDot]
  rw [eRows] at hq hr
  exact h q hq r hr
theorem mod_ne : ∀ q ∈ allRows, ∀ r ∈ allRows, modS r ≠ modQ q := by
  have h : ∀ q ∈ zRows, ∀ r ∈ zRows, Txt.join zDot (r ++ [zF]) ≠ Txt.join zDot q := by decide +kernel
  intro q hq r hr
  rw [eModS, eModQ]
  rw [eRows] at hq hr
  exact h q hq r hr
theorem mod_len : ∀ r ∈ allRows, (modQ r).length ≤ 100 := by
  have h : ∀ r ∈ zRows, (Txt.join zDot r).length ≤ 100 := by decide +kernel
  intro r hr
  rw [eModQ]
  rw [eRows] at hr
  exact h r hr
theorem rowDir_len : ∀ r ∈ allRows, (rowDir r).length ≤ 100 := by
  have h : ∀ r ∈ zRows, (zRowDir r).length ≤ 100 := by decide +kernel
  intro r hr
  rw [eRowDir]
  rw [eRows] at hr
  exact h r hr
theorem two_mods : modQ (rowOf 18) ≠ modQ (rowOf 30) := by decide +kernel
theorem sum_lens {r : List Str} (h : r ∈ allRows) : (r.map (·.length)).sum + r.length * 1 ≤ 100 := by
  obtain ⟨h1, h2⟩ := rows_small h
  have h3 : ∀ l : List Str, (l.map (·.length)).sum ≤ (l.map fun p => p.length + 1).sum := fun l => by
    induction l with
    | nil => simp
    | cons a l ih => simp only [List.map_cons, List.sum_cons]; omega
  have := h3 r
  omega
theorem file_lay : ∀ r ∈ allRows, (PyData.str (fileS r)).canLay0 = true := by
  have h : ∀ r ∈ zRows, (PyData.str (zFileL r)).canLay0 = true := by decide +kernel
  intro r hr
  rw [file_same r hr, eFileL]
  rw [eRows] at hr
  exact h r hr
theorem lay_strs : ∀ {l : List Str}, (∀ x ∈ l, (PyData.str x).canLay0 = true) → PyData.canLayAll0 (l.map PyData.str) = true
  | [], _ => rfl
  | x :: l, h => by simp only [List.map_cons, PyData.canLayAll0, h x (.head _), lay_strs fun y hy => h y (.tail _ hy), Bool.and_self]
theorem lay_files {l : List Str} {rows : List (List Str)} (hra : ∀ r ∈ rows, r ∈ allRows) (h : ∀ x ∈ l, x ∈ rows.map fileS) : PyData.canLayAll0 (l.map PyData.str) = true :=
  lay_strs fun x hx => by
    obtain ⟨r, hr, rfl⟩ := List.mem_map.mp (h x hx)
    exact file_lay r (hra r hr)
end
-- F16
section
section
variable {g : Gb} {c : Cx} {m : LM} {mu mu' : Led} {fa : List Fact} {s s' : Shared} {A : Around} {E : Value → Shared → Prop} {k : Nat} {env : Env}
/-- sorted(xs) of texts -/
theorem r_sorted {v : Value} {ss : List Str} {Q : Value → Shared → Prop} (F : Fm g c m mu fa s) (hv : Rd v (.list (ss.map PyData.str)) ∈ fa) (hl : ss.length < 64) (h : ∀ r s', Fm g c m mu (Rd r (.list ((srt ss).map PyData.str)) :: fa) s' → Q r s') :
    wpAny (MM g) A (call (.builtin "sorted") [v]) Q E s := by
  obtain ⟨a, rfl⟩ := rd_ref (F.fact hv)
  obtain ⟨vs, h1, h2⟩ := rd_open (F.fact hv)
  have hlen : vs.length = ss.length := by simpa using h2.length
  refine sorted_strs h1 (rdAll_strs h2) (by omega) fun out ss' a1 a2 a3 => ?_
  obtain ⟨e, he⟩ := sortedAll_at s.heap vs out
  have F₁ := F.adopt (s' := { s with heap := sortedAll s.heap vs out }) (fun b o q => sortedAll_old q) (Heap.get?_none_of_le (Nat.le_succ _)) he rfl rfl
  refine h _ _ (F₁.freeze Rd.mono fun hk q _ => ?_)
  rw [← srt_of a2 a3]
  have q' : hk.get? (s.heap.objs.size + 1) = some (listOf out.toList.toArray e) := by rw [q]
  exact Rd.list q' (strs_rdAll a1)

/-- a cell's object -/
abbrev Cl (o : Obj) (v : Option Value) : Prop := o.data = .cell v
theorem r_cellStore {x : Str} {a : Addr} {o : Obj} {v0 : Option Value} {v : Value} {mu' : Obj → Led} {Q : Unit → Shared → Prop} (F : Fm g c m mu fa s) (hv : Cl o v0) (U : ∀ o', Tn a o o' mu (mu' o')) (hk : env.scope.kind = .function) (hl : env.kindOf x = some .cell) (hc : env.cells.lookup x = some a)
    (h : ∀ o' s', Cl o' (some v) → Fm g c m (mu' o') fa s' → Q () s') : wpAny (MM g) A (storeName env x v) Q E s :=
  wpAny_storeName_cell hk hl hc ⟨o, F.at_ (U o).mem, hv⟩ fun h' ⟨o', e1, e2⟩ hs => h o' _ e2 (F.turn (s' := { s with heap := h' }) (U o') (fun b o hb e => hs.extBut b o hb e) e1 rfl rfl)
theorem r_cellLoad {x : Str} {pos : Pos} {a : Addr} {o : Obj} {v : Value} {Q : Value → Shared → Prop} (F : Fm g c m mu fa s) (hm : (a, o) ∈ mu) (hv : Cl o (some v)) (hk : env.scope.kind = .function) (hl : env.kindOf x = some .cell) (hc : env.cells.lookup x = some a) (hd : (x == ("__debug__" : Str)) = false)
    (h : Q v s) : wpAny (MM g) A (eval (.Name x pos) env) Q E s := wpAny_Name (wpAny_loadName_cell hk hl hc ⟨o, F.at_ hm, hv⟩ h) hd
/-- a cell of an outer frame -/
theorem r_freeLoad {x : Str} {pos : Pos} {a : Addr} {o : Obj} {v : Value} {Q : Value → Shared → Prop} (F : Fm g c m mu fa s) (hm : c.hb.get? a = some o) (hv : Cl o (some v)) (hk : env.scope.kind = .function) (hl : env.kindOf x = some .free) (hc : env.cells.lookup x = some a) (hd : (x == ("__debug__" : Str)) = false) (hn : (x == ("__classdict__" : Str)) = false)
    (h : Q v s) : wpAny (MM g) A (eval (.Name x pos) env) Q E s := wpAny_Name (wpAny_loadName_free hk hl hc ⟨o, F.fr.keep _ _ hm, hv⟩ h hn) hd

inductive ForRAt (g : Gb) (A : Around) (env : Env) (x : Str) (body : List Stmt) (n : Nat) (Q : Flow → Shared → Prop) (xv : Value) (s₁ : Shared) : Prop where
  | mk (c : Cx) (m : LM) (mu : Led) (fa : List Fact) (ax : Addr) (t u v : Tok) (J : Nat → LM → Led → List Fact → Prop) (h0 : xv = .ref ax) (h1 : Fm g c m mu fa s₁) (h2 : IsRange s₁.heap ax 0 n 1 t u v) (h3 : J 0 m mu fa) (h4 : (∀ i t m₁ mu₁ fa₁ I oI s₂, i < n → J i m₁ mu₁ fa₁ → Fm g c m₁ ((I, oI) :: mu₁) fa₁ s₂ →
        wpAny (MM g) A (storeName env x (.int (i : Nat) t)) (fun _ s₃ => wpAny (MM g) A (execs body env) (fun f s₄ => match f with
          | .next | .cont => ∃ m₂ mu₂ fa₂, J (i + 1) m₂ mu₂ fa₂ ∧ Fm g c m₂ ((I, oI) :: mu₂) fa₂ s₄
          | .brk => Q .next s₄
          | .ret v => Q (.ret v) s₄) (fun _ _ => False) s₃) (fun _ _ => False) s₂)) (h5 : ∀ m₁ mu₁ fa₁ s₂, J n m₁ mu₁ fa₁ → Fm g c m₁ mu₁ fa₁ s₂ → Q .next s₂) : ForRAt g A env x body n Q xv s₁
/-- a for over a range of written length; the target is stored by the turn -/
theorem r_ForR {x : Str} {px pos : Pos} {iter : Expr} {body : List Stmt} {n : Nat} {Q : Flow → Shared → Prop} (hh : A.handled = none) (hn : n ≤ 1000)
    (h : wpAny (MM g) A (eval iter env) (fun xv s₁ => ForRAt g A env x body n Q xv s₁) E s) (hs : ∀ x, foldedSetIterable iter env x = pure x) :
    wpAny (MM g) A (exec (.For (.Name x px) iter body [] pos) env) Q E s := by
  refine wpAny_For (wpAny_mono h (fun xv s₁ h₁ => ?_) fun _ _ e => e) hs
  obtain ⟨c, m, mu, fa, ax, t, u, v, J, rfl, F, hr, hJ, turn, done⟩ := h₁
  have hsz : Builtin.Range.rangeSize 0 (n : Nat) 1 = (n : Nat) := by
    unfold Builtin.Range.rangeSize
    simp
    omega
  refine wpAny_pyIter_range hr ?_ ?_
  · unfold Builtin.Range.small Builtin.Range.rangeFitsLong
    rw [hsz]
    simp
    omega
  rw [hsz]
  have F₀ := F.alloc (o := { cls := .type "range_iterator", data := .fields #[rawInt 0, rawInt (n : Nat), rawInt 1] }) rfl
  generalize hI : s₁.heap.objs.size = I at F₀
  have W := Walks.range (prog := PySem.Challenge.rw_in0181_01.row.prog) (w := g.w) hh I 0 1 n
  refine codeAny_forLoop
    (fun k s' => ∃ i m₁ mu₁ fa₁ oI, (∀ h : Heap, h.get? I = some oI → IsRangeIter h I (0 + (i : Nat) * 1) ((n : Int) - (i : Nat)) 1) ∧ J i m₁ mu₁ fa₁ ∧ Fm g c m₁ ((I, oI) :: mu₁) fa₁ s' ∧ i ≤ n ∧ k = n + 1 - i) ?_ (n + 1)
    ⟨0, m, mu, fa, _, (fun h e => by simpa using e), hJ, F₀, Nat.zero_le _, rfl⟩
  rintro k s' ⟨i, m₁, mu₁, fa₁, oI, c1, hJ', F', hi, rfl⟩
  have st := c1 s'.heap (F'.at_ (.head _))
  by_cases hlt : i < n
  · refine W.item i s' _ _ hlt st fun v h' tk hv st' hk' => ?_
    obtain ⟨tv, rfl⟩ := hv
    have F₁ := F'.turn (s' := { s' with heap := h', toks := tk }) .head (fun b o hb e => hk' b o (by simpa using hb) e) st' rfl rfl
    have e0 : (0 + (i : Nat) * 1 : Int) = (i : Nat) := by omega
    rw [e0]
    refine wpAny_assign_Name (nofail (wpAny_mono (turn i tv m₁ mu₁ fa₁ I _ _ hlt hJ' F₁) (fun _ s₃ h₃ => ?_) fun _ _ x => x))
    refine nofail (wpAny_mono h₃ (fun f s₄ h₄ => ?_) fun _ _ x => x)
    cases f with
    | ret v => exact h₄
    | brk => exact h₄
    | next =>
      obtain ⟨m₂, mu₂, fa₂, j, F₃⟩ := h₄
      exact ⟨n + 1 - (i + 1), by omega, i + 1, m₂, mu₂, fa₂, _, fun h e => e, j, F₃, hlt, rfl⟩
    | cont =>
      obtain ⟨m₂, mu₂, fa₂, j, F₃⟩ := h₄
      exact ⟨n + 1 - (i + 1), by omega, i + 1, m₂, mu₂, fa₂, _, fun h e => e, j, F₃, hlt, rfl⟩
  · obtain rfl : i = n := by omega
    refine W.done s' _ _ st fun h' tk hk' => wpAny_execs_nil ?_
    exact done m₁ mu₁ fa₁ _ hJ' (F'.lose (s' := { s' with heap := h', toks := tk }) (fun b o hb e => hk' b o (by simpa using hb) e) rfl rfl)
end
end
-- F17
section
section
variable {g : Gb} {c : Cx} {m : LM} {mu mu' : Led} {fa : List Fact} {s s' : Shared} {A : Around} {E : Value → Shared → Prop} {k : Nat} {env : Env}
/-- a cell of an outer frame, under its own name -/
theorem r_cellLoadH {x : Str} {pos : Pos} {a : Addr} {o : Obj} {v : Value} {Q : Value → Shared → Prop} (F : Fm g c m mu fa s) (hm : c.hb.get? a = some o) (hv : Cl o (some v)) (hk : env.scope.kind = .function) (hl : env.kindOf x = some .cell) (hc : env.cells.lookup x = some a) (hd : (x == ("__debug__" : Str)) = false)
    (h : Q v s) : wpAny (MM g) A (eval (.Name x pos) env) Q E s := wpAny_Name (wpAny_loadName_cell hk hl hc ⟨o, F.fr.keep _ _ hm, hv⟩ h) hd

inductive CompSayC (g : Gb) (A : Around) (env : Env) (scope : Scope) (cl : List (Str × Addr)) (x : Str) (ifs : List Expr) (elt : Expr) (Q : Value → Shared → Prop) (xv : Value) (s₁ : Shared) : Prop where
  | mk (α : Type) (c : Cx) (m : LM) (mu : Led) (fa : List Fact) (enc : α → PyData) (as : List α) (p : α → Bool) (f : α → PyData) (h0 : Fm g c m mu fa s₁) (h1 : Rd xv (.list (as.map enc)) ∈ fa) (h2 : as.length ≤ sizeLine) (h3 : (∀ q ∈ cl, ∃ o, (q.2, o) ∈ mu)) (h4 : (∀ c' m' mu' R v a s₂ cA oA, a ∈ as → (∀ p ∈ mu, c'.hb.get? p.1 = some p.2) → (cA, oA) ∈ mu' → Cl oA (some v) → Fm g c' m' mu' (Rd v (enc a) :: R :: fa) s₂ →
        wpAny (MM g) A (testsOf ifs (compEnvC scope ((x, cA) :: cl) c'.L env)) (fun ok s₃ => ok = p a ∧ Fm g c' m' mu' (Rd v (enc a) :: R :: fa) s₃) (fun _ _ => False) s₂)) (h5 : (∀ c' m' mu' R v a s₂ cA oA, a ∈ as → p a = true → (∀ p ∈ mu, c'.hb.get? p.1 = some p.2) → (cA, oA) ∈ mu' → Cl oA (some v) → Fm g c' m' mu' (Rd v (enc a) :: R :: fa) s₂ →
        wpAny (MM g) A (eval elt (compEnvC scope ((x, cA) :: cl) c'.L env)) (fun y s₃ => Fm g c' m' mu' (Rd y (f a) :: R :: fa) s₃) (fun _ _ => False) s₂)) (h6 : ∀ r s', Fm g c m mu (Rd r (.list ((as.filter p).map f)) :: fa) s' → Q r s') : CompSayC g A env scope cl x ifs elt Q xv s₁
/-- a comprehension whose own variable is a cell -/
theorem r_compC {elt iter : Expr} {x : Str} {px : Pos} {ifs : List Expr} {scope : Scope} {cl : List (Str × Addr)} {pos : Pos} {Q : Value → Shared → Prop}
    (hh : A.handled = none) (hclos : closureFor scope env = pure cl) (hcell : ∀ n, cellsFrom n scope.names cl = (x, n) :: cl) (hkind : scope.kind = .function)
    (hnames : ∀ y ∈ scope.names, y.2 = .local → scope.names.lookup y.1 = some .local) (hx : (relabel scope env).names.lookup x = some .cell)
    (hs : ∀ x, foldedSetIterable iter env x = pure x)
    (h : wpAny (MM g) A (eval iter env) (fun xv s₁ => CompSayC g A env scope cl x ifs elt Q xv s₁) E s) :
    wpAny (MM g) A (eval (.ListComp elt [⟨.Name x px, iter, ifs, 0⟩] scope pos) env) Q E s := by
  rw [eval_ListComp]
  refine wpAny_comprehension_free (use := none) rfl hs hclos hkind hnames (wpAny_mono h (fun xv s₁ h₁ => ?_) fun _ _ e => e)
  obtain ⟨α, c, m, mu, fa, enc, as, p, f, F, hrd, hz, hclx, tests, helt, done⟩ := h₁
  obtain ⟨ax, rfl⟩ := rd_ref (F.fact hrd)
  obtain ⟨vs, F⟩ := F.openList hrd
  have hl := F.lsOf (a := ax) (vs := vs) (.tail _ (.head _))
  have hlen : vs.length = as.length := by simpa using (F.fact (.head _) : RdAll vs _ _).length
  refine wpAny_pyIter_list hl ?_
  have F₀ := F.alloc (o := { cls := .type "list_iterator", data := .fields #[.ref ax, .int 0 0] }) rfl
  generalize hI : s₁.heap.objs.size = I at F₀
  have hne : ax ≠ I := hI ▸ Nat.ne_of_lt (let ⟨_, e, _⟩ := hl; Heap.lt_size e)
  have W := Walks.list (prog := PySem.Challenge.rw_in0181_01.row.prog) (w := g.w) hh I ax hne vs.toArray
  refine r_newList F₀ (fun D s₃ F₁ => ?_) (Nat.zero_le _)
  refine wp_newEnv (fun _ h => nomatch h) (fun h₁ tk hns hk₁ hcs => ?_) hkind
  rw [hcell] at hcs ⊢
  have hcA : h₁.get? (s₃.heap.objs.size + 1) = some (cellO none) := by
    rcases hcs x _ (.head _) with q | q
    · obtain ⟨o, ho⟩ := hclx _ q
      exact absurd (Heap.lt_size (F₁.at_ (.tail _ (.tail _ ho)))) (Nat.not_lt.mpr (Nat.le_succ _))
    · exact q.1
  obtain ⟨hb, kn, hmu, op, clo⟩ := Fm.open_ (mv := [(D, listOf ([] : List Value).toArray 0), (I, { cls := .type "list_iterator", data := .fields #[.ref ax, .int 0 0] })]) F₁
  have F₃ := op h₁ tk [] [(s₃.heap.objs.size + 1, cellO none)] hns hk₁ (fun p hp => by rw [List.mem_singleton.mp hp]; exact ⟨hcA, Nat.lt_succ_self _⟩) (by simp)
  generalize hC : s₃.heap.objs.size = C at *
  generalize hc' : (⟨hb, kn, C, s₃⟩ : Cx) = c' at *
  have hCL : c'.L = C := by rw [← hc']
  have hhb : ∀ p ∈ mu, c'.hb.get? p.1 = some p.2 := by rw [← hc']; exact hmu
  show codeAny (MM g) A (.compStart _ 0 (.ref I) (.ref D) (compEnvC scope ((x, C + 1) :: cl) C env)) (compPost (MM g) A E none Q (.ref D) C) _
  have loop : codeAny (MM g) A (.compLoop (.ListComp elt [⟨.Name x px, iter, ifs, 0⟩] scope pos) 0 (.ref I) (.ref D) (compEnvC scope ((x, C + 1) :: cl) C env)) (compPost (MM g) A E none Q (.ref D) C) { s₃ with heap := h₁, toks := tk } := by
    refine codeAny_compLoop_tests
      (fun k s' => ∃ i ys oI oA v0 m', oI.cls = .type "list_iterator" ∧ oI.data = .fields #[.ref ax, .int (i : Nat) 0] ∧ Cl oA v0 ∧
        Fm g c' m' [(C + 1, oA), (D, listOf ys.toArray ys.length), (I, oI)] ((fun h => RdAll ys (((as.take i).filter p).map f) h ∧ RdAll vs (as.map enc) h ∧ Ls ax vs h) :: fa) s' ∧ i ≤ vs.length ∧ ys.length ≤ i ∧ k = vs.length + 1 - i) ?_ (vs.length + 1)
      ⟨0, [], ({ cls := .type "list_iterator", data := .fields #[.ref ax, .int 0 0] } : Obj), cellO none, none, [], rfl, rfl, rfl, ?_, Nat.zero_le _, Nat.le_refl _, rfl⟩
    · rintro k s' ⟨i, ys, oI, oA, v0, m', c1, c2, c3, F', hi, hy, rfl⟩
      have st : s'.heap.IsListIter I ax i ∧ s'.heap.IsList ax vs.toArray := ⟨⟨oI, F'.at_ (.tail _ (.tail _ (.head _))), c1, c2⟩, (F'.fact (.head _)).2.2⟩
      by_cases hlt : i < vs.length
      · refine W.item i s' _ _ (by simpa using hlt) st fun v h' tk hv st' hk' => ?_
        have hv : vs[i]? = some v := by simpa using hv
        obtain ⟨a, ha⟩ : ∃ a, as[i]? = some a := ⟨as[i]'(hlen ▸ hlt), by simp⟩
        have hmem : a ∈ as := List.mem_of_getElem? ha
        obtain ⟨o', e1, e2, e3⟩ := st'.1
        have F₁ := F'.turn (s' := { s' with heap := h', toks := tk }) (o' := o') (.tail (.tail .head)) (fun b o hb e => hk' b o (by simpa using hb) e) e1 rfl rfl
        refine wpAny_assign_Name (r_cellStore (mu' := fun o2 => [(C + 1, o2), (D, listOf ys.toArray ys.length), (I, o')]) F₁ c3 (fun _ => .head) (by simp [compEnvC, relabel, hkind]) hx (by simp [compEnvC]) fun oA2 s₂ c4 F₂ => ?_)
        have F₂ := F₂.more (P := Rd v (enc a)) Rd.mono fun hk q => by
          obtain ⟨d, d1, d2⟩ := RdAll.at_ (q _ (.head _)).2.1 hv
          simp only [List.getElem?_map, ha, Option.map_some, Option.some.injEq] at d1
          exact d1 ▸ d2
        rw [← hCL]
        rw [← hCL] at F₂
        refine nofail (wpAny_mono (tests c' _ _ _ v a s₂ _ oA2 hmem hhb (.head _) c4 F₂) (fun ok s₃ h₃ => ?_) fun _ _ x => x)
        obtain ⟨rfl, F₃⟩ := h₃
        cases hp : p a with
        | false =>
          simp only [Bool.false_eq_true, if_false]
          refine ⟨vs.length + 1 - (i + 1), by omega, i + 1, ys, o', oA2, some v, m', e2, e3, c4, ?_, hlt, Nat.le_succ_of_le hy, rfl⟩
          rw [take_succ_map p f as i a ha, hp]
          simp only [Bool.false_eq_true, if_false, List.append_nil]
          exact F₃.mono fun P hP => .tail _ hP
        | true =>
          simp only [if_true]
          refine nofail (wpAny_mono (helt c' _ _ _ v a s₃ _ oA2 hmem hp hhb (.head _) c4 F₃) (fun y s₄ F₄ => ?_) fun _ _ x => x)
          refine r_append F₄ (.tail .head) (fun s₅ F₅ => ?_) (Nat.le_trans hy (Nat.le_trans hi (hlen ▸ hz)))
          refine ⟨vs.length + 1 - (i + 1), by omega, i + 1, ys ++ [y], o', oA2, some v, m', e2, e3, c4, ?_, hlt, by simp [hy], rfl⟩
          rw [take_succ_map p f as i a ha, hp]
          simp only [if_true]
          have F₅ := F₅.more (P := fun h => RdAll (ys ++ [y]) (((as.take i).filter p).map f ++ [f a]) h ∧ RdAll vs (as.map enc) h ∧ Ls ax vs h)
            (fun h h' k q => ⟨RdAll.mono h h' k q.1, RdAll.mono h h' k q.2.1, Ls.mono h h' k q.2.2⟩) fun hk q => by
              have q1 := q _ (.tail _ (.head _))
              exact ⟨RdAll.snoc (q _ (.head _)) q1.1, q1.2⟩
          rw [List.length_append, List.length_singleton]
          exact F₅.mono fun P hP => by
            rcases List.mem_cons.mp hP with rfl | hP
            · exact .head _
            · exact .tail _ (.tail _ (.tail _ hP))
      · obtain rfl : i = vs.length := by omega
        have st'' : s'.heap.IsListIter I ax vs.toArray.size ∧ s'.heap.IsList ax vs.toArray := by rw [List.size_toArray]; exact st
        refine W.done s' _ _ st'' fun h' tk hk' => ?_
        have F'' := F'.perm (mu' := [(D, listOf ys.toArray ys.length), (I, oI), (C + 1, oA)]) (List.perm_append_comm (l₁ := [_, _]) (l₂ := [_]))
        obtain ⟨oC, F₄⟩ := clo m' [(D, listOf ys.toArray ys.length), (I, oI)] [(C + 1, oA)] _ s' rfl F''
        have hnsC := F'.fr.ns
        rw [hCL] at hnsC
        have hCI : C ≠ I := by
          have z := (F₄.perm (mu' := (I, oI) :: (C, oC) :: (D, listOf ys.toArray ys.length) :: mu) (by
            refine List.Perm.trans ?_ (List.Perm.cons _ (List.Perm.swap _ _ _))
            exact List.Perm.swap _ _ _))
          obtain ⟨_, z, _⟩ := z
          have nd := z.nd
          simp only [List.map_cons, List.nodup_cons, List.mem_cons, not_or] at nd
          exact fun e => nd.1.1 e.symm
        have F₅ : Fm g c m ((C, oC) :: (D, listOf ys.toArray ys.length) :: mu) _ { s' with heap := h', toks := tk } := (F₄.perm (mu' := (I, oI) :: (C, oC) :: (D, listOf ys.toArray ys.length) :: mu) (by
          refine List.Perm.trans ?_ (List.Perm.cons _ (List.Perm.swap _ _ _))
          exact List.Perm.swap _ _ _)).lose (fun b o hb e => hk' b o (by simpa using hb) e) rfl rfl
        have hnsC' : h'.Ns C (mapOf m') := hnsC.at' fun o e => hk' _ o (by simpa using hCI) e
        have F₆ := (F₅.perm (mu' := (D, listOf ys.toArray ys.length) :: (C, oC) :: mu) (List.Perm.swap _ _ _)).freeze (P := Rd (.ref D) (.list ((as.filter p).map f))) Rd.mono fun hk e q => by
          have q1 := (q _ (.head _)).1
          rw [hlen, List.take_length] at q1
          exact Rd.list e q1
        have F₇ := F₆.mono (fa' := Rd (.ref D) (.list ((as.filter p).map f)) :: fa) fun P hP => by
          rcases List.mem_cons.mp hP with rfl | hP
          · exact .head _
          · exact .tail _ (.tail _ hP)
        exact ⟨_, hnsC', fun h'' hs'' => done _ _ (F₇.lose (s' := { s' with heap := h'', toks := tk }) (fun b o hb e => hs''.extBut b o hb e) rfl rfl)⟩
    · refine (F₃.more (P := fun h => RdAll [] ((((as.take 0).filter p).map f)) h ∧ RdAll vs (as.map enc) h ∧ Ls ax vs h) (fun h h' k q => ⟨RdAll.mono h h' k q.1, RdAll.mono h h' k q.2.1, Ls.mono h h' k q.2.2⟩) fun hk q => ⟨by simpa using RdAll.nil, q _ (.head _), q _ (.tail _ (.head _))⟩).mono fun P hP => ?_
      rcases List.mem_cons.mp hP with rfl | hP
      · exact .head _
      · exact .tail _ (.tail _ (.tail _ hP))
  exact codeAny_compStart_list loop (W.self 0 _ _ _ ⟨⟨_, F₃.at_ (.tail _ (.tail _ (.head _))), rfl, rfl⟩, F₃.lsOf (.tail _ (.head _))⟩ loop)
end
end
-- Tac4
section
variable {g : Gb} {c : Cx} {m : LM} {mu mu' : Led} {fa : List Fact} {s s' : Shared} {A : Around} {E : Value → Shared → Prop} {k : Nat} {env : Env}
/-- an item of a list of data -/
theorem r_itemD {value slice : Expr} {v : Value} {ds : List PyData} {i : Nat} {u : Tok} {d : PyData} {Q : Value → Shared → Prop} (F : Fm g c m mu fa s) (hv : Rd v (.list ds) ∈ fa) (hx : ds[i]? = some d) (hi : i ≤ 1000)
    (h : ∀ w s', Fm g c m mu (Rd w d :: fa) s' → Q w s') (hs : ∀ l, subscripted slice false (.ref l) (.int (i : Nat) u) = operate [.ref l, .int (i : Nat) u] (getItem (.ref l) (.int (i : Nat) u))) : wpAny (MM g) A (subscriptTail value slice v (.int (i : Nat) u)) Q E s := by
  obtain ⟨l, rfl⟩ := rd_ref (F.fact hv)
  obtain ⟨vs, F₁⟩ := F.openList hv
  have hlen : vs.length = ds.length := (F₁.fact (.head _) : RdAll vs ds _).length
  have hlt : i < vs.length := by rw [hlen]; exact (List.getElem?_eq_some_iff.mp hx).1
  have e : vs[i]? = some vs[i] := List.getElem?_eq_getElem hlt
  refine r_item (v := vs[i]) (F₁.lsOf (.tail _ (.head _))) (by omega) (by omega) e (h _ _ ((F₁.more (P := Rd vs[i] d) Rd.mono fun hk q => ?_).mono fun P hP => ?_)) (hs l)
  · obtain ⟨d', d1, d2⟩ := RdAll.at_ (q _ (.head _)) e
    rw [hx] at d1; cases d1
    exact d2
  · rcases List.mem_cons.mp hP with rfl | hP
    · exact .head _
    · exact .tail _ (.tail _ (.tail _ hP))
theorem r_lenD {v : Value} {ds : List PyData} {Q : Value → Shared → Prop} (F : Fm g c m mu fa s) (hv : Rd v (.list ds) ∈ fa) (hz : ds.length ≤ 1000) (h : ∀ t s', Fm g c m mu fa s' → Q (.int (ds.length : Nat) t) s') : wpAny (MM g) A (call (.builtin "len") [v]) Q E s := by
  obtain ⟨l, rfl⟩ := rd_ref (F.fact hv)
  obtain ⟨vs, h1, h2⟩ := rd_open (F.fact hv)
  have hlen : vs.length = ds.length := h2.length
  have e : vs.toArray.size = ds.length := by rw [List.size_toArray, hlen]
  refine PyProof.Rows.len_list h1 (by rw [e]; omega) ?_
  rw [e]
  exact h _ _ (F.toks rfl)
end
local macro_rules | `(tactic| k_extra "mine_compA") => `(tactic| (refine' r_compAssign ?b0 ?a1 ?a2 ?a3 ?a4 ?a5 ?a6 ?a7 ?z0; (case b0 => with_unfolding_all rfl); (case a1 => k_extra "mine_hh"); (case a2 => with_unfolding_all rfl); (case a3 => decide); (case a4 => with_unfolding_all rfl); (case a5 => decide); (case a6 => with_unfolding_all rfl); (case a7 => intro _; with_unfolding_all rfl)))
local macro_rules | `(tactic| k_extra "mine_mc") => `(tactic| first
  | ((with_reducible show wpAny _ _ (eval (Expr.Name _ _) _) _ _ _); (refine' r_cellLoad ?z1 ?z2 ?z3 ?z4 ?z5 ?z6 ?z7 ?z0); (case z5 => rfl); (case z6 => with_unfolding_all rfl); (case z1 => k_extra "mine_asm"); (case z4 => rfl); (case z7 => decide); (case z2 => k_extra "mine_at"); (case z3 => assumption))
  | ((with_reducible show wpAny _ _ (eval (Expr.Name _ _) _) _ _ _); (refine' r_cellLoadH ?z1 ?z2 ?z3 ?z4 ?z5 ?z6 ?z7 ?z0); (case z5 => rfl); (case z6 => with_unfolding_all rfl); (case z1 => k_extra "mine_asm"); (case z4 => rfl); (case z7 => decide); (case z2 => assumption); (case z3 => assumption))
  | ((with_reducible show wpAny _ _ (storeName _ _ _) _ _ _); (refine' r_cellStore ?z1 ?z2 ?z3 ?z4 ?z5 ?z6 ?z0); (case z5 => rfl); (case z6 => with_unfolding_all rfl); (case z1 => k_extra "mine_asm"); (case z4 => rfl); (case z3 => intro _; k_extra "mine_tn"); (case z2 => first | assumption | exact rfl); intro o' s' hC' F'; try dsimp only)
  | ((fail_if_success (with_reducible show wpAny _ _ (newList (Value.bool _ :: _)) _ _ _)); (fail_if_success (with_reducible show wpAny _ _ (exec (Stmt.Assign [_] (Expr.ListComp _ _ _ _) _) _) _ _ _)); (fail_if_success (with_reducible show wpAny _ _ (call (Value.builtin "sorted") _) _ _ _)); (fail_if_success (with_reducible show wpAny _ _ (call (Value.builtin "len") _) _ _ _)); (fail_if_success (with_reducible show wpAny _ _ (binaryOp Operator.Mult _ _) _ _ _)); k_extra "mine_mw"))
-- C10
section
section
variable {g : Gb} {c : Cx} {m : LM} {mu fr : Led} {fa : List Fact} {s : Shared} {A : Around} {E : Value → Shared → Prop} {k : Nat} {env : Env}
noncomputable def msOf (ns : List Int) : List Str := (ns.filter fun n => n.fmod 4 == 2).map fun n => modQ (rowOf n)
noncomputable def dsOf1 (ns : List Int) : List Str := (ns.filter fun n => n.fmod 4 == 0).map fun n => dirS (rowOf n)
noncomputable def dsOf2 (ns : List Int) : List Str := (ns.filter fun n => n.fmod 4 == 1).map fun n => dirS2 (rowOf n)
noncomputable def kept1 (ns : List Int) (rows : List (List Str)) : List (List Str) := keptOf (msOf ns) ((dsOf1 ns).map normS) rows
noncomputable def kept2 (ns : List Int) (rows : List (List Str)) : List (List Str) := keptOf (msOf ns) ((dsOf2 ns).map normS) rows
noncomputable def sorted1 (ns : List Int) (rows : List (List Str)) : List Str := srt ((kept1 ns rows).map fileS)
noncomputable def sorted2 (ns : List Int) (rows : List (List Str)) : List Str := srt ((kept2 ns rows).map fileS)
noncomputable def toldD (ns : List Int) (rows : List (List Str)) : PyData :=
  .list [.list ((diffS (sorted1 ns rows) (sorted2 ns rows)).1.map PyData.str), .list ((diffS (sorted1 ns rows) (sorted2 ns rows)).2.map PyData.str),
    .list ((srt (((kept1 ns rows).map fileS).filter fun x => !decide (x ∈ (diffS (sorted1 ns rows) (sorted2 ns rows)).1))).map PyData.str), .list (List.replicate rows.length (PyData.bool true) ++ List.replicate rows.length (PyData.bool true))]
theorem msOf_mem {ns : List Int} {y : Str} (h : y ∈ msOf ns) : ∃ r ∈ allRows, y = modQ r := by
  obtain ⟨n, _, rfl⟩ := List.mem_map.mp h
  exact ⟨_, rowOf_mem n, rfl⟩
theorem dsOf1_mem {ns : List Int} {y : Str} (h : y ∈ dsOf1 ns) : ∃ r ∈ allRows, y = dirS r := by
  obtain ⟨n, _, rfl⟩ := List.mem_map.mp h
  exact ⟨_, rowOf_mem n, rfl⟩
theorem dsOf2_mem {ns : List Int} {y : Str} (h : y ∈ dsOf2 ns) : ∃ r ∈ allRows, y = dirS2 r := by
  obtain ⟨n, _, rfl⟩ := List.mem_map.mp h
  exact ⟨_, rowOf_mem n, rfl⟩
theorem msOf_of {ns : List Int} {n : Int} (h : n ∈ ns) (h2 : n.fmod 4 = 2) : modQ (rowOf n) ∈ msOf ns := List.mem_map.mpr ⟨n, List.mem_filter.mpr ⟨h, by simp [h2]⟩, rfl⟩
theorem dsOf1_of {ns : List Int} {n : Int} (h : n ∈ ns) (h2 : n.fmod 4 = 0) : dirS (rowOf n) ∈ dsOf1 ns := List.mem_map.mpr ⟨n, List.mem_filter.mpr ⟨h, by simp [h2]⟩, rfl⟩
theorem dsOf2_of {ns : List Int} {n : Int} (h : n ∈ ns) (h2 : n.fmod 4 = 1) : dirS2 (rowOf n) ∈ dsOf2 ns := List.mem_map.mpr ⟨n, List.mem_filter.mpr ⟨h, by simp [h2]⟩, rfl⟩
theorem fl_len {β : Type} (p : Int → Bool) (f : Int → β) (ns : List Int) : ((ns.filter p).map f).length ≤ ns.length := by rw [List.length_map]; exact List.length_filter_le _ _
theorem keptOf_len (ms ds : List Str) (rows : List (List Str)) : (keptOf ms ds rows).length ≤ rows.length := List.length_filter_le _ _
theorem nodup_map_on {α β : Type} {f : α → β} : ∀ {l : List α}, l.Nodup → (∀ a ∈ l, ∀ b ∈ l, f a = f b → a = b) → (l.map f).Nodup
  | [], _, _ => List.nodup_nil
  | x :: l, h, inj => by
    rw [List.nodup_cons] at h
    rw [List.map_cons, List.nodup_cons]
    refine ⟨fun hm => ?_, nodup_map_on h.2 fun a ha b hb => inj a (.tail _ ha) b (.tail _ hb)⟩
    obtain ⟨y, hy, e⟩ := List.mem_map.mp hm
    exact h.1 (inj y (.tail _ hy) x (.head _) e ▸ hy)
theorem fileS_inj {a b : List Str} (ha : a ∈ allRows) (hb : b ∈ allRows) (e : fileS a = fileS b) : a = b := by
  rw [file_same a ha, file_same b hb] at e
  exact nodup_map_inj file_nodup a ha b hb e
theorem kept_nodup {ms ds : List Str} {rows : List (List Str)} (hra : ∀ r ∈ rows, r ∈ allRows) (hrn : rows.Nodup) : ((keptOf ms ds rows).map fileS).Nodup :=
  nodup_map_on (hrn.filter _) fun a ha b hb => fileS_inj (hra a (List.mem_filter.mp ha).1) (hra b (List.mem_filter.mp hb).1)
theorem lost_sub {ns : List Int} {rows : List (List Str)} (hra : ∀ r ∈ rows, r ∈ allRows) (hrn : rows.Nodup) : ∀ x ∈ (diffS (sorted1 ns rows) (sorted2 ns rows)).1, x ∈ rows.map fileS := fun x hx => by
  rw [(diffS_spec (sorted1 ns rows) (sorted2 ns rows) (srt_strict (kept_nodup hra hrn)) (srt_strict (kept_nodup hra hrn))).1] at hx
  have h1 := (srt_perm _).mem_iff.mp (List.mem_filter.mp hx).1
  obtain ⟨r, hr, rfl⟩ := List.mem_map.mp h1
  exact List.mem_map_of_mem (List.mem_filter.mp hr).1
theorem told_call (R : Room A (k + 9)) (O : FrOk A env c []) (F : Fm g c m mu fa s) {vs vr : Value} {ns : List Int} {rows : List (List Str)} (hs : Rd vs (.list (ns.map PyData.int)) ∈ fa) (hr : Rd vr (.list (rows.map rowP)) ∈ fa) (hnl : ns.length ≤ 20) (hrl : rows.length ≤ 50) (hra : ∀ r ∈ rows, r ∈ allRows) (hrn : rows.Nodup)
    (h18 : (18 : Int) ∈ ns) (h30 : (30 : Int) ∈ ns) (h0 : (0 : Int) ∈ ns) (h13 : (13 : Int) ∈ ns) {Q : Value → Shared → Prop}
    (h : ∀ r s', Fm g c m mu (Rd r (toldD ns rows) :: fa) s' → Q r s') : wpAny (MM g) A (call (.ref 215) [vs, vr]) Q E s := by
  obtain ⟨as_, rfl⟩ := rd_ref (F.fact hs)
  obtain ⟨ar, rfl⟩ := rd_ref (F.fact hr)
  have hs' : List.Mem _ _ := hs
  have hr' : List.Mem _ _ := hr
  k_dflt (refine enter_fmCH (mv := []) (binds := [(Str.ofString "steps", .ref as_), (Str.ofString "rows", .ref ar)]) F (by k_is) (by k_is) R.d (BindsTo.of_eq rfl) (locs rfl) ?_ rfl rfl rfl)
  intro c' s₁ oL hoL F₁ back
  change Fm g c' _ [(c'.L + 1, cellO none), (c.L, oL)] _ _ at F₁
  have hsl := sizeLine_eq
  repeat' k_extra "mine_mc"
  k_extra "mine_compA"
  repeat' k_extra "mine_mc"
  refine ⟨Int, _, _, _, _, PyData.int, ns, fun n => n.fmod 4 == 2, fun n => PyData.str (modQ (rowOf n)), (by k_extra "mine_asm"), (by k_extra "mine_at"), (by omega), ?_, ?_, ?_⟩
  · intro c1 m1 mu1 R1 v n s2 _ _ hl F2
    obtain ⟨t, rfl⟩ := rd_int (F2.fact (P := Rd v (PyData.int n)) (.head _))
    refine wpAny_tests_one ?_
    repeat' k_extra "mine_mc"
    exact ⟨rfl, by k_extra "mine_asm"⟩
  · intro c1 m1 mu1 R1 v n s2 _ _ _ hl F2
    obtain ⟨t, rfl⟩ := rd_int (F2.fact (P := Rd v (PyData.int n)) (.head _))
    repeat' k_extra "mine_mc"
    rename Fm _ _ _ _ _ _ => F9
    refine row_call (Room.deeper R _) F9 fun r s3 F3 => ?_
    change Fm g c1 _ _ (Rd r (.list ((rowOf n).map PyData.str)) :: _) _ at F3
    repeat' k_extra "mine_mc"
    refine r_joinD (ys := rowOf n) (by k_extra "mine_asm") (by k_extra "mine_at") (fun t8 s8 F8 => ?_) ?_
    · exact (F8.more (P := Rd (.str (Txt.join (Str.ofString ".") (rowOf n)) t8) (PyData.str (modQ (rowOf n)))) Rd.mono fun _ _ => Rd.str).mono (by k_extra "mine_sub")
    · have := sum_lens (rowOf_mem n)
      have e1 : (Str.ofString ".").length = 1 := rfl
      rw [e1]; omega
  intro b C oC s2 F2
  have hml : (msOf ns).length ≤ 1000 := Nat.le_trans (fl_len _ _ _) (by omega)
  have hm1 : (msOf ns) ≠ [] := fun e => by have := msOf_of h18 (by decide); rw [e] at this; cases this
  have hmt : ∃ a b, a ∈ msOf ns ∧ b ∈ msOf ns ∧ a ≠ b := ⟨_, _, msOf_of h18 (by decide), msOf_of h30 (by decide), two_mods⟩
  have hmlen : ∀ y ∈ msOf ns, y.length ≤ 1000 := fun y hy => by
    obtain ⟨r, hr, rfl⟩ := msOf_mem hy
    have := mod_len r hr
    omega
  repeat' k_extra "mine_mc"
  refine ⟨_, _, by k_extra "mine_asm", fun s3 F3 => ?_⟩
  rw [show (ns.filter fun n => n.fmod 4 == 2).map (fun n => PyData.str (modQ (rowOf n))) = (msOf ns).map PyData.str from by unfold msOf; rw [List.map_map]; rfl] at F3
  repeat' k_extra "mine_mc"
  k_extra "mine_comp"
  repeat' k_extra "mine_mc"
  refine ⟨Int, _, _, _, _, PyData.int, ns, fun n => n.fmod 4 == 0, fun n => PyData.str (dirS (rowOf n)), (by k_extra "mine_asm"), (by k_extra "mine_at"), (by omega), ?_, ?_, ?_⟩
  · intro c1 m1 mu1 R1 v n s2 _ _ hl F2
    obtain ⟨t, rfl⟩ := rd_int (F2.fact (P := Rd v (PyData.int n)) (.head _))
    refine wpAny_tests_one ?_
    repeat' k_extra "mine_mc"
    exact ⟨rfl, by k_extra "mine_asm"⟩
  · intro c1 m1 mu1 R1 v n s2 _ _ _ hl F2
    obtain ⟨t, rfl⟩ := rd_int (F2.fact (P := Rd v (PyData.int n)) (.head _))
    repeat' k_extra "mine_mc"
    rename Fm _ _ _ _ _ _ => F9
    refine row_call (Room.deeper R _) F9 fun r s3 F3 => ?_
    refine ⟨_, _, _, _, (rowOf n).map PyData.str, F3, .head _, by rw [List.length_map]; have := (rows_small (rowOf_mem n)).1; omega, fun vs s5 hvs F5 => ?_⟩
    repeat' k_extra "mine_mc"
    rw [List.append_nil]
    have hv5 : RdAll vs ((rowOf n).map PyData.str) _ := F5.fact (.head _)
    obtain ⟨q1, q2⟩ := rows_small (rowOf_mem n)
    have hvl : vs.length = (rowOf n).length := by simpa using hv5.length
    refine join_call (xs := rowOf n) (Room.deeper R _) F5 hv5 (by omega) (by rw [show (Str.ofString "/").length = 1 from rfl]; omega) fun t6 s6 F6 => ?_
    exact (F6.more (P := Rd (.str (joinS (Str.ofString "/") (rowOf n)) t6) (PyData.str (dirS (rowOf n)))) Rd.mono fun _ _ => Rd.str).mono (by k_extra "mine_sub")
  intro d1 s4 F4
  rw [show (ns.filter fun n => n.fmod 4 == 0).map (fun n => PyData.str (dirS (rowOf n))) = (dsOf1 ns).map PyData.str from by unfold dsOf1; rw [List.map_map]; rfl] at F4
  repeat' k_extra "mine_mc"
  have hd1 : dsOf1 ns ≠ [] := fun e => by have := dsOf1_of h0 (by decide); rw [e] at this; cases this
  have hdl1 : (dsOf1 ns).length ≤ 1000 := Nat.le_trans (fl_len _ _ _) (by omega)
  have hok1 : ∀ d ∈ dsOf1 ns, npOk d = true := fun d hd => by
    obtain ⟨r, hr, rfl⟩ := dsOf1_mem hd
    exact (dir_ok r hr).1
  have hnl1 : ∀ y ∈ (dsOf1 ns).map normS, y.length ≤ 1000 := fun y hy => by
    obtain ⟨d, hd, rfl⟩ := List.mem_map.mp hy
    obtain ⟨r, hr, rfl⟩ := dsOf1_mem hd
    rw [(dir_norm r hr).1]
    have := rowDir_len r hr
    omega
  refine make_call (ms := msOf ns) (ds := dsOf1 ns) (Room.deeper R _) (by k_extra "mine_asm") (by k_extra "mine_at") (by k_extra "mine_at") hm1 hd1 hml hdl1 hok1 fun x1 dI1 oI1 s5 low1 D1 F5 => ?_
  repeat' k_extra "mine_mc"
  rename Fm _ _ _ _ _ _ => F6
  refine kept_call (ms := msOf ns) (ds := (dsOf1 ns).map normS) (rows := rows) (Room.deeper R _) F6 (by k_extra "mine_at") D1 low1 hmlen hnl1 hml (by rw [List.length_map]; exact hdl1) hmt (by k_extra "mine_at") (by omega) hra hrn fun r1 s7 F7 => ?_
  change Fm g c' _ _ (Rd r1 (.list [.list ((kept1 ns rows).map fun r => PyData.str (fileS r)), .list (List.replicate rows.length (PyData.bool true))]) :: _) _ at F7
  repeat' k_extra "mine_mc"
  k_extra "mine_comp"
  repeat' k_extra "mine_mc"
  refine ⟨Int, _, _, _, _, PyData.int, ns, fun n => n.fmod 4 == 1, fun n => PyData.str (dirS2 (rowOf n)), (by k_extra "mine_asm"), (by k_extra "mine_at"), (by omega), ?_, ?_, ?_⟩
  · intro c1 m1 mu1 R1 v n s2 _ _ hl F2
    obtain ⟨t, rfl⟩ := rd_int (F2.fact (P := Rd v (PyData.int n)) (.head _))
    refine wpAny_tests_one ?_
    repeat' k_extra "mine_mc"
    exact ⟨rfl, by k_extra "mine_asm"⟩
  · intro c1 m1 mu1 R1 v n s2 _ _ _ hl F2
    obtain ⟨t, rfl⟩ := rd_int (F2.fact (P := Rd v (PyData.int n)) (.head _))
    repeat' k_extra "mine_mc"
    rename Fm _ _ _ _ _ _ => F9
    refine row_call (Room.deeper R _) F9 fun r s3 F3 => ?_
    refine ⟨_, _, _, _, (rowOf n).map PyData.str, F3, .head _, by rw [List.length_map]; have := (rows_small (rowOf_mem n)).1; omega, fun vs s5 hvs F5 => ?_⟩
    repeat' k_extra "mine_mc"
    rw [List.append_nil]
    have hv5 : RdAll vs ((rowOf n).map PyData.str) _ := F5.fact (.head _)
    obtain ⟨q1, q2⟩ := rows_small (rowOf_mem n)
    have hvl : vs.length = (rowOf n).length := by simpa using hv5.length
    refine join_call (xs := Str.ofString "b" :: Str.ofString ".." :: rowOf n) (Room.deeper R _) F5 (RdAll.cons Rd.str (RdAll.cons Rd.str hv5)) (by simp only [List.length_cons]; omega) ?_ fun t6 s6 F6 => ?_
    · rw [List.map_cons, List.map_cons, List.sum_cons, List.sum_cons, show (Str.ofString "/").length = 1 from rfl, show (Str.ofString "b").length = 1 from rfl, show (Str.ofString "..").length = 2 from rfl]
      omega
    · exact (F6.more (P := Rd (.str (joinS (Str.ofString "/") (Str.ofString "b" :: Str.ofString ".." :: rowOf n)) t6) (PyData.str (dirS2 (rowOf n)))) Rd.mono fun _ _ => Rd.str).mono (by k_extra "mine_sub")
  intro d2 s8 F8
  rw [show (ns.filter fun n => n.fmod 4 == 1).map (fun n => PyData.str (dirS2 (rowOf n))) = (dsOf2 ns).map PyData.str from by unfold dsOf2; rw [List.map_map]; rfl] at F8
  repeat' k_extra "mine_mc"
  have hd2 : dsOf2 ns ≠ [] := fun e => by have := dsOf2_of h13 (by decide); rw [e] at this; cases this
  have hdl2 : (dsOf2 ns).length ≤ 1000 := Nat.le_trans (fl_len _ _ _) (by omega)
  have hok2 : ∀ d ∈ dsOf2 ns, npOk d = true := fun d hd => by
    obtain ⟨r, hr, rfl⟩ := dsOf2_mem hd
    exact (dir_ok r hr).2
  have hnl2 : ∀ y ∈ (dsOf2 ns).map normS, y.length ≤ 1000 := fun y hy => by
    obtain ⟨d, hd, rfl⟩ := List.mem_map.mp hy
    obtain ⟨r, hr, rfl⟩ := dsOf2_mem hd
    rw [(dir_norm r hr).2]
    have := rowDir_len r hr
    omega
  refine make_call (ms := msOf ns) (ds := dsOf2 ns) (Room.deeper R _) (by k_extra "mine_asm") (by k_extra "mine_at") (by k_extra "mine_at") hm1 hd2 hml hdl2 hok2 fun x2 dI2 oI2 s9 low2 D2 F9 => ?_
  repeat' k_extra "mine_mc"
  rename Fm _ _ _ _ _ _ => F10
  refine kept_call (ms := msOf ns) (ds := (dsOf2 ns).map normS) (rows := rows) (Room.deeper R _) F10 (by k_extra "mine_at") D2 low2 hmlen hnl2 hml (by rw [List.length_map]; exact hdl2) hmt (by k_extra "mine_at") (by omega) hra hrn fun r2 s11 F11 => ?_
  change Fm g c' _ _ (Rd r2 (.list [.list ((kept2 ns rows).map fun r => PyData.str (fileS r)), .list (List.replicate rows.length (PyData.bool true))]) :: _) _ at F11
  repeat' k_extra "mine_mc"
  refine r_itemD (i := 0) (by k_extra "mine_asm") (by k_extra "mine_at") rfl (by decide) (fun w1 s12 F12 => ?_) (fun _ => by with_unfolding_all rfl)
  rw [show (kept1 ns rows).map (fun r => PyData.str (fileS r)) = ((kept1 ns rows).map fileS).map PyData.str from by rw [List.map_map]; rfl] at F12
  repeat' k_extra "mine_mc"
  have hk1 : (kept1 ns rows).length ≤ rows.length := keptOf_len _ _ _
  have hk2 : (kept2 ns rows).length ≤ rows.length := keptOf_len _ _ _
  refine r_sorted (ss := (kept1 ns rows).map fileS) (by k_extra "mine_asm") (by k_extra "mine_at") (by rw [List.length_map]; omega) fun w2 s13 F13 => ?_
  change Fm g c' _ _ (Rd w2 (.list ((sorted1 ns rows).map PyData.str)) :: _) _ at F13
  repeat' k_extra "mine_mc"
  refine r_itemD (i := 0) (ds := [.list ((kept2 ns rows).map fun r => PyData.str (fileS r)), .list (List.replicate rows.length (PyData.bool true))]) (by k_extra "mine_asm") (by k_extra "mine_at") rfl (by decide) (fun w3 s14 F14 => ?_) (fun _ => by with_unfolding_all rfl)
  rw [show (kept2 ns rows).map (fun r => PyData.str (fileS r)) = ((kept2 ns rows).map fileS).map PyData.str from by rw [List.map_map]; rfl] at F14
  repeat' k_extra "mine_mc"
  refine r_sorted (ss := (kept2 ns rows).map fileS) (by k_extra "mine_asm") (by k_extra "mine_at") (by rw [List.length_map]; omega) fun w4 s15 F15 => ?_
  change Fm g c' _ _ (Rd w4 (.list ((sorted2 ns rows).map PyData.str)) :: _) _ at F15
  repeat' k_extra "mine_mc"
  rename Fm _ _ _ _ _ _ => F16
  refine sld_call (xs := sorted1 ns rows) (ys := sorted2 ns rows) (fr := [(c.L, oL)]) (mu := [(c'.L + 1, cellO none)]) (Room.deeper R _) (O.deeper hoL rfl rfl) (F16.perm (List.Perm.swap _ _ _)) (by k_extra "mine_at") (by k_extra "mine_at") (by unfold sorted1; rw [srt_length, List.length_map]; omega) (by unfold sorted2; rw [srt_length, List.length_map]; omega) (srt_strict (kept_nodup hra hrn)) (srt_strict (kept_nodup hra hrn)) fun r5 aM aU fr5 s17 sf5 F17 => ?_
  obtain ⟨oL5, l5, rfl, hoL5, sf6⟩ := sf5.cons
  obtain rfl : l5 = [] := by
    have := sf6.1
    simpa using this
  change Fm g c' _ [(c.L, oL5), (c'.L + 1, cellO none)] _ _ at F17
  repeat' k_extra "mine_mc"
  refine r_unpackT F17 (F17.fact (P := Tp r5 _) (.head _)) (Room.deeper R _).hh rfl rfl fun s18 F18 => ?_
  have hcz : Cl (cellO none) none := rfl
  repeat' k_extra "mine_mc"
  k_extra "mine_comp"
  repeat' k_extra "mine_mc"
  refine r_itemD (i := 0) (ds := [.list (((kept1 ns rows).map fileS).map PyData.str), .list (List.replicate rows.length (PyData.bool true))]) (by k_extra "mine_asm") (by k_extra "mine_at") rfl (by decide) (fun w5 s19 F19 => ?_) (fun _ => by with_unfolding_all rfl)
  refine ⟨Str, _, _, _, _, PyData.str, (kept1 ns rows).map fileS, fun x => !decide (x ∈ (diffS (sorted1 ns rows) (sorted2 ns rows)).1), PyData.str, F19, .head _, by rw [List.length_map]; omega, ?_, ?_, ?_⟩
  · intro c1 m1 mu1 R1 v x s2 hx hhb hl F2
    obtain ⟨t, rfl⟩ := rd_str (F2.fact (P := Rd v (PyData.str x)) (.head _))
    have hcl := hhb _ (.tail _ (.head _))
    dsimp only at hcl
    refine wpAny_tests_one ?_
    repeat' k_extra "mine_mc"
    obtain ⟨r0, hr0, rfl⟩ := List.mem_map.mp hx
    refine r_notInD (Room.deeper R _) (F2.fact (P := Rd _ (PyData.str _)) (.head _)) (F2.fact (P := Rd (.ref aM) _) (by k_extra "mine_at")) (lay_files hra (lost_sub hra hrn)) (file_lay r0 (hra _ (List.mem_filter.mp hr0).1)) (Nat.zero_le _) ?_
    rw [any_str]
    repeat' k_extra "mine_mc"
    exact ⟨rfl, F2⟩
  · intro c1 m1 mu1 R1 v x s2 hx _ hhb hl F2
    repeat' k_extra "mine_mc"
    exact F2
  intro r6 s20 F20
  repeat' k_extra "mine_mc"
  refine r_sorted (ss := ((kept1 ns rows).map fileS).filter fun x => !decide (x ∈ (diffS (sorted1 ns rows) (sorted2 ns rows)).1)) (by k_extra "mine_asm") (by k_extra "mine_at") ?_ fun w6 s21 F21 => ?_
  · have := List.length_filter_le (fun x => !decide (x ∈ (diffS (sorted1 ns rows) (sorted2 ns rows)).1)) ((kept1 ns rows).map fileS)
    rw [List.length_map] at this
    omega
  repeat' k_extra "mine_mc"
  refine r_itemD (i := 1) (ds := [.list (((kept1 ns rows).map fileS).map PyData.str), .list (List.replicate rows.length (PyData.bool true))]) (by k_extra "mine_asm") (by k_extra "mine_at") rfl (by decide) (fun w7 s22 F22 => ?_) (fun _ => by with_unfolding_all rfl)
  repeat' k_extra "mine_mc"
  refine r_itemD (i := 1) (ds := [.list (((kept2 ns rows).map fileS).map PyData.str), .list (List.replicate rows.length (PyData.bool true))]) (by k_extra "mine_asm") (by k_extra "mine_at") rfl (by decide) (fun w8 s23 F23 => ?_) (fun _ => by with_unfolding_all rfl)
  repeat' k_extra "mine_mc"
  refine r_addD F23 (by k_extra "mine_at") (.head _) (by rw [List.length_replicate]; omega) fun w9 s24 F24 => ?_
  repeat' k_extra "mine_mc"
  rename Fm _ _ _ _ _ _ => F30
  change Fm g c' _ _ (Rd _ (toldD ns rows) :: _) _ at F30
  exact h _ _ ((back _ oL5 [] _ _ _ rfl hoL5 F30).mono (by k_extra "mine_sub"))
end
end
-- F18
section
section
variable {g : Gb} {c : Cx} {m : LM} {mu mu' : Led} {fa : List Fact} {s s' : Shared} {A : Around} {E : Value → Shared → Prop} {k : Nat} {env : Env}
inductive TakeAt (g : Gb) (Q : Value → Shared → Prop) (o u : Value) (s₂ : Shared) : Prop where
  | mk (c : Cx) (m : LM) (mu : Led) (fa : List Fact) (ds : List PyData) (k : Nat) (t : Tok) (h0 : u = .int (k : Nat) t) (h1 : Fm g c m mu fa s₂) (h2 : Rd o (.list ds) ∈ fa) (h3 : ds.length ≤ sizeLine) (h4 : ∀ r s', Fm g c m mu (Rd r (.list (ds.take k)) :: fa) s' → Q r s') : TakeAt g Q o u s₂
/-- xs[:k] of data -/
theorem r_takeD {value up : Expr} {p pos : Pos} {Q : Value → Shared → Prop}
    (h : wpAny (MM g) A (eval value env) (fun o s₁ => wpAny (MM g) A (eval up env) (fun u s₂ => TakeAt g Q o u s₂) E s₁) E s)
    (hs : ∀ l n, subscripted (.Slice none (some up) none p) false (.ref l) (.ref n) = operate [.ref n, .ref l] (getItem (.ref l) (.ref n))) :
    wpAny (MM g) A (eval (.Subscript value (.Slice none (some up) none p) pos) env) Q E s := by
  refine r_sliceUpto (wpAny_mono h (fun o s₁ h₁ => wpAny_mono h₁ (fun u s₂ h₂ => ?_) fun _ _ e => e) fun _ _ e => e) hs
  obtain ⟨c, m, mu, fa, ds, k, t, rfl, F, hv, hz, hq⟩ := h₂
  obtain ⟨l, rfl⟩ := rd_ref (F.fact hv)
  obtain ⟨vs, F₁⟩ := F.openList hv
  have hlen : vs.length = ds.length := (F₁.fact (.head _) : RdAll vs ds _).length
  refine ⟨c, m, mu, _, l, vs, (k : Nat), t, rfl, rfl, Int.natCast_nonneg _, F₁, F₁.lsOf (.tail _ (.head _)), by omega, fun a s' F₂ => hq _ _ ((F₂.freeze (P := Rd (.ref a) (.list (ds.take k))) Rd.mono fun hk e q => ?_).mono fun P hP => ?_)⟩
  · exact Rd.list e (rdAll_take k (q _ (.head _)))
  · rcases List.mem_cons.mp hP with rfl | hP
    · exact .head _
    · exact .tail _ (.tail _ (.tail _ hP))
theorem r_mul2 {n : Nat} {t u : Tok} {Q : Value → Shared → Prop} (F : Fm g c m mu fa s) (h : ∀ t s', Fm g c m mu fa s' → Q (.int ((2 * n : Nat) : Int) t) s') : wpAny (MM g) A (binaryOp .Mult (.int 2 t) (.int (n : Nat) u)) Q E s := by
  refine PyProof.Rows.mul_int ?_ (IntMulOk.of_left (by decide))
  rw [show (2 : Int) * (n : Nat) = ((2 * n : Nat) : Int) by omega]
  exact h _ _ (F.toks rfl)
theorem fold_rep (v : Value) : ∀ (n : Nat) (acc : Array Value), List.foldl (fun x1 x2 => x1 ++ x2) acc (List.replicate n #[v]) = acc ++ (List.replicate n v).toArray
  | 0, acc => by simp
  | n + 1, acc => by
    rw [List.replicate_succ, List.foldl_cons, fold_rep v n, List.replicate_succ]
    apply Array.toList_inj.mp
    simp
theorem rdAll_true {h : Heap} : ∀ n : Nat, RdAll (List.replicate n (.bool true)) (List.replicate n (.bool true)) h
  | 0 => RdAll.nil
  | n + 1 => by rw [List.replicate_succ, List.replicate_succ]; exact RdAll.cons Rd.bool (rdAll_true n)
/-- [True] * n -/
theorem r_mulTrue {l : Addr} {k n : Nat} {t : Tok} {Q : Value → Shared → Prop} (F : Fm g c m mu fa s) (hm : (l, listOf [Value.bool true].toArray k) ∈ mu) (hn : n ≤ 1000) (h : ∀ a s', Fm g c m mu (Rd (.ref a) (.list (List.replicate n (.bool true))) :: fa) s' → Q (.ref a) s') : wpAny (MM g) A (binaryOp .Mult (.ref l) (.int (n : Nat) t)) Q E s := by
  obtain ⟨tl, N, kk⟩ := F.led1
  refine PyProof.Rows.mul_list F.fr N (F.at_ hm) (by omega) (by omega) (by simp; omega) fun h' F' N' => ?_
  have F2 := kk { s with heap := h' } _ F' N' rfl rfl
  refine h _ _ (F2.freeze Rd.mono fun hk e _ => Rd.list (vs := List.replicate n (.bool true)) (n := 0) ?_ (rdAll_true n))
  rw [e]
  have e1 : (([Value.bool true].toArray : Array Value).isEmpty = true) ↔ False := by simp
  have e2 : ([Value.bool true].toArray : Array Value) = #[.bool true] := rfl
  rw [e2]
  simp only [Int.toNat_natCast]
  rw [if_neg (by decide), fold_rep]
  rw [Array.empty_append]
theorem r_range1 {z : Int} {n : Nat} {t : Tok} {Q : Value → Shared → Prop} (F : Fm g c m mu fa s) (hz : z = (n : Nat)) (h : ∀ a t u v s', Fm g c m mu fa s' → IsRange s'.heap a 0 (n : Nat) 1 t u v → Q (.ref a) s') : wpAny (MM g) A (call (.type "range") [.int z t]) Q E s := by
  subst hz
  refine call_range_1 ?_
  have F₁ := F.alloc (o := { cls := .type "range", data := .fields #[.int 0 s.toks, .int (n : Nat) t, .int 1 (s.toks + 1)] }) rfl
  exact h _ _ _ _ _ ((F₁.drop (List.sublist_cons_self _ _)).toks rfl) (F₁.at_ (.head _))
end
theorem take_lay : ∀ r ∈ allRows, ∀ n, (rowP (r.take n)).canLay0 = true := fun r hr n => by
  have h : ∀ r ∈ allRows, ∀ n ∈ List.range 4, (rowP (r.take n)).canLay0 = true := by decide +kernel
  by_cases hn : n < 4
  · exact h r hr n (List.mem_range.mpr hn)
  · have := (rows_small hr).1
    rw [List.take_of_length_le (by omega)]
    exact rows_lay r hr
theorem fileL_lens {r : List Str} (hr : r ∈ allRows) : (Str.ofString "/").length + (Txt.join (Str.ofString "/") r).length ≤ 200 ∧ ((Str.ofString "/" ++ Txt.join (Str.ofString "/") r).length + (Str.ofString "/f.py").length ≤ 200) := by
  have h : ∀ r ∈ allRows, ((Str.ofString "/").length + (Txt.join (Str.ofString "/") r).length ≤ 200 ∧ ((Str.ofString "/" ++ Txt.join (Str.ofString "/") r).length + (Str.ofString "/f.py").length ≤ 200)) := by
    rw [eSl, eSfpy, eRows]
    decide +kernel
  exact h r hr
end
-- C11
section
section
variable {g : Gb} {c : Cx} {m : LM} {mu fr : Led} {fa : List Fact} {s : Shared} {A : Around} {E : Value → Shared → Prop} {k : Nat} {env : Env}
noncomputable def inTwo (w : Nat) (n : Int) : Bool := [PyData.int w, PyData.int 2].any fun y => PyData.eqv y (.int (n.fmod 4))
noncomputable def outOf (ns : List Int) (w : Nat) : List (List Str) := (ns.filter (inTwo w)).map rowOf
noncomputable def begs (row one : List Str) : Bool := PyData.eqv (rowP (row.take one.length)) (rowP one)
noncomputable def noneBegs (out : List (List Str)) (row : List Str) : Bool := PyData.eqv (.list ((out.filter (begs row)).map rowP)) (.list [])
noncomputable def keptD (ns : List Int) (rows : List (List Str)) (w : Nat) : List (List Str) := rows.filter (noneBegs (outOf ns w))
noncomputable def pile0 (ns : List Int) (rows : List (List Str)) : List (List Str) := (keptD ns rows 0).filter fun r => !decide (r ∈ keptD ns rows 1)
noncomputable def pile1 (ns : List Int) (rows : List (List Str)) : List (List Str) := (keptD ns rows 1).filter fun r => !decide (r ∈ keptD ns rows 0)
noncomputable def pile2 (ns : List Int) (rows : List (List Str)) : List (List Str) := (keptD ns rows 0).filter fun r => decide (r ∈ keptD ns rows 1)
noncomputable def dueD (ns : List Int) (rows : List (List Str)) : PyData :=
  .list ([pile0 ns rows, pile1 ns rows, pile2 ns rows].map (fun P => PyData.list ((srt (P.map fileL)).map PyData.str)) ++ [.list (List.replicate (2 * rows.length) (PyData.bool true))])
inductive DueJ (c : Cx) (aS aR aK : Addr) (ns : List Int) (rows : List (List Str)) (fa : List Fact) (i : Nat) (m : LM) (mu : Led) (fa₁ : List Fact) : Prop where
  | mk (h0 : m.lookup (Str.ofString "steps") = some (.ref aS)) (h1 : m.lookup (Str.ofString "rows") = some (.ref aR)) (oO oW oK : Obj) (v0 v1 : Option Value) (ks : List Value) (nk : Nat) (h2 : mu = [(c.L + 3, oO), (c.L + 2, oW), (c.L + 1, oK), (aK, listOf ks.toArray nk)]) (h3 : Cl oO v0) (h4 : Cl oW v1) (h5 : Cl oK (some (.ref aK))) (h6 : fa₁ = RdAll ks ((List.range i).map fun w => PyData.list ((keptD ns rows w).map rowP)) :: fa) : DueJ c aS aR aK ns rows fa i m mu fa₁
theorem kept_sub {ns : List Int} {rows : List (List Str)} {w : Nat} : ∀ r ∈ keptD ns rows w, r ∈ rows := fun r h => (List.mem_filter.mp h).1
theorem keptD_len (ns : List Int) (rows : List (List Str)) (w : Nat) : (keptD ns rows w).length ≤ rows.length := List.length_filter_le _ _
theorem pile_len {ns : List Int} {rows : List (List Str)} : ∀ P ∈ [pile0 ns rows, pile1 ns rows, pile2 ns rows], P.length ≤ rows.length ∧ ∀ r ∈ P, r ∈ rows := fun P hP => by
  rcases List.mem_cons.mp hP with rfl | hP
  · exact ⟨Nat.le_trans (List.length_filter_le _ _) (keptD_len _ _ _), fun r h => kept_sub r (List.mem_filter.mp h).1⟩
  rcases List.mem_cons.mp hP with rfl | hP
  · exact ⟨Nat.le_trans (List.length_filter_le _ _) (keptD_len _ _ _), fun r h => kept_sub r (List.mem_filter.mp h).1⟩
  · obtain rfl := List.mem_singleton.mp hP
    exact ⟨Nat.le_trans (List.length_filter_le _ _) (keptD_len _ _ _), fun r h => kept_sub r (List.mem_filter.mp h).1⟩
theorem due_call (R : Room A (k + 9)) (F : Fm g c m mu fa s) {vs vr : Value} {ns : List Int} {rows : List (List Str)} (hs : Rd vs (.list (ns.map PyData.int)) ∈ fa) (hr : Rd vr (.list (rows.map rowP)) ∈ fa) (hnl : ns.length ≤ 20) (hrl : rows.length ≤ 50) (hra : ∀ r ∈ rows, r ∈ allRows) {Q : Value → Shared → Prop}
    (h : ∀ r s', Fm g c m mu (Rd r (dueD ns rows) :: fa) s' → Q r s') : wpAny (MM g) A (call (.ref 220) [vs, vr]) Q E s := by
  obtain ⟨aS, rfl⟩ := rd_ref (F.fact hs)
  obtain ⟨aR, rfl⟩ := rd_ref (F.fact hr)
  have hs' : List.Mem _ _ := hs
  have hr' : List.Mem _ _ := hr
  k_dflt (refine enter_fmC (mv := []) (binds := [(Str.ofString "steps", .ref aS), (Str.ofString "rows", .ref aR)]) F (by k_is) (by k_is) R.d (BindsTo.of_eq rfl) (locs rfl) ?_ rfl rfl rfl)
  intro c' s₁ F₁ back
  change Fm g c' _ [(c'.L + 3, cellO none), (c'.L + 2, cellO none), (c'.L + 1, cellO none)] _ _ at F₁
  have hsl := sizeLine_eq
  have hcz : Cl (cellO none) none := rfl
  repeat' k_extra "mine_mc"
  rename_i aK s2 F2 oK s3 hK F3
  clear F2
  refine r_ForR (n := 2) (Room.deeper R _).hh (by decide) ?_ (fun _ => rfl)
  repeat' k_extra "mine_mc"
  rename Fm _ _ _ _ _ _ => F4
  refine r_range1 (n := 2) F4 rfl fun ax t u v s5 F5 hrg => ?_
  refine ⟨_, _, _, _, _, _, _, _, DueJ c' aS aR aK ns rows fa, rfl, (F5.perm (mu' := [(c'.L + 3, cellO none), (c'.L + 2, cellO none), (c'.L + 1, oK), (aK, _)]) (List.perm_append_comm (l₁ := [_, _, _]) (l₂ := [_]))).more (P := RdAll [] []) RdAll.mono fun _ _ => RdAll.nil, hrg, ⟨rfl, rfl, _, _, oK, none, none, [], 0, rfl, rfl, rfl, hK, rfl⟩, ?_, ?_⟩
  · rintro i ti m₁ mu₁ fa₁ I oI s6 hi ⟨l1, l2, oO, oW, oK, v0, v1, ks, nk, rfl, hO, hW, hK, rfl⟩ F6
    repeat' k_extra "mine_mc"
    rename_i oW2 s7 hW2 F7
    change Fm g c' _ [(I, oI), (c'.L + 3, oO), (c'.L + 2, oW2), (c'.L + 1, oK), (aK, listOf ks.toArray nk)] _ _ at F7
    refine wpAny_Assign_Name ?_ (by with_unfolding_all rfl)
    k_extra "mine_comp"
    repeat' k_extra "mine_mc"
    refine ⟨Int, _, _, _, _, PyData.int, ns, inTwo i, fun n => rowP (rowOf n), F7, (by k_extra "mine_at"), (by omega), ?_, ?_, ?_⟩
    · intro c1 m1 mu1 R1 v n s2 _ hhb hl F2
      obtain ⟨t, rfl⟩ := rd_int (F2.fact (P := Rd v (PyData.int n)) (.head _))
      have hcw := hhb _ (.tail _ (.tail _ (.head _)))
      dsimp only at hcw
      refine wpAny_tests_one ?_
      repeat' k_extra "mine_mc"
      rename Fm _ _ _ _ _ _ => F9
      refine r_inD (Room.deeper R _) Rd.int (F9.fact (P := Rd _ (.list [.int (i : Nat), .int 2])) (.head _)) rfl rfl (Nat.zero_le _) ?_
      repeat' k_extra "mine_mc"
      exact ⟨rfl, F9.mono (by k_extra "mine_sub")⟩
    · intro c1 m1 mu1 R1 v n s2 _ _ _ hl F2
      obtain ⟨t, rfl⟩ := rd_int (F2.fact (P := Rd v (PyData.int n)) (.head _))
      repeat' k_extra "mine_mc"
      rename Fm _ _ _ _ _ _ => F9
      refine row_call (Room.deeper R _) F9 fun r s3 F3 => F3.mono (by k_extra "mine_sub")
    intro b s8 F8
    rw [show (ns.filter (inTwo i)).map (fun n => rowP (rowOf n)) = (outOf ns i).map rowP from by unfold outOf; rw [List.map_map]; rfl] at F8
    have hol : (outOf ns i).length ≤ 20 := by unfold outOf; rw [List.length_map]; exact Nat.le_trans (List.length_filter_le _ _) hnl
    have hoa : ∀ q ∈ outOf ns i, q ∈ allRows := fun q hq => by
      obtain ⟨n, _, rfl⟩ := List.mem_map.mp hq
      exact rowOf_mem n
    repeat' k_extra "mine_mc"
    rename_i oO2 s9 hO2 F9
    change Fm g c' _ [(I, oI), (c'.L + 3, oO2), (c'.L + 2, oW2), (c'.L + 1, oK), (aK, listOf ks.toArray nk)] _ _ at F9
    refine r_compC (x := Str.ofString "row") (cl := [(Str.ofString "out", c'.L + 3)]) (Room.deeper R _).hh (by with_unfolding_all rfl) (fun _ => rfl) rfl (by decide) rfl (fun _ => by with_unfolding_all rfl) ?_
    repeat' k_extra "mine_mc"
    refine ⟨List Str, _, _, _, _, rowP, rows, noneBegs (outOf ns i), rowP, F9, (by k_extra "mine_at"), (by omega), (fun q hq => ⟨oO2, by rw [List.mem_singleton.mp hq]; exact .tail _ (.head _)⟩), ?_, ?_, ?_⟩
    · intro c1 m1 mu1 R1 v row s2 cA oA hrow hhb hmA hA F2
      obtain ⟨aw, rfl⟩ := rd_ref (F2.fact (P := Rd v (rowP row)) (.head _))
      have hco := hhb _ (.tail _ (.head _))
      dsimp only at hco
      have hmA' : List.Mem (cA, oA) mu1 := hmA
      refine wpAny_tests_one ?_
      repeat' k_extra "mine_mc"
      k_extra "mine_comp"
      repeat' k_extra "mine_mc"
      refine ⟨List Str, _, _, _, _, rowP, outOf ns i, begs row, rowP, F2, (by k_extra "mine_at"), (by omega), ?_, ?_, ?_⟩
      · intro c2 m2 mu2 R2 v2 one s3 hone hhb2 hl2 F3
        obtain ⟨a2, rfl⟩ := rd_ref (F3.fact (P := Rd v2 (rowP one)) (.head _))
        have hcr := hhb2 _ hmA
        dsimp only at hcr
        refine wpAny_tests_one ?_
        repeat' k_extra "mine_mc"
        refine r_takeD ?_ (fun _ _ => by with_unfolding_all rfl)
        repeat' k_extra "mine_mc"
        refine r_lenD (ds := one.map PyData.str) F3 (.head _) (by rw [List.length_map]; have := (rows_small (hoa _ hone)).1; omega) fun t4 s4 F4 => ?_
        refine ⟨_, _, _, _, row.map PyData.str, _, _, rfl, F4, .tail _ (.tail _ (.head _)), (by rw [List.length_map]; have := (rows_small (hra _ hrow)).1; omega), fun r5 s5 F5 => ?_⟩
        rw [List.length_map, ← List.map_take] at F5
        change Fm g c2 m2 mu2 (Rd r5 (rowP (row.take one.length)) :: _) _ at F5
        repeat' k_extra "mine_mc"
        rename Fm _ _ _ _ _ _ => F9
        refine r_eqD (Room.deeper R _) (F9.fact (P := Rd _ (rowP (row.take one.length))) (.head _)) (F9.fact (P := Rd (.ref a2) (rowP one)) (.tail _ (.head _))) (take_lay _ (hra _ hrow) _) (rows_lay _ (hoa _ hone)) (by rw [row_depth]; decide) ?_
        repeat' k_extra "mine_mc"
        exact ⟨rfl, F9.mono (by k_extra "mine_sub")⟩
      · intro c2 m2 mu2 R2 v2 one s3 hone _ hhb2 hl2 F3
        repeat' k_extra "mine_mc"
        exact F3
      intro r6 s6 F6
      repeat' k_extra "mine_mc"
      rename Fm _ _ _ _ _ _ => F9
      refine r_eqD (d := .list (((outOf ns i).filter (begs row)).map rowP)) (e := .list []) (Room.deeper R _) (F9.fact (.head _)) (F9.rdMu (.head _) RdAll.nil) (rows_layAll _ fun q hq => hoa q (List.mem_filter.mp hq).1) rfl ?_ ?_
      · rw [PyData.depth]
        have := rows_depth ((outOf ns i).filter (begs row))
        omega
      repeat' k_extra "mine_mc"
      exact ⟨rfl, (F9.drop (List.sublist_cons_self _ _)).mono (by k_extra "mine_sub")⟩
    · intro c1 m1 mu1 R1 v row s2 cA oA hrow _ hhb hmA hA F2
      have hmA' : List.Mem (cA, oA) mu1 := hmA
      repeat' k_extra "mine_mc"
      exact F2
    intro b2 s10 F10
    repeat' k_extra "mine_mc"
    rename Fm _ _ _ _ _ _ => F11
    refine ⟨_, _, _, ⟨l1, l2, oO2, oW2, oK, _, _, ks ++ [b2], nk + 1, rfl, hO2, hW2, hK, rfl⟩, (F11.more (P := RdAll (ks ++ [b2]) ((List.range (i + 1)).map fun w => PyData.list ((keptD ns rows w).map rowP))) RdAll.mono fun hk q => ?_).mono (by k_extra "mine_sub")⟩
    rw [List.range_succ, List.map_append]
    · exact RdAll.snoc (q _ (.head _)) (q _ (.tail _ (.tail _ (.head _))))
    · have : ks.length = i := by simpa using (F10.fact (.tail _ (.tail _ (.head _))) : RdAll ks _ _).length
      omega
  · rintro m₁ mu₁ fa₁ s6 ⟨l1, l2, oO, oW, oK, v0, v1, ks, nk, rfl, hO, hW, hK, rfl⟩ F6
    have F7 := (F6.perm (mu' := [(aK, listOf ks.toArray nk), (c'.L + 3, oO), (c'.L + 2, oW), (c'.L + 1, oK)]) (List.perm_append_comm (l₁ := [_]) (l₂ := [_, _, _]))).freeze (P := Rd (.ref aK) (.list ((List.range 2).map fun w => PyData.list ((keptD ns rows w).map rowP)))) Rd.mono fun hk e q => Rd.list e (q _ (.head _))
    change Fm g c' m₁ [(c'.L + 3, oO), (c'.L + 2, oW), (c'.L + 1, oK)] (Rd (.ref aK) (.list [.list ((keptD ns rows 0).map rowP), .list ((keptD ns rows 1).map rowP)]) :: _) _ at F7
    clear F6
    repeat' k_extra "mine_mc"
    k_extra "mine_comp"
    repeat' k_extra "mine_mc"
    refine r_itemD (i := 0) (ds := [.list ((keptD ns rows 0).map rowP), .list ((keptD ns rows 1).map rowP)]) (by k_extra "mine_asm") (by k_extra "mine_at") rfl (by decide) (fun w12 s12 F12 => ?_) (fun _ => by with_unfolding_all rfl)
    refine ⟨List Str, _, _, _, _, rowP, keptD ns rows 0, fun r => !decide (r ∈ keptD ns rows 1), rowP, F12, .head _, Nat.le_trans (keptD_len _ _ _) (by omega), ?_, ?_, ?_⟩
    · intro c1 m1 mu1 R1 v row s2 hrow hhb hl F2
      obtain ⟨av, rfl⟩ := rd_ref (F2.fact (P := Rd v (rowP row)) (.head _))
      have hck := hhb _ (.tail _ (.tail _ (.head _)))
      dsimp only at hck
      refine wpAny_tests_one ?_
      repeat' k_extra "mine_mc"
      refine r_itemD (i := 1) (ds := [.list ((keptD ns rows 0).map rowP), .list ((keptD ns rows 1).map rowP)]) (by k_extra "mine_asm") (by k_extra "mine_at") rfl (by decide) (fun w3 s3 F3 => ?_) (fun _ => by with_unfolding_all rfl)
      refine r_notInD (Room.deeper R _) (F3.fact (P := Rd (.ref av) (rowP row)) (.tail _ (.head _))) (F3.fact (P := Rd w3 (.list ((keptD ns rows 1).map rowP))) (.head _)) (rows_layAll _ fun r h => hra r (kept_sub r h)) (rows_lay _ (hra _ (kept_sub _ hrow))) (by rw [row_depth]; decide) ?_
      rw [any_row]
      repeat' k_extra "mine_mc"
      exact ⟨rfl, F3.mono (by k_extra "mine_sub")⟩
    · intro c1 m1 mu1 R1 v row s2 hrow _ hhb hl F2
      repeat' k_extra "mine_mc"
      exact F2
    intro p0 s12b F12b
    repeat' k_extra "mine_mc"
    k_extra "mine_comp"
    repeat' k_extra "mine_mc"
    refine r_itemD (i := 1) (ds := [.list ((keptD ns rows 0).map rowP), .list ((keptD ns rows 1).map rowP)]) (by k_extra "mine_asm") (by k_extra "mine_at") rfl (by decide) (fun w14 s14 F14 => ?_) (fun _ => by with_unfolding_all rfl)
    refine ⟨List Str, _, _, _, _, rowP, keptD ns rows 1, fun r => !decide (r ∈ keptD ns rows 0), rowP, F14, .head _, Nat.le_trans (keptD_len _ _ _) (by omega), ?_, ?_, ?_⟩
    · intro c1 m1 mu1 R1 v row s2 hrow hhb hl F2
      obtain ⟨av, rfl⟩ := rd_ref (F2.fact (P := Rd v (rowP row)) (.head _))
      have hck := hhb _ (.tail _ (.tail _ (.head _)))
      dsimp only at hck
      refine wpAny_tests_one ?_
      repeat' k_extra "mine_mc"
      refine r_itemD (i := 0) (ds := [.list ((keptD ns rows 0).map rowP), .list ((keptD ns rows 1).map rowP)]) (by k_extra "mine_asm") (by k_extra "mine_at") rfl (by decide) (fun w3 s3 F3 => ?_) (fun _ => by with_unfolding_all rfl)
      refine r_notInD (Room.deeper R _) (F3.fact (P := Rd (.ref av) (rowP row)) (.tail _ (.head _))) (F3.fact (P := Rd w3 (.list ((keptD ns rows 0).map rowP))) (.head _)) (rows_layAll _ fun r h => hra r (kept_sub r h)) (rows_lay _ (hra _ (kept_sub _ hrow))) (by rw [row_depth]; decide) ?_
      rw [any_row]
      repeat' k_extra "mine_mc"
      exact ⟨rfl, F3.mono (by k_extra "mine_sub")⟩
    · intro c1 m1 mu1 R1 v row s2 hrow _ hhb hl F2
      repeat' k_extra "mine_mc"
      exact F2
    intro p1 s14b F14b
    repeat' k_extra "mine_mc"
    k_extra "mine_comp"
    repeat' k_extra "mine_mc"
    refine r_itemD (i := 0) (ds := [.list ((keptD ns rows 0).map rowP), .list ((keptD ns rows 1).map rowP)]) (by k_extra "mine_asm") (by k_extra "mine_at") rfl (by decide) (fun w16 s16 F16 => ?_) (fun _ => by with_unfolding_all rfl)
    refine ⟨List Str, _, _, _, _, rowP, keptD ns rows 0, fun r => decide (r ∈ keptD ns rows 1), rowP, F16, .head _, Nat.le_trans (keptD_len _ _ _) (by omega), ?_, ?_, ?_⟩
    · intro c1 m1 mu1 R1 v row s2 hrow hhb hl F2
      obtain ⟨av, rfl⟩ := rd_ref (F2.fact (P := Rd v (rowP row)) (.head _))
      have hck := hhb _ (.tail _ (.tail _ (.head _)))
      dsimp only at hck
      refine wpAny_tests_one ?_
      repeat' k_extra "mine_mc"
      refine r_itemD (i := 1) (ds := [.list ((keptD ns rows 0).map rowP), .list ((keptD ns rows 1).map rowP)]) (by k_extra "mine_asm") (by k_extra "mine_at") rfl (by decide) (fun w3 s3 F3 => ?_) (fun _ => by with_unfolding_all rfl)
      refine r_inD (Room.deeper R _) (F3.fact (P := Rd (.ref av) (rowP row)) (.tail _ (.head _))) (F3.fact (P := Rd w3 (.list ((keptD ns rows 1).map rowP))) (.head _)) (rows_layAll _ fun r h => hra r (kept_sub r h)) (rows_lay _ (hra _ (kept_sub _ hrow))) (by rw [row_depth]; decide) ?_
      rw [any_row]
      repeat' k_extra "mine_mc"
      exact ⟨rfl, F3.mono (by k_extra "mine_sub")⟩
    · intro c1 m1 mu1 R1 v row s2 hrow _ hhb hl F2
      repeat' k_extra "mine_mc"
      exact F2
    intro p2 s16b F16b
    repeat' k_extra "mine_mc"
    rename Fm _ _ _ _ _ _ => F20
    change Fm g c' _ _ (Rd _ (.list ([pile0 ns rows, pile1 ns rows, pile2 ns rows].map fun P => PyData.list (P.map rowP))) :: _) _ at F20
    have l2' := l2
    repeat' k_extra "mine_mc"
    k_extra "mine_comp"
    repeat' k_extra "mine_mc"
    refine ⟨List (List Str), _, _, _, _, (fun P => .list (P.map rowP)), [pile0 ns rows, pile1 ns rows, pile2 ns rows], fun _ => true, fun P => .list ((srt (P.map fileL)).map PyData.str), (by k_extra "mine_asm"), (by k_extra "mine_at"), (by show 3 ≤ _; omega), ?_, ?_, ?_⟩
    · intro c1 m1 mu1 R1 v P s2 hP hhb hl F2
      repeat' k_extra "mine_mc"
      exact ⟨rfl, F2⟩
    · intro c1 m1 mu1 R1 v P s2 hP _ hhb hl F2
      obtain ⟨hPl, hPm⟩ := pile_len P hP
      repeat' k_extra "mine_mc"
      k_extra "mine_comp"
      repeat' k_extra "mine_mc"
      refine ⟨List Str, _, _, _, _, rowP, P, fun _ => true, fun r => .str (fileL r), F2, .head _, (by omega), ?_, ?_, ?_⟩
      · intro c2 m2 mu2 R2 v2 row s3 hrow hhb2 hl2 F3
        repeat' k_extra "mine_mc"
        exact ⟨rfl, F3⟩
      · intro c2 m2 mu2 R2 v2 row s3 hrow _ hhb2 hl2 F3
        have hlen := fileL_lens (hra _ (hPm _ hrow))
        have hsum := sum_lens (hra _ (hPm _ hrow))
        change Fm g c2 m2 mu2 (Rd v2 (.list (row.map PyData.str)) :: _) _ at F3
        repeat' k_extra "mine_mc"
        refine r_joinD (ys := row) (by k_extra "mine_asm") (by k_extra "mine_at") (fun t4 s4 F4 => ?_) ?_
        · repeat' k_extra "mine_mc"
          · rename Fm _ _ _ _ _ _ => F9
            exact (F9.more (P := Rd (.str (Str.ofString "/" ++ Txt.join (Str.ofString "/") row ++ Str.ofString "/f.py") _) (PyData.str (fileL row))) Rd.mono fun _ _ => Rd.str).mono (by k_extra "mine_sub")
          all_goals omega
        · rw [show (Str.ofString "/").length = 1 from rfl]
          omega
      intro r5 s5 F5
      rw [show (P.filter fun _ => true).map (fun r => PyData.str (fileL r)) = (P.map fileL).map PyData.str from by rw [List.filter_eq_self.mpr (fun _ _ => rfl), List.map_map]; rfl] at F5
      repeat' k_extra "mine_mc"
      refine r_sorted (ss := P.map fileL) (by k_extra "mine_asm") (by k_extra "mine_at") (by rw [List.length_map]; omega) fun w6 s6 F6 => ?_
      repeat' k_extra "mine_mc"
      exact F6.mono (by k_extra "mine_sub")
    intro r7 s7 F7
    change Fm g c' _ _ (Rd r7 (.list ([pile0 ns rows, pile1 ns rows, pile2 ns rows].map fun P => PyData.list ((srt (P.map fileL)).map PyData.str))) :: _) _ at F7
    repeat' k_extra "mine_mc"
    refine r_newList (by k_extra "mine_asm") (fun aT s8 F8 => ?_) (by decide)
    repeat' k_extra "mine_mc"
    refine r_lenD (ds := rows.map rowP) (by k_extra "mine_asm") (by k_extra "mine_at") (by rw [List.length_map]; omega) fun t9 s9 F9 => ?_
    rw [List.length_map]
    repeat' k_extra "mine_mc"
    refine r_mul2 F9 fun t10 s10 F10 => ?_
    repeat' k_extra "mine_mc"
    refine r_mulTrue F10 (.head _) (by omega) fun aU s11 F11 => ?_
    repeat' k_extra "mine_mc"
    rename Fm _ _ _ _ _ _ => F12
    refine r_addD F12 (by k_extra "mine_at") (.head _) (by show 3 + 1 ≤ _; omega) fun w13 s13 F13 => ?_
    repeat' k_extra "mine_mc"
    change Fm g c' _ _ (Rd (.ref w13) (dueD ns rows) :: _) _ at F13
    exact h _ _ ((back _ [] _ _ _ rfl F13).mono (by k_extra "mine_sub"))
end
end
-- Pu6
section
theorem begs_eq (r q : List Str) : begs r q = begins q r := by
  unfold begs begins
  rw [eqv_row, Bool.eq_iff_iff]
  simp
theorem noneBegs_iff (out : List (List Str)) (r : List Str) : noneBegs out r = true ↔ ∀ q ∈ out, begins q r = false := by
  unfold noneBegs
  rw [PyData.eqv]
  cases h : out.filter (begs r) with
  | nil =>
    have h1 := List.filter_eq_nil_iff.mp h
    simp only [List.map_nil, PyData.eqvAll, true_iff]
    intro q hq
    have := h1 q hq
    rw [begs_eq] at this
    simpa using this
  | cons x l =>
    have hx : x ∈ out.filter (begs r) := by rw [h]; exact .head _
    obtain ⟨h1, h2⟩ := List.mem_filter.mp hx
    rw [begs_eq] at h2
    simp only [List.map_cons, PyData.eqvAll, Bool.false_eq_true, false_iff]
    intro z
    rw [z x h1] at h2
    cases h2
theorem inTwo_iff (w : Nat) (n : Int) : inTwo w n = true ↔ n.fmod 4 = w ∨ n.fmod 4 = 2 := by
  unfold inTwo
  simp only [List.any_cons, List.any_nil, Bool.or_false, PyData.eqv, Bool.or_eq_true, beq_iff_eq]
  constructor
  · rintro (h | h)
    · exact .inl h.symm
    · exact .inr h.symm
  · rintro (h | h)
    · exact .inl h.symm
    · exact .inr h.symm
theorem keptD_iff {ns : List Int} {r : List Str} {w : Nat} : noneBegs (outOf ns w) r = true ↔ ∀ n ∈ ns, (n.fmod 4 = w ∨ n.fmod 4 = 2) → begins (rowOf n) r = false := by
  rw [noneBegs_iff]
  unfold outOf
  constructor
  · intro h n hn hw
    exact h _ (List.mem_map.mpr ⟨n, List.mem_filter.mpr ⟨hn, (inTwo_iff w n).mpr hw⟩, rfl⟩)
  · intro h q hq
    obtain ⟨n, hn, rfl⟩ := List.mem_map.mp hq
    obtain ⟨h1, h2⟩ := List.mem_filter.mp hn
    exact h n h1 ((inTwo_iff w n).mp h2)
theorem msAny_iff {ns : List Int} {r : List Str} (hr : r ∈ allRows) : (decide (modS r ∈ msOf ns) || (msOf ns).any fun y => Txt.startswith (modS r) (y ++ Str.ofString ".")) = true ↔ ∃ n ∈ ns, n.fmod 4 = 2 ∧ begins (rowOf n) r = true := by
  have h0 : ¬ modS r ∈ msOf ns := fun h => by
    obtain ⟨q, hq, e⟩ := msOf_mem h
    exact mod_ne q hq r hr e
  rw [decide_eq_false h0, Bool.false_or, List.any_eq_true]
  constructor
  · rintro ⟨y, hy, h⟩
    obtain ⟨n, hn, rfl⟩ := List.mem_map.mp hy
    obtain ⟨h1, h2⟩ := List.mem_filter.mp hn
    rw [mod_begins _ (rowOf_mem n) r hr] at h
    exact ⟨n, h1, by simpa using h2, h⟩
  · rintro ⟨n, h1, h2, h⟩
    exact ⟨_, msOf_of h1 h2, by rw [mod_begins _ (rowOf_mem n) r hr]; exact h⟩
theorem ds1Any_iff {ns : List Int} {r : List Str} (hr : r ∈ allRows) : (((dsOf1 ns).map normS).any fun d => Txt.startswith (fileS r) (d ++ Str.ofString "/")) = true ↔ ∃ n ∈ ns, n.fmod 4 = 0 ∧ begins (rowOf n) r = true := by
  rw [List.any_eq_true]
  constructor
  · rintro ⟨y, hy, h⟩
    obtain ⟨d, hd, rfl⟩ := List.mem_map.mp hy
    obtain ⟨n, hn, rfl⟩ := List.mem_map.mp hd
    obtain ⟨h1, h2⟩ := List.mem_filter.mp hn
    rw [(dir_norm _ (rowOf_mem n)).1, file_begins _ (rowOf_mem n) r hr] at h
    exact ⟨n, h1, by simpa using h2, h⟩
  · rintro ⟨n, h1, h2, h⟩
    exact ⟨_, List.mem_map_of_mem (dsOf1_of h1 h2), by rw [(dir_norm _ (rowOf_mem n)).1, file_begins _ (rowOf_mem n) r hr]; exact h⟩
theorem ds2Any_iff {ns : List Int} {r : List Str} (hr : r ∈ allRows) : (((dsOf2 ns).map normS).any fun d => Txt.startswith (fileS r) (d ++ Str.ofString "/")) = true ↔ ∃ n ∈ ns, n.fmod 4 = 1 ∧ begins (rowOf n) r = true := by
  rw [List.any_eq_true]
  constructor
  · rintro ⟨y, hy, h⟩
    obtain ⟨d, hd, rfl⟩ := List.mem_map.mp hy
    obtain ⟨n, hn, rfl⟩ := List.mem_map.mp hd
    obtain ⟨h1, h2⟩ := List.mem_filter.mp hn
    rw [(dir_norm _ (rowOf_mem n)).2, file_begins _ (rowOf_mem n) r hr] at h
    exact ⟨n, h1, by simpa using h2, h⟩
  · rintro ⟨n, h1, h2, h⟩
    exact ⟨_, List.mem_map_of_mem (dsOf2_of h1 h2), by rw [(dir_norm _ (rowOf_mem n)).2, file_begins _ (rowOf_mem n) r hr]; exact h⟩
theorem left_iff {a b x : Bool} {ns : List Int} {w : Nat} {r : List Str} (ha : a = true ↔ ∃ n ∈ ns, n.fmod 4 = 2 ∧ begins (rowOf n) r = true) (hb : b = true ↔ ∃ n ∈ ns, n.fmod 4 = (w : Int) ∧ begins (rowOf n) r = true)
    (hx : x = true ↔ ∀ n ∈ ns, (n.fmod 4 = w ∨ n.fmod 4 = 2) → begins (rowOf n) r = false) : (!(a || b)) = x := by
  rw [Bool.eq_iff_iff, hx, Bool.not_eq_true', ← Bool.not_eq_true, Bool.or_eq_true, ha, hb]
  constructor
  · intro h n hn hw
    cases e : begins (rowOf n) r with
    | false => rfl
    | true => exact absurd (hw.elim (fun q => .inr ⟨n, hn, q, e⟩) fun q => .inl ⟨n, hn, q, e⟩) h
  · rintro h (⟨n, hn, q, e⟩ | ⟨n, hn, q, e⟩)
    · rw [h n hn (.inr q)] at e; cases e
    · rw [h n hn (.inl q)] at e; cases e
theorem kept1_eq {ns : List Int} {rows : List (List Str)} (hra : ∀ r ∈ rows, r ∈ allRows) : kept1 ns rows = keptD ns rows 0 := by
  unfold kept1 keptOf keptD
  refine List.filter_congr fun r hr => ?_
  exact left_iff (w := 0) (msAny_iff (hra r hr)) (ds1Any_iff (hra r hr)) keptD_iff
theorem kept2_eq {ns : List Int} {rows : List (List Str)} (hra : ∀ r ∈ rows, r ∈ allRows) : kept2 ns rows = keptD ns rows 1 := by
  unfold kept2 keptOf keptD
  refine List.filter_congr fun r hr => ?_
  exact left_iff (w := 1) (msAny_iff (hra r hr)) (ds2Any_iff (hra r hr)) keptD_iff
theorem file_map {P : List (List Str)} (h : ∀ r ∈ P, r ∈ allRows) : P.map fileS = P.map fileL := List.map_congr_left fun r hr => file_same r (h r hr)
theorem mem_srt {x : Str} {l : List Str} : x ∈ srt l ↔ x ∈ l := (srt_perm l).mem_iff
theorem mem_files {P : List (List Str)} (h : ∀ r ∈ P, r ∈ allRows) {r : List Str} (hr : r ∈ allRows) : fileS r ∈ P.map fileS ↔ r ∈ P := by
  constructor
  · intro q
    obtain ⟨r', h1, e⟩ := List.mem_map.mp q
    exact fileS_inj (h r' h1) hr e ▸ h1
  · exact fun q => List.mem_map_of_mem q
theorem srt_filter (p : Str → Bool) (l : List Str) : (srt l).filter p = srt (l.filter p) :=
  le_unique ((srt_le l).filter p) (srt_le _) (((srt_perm l).filter p).trans (srt_perm _).symm)
theorem files_pile {K : List (List Str)} {p : Str → Bool} {q : List Str → Bool} (h : ∀ r ∈ K, r ∈ allRows) (hp : ∀ r ∈ K, p (fileS r) = q r) : (K.map fileS).filter p = (K.filter q).map fileL := by
  rw [List.filter_map, ← file_map (P := K.filter q) fun r hr => h r (List.mem_filter.mp hr).1]
  congr 1
  exact List.filter_congr fun r hr => hp r hr
theorem told_due {ns : List Int} {rows : List (List Str)} (hra : ∀ r ∈ rows, r ∈ allRows) (hrn : rows.Nodup) : toldD ns rows = dueD ns rows := by
  have s1 : SortedS (sorted1 ns rows) := srt_strict (kept_nodup hra hrn)
  have s2 : SortedS (sorted2 ns rows) := srt_strict (kept_nodup hra hrn)
  have e1 : sorted1 ns rows = srt ((keptD ns rows 0).map fileS) := by unfold sorted1; rw [kept1_eq hra]
  have e2 : sorted2 ns rows = srt ((keptD ns rows 1).map fileS) := by unfold sorted2; rw [kept2_eq hra]
  have k0 : ∀ r ∈ keptD ns rows 0, r ∈ allRows := fun r h => hra r (kept_sub r h)
  have k1 : ∀ r ∈ keptD ns rows 1, r ∈ allRows := fun r h => hra r (kept_sub r h)
  obtain ⟨d1, d2⟩ := diffS_spec (sorted1 ns rows) (sorted2 ns rows) s1 s2
  have m0 : ∀ r ∈ allRows, (fileS r ∈ sorted1 ns rows ↔ r ∈ keptD ns rows 0) := fun r hr => by rw [e1, mem_srt, mem_files k0 hr]
  have m1 : ∀ r ∈ allRows, (fileS r ∈ sorted2 ns rows ↔ r ∈ keptD ns rows 1) := fun r hr => by rw [e2, mem_srt, mem_files k1 hr]
  have p0 : (diffS (sorted1 ns rows) (sorted2 ns rows)).1 = srt ((pile0 ns rows).map fileL) := by
    rw [d1]
    conv => lhs; rw [e1]
    rw [srt_filter, files_pile (q := fun r => !decide (r ∈ keptD ns rows 1)) k0 fun r hr => by rw [Bool.eq_iff_iff]; simp [m1 r (k0 r hr)]]
    rfl
  have p1 : (diffS (sorted1 ns rows) (sorted2 ns rows)).2 = srt ((pile1 ns rows).map fileL) := by
    rw [d2]
    conv => lhs; rw [e2]
    rw [srt_filter, files_pile (q := fun r => !decide (r ∈ keptD ns rows 0)) k1 fun r hr => by rw [Bool.eq_iff_iff]; simp [m0 r (k1 r hr)]]
    rfl
  have p2 : ((kept1 ns rows).map fileS).filter (fun x => !decide (x ∈ (diffS (sorted1 ns rows) (sorted2 ns rows)).1)) = (pile2 ns rows).map fileL := by
    rw [kept1_eq hra, d1]
    refine files_pile (q := fun r => decide (r ∈ keptD ns rows 1)) k0 fun r hr => ?_
    rw [Bool.eq_iff_iff]
    simp [List.mem_filter, m1 r (k0 r hr), m0 r (k0 r hr), hr]
  unfold toldD dueD
  rw [p2, p0, p1, List.replicate_append_replicate, Nat.two_mul]
  rfl
theorem depth_true : ∀ n : Nat, PyData.depthAll (List.replicate n (PyData.bool true)) = 0
  | 0 => by rw [List.replicate_zero, PyData.depthAll]
  | n + 1 => by rw [List.replicate_succ, PyData.depthAll, depth_true n, PyData.depth]; rfl
theorem lay_true : ∀ n : Nat, PyData.canLayAll0 (List.replicate n (PyData.bool true)) = true
  | 0 => rfl
  | n + 1 => by rw [List.replicate_succ, PyData.canLayAll0, lay_true n]; rfl
theorem pile_lay {ns : List Int} {rows P : List (List Str)} (hra : ∀ r ∈ rows, r ∈ allRows) (hP : P ∈ [pile0 ns rows, pile1 ns rows, pile2 ns rows]) : PyData.canLayAll0 ((srt (P.map fileL)).map PyData.str) = true := by
  have h := pile_len P hP
  refine lay_files hra fun x hx => ?_
  obtain ⟨r, hr, rfl⟩ := List.mem_map.mp (mem_srt.mp hx)
  rw [← file_same r (hra r (h.2 r hr))]
  exact List.mem_map_of_mem (h.2 r hr)
theorem due_lay {ns : List Int} {rows : List (List Str)} (hra : ∀ r ∈ rows, r ∈ allRows) : (dueD ns rows).canLay0 = true := by
  have h0 : (PyData.list ((srt ((pile0 ns rows).map fileL)).map PyData.str)).canLay0 = true := pile_lay hra (.head _)
  have h1 : (PyData.list ((srt ((pile1 ns rows).map fileL)).map PyData.str)).canLay0 = true := pile_lay hra (.tail _ (.head _))
  have h2 : (PyData.list ((srt ((pile2 ns rows).map fileL)).map PyData.str)).canLay0 = true := pile_lay hra (.tail _ (.tail _ (.head _)))
  have h3 : (PyData.list (List.replicate (2 * rows.length) (PyData.bool true))).canLay0 = true := lay_true _
  show PyData.canLayAll0 [_, _, _, _] = true
  simp only [PyData.canLayAll0, h0, h1, h2, h3, Bool.and_self]
theorem due_depth {ns : List Int} {rows : List (List Str)} : (dueD ns rows).depth ≤ 20 := by
  have hr : ∀ l : List Str, (PyData.list (l.map PyData.str)).depth = 1 := fun l => row_depth l
  unfold dueD
  simp only [List.map_cons, List.map_nil, List.cons_append, List.nil_append]
  rw [PyData.depth]
  simp only [PyData.depthAll, hr]
  rw [PyData.depth, depth_true]
  decide
theorem due_refl {ns : List Int} {rows : List (List Str)} (hra : ∀ r ∈ rows, r ∈ allRows) (hrn : rows.Nodup) : PyData.eqv (toldD ns rows) (dueD ns rows) = true := by
  rw [told_due hra hrn]
  exact SeqAt.eqv_refl _ (due_lay hra)
theorem addRow_nodup {acc : List (List Str)} {r : List Str} (h : acc.Nodup) : (addRow acc r).Nodup := by
  by_cases hr : r ∈ acc
  · rw [addRow_pos hr]; exact h
  · rw [addRow_neg hr, List.nodup_append]
    refine ⟨h, by simp, fun a ha b hb e => ?_⟩
    rw [List.mem_singleton.mp hb] at e
    exact hr (e ▸ ha)
theorem foldl_nodup : ∀ (l acc : List (List Str)), acc.Nodup → (l.foldl addRow acc).Nodup
  | [], _, h => h
  | r :: l, acc, h => foldl_nodup l _ (addRow_nodup h)
theorem filesOf_nodup (ns : List Int) : (filesOf ns).Nodup := foldl_nodup _ _ List.nodup_nil
end
-- C12
section
theorem room_call {env : Env} : Room (callerA.deeper env) (0 + 10) := ⟨rfl, by show callerA.depth + 1 + (0 + 10) + 1 < recursionLimit; decide +kernel, by show callerA.units + 3 + 100 * (0 + 10 + 1) < cLine; decide +kernel⟩
/-- the law's own frame is opened -/
theorem enter_top {g : Gb} {s₁ : Shared} {f : Addr} {o : Obj} {name : Str} {params : Arguments} {body : List Stmt} {scope : Scope} {doc pm ct : Value} {cda : Addr} {an : Option Addr} {v : Value} {x : Str} {d : PyData} {Rr : Result → Shared → Prop}
    (KX : (hd.heap_1 g.w.params).In s₁.heap) (T : Top hd.view_39 (looseW hd.view_39 []) g.mean g.mg g.mb s₁.heap) (ho : s₁.heap.get? f = some o) (hd' : o.data = .func (fnOf name name params body scope .none .none doc pm an (.ref cda) ct)) (hcd : s₁.heap.CodeRec (.ref cda) name)
    (hv : Rd v d s₁.heap) (hbind : BindsTo s₁ (fnOf name name params body scope .none .none doc pm an (.ref cda) ct) ⟨[v], []⟩ [(x, v)]) (hcell : ∀ y ∈ scope.names, y.2 ≠ .cell) (hloc : ∀ y ∈ [(x, v)], scope.names.lookup y.1 = some .local)
    (hco : scope.isCoroutine = false) (hgen : scope.isGenerator = false) (hk : scope.kind = .function)
    (h : ∀ c s A, Room A 10 → FrOk A (envOf name scope c.L f (.ref cda)) c [] → Fm g c [(x, v)] [] [Rd v d] s →
      wpAny (MM g) A (execs body (envOf name scope c.L f (.ref cda))) (fun fl s' => fl = .ret (.bool true) ∧ ∃ m mu fa', Fm g c m mu fa' s') (fun _ _ => False) s)
    (fin : ∀ s', Gr s₁.heap s'.heap → s'.os = s₁.os → s'.gens = s₁.gens → Rr (.ok (.ret (.bool true))) s') : codeAny (MM g) callerA (.call (.ref f) ⟨[v], []⟩) Rr s₁ := by
  refine codeAny_call_def (fd := fnOf name name params body scope .none .none doc pm an (.ref cda) ct) (body := body) (binds := [(x, v)]) (by decide +kernel) ho hd' T.nolimit hcd rfl hbind hcell hloc (fun h₁ hns hk₁ => ?_) hco hgen hk
  have F₁ : Fm g ⟨s₁.heap, s₁.heap, s₁.heap.objs.size, s₁⟩ [(x, v)] [] [Rd v d] { s₁ with heap := h₁, toks := s₁.toks + 1 } :=
    ⟨s₁.heap, ⟨hns, hk₁, Nat.le_refl _, Gr.rfl', hk₁, fun _ _ e => .inl e, Heap.get?_none_of_le (Nat.le_refl _), Gr.rfl', (fun _ h => nomatch h), List.nodup_nil, ⟨KX, T⟩, rfl, rfl⟩, fun P hP => by
      rw [List.mem_singleton.mp hP]
      exact ⟨Rd.mono, hv⟩⟩
  refine wpAny_mono (h ⟨s₁.heap, s₁.heap, s₁.heap.objs.size, s₁⟩ _ _ room_call ⟨⟨[], rfl, fun e he => ?_⟩, (fun _ h => nomatch h), rfl⟩ F₁) (fun fl s' hl => ?_) fun _ _ y => y.elim
  · rw [List.mem_singleton.mp he]
    exact ⟨hk, _, rfl, .inl rfl⟩
  · obtain ⟨rfl, m, mu, fa', F⟩ := hl
    obtain ⟨_, T, _⟩ := id F
    exact fin s' F.fr.keep T.os T.gens
theorem fin : PySem.Challenge.rw_in0181_01.Holds := by
  refine hd ?_
  k_fill
  intro w s₀ s₁ mg mb G Y fa o pm cd doc dV kV ho hd' hcd hD hmg hg args vals as hpre hlay hrd hwl hlo
  have KX := kIn_of Y
  have T := G.T
  clear hmg
  wrow_args hpre hlay hrd hwl hlo
  rename_i ns hs hlay0 hL1 hr1 hl2 x4 x3 a vs x0 hL ra hw1 r0 hI hr hc1 hc2
  clear Y
  obtain rfl : dV = .none := hD.pos.elim (fun q => q.2) fun q => absurd rfl q.1
  obtain rfl : kV = .none := hD.kw.elim (fun q => q.2) fun q => absurd rfl q.1
  clear hD
  have hlen : ns.length ≤ 63 := by omega
  have hsl := sizeLine_eq
  obtain ⟨cda, rfl⟩ : ∃ cda, cd = .ref cda := let ⟨c, _, _, _, e, _⟩ := hcd; ⟨c, e⟩
  show wpAny (MM ⟨w, ExcName.means s₀.heap, mg, mb⟩) callerA (call (.ref fa) [.ref a]) _ _ s₁
  dsimp only [docDef] at hd' hcd
  refine wpAny_call ?_
  refine enter_top (g := ⟨w, ExcName.means s₀.heap, mg, mb⟩) (x := Str.ofString "script") (d := .list (ns.map PyData.int)) KX T ho hd' hcd ⟨_, r0⟩ (BindsTo.of_eq rfl) (by decide) (locs rfl) rfl rfl rfl (fun c s A R O F => ?_) fun s' k1 k2 k3 => ?_
  · generalize (⟨w, ExcName.means s₀.heap, mg, mb⟩ : Gb) = g at *
    repeat' k_extra "mine_mc"
    refine r_takeD ?_ (fun _ _ => by with_unfolding_all rfl)
    repeat' k_extra "mine_mc"
    rename Fm _ _ _ _ _ _ => F2
    refine ⟨_, _, _, _, ns.map PyData.int, 6, _, rfl, F2, by k_extra "mine_at", by rw [List.length_map]; omega, fun r3 s3 F3 => ?_⟩
    rw [← List.map_take] at F3
    refine r_addD F3 (ds := ([0, 13, 18, 55, 30] : List Int).map PyData.int) (.tail _ (.head _)) (.head _) (by rw [List.length_map, List.length_map, List.length_take]; show 5 + _ ≤ _; omega) fun r4 s4 F4 => ?_
    rw [← List.map_append] at F4
    generalize hdr : [0, 13, 18, 55, 30] ++ ns.take 6 = dr at F4
    have hm : ∀ n ∈ ([0, 13, 18, 55, 30] : List Int), n ∈ dr := fun n h => hdr ▸ List.mem_append_left _ h
    have hdl : dr.length ≤ 11 := by rw [← hdr, List.length_append, List.length_take]; show 5 + _ ≤ _; omega
    have hfl : (filesOf dr).length ≤ 17 := by have := filesOf_length dr; omega
    have hfm := filesOf_mem dr
    have hfn := filesOf_nodup dr
    clear hdr
    repeat' k_extra "mine_mc"
    rename Fm _ _ _ _ _ _ => F5
    refine files_call (k := 0) (ns := dr) (Room.less R (by omega)) F5 (by k_extra "mine_at") (by omega) fun r6 s6 F6 => ?_
    obtain ⟨a6, rfl⟩ := rd_ref (F6.fact (.head _))
    repeat' k_extra "mine_mc"
    rename Fm _ _ _ _ _ _ => F7
    refine told_call (k := 0) (ns := dr) (rows := filesOf dr) (Room.less R (by omega)) O F7 (by k_extra "mine_at") (by k_extra "mine_at") (by omega) (by omega) hfm hfn (hm _ (by decide)) (hm _ (by decide)) (hm _ (by decide)) (hm _ (by decide)) fun r8 s8 F8 => ?_
    repeat' k_extra "mine_mc"
    rename Fm _ _ _ _ _ _ => F9
    refine due_call (k := 0) (ns := dr) (rows := filesOf dr) (Room.less R (by omega)) F9 (by k_extra "mine_at") (by k_extra "mine_at") (by omega) (by omega) hfm fun r10 s10 F10 => ?_
    have h8 : Rd r8 (toldD dr (filesOf dr)) _ := F10.fact (by k_extra "mine_at")
    have h10 : Rd r10 (dueD dr (filesOf dr)) _ := F10.fact (.head _)
    refine r_eqD R h8 h10 (by rw [told_due hfm hfn]; exact due_lay hfm) (due_lay hfm) (by rw [told_due hfm hfn]; exact due_depth) ?_
    rw [due_refl hfm hfn]
    repeat' k_extra "mine_mc"
    exact ⟨rfl, _, _, _, F10⟩
  · exact ⟨.inl ⟨.bool true, .bool true, [], rfl, fun _ => rfl, .bool true, by with_unfolding_all rfl, fun _ => ⟨List.nodup_nil, fun _ h => nomatch h⟩⟩, .of_keep k1, k2, .of_eq (k3.trans hg)⟩
end
end Mine
theorem PySem.Challenge.cw_in0181_01_holds : PySem.Challenge.rw_in0181_01.Holds :=
  Mine.fin
