/- An interpreter of the model's code over abstract values, proved sound, part 4. No condition. -/
import Derived.Test.YtacdmigmccfcfaaDoorEngC
import Derived.OpenShut
import Derived.WideKeyArgs
import Derived.ChangeSlices
import Derived.RowKit3
/- Contracts: from the names of their own to the caller's. -/
namespace Go.Eng
set_option linter.unusedSectionVars false
variable [RowAddr]
set_option linter.unusedSimpArgs false
set_option linter.unusedVariables false

theorem seenBy_spec {H : List Blk} {rs : List Nat} : ∀ {l : List Nat} {ks : List Blk}, seenBy H rs l = some ks → ks.length = l.length ∧
    ∀ (i : Nat) b k', l[i]? = some b → ks[i]? = some k' → ∃ d, H[b]? = some ⟨d, k'.mode⟩ ∧ toD rs d = some k'.data
  | [], ks, h => by simp [seenBy] at h; subst h; exact ⟨rfl, fun i b k' hb => by simp at hb⟩
  | b :: r, ks, h => by
    simp only [seenBy] at h
    split at h
    · cases h
    rename_i d m hd
    split at h
    · cases h
    rename_i d' hd'
    split at h
    · rename_i ks' hks
      injection h with h; subst h
      obtain ⟨h1, h2⟩ := seenBy_spec hks
      refine ⟨by simp [h1], fun i b' k' hb hk => ?_⟩
      cases i with
      | zero => simp at hb hk; subst hb hk; exact ⟨d, by rw [← lget_eq]; exact hd, hd'⟩
      | succ i => exact h2 i b' k' (by simpa using hb) (by simpa using hk)
    · cases h
theorem newBlks_get (f : Nat → Nat) : ∀ (ks : List Blk) (i : Nat), (newBlks f ks)[i]? = (ks[i]?).map fun k => ⟨k.data.ren f, k.mode⟩
  | [], i => by simp [newBlks]
  | ⟨d, m⟩ :: ks, 0 => by simp [newBlks]
  | ⟨d, m⟩ :: ks, i + 1 => by simp [newBlks, newBlks_get f ks i]
theorem newBlks_len (f : Nat → Nat) : ∀ ks : List Blk, (newBlks f ks).length = ks.length
  | [] => rfl
  | ⟨d, m⟩ :: ks => by simp [newBlks, newBlks_len f ks]
/-- What is in the heap behind the call. -/
theorem putBack_spec (f : Nat → Nat) : ∀ (rs : List Nat) (ks H H2 : List Blk), rs.Nodup → (∀ b ∈ rs, b < H.length) → putBack f rs ks H = some H2 →
    rs.length ≤ ks.length ∧ H2.length = H.length + (ks.length - rs.length) ∧
    (∀ b : Nat, b < H.length → (∀ i : Nat, rs[i]? = some b → (blkAt H b).mode ≠ .own) → H2[b]? = H[b]?) ∧
    (∀ (i : Nat) b k, rs[i]? = some b → ks[i]? = some k → (blkAt H b).mode = .own → H2[b]? = some ⟨k.data.ren f, k.mode⟩) ∧
    (∀ i : Nat, H2[H.length + i]? = (ks[rs.length + i]?).map fun k => ⟨k.data.ren f, k.mode⟩) := by
  intro rs
  induction rs with
  | nil =>
    intro ks H H2 _ _ h
    simp only [putBack, Option.some.injEq] at h; subst h
    refine ⟨by simp, by simp [newBlks_len], fun b hb _ => List.getElem?_append_left hb, fun i b k hb => by simp at hb, fun i => ?_⟩
    rw [List.getElem?_append_right (by omega), newBlks_get]
    simp
  | cons b0 rs ih =>
    intro ks H H2 hn hlt h
    rw [List.nodup_cons] at hn
    cases ks with
    | nil => simp [putBack] at h
    | cons k0 ks =>
      obtain ⟨d0, m0⟩ := k0
      have hb0 : b0 < H.length := hlt b0 (List.mem_cons_self ..)
      simp only [putBack] at h
      have main : ∀ H1 : List Blk, H1.length = H.length → (∀ b : Nat, b ≠ b0 → H1[b]? = H[b]?) → ((blkAt H b0).mode = .own → H1[b0]? = some ⟨d0.ren f, m0⟩) → ((blkAt H b0).mode ≠ .own → H1[b0]? = H[b0]?) → putBack f rs ks H1 = some H2 →
          rs.length + 1 ≤ ks.length + 1 ∧ H2.length = H.length + (ks.length + 1 - (rs.length + 1)) ∧
          (∀ b : Nat, b < H.length → (∀ i : Nat, (b0 :: rs)[i]? = some b → (blkAt H b).mode ≠ .own) → H2[b]? = H[b]?) ∧
          (∀ (i : Nat) b k, (b0 :: rs)[i]? = some b → (⟨d0, m0⟩ :: ks)[i]? = some k → (blkAt H b).mode = .own → H2[b]? = some ⟨k.data.ren f, k.mode⟩) ∧
          (∀ i : Nat, H2[H.length + i]? = ((⟨d0, m0⟩ :: ks)[rs.length + 1 + i]?).map fun k => ⟨k.data.ren f, k.mode⟩) := by
        intro H1 hl h1 h2 h2' h3
        have hba : ∀ b, b ≠ b0 → blkAt H1 b = blkAt H b := by
          intro b hb; unfold blkAt; rw [lget_eq, lget_eq, h1 b hb]
        obtain ⟨g1, g2, g3, g4, g5⟩ := ih ks H1 H2 hn.2 (fun b hb => by rw [hl]; exact hlt b (List.mem_cons_of_mem _ hb)) h3
        refine ⟨by omega, by rw [g2, hl]; omega, fun b hb hi => ?_, fun i b k hb hk ho => ?_, fun i => ?_⟩
        · by_cases e : b = b0
          · subst e
            have hno := hi 0 rfl
            rw [g3 b (by omega) (fun i hi' => absurd (List.mem_of_getElem? hi') hn.1), h2' hno]
          · rw [g3 b (by omega) (fun i hi' => by rw [hba b e]; exact hi (i + 1) (by simpa using hi')), h1 b e]
        · cases i with
          | zero =>
            simp at hb hk; subst hb hk
            rw [g3 b0 (by omega) (fun i hi' => absurd (List.mem_of_getElem? hi') hn.1), h2 ho]
          | succ i =>
            have hb' : rs[i]? = some b := by simpa using hb
            have e : b ≠ b0 := by intro e; subst e; exact hn.1 (List.mem_of_getElem? hb')
            exact g4 i b k hb' (by simpa using hk) (by rw [hba b e]; exact ho)
        · have := g5 i
          rw [hl] at this
          rw [this]
          have e : rs.length + 1 + i = (rs.length + i) + 1 := by omega
          rw [e, List.getElem?_cons_succ]
      split at h
      · rename_i hm
        exact main (lset ⟨d0.ren f, m0⟩ b0 H) (by rw [lset_eq, List.length_set]) (fun b hb => by rw [lset_eq, List.getElem?_set_ne (Ne.symm hb)]) (fun _ => by rw [lset_eq, List.getElem?_set_self hb0]) (fun hn => absurd hm hn) h
      · rename_i hm
        exact main H rfl (fun b _ => rfl) (fun ho => absurd ho hm) (fun _ => rfl) h
theorem lowOf_spec (H : List Blk) : ∀ (rs : List Nat) (l : Nat), lowOf H rs l ≤ l ∧ ∀ b ∈ rs, (blkAt H b).mode = .own → lowOf H rs l ≤ b
  | [], l => ⟨Nat.le_refl _, fun b hb => by cases hb⟩
  | b0 :: rs, l => by
    simp only [lowOf]
    split
    · obtain ⟨h1, h2⟩ := lowOf_spec H rs (Nat.min l b0)
      refine ⟨Nat.le_trans h1 (Nat.min_le_left _ _), fun b hb ho => ?_⟩
      rcases List.mem_cons.1 hb with rfl | hb
      · exact Nat.le_trans h1 (Nat.min_le_right _ _)
      · exact h2 b hb ho
    · rename_i hm
      obtain ⟨h1, h2⟩ := lowOf_spec H rs l
      refine ⟨h1, fun b hb ho => ?_⟩
      rcases List.mem_cons.1 hb with rfl | hb
      · exact absurd ho (by simpa using hm)
      · exact h2 b hb ho

section
variable {C : Cfg} {G : Nat → Option (List AV)}
/-- What a contract is shown to be: under names of its own. -/
def SpecOk (P : Program) (G : Nat → Option (List AV)) (f : FuncId) (sp : Spec) : Prop := ∀ args H dec r, sp args H dec = some r →
  (∀ (i : Nat) k, r.H[i]? = some k → k.mode = .ro → ∃ k', H[i]? = some k' ∧ k'.mode = .ro) ∧ ((∀ x ∈ r.cond, x = true) → ∀ β w vs, LRel β args vs → HRel G β H w →
    (∃ fn, P.funcs[f]? = some fn ∧ (fn.name == "runtime.NumGoroutine") = false ∧ fn.body.isSome = true) ∧
    Calls P f ⟨vs⟩ w fun e w' => ∃ u β', e = .returned u ∧ VRel β' r.v u ∧ HRel G β' r.H w' ∧ Stp β H w β' r.H w')
theorem callSpec_ok {P : Program} {f : FuncId} {sp : Spec} (hsp : SpecOk P G f sp) : ∀ args S v S', callSpec sp args S = some (v, S') → Ext S S' ∧ (S'.ok → ∀ β w vs, LRel β args vs → HRel G β S.H w →
    (∃ fn, P.funcs[f]? = some fn ∧ (fn.name == "runtime.NumGoroutine") = false ∧ fn.body.isSome = true) ∧
    Calls P f ⟨vs⟩ w fun e w' => ∃ u β', e = .returned u ∧ VRel β' v u ∧ HRel G β' S'.H w' ∧ Stp β S.H w β' S'.H w') := by
  intro args S v S' h
  unfold callSpec at h
  simp only at h
  generalize closeRefs S.H 100 0 (refsL args []) = rs at h
  split at h
  · cases h
  rename_i hnd
  have hnd := nodupB_spec hnd
  split at h
  · cases h
  rename_i args' hargs
  split at h
  · cases h
  rename_i Hc hHc
  split at h
  · cases h
  rename_i r hr
  split at h
  · cases h
  rename_i H2 hpb
  simp only [Option.some.injEq, Prod.mk.injEq] at h
  obtain ⟨rfl, rfl⟩ := h
  obtain ⟨hcl, hcg⟩ := seenBy_spec hHc
  obtain ⟨hx, hcalls⟩ := hsp args' Hc S.dec r hr
  have hrsget : ∀ (i b : Nat), rs[i]? = some b → ∃ d k', Hc[i]? = some k' ∧ S.H[b]? = some ⟨d, k'.mode⟩ ∧ toD rs d = some k'.data := by
    intro i b hb
    have hi : i < Hc.length := by
      rw [hcl]
      rcases Nat.lt_or_ge i rs.length with h | h
      · exact h
      · rw [List.getElem?_eq_none h] at hb; cases hb
    obtain ⟨d, h1, h2⟩ := hcg i b _ hb (List.getElem?_eq_getElem hi)
    exact ⟨d, _, List.getElem?_eq_getElem hi, h1, h2⟩
  have hlt : ∀ b ∈ rs, b < S.H.length := by
    intro b hb
    obtain ⟨i, hi⟩ := List.getElem?_of_mem hb
    obtain ⟨d, k', _, h2, _⟩ := hrsget i b hi
    rw [← lget_eq] at h2; exact lget_lt h2
  obtain ⟨p1, p2, p3, p4, p5⟩ := putBack_spec _ _ _ _ _ hnd hlt hpb
  have hmode : ∀ (i b : Nat) k', rs[i]? = some b → Hc[i]? = some k' → (blkAt S.H b).mode = k'.mode := by
    intro i b k' hb hk
    obtain ⟨d, k2, h1, h2, _⟩ := hrsget i b hb
    rw [h1] at hk; injection hk with hk; subst hk
    unfold blkAt; rw [lget_eq, h2]
  have huniq : ∀ (i j b : Nat), rs[i]? = some b → rs[j]? = some b → i = j := by
    intro i j b hi hj
    have hil : i < rs.length := (List.getElem?_eq_some_iff.1 hi).1
    have hjl : j < rs.length := (List.getElem?_eq_some_iff.1 hj).1
    exact (List.getElem_inj hnd).1 (by rw [(List.getElem?_eq_some_iff.1 hi).2, (List.getElem?_eq_some_iff.1 hj).2])
  -- where a block behind the call comes from
  have from2 : ∀ (b : Nat) k, H2[b]? = some k → (∃ (i : Nat) (k1 : Blk), r.H[i]? = some k1 ∧ k = ⟨k1.data.ren (backOf rs S.H.length), k1.mode⟩ ∧ backOf rs S.H.length i = b ∧ ((rs[i]? = some b ∧ ∃ k', Hc[i]? = some k' ∧ k'.mode = .own) ∨ (rs.length ≤ i ∧ b = S.H.length + (i - rs.length)))) ∨
      (b < S.H.length ∧ S.H[b]? = some k ∧ ∀ (i : Nat) k', rs[i]? = some b → Hc[i]? = some k' → k'.mode ≠ .own) := by
    intro b k hk
    rcases Nat.lt_or_ge b S.H.length with hb | hb
    · by_cases ho : ∃ (i : Nat) (k' : Blk), rs[i]? = some b ∧ Hc[i]? = some k' ∧ k'.mode = .own
      · obtain ⟨i, k', h1, h2, h3⟩ := ho
        left
        have hi : i < r.H.length := by
          have := (List.getElem?_eq_some_iff.1 h1).1; omega
        have := p4 i b _ h1 (List.getElem?_eq_getElem hi) (by rw [hmode i b k' h1 h2]; exact h3)
        rw [this] at hk; injection hk with hk
        refine ⟨i, r.H[i], List.getElem?_eq_getElem hi, hk.symm, ?_, .inl ⟨h1, k', h2, h3⟩⟩
        unfold backOf; rw [lget_eq, h1]
      · right
        have hno : ∀ (i : Nat) (k' : Blk), rs[i]? = some b → Hc[i]? = some k' → k'.mode ≠ .own := fun i k' h1 h2 h3 => ho ⟨i, k', h1, h2, h3⟩
        refine ⟨hb, ?_, hno⟩
        rw [← p3 b hb fun i hi => ?_]
        · exact hk
        · obtain ⟨d, k', h1, h2, _⟩ := hrsget i b hi
          rw [hmode i b k' hi h1]; exact hno i k' hi h1
    · left
      have e : b = S.H.length + (b - S.H.length) := by omega
      rw [e, p5, Option.map_eq_some_iff] at hk
      obtain ⟨k1, h1, h2⟩ := hk
      refine ⟨rs.length + (b - S.H.length), k1, h1, h2.symm, ?_, .inr ⟨by omega, by omega⟩⟩
      unfold backOf
      rw [lget_eq, List.getElem?_eq_none (by omega)]
      simp only; omega
  have noRo : ∀ (b i : Nat) k1, r.H[i]? = some k1 → ((rs[i]? = some b ∧ ∃ k', Hc[i]? = some k' ∧ k'.mode = .own) ∨ (rs.length ≤ i ∧ b = S.H.length + (i - rs.length))) → k1.mode ≠ .ro := by
    intro b i k1 h1 h2 hm
    obtain ⟨k2, h5, h6⟩ := hx i k1 h1 hm
    rcases h2 with ⟨_, k', h3, h4⟩ | ⟨h3, _⟩
    · rw [h3] at h5; injection h5 with h5; subst h5; rw [h6] at h4; cases h4
    · rw [List.getElem?_eq_none (by omega)] at h5; cases h5
  obtain ⟨l1, l2⟩ := lowOf_spec S.H rs S.low
  refine ⟨⟨fun o x hx => o x (List.mem_append_right _ hx), l1, by rw [p2]; omega, fun b hb hl => ?_, fun b k hk hm => ?_, fun b k hk hm => ?_⟩, fun ok β w vs hargsr hH => ?_⟩
  · rw [lget_eq, lget_eq]
    refine p3 b hb fun i hi ho => ?_
    have := l2 b (List.mem_of_getElem? hi) ho
    simp only at hl; omega
  · simp only [lget_eq] at hk ⊢
    rw [p3 b (by rw [← lget_eq] at hk; exact lget_lt hk) fun i hi ho => ?_]
    · exact hk
    · unfold blkAt at ho; rw [lget_eq, hk] at ho; simp only at ho; rw [hm] at ho; cases ho
  · simp only [lget_eq] at hk ⊢
    rcases from2 b k hk with ⟨i, k1, h1, rfl, _, h3⟩ | ⟨_, h2, _⟩
    · exact absurd hm (noRo b i k1 h1 h3)
    · exact h2
  have ok1 : ∀ x ∈ r.cond, x = true := fun x hx => ok x (List.mem_append_left _ hx)
  have hHc : HRel G (inner β rs) Hc w := by
    have hget : ∀ (i : Nat) k', Hc[i]? = some k' → ∃ b d, rs[i]? = some b ∧ S.H[b]? = some ⟨d, k'.mode⟩ ∧ toD rs d = some k'.data := by
      intro i k' hk
      have hi : i < rs.length := by rw [← hcl]; exact (List.getElem?_eq_some_iff.1 hk).1
      obtain ⟨d, h1, h2⟩ := hcg i _ k' (List.getElem?_eq_getElem hi) hk
      exact ⟨_, d, List.getElem?_eq_getElem hi, h1, h2⟩
    refine ⟨fun i k' hk ha => ?_, fun i j k k' L L' hne hk hk' ho ha hL hL' => ?_, fun i L hL => ?_, hH.glob, fun i k L hk ho hL => ?_⟩
    · obtain ⟨b, d, h1, h2, h3⟩ := hget i k' hk
      rw [inner_get h1]
      obtain ⟨d', m'⟩ := k'
      rcases hH.blk b _ h2 ha with ⟨L, hL, hbr⟩ | ⟨g2, g3⟩
      · exact .inl ⟨L, hL, hbr.to h3⟩
      · exact .inr ⟨by rw [(toD_spec (β := β) h3).1]; exact g2, g3⟩
    · obtain ⟨b, d, h1, h2, h3⟩ := hget i k hk
      obtain ⟨b', d', h1', h2', h3'⟩ := hget j k' hk'
      rw [inner_get h1] at hL; rw [inner_get h1'] at hL'
      refine hH.dis b b' _ _ L L' (fun e => hne ?_) h2 h2' ho ha hL hL'
      subst e; exact huniq i j b h1 h1'
    · unfold inner at hL
      split at hL
      · rename_i b hb; rw [hcl]; exact (List.getElem?_eq_some_iff.1 hb).1
      · cases hL
    · obtain ⟨b, d, h1, h2, h3⟩ := hget i k hk
      rw [inner_get h1] at hL
      exact hH.apart b _ L h2 ho hL
  obtain ⟨hfn, hc⟩ := hcalls ok1 (inner β rs) w vs (toL_rel hargsr hargs) hHc
  refine ⟨hfn, hc.mono ?_⟩
  rintro e w' ⟨u, β1, rfl, hu, hH1, hs⟩
  let β' : Map := fun b => if b < S.H.length then β b else β1 (rs.length + (b - S.H.length))
  have hβlt : ∀ b, b < S.H.length → β' b = β b := fun b hb => by simp [β', hb]
  have hβin : ∀ (i b : Nat), rs[i]? = some b → β' b = β1 i := by
    intro i b hi
    rw [hβlt b (hlt b (List.mem_of_getElem? hi)), hs.old i (by rw [hcl]; exact (List.getElem?_eq_some_iff.1 hi).1), inner_get hi]
  have hβnew : ∀ i, rs.length ≤ i → β' (S.H.length + (i - rs.length)) = β1 i := by
    intro i hi
    have h1 : ¬ (S.H.length + (i - rs.length) < S.H.length) := by omega
    have h2 : rs.length + (S.H.length + (i - rs.length) - S.H.length) = i := by omega
    simp only [β', h1, if_false, h2]
  have hf : ∀ i L, β1 i = some L → β' (backOf rs S.H.length i) = some L := by
    intro i L hL
    unfold backOf
    rcases Nat.lt_or_ge i rs.length with hi | hi
    · rw [lget_eq, List.getElem?_eq_getElem hi]
      rw [hβin i _ (List.getElem?_eq_getElem hi)]; exact hL
    · rw [lget_eq, List.getElem?_eq_none hi]
      rw [hβnew i hi]; exact hL
  have hle : Map.le β β' := fun b L hL => by rw [hβlt b (hH.dom b L hL)]; exact hL
  have hloc : ∀ b i, ((rs[i]? = some b ∧ ∃ k', Hc[i]? = some k' ∧ k'.mode = .own) ∨ (rs.length ≤ i ∧ b = S.H.length + (i - rs.length))) → β' b = β1 i := by
    rintro b i (⟨h, _⟩ | ⟨h, rfl⟩)
    · exact hβin i b h
    · exact hβnew i h
  have hnot : ∀ (b : Nat) k L, S.H[b]? = some k → k.mode.alive → β b = some L → (∀ (i : Nat) k', rs[i]? = some b → Hc[i]? = some k' → k'.mode ≠ .own) → ¬ Own (inner β rs) Hc L.c := by
    rintro b k L hk ha hL hno ⟨j, kj, Lj, hj, hoj, hLj, hcj⟩
    have hjl : j < rs.length := by rw [← hcl]; exact (List.getElem?_eq_some_iff.1 hj).1
    obtain ⟨d, k2, g1, g2, _⟩ := hrsget j _ (List.getElem?_eq_getElem hjl)
    rw [hj] at g1; injection g1 with g1; subst g1
    rw [inner_get (List.getElem?_eq_getElem hjl)] at hLj
    by_cases e : rs[j] = b
    · subst e; exact hno j kj (List.getElem?_eq_getElem hjl) hj hoj
    · exact hH.dis rs[j] b _ k Lj L e g2 hk hoj ha hLj hL hcj
  refine ⟨u, β', rfl, renV_rel hf hu, ⟨fun b k hk ha => ?_, ?_, fun b L hL => ?_, hH1.glob, fun b k L hk ho hL => ?_⟩, ⟨hle, by rw [p2]; omega, hs.os, hs.tape, hs.output, hs.size, fun c hc hn => ?_, fun c hc ⟨b, k, L, hk, ho, hL, hLc⟩ => ?_, hβlt⟩⟩
  · rcases from2 b k hk with ⟨i, k1, h1, rfl, _, h3⟩ | ⟨hb, h2, hno⟩
    · obtain ⟨d1, m1⟩ := k1
      have hm : m1 = .own := by
        cases m1 with
        | own => rfl
        | ro => exact absurd rfl (noRo b i _ h1 h3)
        | dead => exact absurd rfl ha
      subst hm
      rw [hloc b i h3]
      rcases hH1.blk i _ h1 (own_alive rfl) with ⟨L, hL, hbr⟩ | ⟨g2, g3⟩
      · exact .inl ⟨L, hL, hbr.ren hf⟩
      · exact .inr ⟨by rw [(ren_spec hf d1).1]; exact g2, g3⟩
    · rw [hβlt b hb]
      rcases hH.blk b k h2 ha with ⟨L, hL, hbr⟩ | h
      · exact .inl ⟨L, hL, hbr.mono hle hs.size (hs.kept _ (hbr.lt ha) (hnot b k L h2 ha hL hno))⟩
      · exact .inr h
  · -- apart from each other
    have cross : ∀ (b b' i : Nat) (k k1 : Blk) (L L' : Loc), b ≠ b' → S.H[b]? = some k → k.mode.alive → β b = some L → (∀ (i : Nat) k', rs[i]? = some b → Hc[i]? = some k' → k'.mode ≠ .own) →
        r.H[i]? = some k1 → k1.mode = .own → β1 i = some L' → L.c ≠ L'.c := by
      intro b b' i k k1 L L' hne hk ha hL hno h1 ho hL' hc
      exact hnot b k L hk ha hL hno (hs.own _ (hH.lt hk ha hL) ⟨i, k1, L', h1, ho, hL', hc.symm⟩)
    intro b b' k k' L L' hne hk hk' ho ha hL hL'
    rcases from2 b k hk with ⟨i, k1, h1, rfl, _, h3⟩ | ⟨hb, h2, hno⟩
    · rw [hloc b i h3] at hL
      rcases from2 b' k' hk' with ⟨i', k1', h1', rfl, _, h3'⟩ | ⟨hb', h2', hno'⟩
      · rw [hloc b' i' h3'] at hL'
        refine hH1.dis i i' k1 k1' L L' (fun e => hne ?_) h1 h1' ho ha hL hL'
        subst e
        rcases h3 with ⟨h3, _⟩ | ⟨h3, e3⟩ <;> rcases h3' with ⟨h3', _⟩ | ⟨h3', e3'⟩
        · rw [h3] at h3'; injection h3'
        · have := (List.getElem?_eq_some_iff.1 h3).1; omega
        · have := (List.getElem?_eq_some_iff.1 h3').1; omega
        · rw [e3, e3']
      · rw [hβlt b' hb'] at hL'
        exact (cross b' b i k' k1 L' L (Ne.symm hne) h2' ha hL' hno' h1 ho hL).symm
    · rw [hβlt b hb] at hL
      rcases from2 b' k' hk' with ⟨i', k1', h1', rfl, _, h3'⟩ | ⟨hb', h2', hno'⟩
      · rw [hloc b' i' h3'] at hL'
        have hm : k1'.mode = .own := by
          cases hm : k1'.mode with
          | own => rfl
          | ro => exact absurd hm (noRo b' i' _ h1' h3')
          | dead => exact absurd hm ha
        exact cross b b' i' k k1' L L' hne h2 (own_alive ho) hL hno h1' hm hL'
      · rw [hβlt b' hb'] at hL'
        exact hH.dis b b' k k' L L' hne h2 h2' ho ha hL hL'
  · rcases Nat.lt_or_ge b S.H.length with hb | hb
    · rw [p2]; omega
    · have h1 : ¬ (b < S.H.length) := by omega
      simp only [β', h1, if_false] at hL
      have := hH1.dom _ L hL
      rw [p2]; omega
  · rcases from2 b k hk with ⟨i, k1, h1, rfl, _, h3⟩ | ⟨hb, h2, hno⟩
    · rw [hloc b i h3] at hL; exact hH1.apart i k1 L h1 ho hL
    · rw [hβlt b hb] at hL; exact hH.apart b k L h2 ho hL
  · refine hs.kept c hc fun ⟨j, kj, Lj, hj, hoj, hLj, hcj⟩ => hn ?_
    have hjl : j < rs.length := by rw [← hcl]; exact (List.getElem?_eq_some_iff.1 hj).1
    obtain ⟨d, k2, g1, g2, _⟩ := hrsget j _ (List.getElem?_eq_getElem hjl)
    rw [hj] at g1; injection g1 with g1; subst g1
    rw [inner_get (List.getElem?_eq_getElem hjl)] at hLj
    exact ⟨rs[j], _, Lj, g2, hoj, hLj, hcj⟩
  · rcases from2 b k hk with ⟨i, k1, h1, rfl, _, h3⟩ | ⟨hb, h2, hno⟩
    · rw [hloc b i h3] at hL
      obtain ⟨j, kj, Lj, hj, hoj, hLj, hcj⟩ := hs.own c hc ⟨i, k1, L, h1, ho, hL, hLc⟩
      have hjl : j < rs.length := by rw [← hcl]; exact (List.getElem?_eq_some_iff.1 hj).1
      obtain ⟨d, k2, g1, g2, _⟩ := hrsget j _ (List.getElem?_eq_getElem hjl)
      rw [hj] at g1; injection g1 with g1; subst g1
      rw [inner_get (List.getElem?_eq_getElem hjl)] at hLj
      exact ⟨rs[j], _, Lj, g2, hoj, hLj, hcj⟩
    · rw [hβlt b hb] at hL; exact ⟨b, k, L, h2, ho, hL, hLc⟩
theorem SpecsOk.of (h : ∀ f sp, C.spec f = some sp → SpecOk C.P G f sp) : SpecsOk C G := fun f sp hsp => callSpec_ok (h f sp hsp)
end
end Go.Eng
/- Heaps and values that say less; heaps of which the end is forgotten. -/
namespace Go.Eng
set_option linter.unusedSectionVars false
variable [RowAddr]
set_option linter.unusedSimpArgs false
set_option linter.unusedVariables false

/-! Names below a bound. -/
def belowR (n : Nat) : Ref → Bool
  | .ptr b _ => Nat.blt b n
  | .sl b _ _ _ => Nat.blt b n
  | .gp _ _ => true
  | .gs _ _ _ => true
  | .sm b _ _ => Nat.blt b n
mutual
def belowV (n : Nat) : AV → Bool
  | .num _ => true
  | .ref r => belowR n r
  | .atom _ => true
  | .agg xs => belowL n xs
  | .obj _ xs => belowL n xs
def belowL (n : Nat) : List AV → Bool
  | [] => true
  | v :: r =>
    match belowV n v with
    | true => belowL n r
    | false => false
end
def belowD (n : Nat) : Data → Bool
  | .gen l => belowL n l
  | .spot _ _ x => belowV n x
  | .kn _ t => belowL n t
  | _ => true
def belowH (n : Nat) : List Blk → Bool
  | [] => true
  | ⟨d, m⟩ :: r =>
    match m with
    | .dead => belowH n r
    | _ =>
      match belowD n d with
      | true => belowH n r
      | false => false
theorem belowL_get {n : Nat} : ∀ {l : List AV}, belowL n l = true → ∀ (i : Nat) x, l[i]? = some x → belowV n x = true
  | [], _, i, x, h => by simp at h
  | v :: r, hl, i, x, h => by
    simp only [belowL] at hl
    split at hl
    · cases i with
      | zero => simp at h; subst h; assumption
      | succ i => exact belowL_get hl i x (by simpa using h)
    · cases hl
theorem belowH_get {n : Nat} : ∀ {l : List Blk}, belowH n l = true → ∀ (i : Nat) k, l[i]? = some k → k.mode.alive → belowD n k.data = true
  | [], _, i, x, h, _ => by simp at h
  | ⟨d, m⟩ :: r, hl, i, x, h, ha => by
    simp only [belowH] at hl
    cases i with
    | zero =>
      simp at h; subst h
      split at hl
      · exact absurd rfl ha
      · split at hl
        · assumption
        · cases hl
    | succ i =>
      have hr : belowH n r = true := by
        split at hl
        · exact hl
        · split at hl
          · exact hl
          · cases hl
      exact belowH_get hr i x (by simpa using h) ha
def cut (β : Map) (n : Nat) : Map := fun b => if b < n then β b else none
section
variable {β β' : Map} {n : Nat} {w w' : World} {G : Nat → Option (List AV)}
theorem cut_lt {b : Nat} (h : b < n) : cut β n b = β b := by simp [cut, h]
theorem VRel.cut {x : AV} {v : Value} (h : VRel β x v) : belowV n x = true → VRel (cut β n) x v := by
  induction h with
  | undef v => intro _; exact .undef v
  | bool b => intro _; exact .bool b
  | str s => intro _; exact .str s
  | nilp => intro _; exact .nilp
  | nils => intro _; exact .nils
  | nili => intro _; exact .nili
  | nilf => intro _; exact .nilf
  | exact v => intro _; exact .exact v
  | num n => intro _; exact .num n
  | ptr b o L hb => intro h; simp only [belowV, belowR, Nat.blt_eq] at h; exact .ptr b o L (by rw [cut_lt h]; exact hb)
  | gp g o => intro _; exact .gp g o
  | gs g o l cp h => intro _; exact .gs g o l cp h
  | sm b l s a cp h1 h3 =>
    intro h
    simp only [belowV, belowR, Nat.blt_eq] at h
    refine .sm b l s a cp h1 ?_
    rcases h3 with h3 | ⟨L, hL, h3⟩
    · exact .inl h3
    · exact .inr ⟨L, by rw [cut_lt h]; exact hL, h3⟩
  | sl b o l cap a cp h1 h2 h3 =>
    intro h
    simp only [belowV, belowR, Nat.blt_eq] at h
    refine .sl b o l cap a cp h1 h2 ?_
    rcases h3 with h3 | ⟨L, hL, h3⟩
    · exact .inl h3
    · exact .inr ⟨L, by rw [cut_lt h]; exact hL, h3⟩
  | agg xs vs hl h ih => intro hb; simp only [belowV] at hb; exact .agg xs vs hl fun i x v hx hv => ih i x v hx hv (belowL_get hb i x hx)
  | tup xs vs hl h ih => intro hb; simp only [belowV] at hb; exact .tup xs vs hl fun i x v hx hv => ih i x v hx hv (belowL_get hb i x hx)
  | ifc t x v h ih => intro hb; simp only [belowV] at hb; exact .ifc t x v (ih (belowL_get hb 0 x rfl))
  | fn f m xs first captured hn hl h ih => intro hb; simp only [belowV] at hb; exact .fn f m xs first captured hn hl fun i x v hx hv => ih i x v hx hv (belowL_get hb i x hx)
theorem LRel.cutD {d : Data} {vs : List Value} (h : LRel β d.list vs) (hb : belowD n d = true) : LRel (cut β n) d.list vs := by
  refine ⟨h.1, fun i x v hx hv => (h.2 i x v hx hv).cut ?_⟩
  cases d with
  | gen l => exact belowL_get hb i x hx
  | b8 l => simp only [Data.list, List.getElem?_map, Option.map_eq_some_iff] at hx; obtain ⟨z, _, rfl⟩ := hx; rfl
  | b32 l => simp only [Data.list, List.getElem?_map, Option.map_eq_some_iff] at hx; obtain ⟨z, _, rfl⟩ := hx; rfl
  | b64 l => simp only [Data.list, List.getElem?_map, Option.map_eq_some_iff] at hx; obtain ⟨z, _, rfl⟩ := hx; rfl
  | spot n K y => rcases spot_get hx with rfl | ⟨rfl, rfl⟩ <;> first | rfl | exact hb
  | kn l t => rcases pre_get hx with ⟨v, rfl⟩ | ⟨j, hj⟩ <;> first | rfl | exact belowL_get hb _ x hj
theorem BRel.cut {k : Blk} {L : Loc} (h : BRel β k L w) (hb : k.mode.alive → belowD n k.data = true) : BRel (cut β n) k L w := by
  obtain ⟨d, m⟩ := k
  cases m with
  | dead => trivial
  | ro =>
    obtain ⟨g1, g2, g3⟩ := h
    refine ⟨g1, g2, fun i x hx => ?_⟩
    obtain ⟨v, hv, hr⟩ := g3 i x hx
    refine ⟨v, hv, hr.cut ?_⟩
    have hb := hb (by intro h; cases h)
    cases d with
    | gen l => exact belowL_get hb i x hx
    | b8 l => simp only [Data.at, Option.map_eq_some_iff] at hx; obtain ⟨z, _, rfl⟩ := hx; rfl
    | b32 l => simp only [Data.at, Option.map_eq_some_iff] at hx; obtain ⟨z, _, rfl⟩ := hx; rfl
    | b64 l => simp only [Data.at, Option.map_eq_some_iff] at hx; obtain ⟨z, _, rfl⟩ := hx; rfl
    | spot n K y => rcases spot_get hx with rfl | ⟨rfl, rfl⟩ <;> first | rfl | exact hb
    | kn l t => rcases pre_get hx with ⟨v, rfl⟩ | ⟨j, hj⟩ <;> first | rfl | exact belowL_get hb _ x hj
  | own =>
    obtain ⟨g1, vs, t, fz, g2, gf, g3, g4, g5⟩ := h
    exact ⟨g1, vs, t, fz, g2, gf, g3, g4, g5.cutD (hb (by intro h; cases h))⟩
theorem HRel.cut {H : List Blk} (h : HRel G β H w) (hb : belowH n (H.take n) = true) (hn : n ≤ H.length) : HRel G (cut β n) (H.take n) w := by
  have hget : ∀ (b : Nat) k, (H.take n)[b]? = some k → b < n ∧ H[b]? = some k := by
    intro b k hk
    rw [List.getElem?_take] at hk
    split at hk
    · exact ⟨by assumption, hk⟩
    · cases hk
  refine ⟨fun b k hk ha => ?_, fun b b' k k' L L' hne hk hk' ho ha hL hL' => ?_, fun b L hL => ?_, h.glob, fun b k L hk ho hL => ?_⟩
  · obtain ⟨h1, h2⟩ := hget b k hk
    rw [cut_lt h1]
    rcases h.blk b k h2 ha with ⟨L, hL, hbr⟩ | h3
    · exact .inl ⟨L, hL, hbr.cut fun ha => belowH_get hb b k hk ha⟩
    · exact .inr h3
  · obtain ⟨h1, h2⟩ := hget b k hk
    obtain ⟨h1', h2'⟩ := hget b' k' hk'
    rw [cut_lt h1] at hL; rw [cut_lt h1'] at hL'
    exact h.dis b b' k k' L L' hne h2 h2' ho ha hL hL'
  · unfold Eng.cut at hL
    split at hL
    · rw [List.length_take]; omega
    · cases hL
  · obtain ⟨h1, h2⟩ := hget b k hk
    rw [cut_lt h1] at hL
    exact h.apart b k L h2 ho hL
theorem Stp.cut {H0 H : List Blk} {β0 : Map} {w0 : World} (h : Stp β0 H0 w0 β H w) (hd : ∀ b L, β0 b = some L → b < H0.length) (hn : H0.length ≤ n) (hn2 : n ≤ H.length) : Stp β0 H0 w0 (Eng.cut β n) (H.take n) w := by
  refine ⟨fun b L hL => by rw [cut_lt (Nat.lt_of_lt_of_le (hd b L hL) hn)]; exact h.le b L hL, by rw [List.length_take]; omega, h.os, h.tape, h.output, h.size, h.kept, fun c hc ⟨b, k, L, hk, ho, hL, hLc⟩ => ?_, fun b hb => by rw [cut_lt (by omega)]; exact h.old b hb⟩
  rw [List.getElem?_take] at hk
  split at hk
  · rename_i hb
    rw [cut_lt hb] at hL
    exact h.own c hc ⟨b, k, L, hk, ho, hL, hLc⟩
  · cases hk
end
end Go.Eng
/- Contracts shown on heaps that say less. -/
namespace Go.Eng
set_option linter.unusedSectionVars false
variable [RowAddr]
set_option linter.unusedSimpArgs false
set_option linter.unusedVariables false

def LessL (xs xs' : List AV) : Prop := ∀ β vs, LRel β xs vs → LRel β xs' vs
def LessD (d d' : Data) : Prop := d'.len = d.len ∧ ∀ β vs, LRel β d.list vs → LRel β d'.list vs
structure LessH (H H' : List Blk) : Prop where
  len : H'.length = H.length
  blk : ∀ (i : Nat) k k', H[i]? = some k → H'[i]? = some k' → k'.mode = k.mode ∧ LessD k.data k'.data
theorem LessL.refl (xs : List AV) : LessL xs xs := fun _ _ h => h
theorem LessL.nil : LessL [] [] := LessL.refl []
theorem LessL.cons {x x' : AV} {xs xs' : List AV} (h : ∀ β v, VRel β x v → VRel β x' v) (k : LessL xs xs') : LessL (x :: xs) (x' :: xs') := by
  intro β vs hv
  obtain ⟨v, vs', rfl, h1, h2⟩ := hv.cons_inv
  exact LRel.cons (h β v h1) (k β vs' h2)
theorem LessD.refl (d : Data) : LessD d d := ⟨rfl, fun _ _ h => h⟩
theorem LessH.nil : LessH [] [] := ⟨rfl, fun i k k' h => by simp at h⟩
theorem LessH.cons {d d' : Data} {m : Mode} {H H' : List Blk} (h : LessD d d') (k : LessH H H') : LessH (⟨d, m⟩ :: H) (⟨d', m⟩ :: H') := by
  refine ⟨by simp [k.len], fun i x x' hx hx' => ?_⟩
  cases i with
  | zero => simp at hx hx'; subst hx hx'; exact ⟨rfl, h⟩
  | succ i => exact k.blk i x x' (by simpa using hx) (by simpa using hx')
theorem LessH.refl (H : List Blk) : LessH H H := ⟨rfl, fun i k k' h h' => by rw [h] at h'; injection h' with h'; subst h'; exact ⟨rfl, LessD.refl _⟩⟩
theorem less32 {d : Data} {l : Vec 32} (h : d.as32 = some l) : LessD d (.b32 l) := ⟨as32_len h, fun β vs hv => as32_rel h hv⟩
theorem less8 {d : Data} {l : Vec 8} (h : d.as8 = some l) : LessD d (.b8 l) := ⟨as8_len h, fun β vs hv => as8_rel h hv⟩
theorem less64 {d : Data} {l : Vec 64} (h : d.as64 = some l) : LessD d (.b64 l) := ⟨as64_len h, fun β vs hv => as64_rel h hv⟩
theorem less_ptr (b : Nat) (o o' : N) (h : o'.v = o.v) : ∀ β v, VRel β (.ref (.ptr b o)) v → VRel β (.ref (.ptr b o')) v := by
  intro β v hv
  obtain ⟨L, hL, rfl⟩ := hv.ptr_inv
  rw [← h]; exact .ptr b o' L hL
theorem less_sl (b : Nat) (o o' l l' : N) (cap cap' : Option N) (h1 : o'.v = o.v) (h2 : l'.v = l.v) (h3 : ∀ c', cap' = some c' → ∃ c, cap = some c ∧ c'.v = c.v) : ∀ β v, VRel β (.ref (.sl b o l cap)) v → VRel β (.ref (.sl b o' l' cap')) v := by
  intro β v hv
  obtain ⟨a, cp, rfl, g1, g2, g3⟩ := hv.sl_inv
  rw [← h2] at g1 ⊢
  refine .sl b o' l' cap' a cp g1 (fun c' hc' => ?_) (by rw [h1]; exact g3)
  obtain ⟨c, hc, e⟩ := h3 c' hc'
  rw [e]; exact g2 c hc
theorem less_w32 {x : AV} {y : BitVec 32} (h : x.bv32 = some y) : ∀ β v, VRel β x v → VRel β (.w32 y) v := by
  intro β v hv
  cases x <;> simp only [AV.bv32, reduceCtorEq] at h
  rw [hv.num_inv, Num.bv32_spec h]; exact .num (.w32 y)
theorem less_int (k : IntKind) (z z' : Z) (h : z'.v = z.v) : ∀ β v, VRel β (.num (.int k z)) v → VRel β (.num (.int k z')) v := by
  intro β v hv
  have e : (Num.int k z).val = (Num.int k z').val := by
    show Value.int k z.v = Value.int k z'.v
    rw [h]
  rw [hv.num_inv, e]; exact .num _
section
variable {G : Nat → Option (List AV)} {β : Map} {w : World} {H H' : List Blk}
theorem ROk.less {d d' : Data} {L : Loc} (h : ROk β d L w) (hd : LessD d d') : ROk β d' L w := by
  obtain ⟨g1, g2, g3⟩ := h
  refine ⟨g1, by rw [hd.1]; exact g2, ?_⟩
  -- the cells that are read, as a list
  have hv : ∃ vs : List Value, LRel β d.list vs ∧ ∀ (i : Nat) v, vs[i]? = some v → w.cell? (at' L.c (L.base + i)) = some v := by
    refine ⟨(List.range d.len).map fun i => (w.cell? (at' L.c (L.base + i))).getD undef, ⟨by simp [Data.list_len], fun i x v hx hv => ?_⟩, fun i v hv => ?_⟩
    · rw [Data.list_at] at hx
      obtain ⟨u, hu, hr⟩ := g3 i x hx
      have hi : i < d.len := by
        rw [← Data.list_len]
        rw [← Data.list_at] at hx
        rcases Nat.lt_or_ge i d.list.length with h | h
        · exact h
        · rw [List.getElem?_eq_none h] at hx; cases hx
      simp [hi, hu] at hv; subst hv; exact hr
    · rcases Nat.lt_or_ge i d.len with hi | hi
      · have hx : ∃ x, d.at i = some x := by
          rw [← Data.list_at]
          exact ⟨d.list[i]'(by rw [Data.list_len]; exact hi), List.getElem?_eq_getElem _⟩
        obtain ⟨x, hx⟩ := hx
        obtain ⟨u, hu, hr⟩ := g3 i x hx
        simp [hi, hu] at hv; subst hv; exact hu
      · simp [show ¬ i < d.len by omega] at hv
  obtain ⟨vs, h1, h2⟩ := hv
  intro i x hx
  have := (hd.2 β vs h1)
  rw [← Data.list_at] at hx
  obtain ⟨v, hv, hr⟩ := this.get hx
  exact ⟨v, h2 i v hv, hr⟩
theorem BRel.less {k k' : Blk} {L : Loc} (h : BRel β k L w) (hm : k'.mode = k.mode) (hd : LessD k.data k'.data) : BRel β k' L w := by
  obtain ⟨d, m⟩ := k
  obtain ⟨d', m'⟩ := k'
  simp only at hm hd
  subst hm
  cases m' with
  | dead => trivial
  | ro => exact ROk.less h hd
  | own =>
    obtain ⟨g1, vs, t, fz, g2, gf, g3, g4, g5⟩ := h
    exact ⟨g1, vs, t, fz, g2, gf, g3, by rw [hd.1]; exact g4, by rw [hd.1]; exact hd.2 β _ g5⟩
theorem LessH.get (hl : LessH H H') {i : Nat} {k' : Blk} (h : H'[i]? = some k') : ∃ k, H[i]? = some k ∧ k'.mode = k.mode ∧ LessD k.data k'.data := by
  have hi : i < H.length := by
    rw [← hl.len]
    rcases Nat.lt_or_ge i H'.length with h' | h'
    · exact h'
    · rw [List.getElem?_eq_none h'] at h; cases h
  exact ⟨H[i], List.getElem?_eq_getElem hi, hl.blk i _ k' (List.getElem?_eq_getElem hi) h⟩
theorem LessH.get' (hl : LessH H H') {i : Nat} {k : Blk} (h : H[i]? = some k) : ∃ k', H'[i]? = some k' ∧ k'.mode = k.mode ∧ LessD k.data k'.data := by
  have hi : i < H'.length := by
    rw [hl.len]
    rcases Nat.lt_or_ge i H.length with h' | h'
    · exact h'
    · rw [List.getElem?_eq_none h'] at h; cases h
  exact ⟨H'[i], List.getElem?_eq_getElem hi, hl.blk i k _ h (List.getElem?_eq_getElem hi)⟩
theorem HRel.less (h : HRel G β H w) (hl : LessH H H') : HRel G β H' w := by
  refine ⟨fun b k' hk ha => ?_, fun b b' k1 k2 L L' hne hk hk' ho ha hL hL' => ?_, fun b L hL => by rw [hl.len]; exact h.dom b L hL, h.glob, fun b k' L hk ho hL => ?_⟩
  · obtain ⟨k, h1, h2, h3⟩ := hl.get hk
    rcases h.blk b k h1 (by rw [← h2]; exact ha) with ⟨L, hL, hbr⟩ | ⟨g2, g3⟩
    · exact .inl ⟨L, hL, hbr.less h2 h3⟩
    · exact .inr ⟨h3.1.trans g2, g3⟩
  · obtain ⟨k, h1, h2, h3⟩ := hl.get hk
    obtain ⟨k', h1', h2', h3'⟩ := hl.get hk'
    exact h.dis b b' k k' L L' hne h1 h1' (h2 ▸ ho) (by rw [← h2']; exact ha) hL hL'
  · obtain ⟨k, h1, h2, h3⟩ := hl.get hk
    exact h.apart b k L h1 (h2 ▸ ho) hL
theorem own_less (hl : LessH H H') (c : Nat) : Own β H' c ↔ Own β H c := by
  constructor
  · rintro ⟨b, k', L, hk, ho, hL, hc⟩
    obtain ⟨k, h1, h2, h3⟩ := hl.get hk
    exact ⟨b, k, L, h1, h2 ▸ ho, hL, hc⟩
  · rintro ⟨b, k, L, hk, ho, hL, hc⟩
    obtain ⟨k', h1, h2, h3⟩ := hl.get' hk
    exact ⟨b, k', L, h1, h2.trans ho, hL, hc⟩
theorem Stp.less {β' : Map} {H2 : List Blk} {w' : World} (h : Stp β H' w β' H2 w') (hl : LessH H H') : Stp β H w β' H2 w' :=
  ⟨h.le, by rw [← hl.len]; exact h.len, h.os, h.tape, h.output, h.size, fun c hc hn => h.kept c hc (fun ho => hn ((own_less hl c).1 ho)), fun c hc ho => (own_less hl c).1 (h.own c hc ho), fun b hb => h.old b (by rw [hl.len]; exact hb)⟩
end
end Go.Eng
/- States turned to states that say less: the head of a loop, the end of a contract. -/
namespace Go.Eng
set_option linter.unusedSectionVars false
variable [RowAddr]
set_option linter.unusedSimpArgs false
set_option linter.unusedVariables false

/-! By a pattern. -/
def cN (p x : N) : N :=
  match p with
  | .c _ => x
  | .s _ => .s x.v
def cO (p x : Option N) : Option N :=
  match p with
  | none => none
  | some p =>
    match x with
    | some x => some (cN p x)
    | none => none
def cAtom (p : Atom) (x : AV) : Option AV :=
  match p with
  | .undef => some .undef
  | .bool b =>
    match b with
    | .c _ => some x
    | .s _ =>
      match x with
      | .atom (.bool b) => some (.bool (.s b.v))
      | _ => none
  | _ => some x
def cNum (p : Num) (x : AV) : Option AV :=
  match p with
  | .int _ z =>
    match z with
    | .c _ => some x
    | .s _ =>
      match x with
      | .num (.int k z) => some (.int k (.s z.v))
      | _ => none
  | .w8 _ => x.bv8.map fun x => .w8 x
  | .w16 _ => x.bv16.map fun x => .w16 x
  | .w32 _ => x.bv32.map fun x => .w32 x
  | .w64 _ => x.bv64.map fun x => .w64 x
def cRef (p : Ref) (x : AV) : Option AV :=
  match p with
  | .ptr _ po =>
    match x with
    | .ref (.ptr b o) => some (.ptr b (cN po o))
    | _ => none
  | .gp .. => some x
  | .gs .. => some x
  | .sm pb pl ps =>
    match x with
    | .ref (.sm b l s) => some (.sm b (cN pl l) s)
    | .atom .nils => some (.sm pb (cN pl (.c 0)) ps)
    | _ => none
  | .sl pb po pl pc =>
    match x with
    | .ref (.sl b o l c) => some (.sl b (cN po o) (cN pl l) (cO pc c))
    | .atom .nils => some (.sl pb (cN po (.c 0)) (cN pl (.c 0)) none)
    | _ => none
mutual
def cV : AV → AV → Option AV
  | .atom p, x => cAtom p x
  | .num p, x => cNum p x
  | .ref p, x => cRef p x
  | .agg ps, x =>
    match x with
    | .agg xs =>
      match cL ps xs with
      | some xs => some (.agg xs)
      | none => none
    | _ => none
  | .obj t ps, x =>
    match t with
    | .tup =>
      match x with
      | .obj .tup xs =>
        match cL ps xs with
        | some xs => some (.obj .tup xs)
        | none => none
      | _ => none
    | _ => some x
def cL : List AV → List AV → Option (List AV)
  | [], xs =>
    match xs with
    | [] => some []
    | _ => none
  | p :: ps, xs =>
    match xs with
    | [] => none
    | x :: xs =>
      match cV p x with
      | none => none
      | some y =>
        match cL ps xs with
        | none => none
        | some ys => some (y :: ys)
end
def cD (p d : Data) : Option Data :=
  match p with
  | .b8 _ => d.as8.map fun l => .b8 l
  | .b32 _ => d.as32.map fun l => .b32 l
  | .b64 _ => d.as64.map fun l => .b64 l
  | .gen ps =>
    match d with
    | .gen xs => (cL ps xs).map fun l => .gen l
    | _ => none
  | .spot .. => none
  | .kn _ pt =>
    match d with
    | .kn l t => (cL pt t).map fun t => .kn l t
    | _ => none
def modeEq (a b : Mode) : Bool :=
  match a with
  | .ro =>
    match b with
    | .ro => true
    | _ => false
  | .own =>
    match b with
    | .own => true
    | _ => false
  | .dead =>
    match b with
    | .dead => true
    | _ => false
def cB (p k : Blk) : Option Blk :=
  match p.mode with
  | .dead => some ⟨.gen [], .dead⟩
  | .ro =>
    match k.mode with
    | .dead => none
    | _ =>
      match cD p.data k.data with
      | some d => some ⟨d, .ro⟩
      | none => none
  | .own =>
    match k.mode with
    | .own =>
      match cD p.data k.data with
      | some d => some ⟨d, .own⟩
      | none => none
    | _ => none
def cH : List Blk → List Blk → Option (List Blk)
  | [], ks =>
    match ks with
    | [] => some []
    | _ => none
  | p :: ps, ks =>
    match ks with
    | [] => none
    | k :: ks =>
      match cB p k with
      | none => none
      | some k =>
        match cH ps ks with
        | none => none
        | some ks => some (k :: ks)
def wkV (rs : Option (List Nat)) (p x : AV) : Option AV :=
  match p with
  | .atom .undef => some .undef
  | p =>
    match rs with
    | none => cV p x
    | some rs =>
      match toV rs x with
      | some x => cV p x
      | none => none
def wkL (rs : Option (List Nat)) : List AV → List AV → Option (List AV)
  | [], xs =>
    match xs with
    | [] => some []
    | _ => none
  | p :: ps, xs =>
    match xs with
    | [] => none
    | x :: xs =>
      match wkV rs p x with
      | none => none
      | some y =>
        match wkL rs ps xs with
        | none => none
        | some ys => some (y :: ys)
def wkT (rs : Option (List Nat)) (ts : List (Nat × AV)) : List (Nat × AV) → Option (List (Nat × AV))
  | [] => some []
  | (t, p) :: ps =>
    match wkV rs p (assoc t ts) with
    | none => none
    | some y =>
      match wkT rs ts ps with
      | none => none
      | some ys => some ((t, y) :: ys)
def wkF (rs : Option (List Nat)) (p F : Fr) : Option Fr :=
  match wkL rs p.vars F.vars with
  | none => none
  | some vs =>
    match wkT rs F.tmps p.tmps with
    | none => none
    | some ts => some ⟨vs, ts⟩
def fixB : Nat → Nat → List Nat → Bool
  | 0, _, _ => true
  | n + 1, i, rs =>
    match rs with
    | [] => false
    | x :: rs =>
      match Nat.beq x i with
      | true => fixB n (i + 1) rs
      | false => false
def wkH (n0 : Nat) (gh : List Blk) (rs : Option (List Nat)) (ps H : List Blk) : Option (List Blk) :=
  match rs with
  | none => cH ps (H ++ gh)
  | some rs =>
    match nodupB rs && fixB n0 0 rs with
    | false => none
    | true =>
      match seenBy (H ++ gh) rs rs with
      | some H => cH ps H
      | none => none

/-! It is sound. -/
theorem cN_v (p x : N) : (cN p x).v = x.v := by cases p <;> rfl
section
variable {β : Map}
theorem cAtom_ok {p : Atom} {x y : AV} {v : Value} (h : cAtom p x = some y) (hx : VRel β x v) : VRel β y v := by
  unfold cAtom at h
  split at h
  · injection h with h; subst h; exact .undef _
  · split at h
    · injection h with h; subst h; exact hx
    · split at h
      · rename_i b
        injection h with h; subst h
        rw [hx.bool_inv]; exact .bool (.s b.v)
      · cases h
  · injection h with h; subst h; exact hx
theorem cNum_ok {p : Num} {x y : AV} {v : Value} (h : cNum p x = some y) (hx : VRel β x v) : VRel β y v := by
  unfold cNum at h
  split at h
  · split at h
    · injection h with h; subst h; exact hx
    · split at h
      · rename_i k z
        injection h with h; subst h
        rw [hx.num_inv]; exact .num (.int k (.s z.v))
      · cases h
  · cases x with
    | num n =>
      simp only [AV.bv8, Option.map_eq_some_iff] at h
      obtain ⟨z, h1, rfl⟩ := h
      rw [hx.num_inv, Num.bv8_spec h1]; exact .num (.w8 z)
    | _ => simp [AV.bv8] at h
  · cases x with
    | num n =>
      simp only [AV.bv16, Option.map_eq_some_iff] at h
      obtain ⟨z, h1, rfl⟩ := h
      rw [hx.num_inv, Num.bv16_spec h1]; exact .num (.w16 z)
    | _ => simp [AV.bv16] at h
  · cases x with
    | num n =>
      simp only [AV.bv32, Option.map_eq_some_iff] at h
      obtain ⟨z, h1, rfl⟩ := h
      rw [hx.num_inv, Num.bv32_spec h1]; exact .num (.w32 z)
    | _ => simp [AV.bv32] at h
  · cases x with
    | num n =>
      simp only [AV.bv64, Option.map_eq_some_iff] at h
      obtain ⟨z, h1, rfl⟩ := h
      rw [hx.num_inv, Num.bv64_spec h1]; exact .num (.w64 z)
    | _ => simp [AV.bv64] at h
theorem cRef_ok {p : Ref} {x y : AV} {v : Value} (h : cRef p x = some y) (hx : VRel β x v) : VRel β y v := by
  unfold cRef at h
  split at h
  · split at h
    · rename_i b o
      injection h with h; subst h
      obtain ⟨L, hL, rfl⟩ := hx.ptr_inv
      rw [← cN_v]; exact .ptr b _ L hL
    · cases h
  · injection h with h; subst h; exact hx
  · injection h with h; subst h; exact hx
  · split at h
    · rename_i pb pl ps _ b l s
      injection h with h; subst h
      obtain ⟨a, cp, rfl, g1, g3⟩ := hx.sm_inv
      rw [← cN_v pl l]
      exact .sm b _ s a cp (by rw [cN_v]; exact g1) g3
    · rename_i pb pl ps _
      injection h with h; subst h
      cases hx
      have e : (cN pl (.c 0)).v = 0 := cN_v _ _
      have := VRel.sm (β := β) pb (cN pl (.c 0)) ps none 0 (by omega) (.inl rfl)
      rw [e] at this; exact this
    · cases h
  · split at h
    · rename_i pb po pl pc _ b o l c
      injection h with h; subst h
      obtain ⟨a, cp, rfl, g1, g2, g3⟩ := hx.sl_inv
      rw [← cN_v pl l]
      refine .sl b _ _ _ a cp (by rw [cN_v]; exact g1) (fun C hC => ?_) (by rw [cN_v]; exact g3)
      unfold cO at hC
      split at hC
      · cases hC
      · split at hC
        · injection hC with hC; subst hC; rw [cN_v]; exact g2 _ rfl
        · cases hC
    · rename_i pb po pl pc _
      injection h with h; subst h
      cases hx
      have e : (cN pl (.c 0)).v = 0 := cN_v _ _
      have := VRel.sl (β := β) pb (cN po (.c 0)) (cN pl (.c 0)) none none 0 (by omega) (fun C hC => by cases hC) (.inl rfl)
      rw [e] at this; exact this
    · cases h
theorem cL_get {ps xs ys : List AV} (h : cL ps xs = some ys) : ys.length = xs.length ∧ ∀ (i : Nat) x y, xs[i]? = some x → ys[i]? = some y → ∃ p, cV p x = some y := by
  induction ps generalizing xs ys with
  | nil =>
    simp only [cL] at h
    split at h
    · injection h with h; subst h; exact ⟨rfl, fun i x y hx => by simp at hx⟩
    · cases h
  | cons p ps ih =>
    cases xs with
    | nil => simp [cL] at h
    | cons x xs =>
      simp only [cL] at h
      split at h
      · cases h
      · rename_i y hy
        split at h
        · cases h
        · rename_i ys' hys
          injection h with h; subst h
          obtain ⟨h1, h2⟩ := ih hys
          refine ⟨by simp [h1], fun i a b ha hb => ?_⟩
          cases i with
          | zero => simp at ha hb; subst ha hb; exact ⟨p, hy⟩
          | succ i => exact h2 i a b (by simpa using ha) (by simpa using hb)
theorem cV_ok {x : AV} {v : Value} (hx : VRel β x v) : ∀ {p y : AV}, cV p x = some y → VRel β y v := by
  induction hx with
  | agg xs vs hl h ih =>
    intro p y hy
    cases p with
    | atom p => exact cAtom_ok hy (.agg xs vs hl h)
    | num p => exact cNum_ok hy (.agg xs vs hl h)
    | ref p => exact cRef_ok (by simpa only [cV] using hy) (.agg xs vs hl h)
    | agg ps =>
      simp only [cV] at hy
      split at hy
      · rename_i ys hys
        injection hy with hy; subst hy
        obtain ⟨h1, h2⟩ := cL_get hys
        refine .agg ys vs (h1.trans hl) fun i a b ha hb => ?_
        have hi : i < xs.length := by
          rcases Nat.lt_or_ge i xs.length with h | h
          · exact h
          · rw [List.getElem?_eq_none (by omega)] at ha; cases ha
        obtain ⟨q, hq⟩ := h2 i _ a (List.getElem?_eq_getElem hi) ha
        exact ih i _ b (List.getElem?_eq_getElem hi) hb hq
      · cases hy
    | obj t ps =>
      simp only [cV] at hy
      split at hy
      · cases hy
      · injection hy with hy; subst hy; exact .agg xs vs hl h
  | tup xs vs hl h ih =>
    intro p y hy
    cases p with
    | atom p => exact cAtom_ok hy (.tup xs vs hl h)
    | num p => exact cNum_ok hy (.tup xs vs hl h)
    | ref p => exact cRef_ok (by simpa only [cV] using hy) (.tup xs vs hl h)
    | agg ps => simp [cV] at hy
    | obj t ps =>
      simp only [cV] at hy
      split at hy
      · split at hy
        · rename_i ys hys
          injection hy with hy; subst hy
          obtain ⟨h1, h2⟩ := cL_get hys
          refine .tup ys vs (h1.trans hl) fun i a b ha hb => ?_
          have hi : i < xs.length := by
            rcases Nat.lt_or_ge i xs.length with h | h
            · exact h
            · rw [List.getElem?_eq_none (by omega)] at ha; cases ha
          obtain ⟨q, hq⟩ := h2 i _ a (List.getElem?_eq_getElem hi) ha
          exact ih i _ b (List.getElem?_eq_getElem hi) hb hq
        · cases hy
      · injection hy with hy; subst hy; exact .tup xs vs hl h
  | ifc t x v h ih =>
    intro p y hy
    have hx := VRel.ifc t x v h
    cases p with
    | atom p => exact cAtom_ok hy hx
    | num p => exact cNum_ok hy hx
    | ref p => exact cRef_ok (by simpa only [cV] using hy) hx
    | agg ps => simp [cV] at hy
    | obj t ps =>
      simp only [cV] at hy
      split at hy
      · cases hy
      · injection hy with hy; subst hy; exact hx
  | fn f n xs first captured hn hl h ih =>
    intro p y hy
    have hx := VRel.fn f n xs first captured hn hl h
    cases p with
    | atom p => exact cAtom_ok hy hx
    | num p => exact cNum_ok hy hx
    | ref p => exact cRef_ok (by simpa only [cV] using hy) hx
    | agg ps => simp [cV] at hy
    | obj t ps =>
      simp only [cV] at hy
      split at hy
      · cases hy
      · injection hy with hy; subst hy; exact hx
  | undef v =>
    intro p y hy
    have hx := VRel.undef (β := β) v
    cases p with
    | atom p => exact cAtom_ok hy hx
    | num p => exact cNum_ok hy hx
    | ref p => exact cRef_ok (by simpa only [cV] using hy) hx
    | agg ps => simp [cV] at hy
    | obj t ps =>
      simp only [cV] at hy
      split at hy
      · cases hy
      · injection hy with hy; subst hy; exact hx
  | bool b =>
    intro p y hy
    have hx := VRel.bool (β := β) b
    cases p with
    | atom p => exact cAtom_ok hy hx
    | num p => exact cNum_ok hy hx
    | ref p => exact cRef_ok (by simpa only [cV] using hy) hx
    | agg ps => simp [cV] at hy
    | obj t ps =>
      simp only [cV] at hy
      split at hy
      · cases hy
      · injection hy with hy; subst hy; exact hx
  | str s =>
    intro p y hy
    have hx := VRel.str (β := β) s
    cases p with
    | atom p => exact cAtom_ok hy hx
    | num p => exact cNum_ok hy hx
    | ref p => exact cRef_ok (by simpa only [cV] using hy) hx
    | agg ps => simp [cV] at hy
    | obj t ps =>
      simp only [cV] at hy
      split at hy
      · cases hy
      · injection hy with hy; subst hy; exact hx
  | nilp =>
    intro p y hy
    have hx := VRel.nilp (β := β)
    cases p with
    | atom p => exact cAtom_ok hy hx
    | num p => exact cNum_ok hy hx
    | ref p => exact cRef_ok (by simpa only [cV] using hy) hx
    | agg ps => simp [cV] at hy
    | obj t ps =>
      simp only [cV] at hy
      split at hy
      · cases hy
      · injection hy with hy; subst hy; exact hx
  | nils =>
    intro p y hy
    have hx := VRel.nils (β := β)
    cases p with
    | atom p => exact cAtom_ok hy hx
    | num p => exact cNum_ok hy hx
    | ref p => exact cRef_ok (by simpa only [cV] using hy) hx
    | agg ps => simp [cV] at hy
    | obj t ps =>
      simp only [cV] at hy
      split at hy
      · cases hy
      · injection hy with hy; subst hy; exact hx
  | nili =>
    intro p y hy
    have hx := VRel.nili (β := β)
    cases p with
    | atom p => exact cAtom_ok hy hx
    | num p => exact cNum_ok hy hx
    | ref p => exact cRef_ok (by simpa only [cV] using hy) hx
    | agg ps => simp [cV] at hy
    | obj t ps =>
      simp only [cV] at hy
      split at hy
      · cases hy
      · injection hy with hy; subst hy; exact hx
  | nilf =>
    intro p y hy
    have hx := VRel.nilf (β := β)
    cases p with
    | atom p => exact cAtom_ok hy hx
    | num p => exact cNum_ok hy hx
    | ref p => exact cRef_ok (by simpa only [cV] using hy) hx
    | agg ps => simp [cV] at hy
    | obj t ps =>
      simp only [cV] at hy
      split at hy
      · cases hy
      · injection hy with hy; subst hy; exact hx
  | exact u =>
    intro p y hy
    have hx := VRel.exact (β := β) u
    cases p with
    | atom p => exact cAtom_ok hy hx
    | num p => exact cNum_ok hy hx
    | ref p => exact cRef_ok (by simpa only [cV] using hy) hx
    | agg ps => simp [cV] at hy
    | obj t ps =>
      simp only [cV] at hy
      split at hy
      · cases hy
      · injection hy with hy; subst hy; exact hx
  | num n =>
    intro p y hy
    have hx := VRel.num (β := β) n
    cases p with
    | atom p => exact cAtom_ok hy hx
    | num p => exact cNum_ok hy hx
    | ref p => exact cRef_ok (by simpa only [cV] using hy) hx
    | agg ps => simp [cV] at hy
    | obj t ps =>
      simp only [cV] at hy
      split at hy
      · cases hy
      · injection hy with hy; subst hy; exact hx
  | ptr b o L hL =>
    intro p y hy
    have hx := VRel.ptr b o L hL
    cases p with
    | atom p => exact cAtom_ok hy hx
    | num p => exact cNum_ok hy hx
    | ref p => exact cRef_ok (by simpa only [cV] using hy) hx
    | agg ps => simp [cV] at hy
    | obj t ps =>
      simp only [cV] at hy
      split at hy
      · cases hy
      · injection hy with hy; subst hy; exact hx
  | gp g o =>
    intro p y hy
    have hx := VRel.gp (β := β) g o
    cases p with
    | atom p => exact cAtom_ok hy hx
    | num p => exact cNum_ok hy hx
    | ref p => exact cRef_ok (by simpa only [cV] using hy) hx
    | agg ps => simp [cV] at hy
    | obj t ps =>
      simp only [cV] at hy
      split at hy
      · cases hy
      · injection hy with hy; subst hy; exact hx
  | gs g o l cp h1 =>
    intro p y hy
    have hx := VRel.gs (β := β) g o l cp h1
    cases p with
    | atom p => exact cAtom_ok hy hx
    | num p => exact cNum_ok hy hx
    | ref p => exact cRef_ok (by simpa only [cV] using hy) hx
    | agg ps => simp [cV] at hy
    | obj t ps =>
      simp only [cV] at hy
      split at hy
      · cases hy
      · injection hy with hy; subst hy; exact hx
  | sm b l s a cp h1 h3 =>
    intro p y hy
    have hx := VRel.sm b l s a cp h1 h3
    cases p with
    | atom p => exact cAtom_ok hy hx
    | num p => exact cNum_ok hy hx
    | ref p => exact cRef_ok (by simpa only [cV] using hy) hx
    | agg ps => simp [cV] at hy
    | obj t ps =>
      simp only [cV] at hy
      split at hy
      · cases hy
      · injection hy with hy; subst hy; exact hx
  | sl b o l cap a cp h1 h2 h3 =>
    intro p y hy
    have hx := VRel.sl b o l cap a cp h1 h2 h3
    cases p with
    | atom p => exact cAtom_ok hy hx
    | num p => exact cNum_ok hy hx
    | ref p => exact cRef_ok (by simpa only [cV] using hy) hx
    | agg ps => simp [cV] at hy
    | obj t ps =>
      simp only [cV] at hy
      split at hy
      · cases hy
      · injection hy with hy; subst hy; exact hx
theorem cL_rel {ps xs ys : List AV} {vs : List Value} (h : cL ps xs = some ys) (hx : LRel β xs vs) : LRel β ys vs := by
  obtain ⟨h1, h2⟩ := cL_get h
  refine ⟨h1.trans hx.1, fun i a b ha hb => ?_⟩
  have hi : i < xs.length := by
    rcases Nat.lt_or_ge i xs.length with h | h
    · exact h
    · rw [List.getElem?_eq_none (by omega)] at ha; cases ha
  obtain ⟨q, hq⟩ := h2 i _ a (List.getElem?_eq_getElem hi) ha
  exact cV_ok (hx.2 i _ b (List.getElem?_eq_getElem hi) hb) hq
end
theorem cL_pre {pt t t' : List AV} (h : cL pt t = some t') : ∀ l : List Value, cL (l.map AV.exact ++ pt) (l.map AV.exact ++ t) = some (l.map AV.exact ++ t')
  | [] => h
  | v :: l => by
    show cL (AV.exact v :: (l.map AV.exact ++ pt)) (AV.exact v :: (l.map AV.exact ++ t)) = some (AV.exact v :: (l.map AV.exact ++ t'))
    rw [cL, cL_pre h l]; rfl
theorem cD_less {p d d' : Data} (h : cD p d = some d') : LessD d d' := by
  unfold cD at h
  split at h
  · rw [Option.map_eq_some_iff] at h; obtain ⟨l, h1, rfl⟩ := h; exact less8 h1
  · rw [Option.map_eq_some_iff] at h; obtain ⟨l, h1, rfl⟩ := h; exact less32 h1
  · rw [Option.map_eq_some_iff] at h; obtain ⟨l, h1, rfl⟩ := h; exact less64 h1
  · split at h
    · rw [Option.map_eq_some_iff] at h; obtain ⟨l, h1, rfl⟩ := h
      exact ⟨(cL_get h1).1, fun β vs hv => cL_rel h1 hv⟩
    · cases h
  · cases h
  · split at h
    · rename_i l t
      rw [Option.map_eq_some_iff] at h; obtain ⟨t', h1, rfl⟩ := h
      have e := cL_pre h1 l
      exact ⟨by have := (cL_get e).1; simpa [Data.len] using this, fun β vs hv => cL_rel e hv⟩
    · cases h
theorem modeEq_spec {a b : Mode} (h : modeEq a b = true) : a = b := by
  cases a <;> cases b <;> simp [modeEq] at h <;> rfl
theorem cB_spec {p k k' : Blk} (h : cB p k = some k') : k'.mode = .dead ∨ (k.mode.alive ∧ (k'.mode = k.mode ∨ k'.mode = .ro) ∧ LessD k.data k'.data) := by
  unfold cB at h
  split at h
  · injection h with h; subst h; exact .inl rfl
  · split at h
    · cases h
    · rename_i hm
      split at h
      · rename_i d hd
        injection h with h; subst h
        exact .inr ⟨hm, .inr rfl, cD_less hd⟩
      · cases h
  · split at h
    · rename_i hm
      split at h
      · rename_i d hd
        injection h with h; subst h
        exact .inr ⟨own_alive hm, .inl hm.symm, cD_less hd⟩
      · cases h
    · cases h
theorem BRel.look {β : Map} {w : World} {k k' : Blk} {L : Loc} (h : BRel β k L w) (ha : k.mode.alive) (hm : k'.mode = k.mode ∨ k'.mode = .ro) (hd : LessD k.data k'.data) : BRel β k' L w := by
  rcases hm with hm | hm
  · exact h.less hm hd
  · have hr : ROk β k.data L w := ⟨h.lt ha, h.room ha, fun i x hx => h.cell ha hx⟩
    obtain ⟨d', m'⟩ := k'
    simp only at hm hd
    subst hm
    exact ROk.less hr hd
theorem cH_get {ps ks ks' : List Blk} (h : cH ps ks = some ks') : ks'.length = ks.length ∧ ∀ (i : Nat) k', ks'[i]? = some k' → ∃ k, ks[i]? = some k ∧ (k'.mode = .dead ∨ (k.mode.alive ∧ (k'.mode = k.mode ∨ k'.mode = .ro) ∧ LessD k.data k'.data)) := by
  induction ps generalizing ks ks' with
  | nil =>
    simp only [cH] at h
    split at h
    · injection h with h; subst h; exact ⟨rfl, fun i x hx => by simp at hx⟩
    · cases h
  | cons p ps ih =>
    cases ks with
    | nil => simp [cH] at h
    | cons k ks =>
      simp only [cH] at h
      split at h
      · cases h
      · rename_i y hy
        split at h
        · cases h
        · rename_i ys' hys
          injection h with h; subst h
          obtain ⟨h1, h2⟩ := ih hys
          refine ⟨by simp [h1], fun i b hb => ?_⟩
          cases i with
          | zero => simp at hb; subst hb; exact ⟨k, rfl, cB_spec hy⟩
          | succ i => exact h2 i b (by simpa using hb)
section
variable {G : Nat → Option (List AV)} {β : Map} {w : World}
theorem HRel.conf {ps H H' : List Blk} (h : HRel G β H w) (hc : cH ps H = some H') : HRel G β H' w ∧ (∀ (b : Nat) k, H'[b]? = some k → k.mode = .own → ∃ k0, H[b]? = some k0 ∧ k0.mode = .own) := by
  obtain ⟨h1, h2⟩ := cH_get hc
  have hown : ∀ (b : Nat) k, H'[b]? = some k → k.mode = .own → ∃ k0, H[b]? = some k0 ∧ k0.mode = .own := by
    intro b k' hk ho
    obtain ⟨k, g1, g2 | ⟨_, g2 | g2, _⟩⟩ := h2 b k' hk
    · rw [ho] at g2; cases g2
    · exact ⟨k, g1, g2 ▸ ho⟩
    · rw [ho] at g2; cases g2
  refine ⟨⟨fun b k' hk ha => ?_, fun b b' k1 k2 L L' hne hk hk' ho ha hL hL' => ?_, fun b L hL => by rw [h1]; exact h.dom b L hL, h.glob, fun b k' L hk ho hL => ?_⟩, hown⟩
  · obtain ⟨k, g1, g2 | ⟨g0, g2, g3⟩⟩ := h2 b k' hk
    · exact absurd g2 ha
    · rcases h.blk b k g1 g0 with ⟨L, hL, hbr⟩ | ⟨e1, e2⟩
      · exact .inl ⟨L, hL, hbr.look g0 g2 g3⟩
      · exact .inr ⟨g3.1.trans e1, e2⟩
  · obtain ⟨k, g1, g2⟩ := hown b k1 hk ho
    obtain ⟨k', g1', g2' | ⟨g0', _⟩⟩ := h2 b' k2 hk'
    · exact absurd g2' ha
    exact h.dis b b' k k' L L' hne g1 g1' g2 g0' hL hL'
  · obtain ⟨k, g1, g2⟩ := hown b k' hk ho
    exact h.apart b k L g1 g2 hL
theorem own_of {H H' : List Blk} (h : ∀ (b : Nat) k, H'[b]? = some k → k.mode = .own → ∃ k0, H[b]? = some k0 ∧ k0.mode = .own) : ∀ c, Own β H' c → Own β H c := by
  rintro c ⟨b, k', L, hk, ho, hL, hcc⟩
  obtain ⟨k, g1, g2⟩ := h b k' hk ho
  exact ⟨b, k, L, g1, g2, hL, hcc⟩
theorem HRel.ghost {H gh : List Blk} (h : HRel G β H w) (hg : ∀ k ∈ gh, k.data.len = 0) : HRel G β (H ++ gh) w ∧ (∀ c, Own β (H ++ gh) c → Own β H c) := by
  have hget : ∀ (b : Nat) k, (H ++ gh)[b]? = some k → H[b]? = some k ∨ (k.data.len = 0 ∧ β b = none) := by
    intro b k hk
    rcases Nat.lt_or_ge b H.length with hb | hb
    · rw [List.getElem?_append_left hb] at hk; exact .inl hk
    · rw [List.getElem?_append_right hb] at hk
      refine .inr ⟨hg k (List.mem_of_getElem? hk), ?_⟩
      cases hn : β b with
      | none => rfl
      | some L => have := h.dom b L hn; omega
  refine ⟨⟨fun b k hk ha => ?_, fun b b' k k' L L' hne hk hk' ho ha hL hL' => ?_, fun b L hL => ?_, h.glob, fun b k L hk ho hL => ?_⟩, ?_⟩
  · rcases hget b k hk with g | g
    · exact h.blk b k g ha
    · exact .inr g
  · rcases hget b k hk with g | ⟨_, g⟩
    · rcases hget b' k' hk' with g' | ⟨_, g'⟩
      · exact h.dis b b' k k' L L' hne g g' ho ha hL hL'
      · rw [g'] at hL'; cases hL'
    · rw [g] at hL; cases hL
  · have := h.dom b L hL; rw [List.length_append]; omega
  · rcases hget b k hk with g | ⟨_, g⟩
    · exact h.apart b k L g ho hL
    · rw [g] at hL; cases hL
  · rintro c ⟨b, k, L, hk, ho, hL, hcc⟩
    rcases hget b k hk with g | ⟨_, g⟩
    · exact ⟨b, k, L, g, ho, hL, hcc⟩
    · rw [g] at hL; cases hL
/-- Blocks under other names; others forgotten. -/
theorem HRel.inner {H Hc : List Blk} {rs : List Nat} (hH : HRel G β H w) (hnd : rs.Nodup) (hHc : seenBy H rs rs = some Hc) : HRel G (inner β rs) Hc w ∧ (∀ c, Own (inner β rs) Hc c → Own β H c) ∧ Hc.length = rs.length := by
  obtain ⟨hcl, hcg⟩ := seenBy_spec hHc
  have huniq : ∀ (i j b : Nat), rs[i]? = some b → rs[j]? = some b → i = j := by
    intro i j b hi hj
    have hil : i < rs.length := (List.getElem?_eq_some_iff.1 hi).1
    have hjl : j < rs.length := (List.getElem?_eq_some_iff.1 hj).1
    exact (List.getElem_inj hnd).1 (by rw [(List.getElem?_eq_some_iff.1 hi).2, (List.getElem?_eq_some_iff.1 hj).2])
  have hget : ∀ (i : Nat) k', Hc[i]? = some k' → ∃ b d, rs[i]? = some b ∧ H[b]? = some ⟨d, k'.mode⟩ ∧ toD rs d = some k'.data := by
    intro i k' hk
    have hi : i < rs.length := by rw [← hcl]; exact (List.getElem?_eq_some_iff.1 hk).1
    obtain ⟨d, h1, h2⟩ := hcg i _ k' (List.getElem?_eq_getElem hi) hk
    exact ⟨_, d, List.getElem?_eq_getElem hi, h1, h2⟩
  refine ⟨⟨fun i k' hk ha => ?_, fun i j k k' L L' hne hk hk' ho ha hL hL' => ?_, fun i L hL => ?_, hH.glob, fun i k L hk ho hL => ?_⟩, ?_, hcl⟩
  · obtain ⟨b, d, h1, h2, h3⟩ := hget i k' hk
    rw [inner_get h1]
    obtain ⟨d', m'⟩ := k'
    rcases hH.blk b _ h2 ha with ⟨L, hL, hbr⟩ | ⟨g2, g3⟩
    · exact .inl ⟨L, hL, hbr.to h3⟩
    · exact .inr ⟨by rw [(toD_spec (β := β) h3).1]; exact g2, g3⟩
  · obtain ⟨b, d, h1, h2, h3⟩ := hget i k hk
    obtain ⟨b', d', h1', h2', h3'⟩ := hget j k' hk'
    rw [inner_get h1] at hL; rw [inner_get h1'] at hL'
    refine hH.dis b b' _ _ L L' (fun e => hne ?_) h2 h2' ho ha hL hL'
    subst e; exact huniq i j b h1 h1'
  · unfold Eng.inner at hL
    split at hL
    · rename_i b hb; rw [hcl]; exact (List.getElem?_eq_some_iff.1 hb).1
    · cases hL
  · obtain ⟨b, d, h1, h2, h3⟩ := hget i k hk
    rw [inner_get h1] at hL
    exact hH.apart b _ L h2 ho hL
  · rintro c ⟨i, k, L, hk, ho, hL, hcc⟩
    obtain ⟨b, d, h1, h2, h3⟩ := hget i k hk
    rw [inner_get h1] at hL
    exact ⟨b, _, L, h2, ho, hL, hcc⟩
theorem fixB_spec : ∀ (n i : Nat) (rs : List Nat), fixB n i rs = true → ∀ j, j < n → rs[j]? = some (i + j)
  | 0, _, _, _, j, hj => by omega
  | n + 1, i, [], h, j, _ => by simp [fixB] at h
  | n + 1, i, x :: rs, h, j, hj => by
    simp only [fixB] at h
    split at h
    · rename_i hx
      have hx : x = i := by simpa using hx
      cases j with
      | zero => simp [hx]
      | succ j =>
        have := fixB_spec n (i + 1) rs h j (by omega)
        simp only [List.getElem?_cons_succ, this]; congr 1; omega
    · cases h
/-- A heap that says less, some names turned, some blocks forgotten. -/
theorem wk_ok {n0 : Nat} {gh : List Blk} {rs : Option (List Nat)} {ps H H' : List Blk} (hg : ∀ k ∈ gh, k.data.len = 0) (h : wkH n0 gh rs ps H = some H') (hn : n0 ≤ H.length) (hH : HRel G β H w) :
    ∃ β' : Map, HRel G β' H' w ∧ (∀ b, b < n0 → β' b = β b) ∧ n0 ≤ H'.length ∧ (∀ c, Own β' H' c → Own β H c) ∧ ∀ p x y v, wkV rs p x = some y → VRel β x v → VRel β' y v := by
  obtain ⟨g1, g2⟩ := hH.ghost hg
  cases rs with
  | none =>
    simp only [wkH] at h
    obtain ⟨g3, g4⟩ := g1.conf h
    refine ⟨β, g3, fun _ _ => rfl, by rw [(cH_get h).1, List.length_append]; omega, fun c hc => g2 c (own_of g4 c hc), fun p x y v hy hx => ?_⟩
    unfold wkV at hy
    split at hy
    · injection hy with hy; subst hy; exact .undef _
    · exact cV_ok hx hy
  | some rs =>
    simp only [wkH] at h
    split at h
    · cases h
    rename_i hnf
    simp only [Bool.and_eq_true] at hnf
    split at h
    case h_2 => cases h
    rename_i H1 hs
    obtain ⟨g3, g4, g5⟩ := g1.inner (nodupB_spec hnf.1) hs
    obtain ⟨g6, g7⟩ := g3.conf h
    have hfix := fixB_spec n0 0 rs hnf.2
    refine ⟨Eng.inner β rs, g6, fun b hb => ?_, ?_, fun c hc => g2 c (g4 c (own_of g7 c hc)), fun p x y v hy hx => ?_⟩
    · have := hfix b hb
      rw [Nat.zero_add] at this
      exact inner_get this
    · rw [(cH_get h).1, g5]
      rcases Nat.lt_or_ge rs.length n0 with hlt | hge
      · have := hfix rs.length hlt
        rw [List.getElem?_eq_none (Nat.le_refl _)] at this; cases this
      · exact hge
    · unfold wkV at hy
      split at hy
      · injection hy with hy; subst hy; exact .undef _
      · simp only at hy
        split at hy
        · rename_i x' hx'
          exact cV_ok (toV_rel hx hx') hy
        · cases hy
theorem wkL_get {rs : Option (List Nat)} {ps xs ys : List AV} (h : wkL rs ps xs = some ys) : ys.length = xs.length ∧ ∀ (i : Nat) x y, xs[i]? = some x → ys[i]? = some y → ∃ p, wkV rs p x = some y := by
  induction ps generalizing xs ys with
  | nil =>
    simp only [wkL] at h
    split at h
    · injection h with h; subst h; exact ⟨rfl, fun i x y hx => by simp at hx⟩
    · cases h
  | cons p ps ih =>
    cases xs with
    | nil => simp [wkL] at h
    | cons x xs =>
      simp only [wkL] at h
      split at h
      · cases h
      · rename_i y hy
        split at h
        · cases h
        · rename_i ys' hys
          injection h with h; subst h
          obtain ⟨h1, h2⟩ := ih hys
          refine ⟨by simp [h1], fun i a b ha hb => ?_⟩
          cases i with
          | zero => simp at ha hb; subst ha hb; exact ⟨p, hy⟩
          | succ i => exact h2 i a b (by simpa using ha) (by simpa using hb)
theorem wkL_rel {β' : Map} {rs : Option (List Nat)} (htr : ∀ p x y v, wkV rs p x = some y → VRel β x v → VRel β' y v) {ps xs ys : List AV} {vs : List Value} (h : wkL rs ps xs = some ys) (hx : LRel β xs vs) : LRel β' ys vs := by
  obtain ⟨h1, h2⟩ := wkL_get h
  refine ⟨h1.trans hx.1, fun i a b ha hb => ?_⟩
  have hi : i < xs.length := by
    rcases Nat.lt_or_ge i xs.length with h | h
    · exact h
    · rw [List.getElem?_eq_none (by omega)] at ha; cases ha
  obtain ⟨q, hq⟩ := h2 i _ a (List.getElem?_eq_getElem hi) ha
  exact htr q _ a _ hq (hx.2 i _ b (List.getElem?_eq_getElem hi) hb)
theorem wkT_get {rs : Option (List Nat)} {ts : List (Nat × AV)} : ∀ {ps ys : List (Nat × AV)}, wkT rs ts ps = some ys → ∀ t, assoc t ys = .undef ∨ ∃ p, wkV rs p (assoc t ts) = some (assoc t ys)
  | [], ys, h, t => by simp [wkT] at h; subst h; exact .inl rfl
  | (t0, p) :: ps, ys, h, t => by
    simp only [wkT] at h
    split at h
    · cases h
    · rename_i y hy
      split at h
      · cases h
      · rename_i ys' hys
        injection h with h; subst h
        simp only [assoc]
        split
        · rename_i hb
          have hb : t0 = t := by simpa using hb
          subst hb
          exact .inr ⟨p, hy⟩
        · exact wkT_get hys t
theorem wkF_rel {nv nt : Nat} {β' : Map} {rs : Option (List Nat)} (htr : ∀ p x y v, wkV rs p x = some y → VRel β x v → VRel β' y v) {p F F' : Fr} {a : Act} (h : wkF rs p F = some F') (hF : FRel nv nt β F a) : FRel nv nt β' F' a := by
  unfold wkF at h
  split at h
  · cases h
  rename_i vs hvs
  split at h
  · cases h
  rename_i ts hts
  injection h with h; subst h
  refine ⟨fun t => ?_, hF.size, hF.defers⟩
  have hv := hF.val t
  simp only [Fr.get] at hv ⊢
  cases hb : Nat.blt t nv with
  | true =>
    rw [hb] at hv
    simp only [lget_eq] at hv ⊢
    obtain ⟨h1, h2⟩ := wkL_get hvs
    cases hy : vs[t]? with
    | none => exact .undef _
    | some y =>
      have ht : t < F.vars.length := by rw [← h1]; exact (List.getElem?_eq_some_iff.1 hy).1
      obtain ⟨q, hq⟩ := h2 t _ y (List.getElem?_eq_getElem ht) hy
      rw [List.getElem?_eq_getElem ht] at hv
      exact htr q _ y _ hq hv
  | false =>
    rw [hb] at hv
    simp only at hv ⊢
    rcases wkT_get hts t with e | ⟨q, hq⟩
    · rw [e]; exact .undef _
    · exact htr q _ _ _ hq hv
/-- A step goes on where names turn that were not there at first. -/
theorem Stp.wk {β0 β' : Map} {H0 H H' : List Blk} {w0 : World} (h : Stp β0 H0 w0 β H w) (hd : ∀ b L, β0 b = some L → b < H0.length) (h1 : ∀ b, b < H0.length → β' b = β b) (h2 : H0.length ≤ H'.length) (h3 : ∀ c, Own β' H' c → Own β H c) : Stp β0 H0 w0 β' H' w :=
  ⟨fun b L hL => by rw [h1 b (hd b L hL)]; exact h.le b L hL, h2, h.os, h.tape, h.output, h.size, h.kept, fun c hc ho => h.own c hc (h3 c ho), fun b hb => (h1 b hb).trans (h.old b hb)⟩
end
end Go.Eng
/- Loops told round by round; contracts by one run. -/
namespace Go.Eng
set_option linter.unusedSectionVars false
variable [RowAddr]
set_option linter.unusedSimpArgs false
set_option linter.unusedVariables false

def noRo (m : Mode) : Bool :=
  match m with
  | .ro => false
  | _ => true
def allNoRo : List Blk → Bool
  | [] => true
  | k :: r =>
    match noRo k.mode with
    | true => allNoRo r
    | false => false
def isOwn (m : Mode) : Bool :=
  match m with
  | .own => true
  | _ => false
/-- The heap behind: what the flags call one's own as it became, the rest as it was. -/
def mergeH : List Blk → List Blk → List Blk → Option (List Blk)
  | [], _, ks =>
    match allNoRo ks with
    | true => some ks
    | false => none
  | h :: H, fs, ks =>
    match fs with
    | [] => none
    | f :: fs =>
      match ks with
      | [] => none
      | k :: ks =>
        match mergeH H fs ks with
        | none => none
        | some r =>
          match isOwn f.mode with
          | true =>
            match noRo k.mode with
            | true => some (k :: r)
            | false => none
          | false => some (h :: r)
theorem noRo_spec {m : Mode} (h : noRo m = true) : m ≠ .ro := by cases m <;> simp [noRo] at h ⊢
theorem isOwn_iff {m : Mode} : isOwn m = true ↔ m = .own := by cases m <;> simp [isOwn]
theorem allNoRo_get : ∀ {l : List Blk}, allNoRo l = true → ∀ (i : Nat) k, l[i]? = some k → k.mode ≠ .ro
  | [], _, i, k, h => by simp at h
  | x :: r, hl, i, k, h => by
    simp only [allNoRo] at hl
    split at hl
    · rename_i hx
      cases i with
      | zero => simp at h; subst h; exact noRo_spec hx
      | succ i => exact allNoRo_get hl i k (by simpa using h)
    · cases hl
theorem mergeH_spec : ∀ {H F K R : List Blk}, mergeH H F K = some R → H.length ≤ F.length ∧ H.length ≤ K.length ∧ R.length = K.length ∧
    ∀ (b : Nat) k, R[b]? = some k → (K[b]? = some k ∧ k.mode ≠ .ro ∧ (b < H.length → ∃ f, F[b]? = some f ∧ f.mode = .own)) ∨ (H[b]? = some k ∧ ∃ f, F[b]? = some f ∧ f.mode ≠ .own)
  | [], F, K, R, h => by
    simp only [mergeH] at h
    split at h
    · rename_i ha
      injection h with h; subst h
      exact ⟨Nat.zero_le _, Nat.zero_le _, rfl, fun b k hk => .inl ⟨hk, allNoRo_get ha b k hk, fun hb => by simp at hb⟩⟩
    · cases h
  | x :: H, F, K, R, h => by
    simp only [mergeH] at h
    cases F with
    | nil => cases h
    | cons f F =>
    cases K with
    | nil => cases h
    | cons y K =>
    simp only at h
    split at h
    · cases h
    rename_i r hr
    obtain ⟨h1, h2, h3, h4⟩ := mergeH_spec hr
    split at h
    · rename_i ho
      split at h
      · rename_i hn
        injection h with h; subst h
        refine ⟨by simp; omega, by simp; omega, by simp [h3], fun b k hk => ?_⟩
        cases b with
        | zero => simp at hk; subst hk; exact .inl ⟨rfl, noRo_spec hn, fun _ => ⟨f, rfl, isOwn_iff.1 ho⟩⟩
        | succ b =>
          rcases h4 b k (by simpa using hk) with ⟨g1, g2, g3⟩ | ⟨g1, g2⟩
          · exact .inl ⟨by simpa using g1, g2, fun hb => by simpa using g3 (by simpa using hb)⟩
          · exact .inr ⟨by simpa using g1, by simpa using g2⟩
      · cases h
    · rename_i ho
      injection h with h; subst h
      refine ⟨by simp; omega, by simp; omega, by simp [h3], fun b k hk => ?_⟩
      cases b with
      | zero => simp at hk; subst hk; exact .inr ⟨rfl, f, rfl, fun e => by rw [isOwn_iff.2 e] at ho; cases ho⟩
      | succ b =>
        rcases h4 b k (by simpa using hk) with ⟨g1, g2, g3⟩ | ⟨g1, g2⟩
        · exact .inl ⟨by simpa using g1, g2, fun hb => by simpa using g3 (by simpa using hb)⟩
        · exact .inr ⟨by simpa using g1, by simpa using g2⟩
/-- A step of which so many names are held. -/
structure Stq (n0 : Nat) (β : Map) (H : List Blk) (w : World) (β' : Map) (H' : List Blk) (w' : World) : Prop where
  le : Map.le β β'
  len : n0 ≤ H'.length
  os : w'.os = w.os
  tape : w'.tape = w.tape
  output : w'.output = w.output
  size : w.heap.size ≤ w'.heap.size
  kept : ∀ c, c < w.heap.size → ¬ Own β H c → w'.heap[c]? = w.heap[c]?
  own : ∀ c, c < w.heap.size → Own β' H' c → Own β H c
  old : ∀ b, b < n0 → β' b = β b
theorem Stp.q {n0 : Nat} {β β' : Map} {H H' : List Blk} {w w' : World} (h : Stp β H w β' H' w') (hn : n0 ≤ H.length) : Stq n0 β H w β' H' w' :=
  ⟨h.le, Nat.le_trans hn h.len, h.os, h.tape, h.output, h.size, h.kept, h.own, fun b hb => h.old b (by omega)⟩
theorem Stq.trans {n0 : Nat} {β β' β'' : Map} {H H' H'' : List Blk} {w w' w'' : World} (h : Stq n0 β H w β' H' w') (k : Stp β' H' w' β'' H'' w'') : Stq n0 β H w β'' H'' w'' where
  le := Map.le_trans h.le k.le
  len := Nat.le_trans h.len k.len
  os := k.os.trans h.os
  tape := k.tape.trans h.tape
  output := k.output.trans h.output
  size := Nat.le_trans h.size k.size
  kept c hc hn := (k.kept c (Nat.lt_of_lt_of_le hc h.size) (fun ho => hn (h.own c hc ho))).trans (h.kept c hc hn)
  own c hc ho := h.own c hc (k.own c (Nat.lt_of_lt_of_le hc h.size) ho)
  old b hb := (k.old b (Nat.lt_of_lt_of_le hb h.len)).trans (h.old b hb)
theorem Stq.wk {n0 : Nat} {β0 β β' : Map} {H0 H H' : List Blk} {w0 w : World} (h : Stq n0 β0 H0 w0 β H w) (hd : ∀ b L, β0 b = some L → b < n0) (h1 : ∀ b, b < n0 → β' b = β b) (h2 : n0 ≤ H'.length) (h3 : ∀ c, Own β' H' c → Own β H c) : Stq n0 β0 H0 w0 β' H' w :=
  ⟨fun b L hL => by rw [h1 b (hd b L hL)]; exact h.le b L hL, h2, h.os, h.tape, h.output, h.size, h.kept, fun c hc ho => h.own c hc (h3 c ho), fun b hb => (h1 b hb).trans (h.old b hb)⟩
section
variable {G : Nat → Option (List AV)}
theorem merge_ok {β β' : Map} {H F K R : List Blk} {w w' : World} (hH : HRel G β H w) (hF : HRel G β F w) (hFo : ∀ (b : Nat) k L, F[b]? = some k → k.mode = .own → β b = some L → ∃ k0, H[b]? = some k0 ∧ k0.mode = .own)
    (hK : HRel G β' K w') (hs : Stq H.length β F w β' K w') (hm : mergeH H F K = some R) : HRel G β' R w' ∧ Stp β H w β' R w' := by
  obtain ⟨l1, l2, l3, key⟩ := mergeH_spec hm
  have hlt : ∀ {b : Nat} {k : Blk}, H[b]? = some k → b < H.length := fun h => (List.getElem?_eq_some_iff.1 h).1
  have hβ : ∀ b, b < H.length → β' b = β b := fun b hb => hs.old b hb
  have hown : ∀ c, Own β F c → ∃ (b : Nat) (k0 f : Blk) (L : Loc), H[b]? = some k0 ∧ k0.mode = .own ∧ β b = some L ∧ L.c = c ∧ F[b]? = some f ∧ f.mode = .own := by
    rintro c ⟨b, k, L, h1, h2, h3, h4⟩
    obtain ⟨k0, h5, h6⟩ := hFo b k L h1 h2 h3
    exact ⟨b, k0, k, L, h5, h6, h3, h4, h1, h2⟩
  have hsub : ∀ c, Own β F c → Own β H c := by
    intro c hc
    obtain ⟨b, k0, f, L, h1, h2, h3, h4, _⟩ := hown c hc
    exact ⟨b, k0, L, h1, h2, h3, h4⟩
  -- what was kept shares its place with nothing of one's own
  have hfree : ∀ (b : Nat) k L, H[b]? = some k → k.mode.alive → β b = some L → (∃ f, F[b]? = some f ∧ f.mode ≠ .own) → ¬ Own β F L.c := by
    rintro b k L h1 h2 h3 ⟨f, h4, h5⟩ ho
    obtain ⟨b2, k2, f2, L2, g1, g2, g3, g4, g5, g6⟩ := hown _ ho
    refine hH.dis b2 b k2 k L2 L (fun e => ?_) g1 h1 g2 h2 g3 h3 g4
    subst e; rw [h4] at g5; injection g5 with g5; subst g5; exact h5 g6
  refine ⟨⟨fun b k hk ha => ?_, fun b b' k k' L L' hne hk hk' ho ha hL hL' => ?_, fun b L hL => by rw [l3]; exact hK.dom b L hL, hK.glob, fun b k L hk ho hL => ?_⟩,
    ⟨hs.le, by omega, hs.os, hs.tape, hs.output, hs.size, fun c hc hn => hs.kept c hc (fun ho => hn (hsub c ho)), fun c hc ⟨b, k, L, hk, ho, hL, hcc⟩ => ?_, fun b hb => hβ b hb⟩⟩
  · rcases key b k hk with ⟨g1, _, _⟩ | ⟨g1, g2⟩
    · exact hK.blk b k g1 ha
    · rcases hH.blk b k g1 ha with ⟨L, hL, hbr⟩ | ⟨e1, e2⟩
      · exact .inl ⟨L, hs.le b L hL, hbr.mono hs.le hs.size (hs.kept _ (hbr.lt ha) (hfree b k L g1 ha hL g2))⟩
      · exact .inr ⟨e1, by rw [hβ b (hlt g1)]; exact e2⟩
  · rcases key b k hk with ⟨g1, _, _⟩ | ⟨g1, g2⟩
    · rcases key b' k' hk' with ⟨g1', _, _⟩ | ⟨g1', g2'⟩
      · exact hK.dis b b' k k' L L' hne g1 g1' ho ha hL hL'
      · rw [hβ b' (hlt g1')] at hL'
        intro e
        refine hfree b' k' L' g1' ha hL' g2' (hs.own _ (hH.lt g1' ha hL') ⟨b, k, L, g1, ho, hL, e⟩)
    · rw [hβ b (hlt g1)] at hL
      rcases key b' k' hk' with ⟨g1', g3, _⟩ | ⟨g1', g2'⟩
      · intro e
        have ho' : k'.mode = .own := by
          cases hm' : k'.mode with
          | own => rfl
          | ro => exact absurd hm' g3
          | dead => exact absurd hm' ha
        exact hfree b k L g1 (own_alive ho) hL g2 (hs.own _ (hH.lt g1 (own_alive ho) hL) ⟨b', k', L', g1', ho', hL', e.symm⟩)
      · rw [hβ b' (hlt g1')] at hL'
        exact hH.dis b b' k k' L L' hne g1 g1' ho ha hL hL'
  · rcases key b k hk with ⟨g1, _, _⟩ | ⟨g1, _⟩
    · exact hK.apart b k L g1 ho hL
    · rw [hβ b (hlt g1)] at hL
      exact hH.apart b k L g1 ho hL
  · rcases key b k hk with ⟨g1, _, _⟩ | ⟨g1, _⟩
    · exact hsub c (hs.own c hc ⟨b, k, L, g1, ho, hL, hcc⟩)
    · rw [hβ b (hlt g1)] at hL
      exact ⟨b, k, L, g1, ho, hL, hcc⟩
/-- Entering: empty blocks set up besides, the heap says less. -/
theorem wk_in {β : Map} {gh ps H F : List Blk} {w : World} (hg : ∀ k ∈ gh, k.data.len = 0) (hH : HRel G β H w) (h : cH ps (H ++ gh) = some F) :
    HRel G β F w ∧ (∀ (b : Nat) k L, F[b]? = some k → k.mode = .own → β b = some L → ∃ k0, H[b]? = some k0 ∧ k0.mode = .own) ∧ H.length ≤ F.length := by
  obtain ⟨g1, _⟩ := hH.ghost hg
  obtain ⟨g3, g4⟩ := g1.conf h
  refine ⟨g3, fun b k L hk ho hL => ?_, by rw [(cH_get h).1, List.length_append]; omega⟩
  obtain ⟨k0, e1, e2⟩ := g4 b k hk ho
  have := hH.dom b L hL
  rw [List.getElem?_append_left this] at e1
  exact ⟨k0, e1, e2⟩
end
def iter {D : Type} (f : D → D) : Nat → D → D
  | 0, d => d
  | n + 1, d => iter f n (f d)
theorem iter_succ {D : Type} (f : D → D) : ∀ (n : Nat) (d : D), iter f (n + 1) d = f (iter f n d)
  | 0, _ => rfl
  | n + 1, d => by rw [iter, iter_succ f n (f d)]; rfl
/-- How a loop is told. -/
structure LoopT (D : Type) where
  parse : Fr → List Blk → Option D
  gh : List Blk
  st : D → Fr × List Blk
  next : D → D
  rem : D → Nat
  good : D → Bool
  out : Out
  fin : D → Fr × List Blk
def LoopT.told {D : Type} (T : LoopT D) : LSpec := fun F S =>
  match T.parse F S.H with
  | none => none
  | some d =>
    match mergeH S.H (T.st d).2 (T.fin (iter T.next (T.rem d) d)).2 with
    | none => none
    | some R => some (T.out, (T.fin (iter T.next (T.rem d) d)).1, { H := R, low := 0, dec := S.dec, cond := T.good d :: S.cond })
section
variable {P : Program} {G : Nat → Option (List AV)} {nv nt : Nat}
theorem loop_toldN {D : Type} (T : LoopT D) (N : D → Nat) (hN : ∀ F H d, T.parse F H = some d → N d = H.length) {b : Code} {f : Fr → St → Option (Out × Fr × St)} (hb : RunOk P G nv nt b f)
    (hg : ∀ k ∈ T.gh, k.data.len = 0)
    (hin : ∀ F H d, T.parse F H = some d → wkF none (T.st d).1 F = some (T.st d).1 ∧ cH (T.st d).2 (H ++ T.gh) = some (T.st d).2)
    (hround : ∀ d k, T.good d = true → T.rem d = k + 1 → ∃ dec F' S' rs, f (T.st d).1 ⟨(T.st d).2, big, dec, []⟩ = some (.normal, F', S') ∧ S'.ok ∧
      wkF rs (T.st (T.next d)).1 F' = some (T.st (T.next d)).1 ∧ wkH (N d) [] rs (T.st (T.next d)).2 S'.H = some (T.st (T.next d)).2 ∧ T.good (T.next d) = true ∧ T.rem (T.next d) = k ∧ N (T.next d) = N d)
    (hend : ∀ d, T.good d = true → T.rem d = 0 → ∃ dec F' S' rs, f (T.st d).1 ⟨(T.st d).2, big, dec, []⟩ = some (T.out, F', S') ∧ S'.ok ∧ (T.out = .normal → False) ∧
      wkF rs (T.fin d).1 F' = some (T.fin d).1 ∧ wkH (N d) [] rs (T.fin d).2 S'.H = some (T.fin d).2) :
    LoopOk P G nv nt b T.told := by
  intro F S o F' S' h
  unfold LoopT.told at h
  split at h
  · cases h
  rename_i d hd
  split at h
  · cases h
  rename_i R hR
  simp only [Option.some.injEq, Prod.mk.injEq] at h
  obtain ⟨rfl, rfl, rfl⟩ := h
  obtain ⟨hf1, hh1⟩ := hin F S.H d hd
  obtain ⟨m1, m2, m3, m4⟩ := mergeH_spec hR
  have hstlen : (T.st d).2.length = S.H.length + T.gh.length := by rw [(cH_get hh1).1, List.length_append]
  refine ⟨⟨fun ok x hx => ok x (List.mem_cons_of_mem _ hx), Nat.zero_le _, by simp only; omega, fun b hb hl => absurd hl (Nat.not_lt_zero _), fun b k hk hm => ?_, fun b k hk hm => ?_⟩, fun ok β a w hF hH Q hQ => ?_⟩
  · -- what is dead stays so
    simp only [lget_eq] at hk ⊢
    have hb : b < S.H.length := (List.getElem?_eq_some_iff.1 hk).1
    have hbR : b < R.length := by omega
    rcases m4 b _ (List.getElem?_eq_getElem hbR) with ⟨_, _, g3⟩ | ⟨g1, _⟩
    · obtain ⟨f0, e1, e2⟩ := g3 hb
      obtain ⟨k1, e3, e4⟩ := (cH_get hh1).2 b f0 e1
      rw [List.getElem?_append_left hb, hk] at e3
      injection e3 with e3; subst e3
      rcases e4 with e4 | ⟨e4, _⟩
      · rw [e2] at e4; cases e4
      · exact absurd hm e4
    · rw [hk] at g1; rw [g1, List.getElem?_eq_getElem hbR]
  · simp only [lget_eq] at hk ⊢
    rcases m4 b k hk with ⟨_, g2, _⟩ | ⟨g1, _⟩
    · exact absurd hm g2
    · exact g1
  · have hgood : T.good d = true := ok _ (List.mem_cons_self ..)
    obtain ⟨i1, i2, i3⟩ := wk_in hg hH hh1
    obtain ⟨β0, _, _, _, _, htr⟩ := wk_ok (n0 := 0) (gh := T.gh) (rs := none) (ps := (T.st d).2) hg (by simp only [wkH]; exact hh1) (Nat.zero_le _) hH
    have hF0 : FRel nv nt β (T.st d).1 a := by
      refine wkF_rel (β := β) (β' := β) (rs := none) (fun p x y v hy hx => ?_) hf1 hF
      unfold wkV at hy
      split at hy
      · injection hy with hy; subst hy; exact .undef _
      · exact cV_ok hx hy
    have hdom : ∀ b L, β b = some L → b < S.H.length := hH.dom
    refine lwp_loop_n (fun n a' w' => ∃ d' β', n = T.rem d' ∧ T.good d' = true ∧ iter T.next (T.rem d') d' = iter T.next (T.rem d) d ∧ N d' = N d ∧ FRel nv nt β' (T.st d').1 a' ∧ HRel G β' (T.st d').2 w' ∧ Stq S.H.length β (T.st d).2 w β' (T.st d').2 w')
      (n := T.rem d) ⟨d, β, rfl, hgood, rfl, rfl, hF0, i1, (Stp.refl ..).q i3⟩ ?_
    rintro n a' w' ⟨d', β', rfl, hgd, hit, hln, hF', hH', hS'⟩
    cases hr : T.rem d' with
    | zero =>
      obtain ⟨dec, F2, S2, rs, r1, r2, r2', r3, r4⟩ := hend d' hgd hr
      have hn0 : N d' = S.H.length := hln.trans (hN F S.H d hd)
      rw [hn0] at r4
      obtain ⟨x1, x2⟩ := hb _ _ _ _ _ r1
      refine x2 r2 β' a' w' hF' hH' _ fun a2 w2 β2 q1 q2 q3 => ?_
      have hlen2 : S.H.length ≤ S2.H.length := by have h8 := hS'.len; have := x1.len; simp only at this; omega
      obtain ⟨β3, p1, p2, p3, p4, p5⟩ := wk_ok (n0 := S.H.length) (gh := []) (by simp) r4 hlen2 q2
      have hF3 := wkF_rel p5 r3 q1
      have e : T.fin (iter T.next (T.rem d) d) = T.fin d' := by rw [← hit, hr]; rfl
      rw [e] at hR hQ
      obtain ⟨z1, z2⟩ := merge_ok hH i1 i2 p1 ((hS'.trans q3).wk hdom p2 p3 p4) hR
      have hfin := hQ a2 w2 β3 hF3 z1 z2
      cases ho : T.out with
      | normal => exact absurd ho r2'
      | exit i => rw [ho] at hfin; exact hfin
      | ret => rw [ho] at hfin; exact hfin
    | succ k =>
      obtain ⟨dec, F2, S2, rs, r1, r2, r3, r4, r5, r6, r7⟩ := hround d' k hgd hr
      have hn0 : N d' = S.H.length := hln.trans (hN F S.H d hd)
      rw [hn0] at r4
      obtain ⟨x1, x2⟩ := hb _ _ _ _ _ r1
      refine x2 r2 β' a' w' hF' hH' _ fun a2 w2 β2 q1 q2 q3 => ?_
      have hlen2 : S.H.length ≤ S2.H.length := by have h8 := hS'.len; have := x1.len; simp only at this; omega
      obtain ⟨β3, p1, p2, p3, p4, p5⟩ := wk_ok (n0 := S.H.length) (gh := []) (by simp) r4 hlen2 q2
      have hF3 := wkF_rel p5 r3 q1
      refine ⟨k, Nat.lt_succ_self k, T.next d', β3, r6.symm, r5, ?_, r7.trans hln, hF3, p1, (hS'.trans q3).wk hdom p2 p3 p4⟩
      rw [← hit, hr, r6]; rfl
theorem loop_toldL {D : Type} (T : LoopT D) {b : Code} {f : Fr → St → Option (Out × Fr × St)} (hb : RunOk P G nv nt b f)
    (hg : ∀ k ∈ T.gh, k.data.len = 0)
    (hin : ∀ F H d, T.parse F H = some d → wkF none (T.st d).1 F = some (T.st d).1 ∧ cH (T.st d).2 (H ++ T.gh) = some (T.st d).2)
    (hround : ∀ d k, T.good d = true → T.rem d = k + 1 → ∃ dec F' S' rs, f (T.st d).1 ⟨(T.st d).2, big, dec, []⟩ = some (.normal, F', S') ∧ S'.ok ∧
      wkF rs (T.st (T.next d)).1 F' = some (T.st (T.next d)).1 ∧ wkH ((T.st d).2.length - T.gh.length) [] rs (T.st (T.next d)).2 S'.H = some (T.st (T.next d)).2 ∧ T.good (T.next d) = true ∧ T.rem (T.next d) = k ∧ (T.st (T.next d)).2.length = (T.st d).2.length)
    (hend : ∀ d, T.good d = true → T.rem d = 0 → ∃ dec F' S' rs, f (T.st d).1 ⟨(T.st d).2, big, dec, []⟩ = some (T.out, F', S') ∧ S'.ok ∧ (T.out = .normal → False) ∧
      wkF rs (T.fin d).1 F' = some (T.fin d).1 ∧ wkH ((T.st d).2.length - T.gh.length) [] rs (T.fin d).2 S'.H = some (T.fin d).2) :
    LoopOk P G nv nt b T.told := by
  refine loop_toldN T (fun d => (T.st d).2.length - T.gh.length) (fun F H d h => ?_) hb hg hin (fun d k h1 h2 => ?_) hend
  · have := (cH_get (hin F H d h).2).1
    simp only [this, List.length_append]; omega
  · obtain ⟨dec, F', S', rs, g1, g2, g3, g4, g5, g6, g7⟩ := hround d k h1 h2
    exact ⟨dec, F', S', rs, g1, g2, g3, g4, g5, g6, by rw [g7]⟩
theorem loop_told {D : Type} (T : LoopT D) {b : Code} {f : Fr → St → Option (Out × Fr × St)} (hb : RunOk P G nv nt b f)
    (hg : ∀ k ∈ T.gh, k.data.len = 0)
    (hin : ∀ F H d, T.parse F H = some d → wkF none (T.st d).1 F = some (T.st d).1 ∧ cH (T.st d).2 (H ++ T.gh) = some (T.st d).2)
    (hround : ∀ d k, T.good d = true → T.rem d = k + 1 → ∃ dec F' S' rs, f (T.st d).1 ⟨(T.st d).2, big, dec, []⟩ = some (.normal, F', S') ∧ S'.ok ∧
      wkF rs (T.st (T.next d)).1 F' = some (T.st (T.next d)).1 ∧ wkH ((T.st d).2.length - T.gh.length) [] rs (T.st (T.next d)).2 S'.H = some (T.st (T.next d)).2 ∧ T.good (T.next d) = true ∧ T.rem (T.next d) = k ∧ (T.st (T.next d)).2.length = (T.st d).2.length)
    (hend : ∀ d, T.good d = true → T.rem d = 0 → ∃ dec F' S' rs, f (T.st d).1 ⟨(T.st d).2, big, dec, []⟩ = some (T.out, F', S') ∧ S'.ok ∧ (T.out = .normal → False) ∧
      wkF rs (T.fin d).1 F' = some (T.fin d).1 ∧ wkH ((T.st d).2.length - T.gh.length) [] rs (T.fin d).2 S'.H = some (T.fin d).2) :
    RunOk P G nv nt (.loop b) T.told := (loop_toldL T hb hg hin hround hend).run
/-- A contract, shown by one run, entered and left with less said. -/
theorem SpecOk.run {f : FuncId} {sp : Spec} {call : CallF} (hc : CallOk P G call)
    (h : ∀ args H dec r, sp args H dec = some r → (∀ x ∈ r.cond, x = true) → ∃ pa pH args' H' dec' v' S' rs K, wkL none pa args = some args' ∧ cH pH H = some H' ∧ call f args' ⟨H', big, dec', []⟩ = some (v', S') ∧ S'.ok ∧
      wkH H.length [] rs K S'.H = some K ∧ wkV rs r.v v' = some r.v ∧ mergeH H H' K = some r.H)
    (hro : ∀ args H dec r, sp args H dec = some r → ∀ (i : Nat) k, r.H[i]? = some k → k.mode = .ro → ∃ k', H[i]? = some k' ∧ k'.mode = .ro) : SpecOk P G f sp := by
  intro args H dec r hr
  refine ⟨hro args H dec r hr, fun hcond β w vs hargs hH => ?_⟩
  obtain ⟨pa, pH, args', H', dec', v', S', rs, K, h1, h2, h3, h4, h5, h6, h7⟩ := h args H dec r hr hcond
  obtain ⟨i1, i2, i3⟩ := wk_in (gh := []) (by simp) hH (by rw [List.append_nil]; exact h2)
  obtain ⟨g1, g2⟩ := hc _ _ _ _ _ h3
  have hargs' : LRel β args' vs := by
    refine wkL_rel (β := β) (rs := none) (fun p x y v hy hx => ?_) h1 hargs
    unfold wkV at hy
    split at hy
    · injection hy with hy; subst hy; exact .undef _
    · exact cV_ok hx hy
  obtain ⟨hf, hcalls⟩ := g2 h4 β w vs hargs' i1
  refine ⟨hf, hcalls.mono ?_⟩
  rintro e w' ⟨u, β2, rfl, q1, q2, q3⟩
  have hlen2 : H.length ≤ S'.H.length := by have := g1.len; simp only at this; omega
  obtain ⟨β3, p1, p2, p3, p4, p5⟩ := wk_ok (n0 := H.length) (gh := []) (by simp) h5 hlen2 q2
  obtain ⟨z1, z2⟩ := merge_ok hH i1 i2 p1 ((q3.q i3).wk hH.dom p2 p3 p4) h7
  exact ⟨u, β3, rfl, p5 _ _ _ _ h6 q1, z1, z2⟩
end
/-- What a run ends as, by a pattern. -/
def endsAs (n0 : Nat) (rs : Option (List Nat)) (K : List Blk) (v : AV) (r : Option (AV × St)) : Option (List Blk × AV × List Bool) :=
  match r with
  | none => none
  | some (v', S') =>
    match wkH n0 [] rs K S'.H with
    | none => none
    | some K' =>
      match wkV rs v v' with
      | none => none
      | some v => some (K', v, S'.cond)
theorem endsAs_inv {n0 : Nat} {rs : Option (List Nat)} {K K' : List Blk} {v u : AV} {r : Option (AV × St)} {cs : List Bool} (h : endsAs n0 rs K v r = some (K', u, cs)) :
    ∃ v' S', r = some (v', S') ∧ wkH n0 [] rs K S'.H = some K' ∧ wkV rs v v' = some u ∧ S'.cond = cs := by
  unfold endsAs at h
  split at h
  · cases h
  · rename_i v' S'
    split at h
    · cases h
    · rename_i K2 hK
      split at h
      · cases h
      · rename_i v2 hv
        simp only [Option.some.injEq, Prod.mk.injEq] at h
        obtain ⟨rfl, rfl, rfl⟩ := h
        exact ⟨v', S', rfl, hK, hv, rfl⟩
theorem SpecOk.ends {P : Program} {G : Nat → Option (List AV)} {f : FuncId} {sp : Spec} {call : CallF} (hc : CallOk P G call)
    (h : ∀ args H dec r, sp args H dec = some r → (∀ x ∈ r.cond, x = true) → ∃ pa pH args' H' dec' rs K cs, wkL none pa args = some args' ∧ cH pH H = some H' ∧ endsAs H.length rs K r.v (call f args' ⟨H', big, dec', []⟩) = some (K, r.v, cs) ∧
      (∀ x ∈ cs, x = true) ∧ mergeH H H' K = some r.H)
    (hro : ∀ args H dec r, sp args H dec = some r → ∀ (i : Nat) k, r.H[i]? = some k → k.mode = .ro → ∃ k', H[i]? = some k' ∧ k'.mode = .ro) : SpecOk P G f sp := by
  refine SpecOk.run hc (fun args H dec r hr hcond => ?_) hro
  obtain ⟨pa, pH, args', H', dec', rs, K, cs, h1, h2, h3, h4, h5⟩ := h args H dec r hr hcond
  obtain ⟨v', S', e1, e2, e3, e4⟩ := endsAs_inv h3
  exact ⟨pa, pH, args', H', dec', v', S', rs, K, h1, h2, e1, fun x hx => h4 x (by rw [← e4]; exact hx), e2, e3, h5⟩
def ranAs (n0 : Nat) (rs : Option (List Nat)) (p : Fr × List Blk) (r : Option (Out × Fr × St)) : Option (Out × (Fr × List Blk) × List Bool) :=
  match r with
  | none => none
  | some (o, F', S') =>
    match wkF rs p.1 F' with
    | none => none
    | some F =>
      match wkH n0 [] rs p.2 S'.H with
      | none => none
      | some H => some (o, (F, H), S'.cond)
theorem ranAs_inv {n0 : Nat} {rs : Option (List Nat)} {p q : Fr × List Blk} {r : Option (Out × Fr × St)} {o : Out} {cs : List Bool} (h : ranAs n0 rs p r = some (o, q, cs)) :
    ∃ F' S', r = some (o, F', S') ∧ wkF rs p.1 F' = some q.1 ∧ wkH n0 [] rs p.2 S'.H = some q.2 ∧ S'.cond = cs := by
  unfold ranAs at h
  split at h
  · cases h
  · rename_i o' F' S'
    split at h
    · cases h
    · rename_i F hF
      split at h
      · cases h
      · rename_i H hH
        simp only [Option.some.injEq, Prod.mk.injEq] at h
        obtain ⟨rfl, rfl, rfl⟩ := h
        exact ⟨F', S', rfl, hF, hH, rfl⟩
/-- A loop, each round by a run. -/
theorem loop_ranN {P : Program} {G : Nat → Option (List AV)} {nv nt : Nat} {D : Type} (T : LoopT D) (N : D → Nat) (hN : ∀ F H d, T.parse F H = some d → N d = H.length) {b : Code} {f : Fr → St → Option (Out × Fr × St)} (hb : RunOk P G nv nt b f)
    (hg : ∀ k ∈ T.gh, k.data.len = 0) (hout : T.out = .normal → False)
    (hin : ∀ F H d, T.parse F H = some d → wkF none (T.st d).1 F = some (T.st d).1 ∧ cH (T.st d).2 (H ++ T.gh) = some (T.st d).2)
    (hround : ∀ d k, T.good d = true → T.rem d = k + 1 → (∃ dec rs cs, ranAs (N d) rs (T.st (T.next d)) (f (T.st d).1 ⟨(T.st d).2, big, dec, []⟩) = some (.normal, T.st (T.next d), cs) ∧ (∀ x ∈ cs, x = true)) ∧
      T.good (T.next d) = true ∧ T.rem (T.next d) = k ∧ N (T.next d) = N d)
    (hend : ∀ d, T.good d = true → T.rem d = 0 → ∃ dec rs cs, ranAs (N d) rs (T.fin d) (f (T.st d).1 ⟨(T.st d).2, big, dec, []⟩) = some (T.out, T.fin d, cs) ∧ (∀ x ∈ cs, x = true)) :
    LoopOk P G nv nt b T.told := by
  refine loop_toldN T N hN hb hg hin (fun d k h1 h2 => ?_) (fun d h1 h2 => ?_)
  · obtain ⟨⟨dec, rs, cs, g1, g2⟩, g3, g4, g5⟩ := hround d k h1 h2
    obtain ⟨F', S', e1, e2, e3, e4⟩ := ranAs_inv g1
    exact ⟨dec, F', S', rs, e1, fun x hx => g2 x (by rw [← e4]; exact hx), e2, e3, g3, g4, g5⟩
  · obtain ⟨dec, rs, cs, g1, g2⟩ := hend d h1 h2
    obtain ⟨F', S', e1, e2, e3, e4⟩ := ranAs_inv g1
    exact ⟨dec, F', S', rs, e1, fun x hx => g2 x (by rw [← e4]; exact hx), hout, e2, e3⟩
theorem loop_ranL {P : Program} {G : Nat → Option (List AV)} {nv nt : Nat} {D : Type} (T : LoopT D) {b : Code} {f : Fr → St → Option (Out × Fr × St)} (hb : RunOk P G nv nt b f)
    (hg : ∀ k ∈ T.gh, k.data.len = 0) (hout : T.out = .normal → False)
    (hin : ∀ F H d, T.parse F H = some d → wkF none (T.st d).1 F = some (T.st d).1 ∧ cH (T.st d).2 (H ++ T.gh) = some (T.st d).2)
    (hround : ∀ d k, T.good d = true → T.rem d = k + 1 → (∃ dec rs cs, ranAs ((T.st d).2.length - T.gh.length) rs (T.st (T.next d)) (f (T.st d).1 ⟨(T.st d).2, big, dec, []⟩) = some (.normal, T.st (T.next d), cs) ∧ (∀ x ∈ cs, x = true)) ∧
      T.good (T.next d) = true ∧ T.rem (T.next d) = k ∧ (T.st (T.next d)).2.length = (T.st d).2.length)
    (hend : ∀ d, T.good d = true → T.rem d = 0 → ∃ dec rs cs, ranAs ((T.st d).2.length - T.gh.length) rs (T.fin d) (f (T.st d).1 ⟨(T.st d).2, big, dec, []⟩) = some (T.out, T.fin d, cs) ∧ (∀ x ∈ cs, x = true)) :
    LoopOk P G nv nt b T.told := by
  refine loop_toldL T hb hg hin (fun d k h1 h2 => ?_) (fun d h1 h2 => ?_)
  · obtain ⟨⟨dec, rs, cs, g1, g2⟩, g3, g4, g5⟩ := hround d k h1 h2
    obtain ⟨F', S', e1, e2, e3, e4⟩ := ranAs_inv g1
    exact ⟨dec, F', S', rs, e1, fun x hx => g2 x (by rw [← e4]; exact hx), e2, e3, g3, g4, g5⟩
  · obtain ⟨dec, rs, cs, g1, g2⟩ := hend d h1 h2
    obtain ⟨F', S', e1, e2, e3, e4⟩ := ranAs_inv g1
    exact ⟨dec, F', S', rs, e1, fun x hx => g2 x (by rw [← e4]; exact hx), hout, e2, e3⟩
theorem loop_ran {P : Program} {G : Nat → Option (List AV)} {nv nt : Nat} {D : Type} (T : LoopT D) {b : Code} {f : Fr → St → Option (Out × Fr × St)} (hb : RunOk P G nv nt b f)
    (hg : ∀ k ∈ T.gh, k.data.len = 0) (hout : T.out = .normal → False)
    (hin : ∀ F H d, T.parse F H = some d → wkF none (T.st d).1 F = some (T.st d).1 ∧ cH (T.st d).2 (H ++ T.gh) = some (T.st d).2)
    (hround : ∀ d k, T.good d = true → T.rem d = k + 1 → (∃ dec rs cs, ranAs ((T.st d).2.length - T.gh.length) rs (T.st (T.next d)) (f (T.st d).1 ⟨(T.st d).2, big, dec, []⟩) = some (.normal, T.st (T.next d), cs) ∧ (∀ x ∈ cs, x = true)) ∧
      T.good (T.next d) = true ∧ T.rem (T.next d) = k ∧ (T.st (T.next d)).2.length = (T.st d).2.length)
    (hend : ∀ d, T.good d = true → T.rem d = 0 → ∃ dec rs cs, ranAs ((T.st d).2.length - T.gh.length) rs (T.fin d) (f (T.st d).1 ⟨(T.st d).2, big, dec, []⟩) = some (T.out, T.fin d, cs) ∧ (∀ x ∈ cs, x = true)) :
    RunOk P G nv nt (.loop b) T.told := (loop_ranL T hb hg hout hin hround hend).run
/-! All loops of some code, by a depth that serves. -/
def depthOk : Nat → Code → Bool
  | 0, _ => false
  | n + 1, c =>
    match c with
    | .seq a b =>
      match depthOk n a with
      | true => depthOk n b
      | false => false
    | .cond _ a b =>
      match depthOk n a with
      | true => depthOk n b
      | false => false
    | .block _ b => depthOk n b
    | .loop b => depthOk n b
    | _ => true
theorem loops_deep : ∀ (K : Nat) (c : Code), depthOk K c = true → ∀ k, ∀ b ∈ loopsOf k c, b ∈ loopsOf K c := by
  intro K
  induction K with
  | zero => intro c h; simp [depthOk] at h
  | succ K ih =>
    intro c h k b hb
    cases k with
    | zero => simp [loopsOf] at hb
    | succ k =>
      cases c with
      | seq x y =>
        simp only [depthOk] at h
        split at h
        · rename_i hx
          simp only [loopsOf, List.mem_append] at hb ⊢
          rcases hb with hb | hb
          · exact .inl (ih x hx k b hb)
          · exact .inr (ih y h k b hb)
        · cases h
      | cond t x y =>
        simp only [depthOk] at h
        split at h
        · rename_i hx
          simp only [loopsOf, List.mem_append] at hb ⊢
          rcases hb with hb | hb
          · exact .inl (ih x hx k b hb)
          · exact .inr (ih y h k b hb)
        · cases h
      | block i x =>
        simp only [depthOk] at h
        simp only [loopsOf] at hb ⊢
        exact ih x h k b hb
      | loop x =>
        simp only [depthOk] at h
        simp only [loopsOf, List.mem_cons] at hb ⊢
        rcases hb with hb | hb
        · exact .inl hb
        · exact .inr (ih x h k b hb)
      | _ => simp [loopsOf] at hb
end Go.Eng
/- From calls that leave all that was there to the statement of a law; arguments that come in. -/
namespace Go.Eng
set_option linter.unusedSectionVars false
variable [RowAddr]
open Go.ChangeShapes Go.WideShapes Go.RowKit

/-- All that was there is there as it was. -/
def Still (W W' : World) : Prop := W'.os = W.os ∧ W'.output = W.output ∧ W.heap.size ≤ W'.heap.size ∧ ∀ c, c < W.heap.size → W'.heap[c]? = W.heap[c]?
theorem Still.kept {W W' : World} (h : Still W W') (may : MemPlace → Prop) : W.keptBut W' may := by
  refine ⟨h.1, h.2.1, fun i hi => ?_⟩
  have := (World.keptBut_refl W may).2.2 i hi
  rw [h.2.2.2 i hi]
  exact this
theorem Still.cell {W W' : World} (h : Still W W') {a : Addr} (ha : a.block < W.heap.size) : W'.cell? a = W.cell? a := by
  unfold World.cell?
  rw [h.2.2.2 _ ha]
theorem Still.frozen {W W' : World} (h : Still W W') {a : Addr} (ha : a.block < W.heap.size) : W'.frozen? a = W.frozen? a := by
  unfold World.frozen?
  rw [h.2.2.2 _ ha]
theorem Still.same {W W' : World} (h : Still W W') {p : MemPlace} (hp : p.block < W.heap.size) : W.sameAt W' p := by
  cases p with
  | cell b o => exact h.cell (a := ⟨b, o, none⟩) hp
  | map b => exact h.2.2.2 b hp

section
variable {H : Type} {enc : TypeId × Value → H} {P : Program}
theorem trodAll_stays {W W' : World} (hl : laidOutB P = true) {sp' : Nat → Bool} : ∀ {ts : List TypeId} {vs : List Value} {ds : List (DataW H)} {ps : List MemPlace}, (∀ t ∈ ts, P.readableRec t = true ∧ t < P.types.size) →
    DataW.TrodAll enc P W 0 (fun _ => true) true ts vs ds ps → (∀ p ∈ ps, W.sameAt W' p) → (∀ p ∈ ps, sp' p.block = true) → DataW.TrodAll enc P W' 0 sp' true ts vs ds ps
  | [], [], [], _, _, h, _, _ => h
  | t :: ts, v :: vs, d :: ds, ps, ht, ⟨p, q, h1, h2, e⟩, hs, hsp => by
    have hm : ∀ x, x ∈ p → x ∈ ps := fun x hx => by rw [e]; exact List.mem_append_left _ hx
    have hm' : ∀ x, x ∈ q → x ∈ ps := fun x hx => by rw [e]; exact List.mem_append_right _ hx
    exact ⟨p, q, WideElems.Trod_stays hl (ht t (List.mem_cons_self ..)).1 (ht t (List.mem_cons_self ..)).2 h1 (fun x hx => hs x (hm x hx)) (fun x hx => hsp x (hm x hx)),
      trodAll_stays hl (fun t' h' => ht t' (List.mem_cons_of_mem _ h')) h2 (fun x hx => hs x (hm' x hx)) (fun x hx => hsp x (hm' x hx)), e⟩
/-- What the statement of a law asks behind the call. -/
theorem post_of_still {f : Func} {s : ChangeSpec} {apart fresh handsOn again : Bool} {W W' : World} {args : Array Value} {ds gs : List (DataW H)} {before : List MemPlace} {tb : TypeId}
    (hW : DataW.Whole enc P f.params.toList s.vars apart W args.toList ds gs before) (hvars : s.vars = []) (hspec : s.fn H ds = { results := [.lit (.bool true)], args := ds })
    (hl : laidOutB P = true) (hr : ∀ t ∈ f.params.toList, P.readableRec t = true ∧ t < P.types.size) (hres : f.resultTypes = #[tb]) (htb : P.underlying tb = some .bool) (hs : Still W W') :
    s.post enc P f apart fresh handsOn again W args (.bool true) W' := by
  have hlt := hW.lt
  obtain ⟨p, q, hA, hV, e, hz, hn⟩ := id hW
  rw [hvars] at hV
  obtain ⟨rfl, rfl⟩ := trodVars_none hV
  simp only [List.append_nil] at e
  subst e
  have hA' : ∀ sp' : Nat → Bool, (∀ x ∈ before, sp' x.block = true) → DataW.TrodAll enc P W' 0 sp' true f.params.toList args.toList ds before := fun sp' h' =>
    trodAll_stays hl hr hA (fun x hx => hs.same (hlt x hx)) h'
  have hR : ∀ (b : Nat) (sp : Nat → Bool) (hd : Bool), DataW.TrodAll enc P W' b sp hd f.resultTypes.toList ((Value.bool true).resultList f.resultTypes.size) (s.fn H (ds ++ [])).results [] := by
    intro b sp hd
    rw [hres, List.append_nil, hspec]
    exact trodAll_cons_mk (shut_bool htb _) trodAll_mk0
  have hargs : (s.fn H (ds ++ [])).args = ds := by rw [List.append_nil, hspec]
  have hvs : (s.fn H (ds ++ [])).vars = [] := by rw [List.append_nil, hspec]
  have hTV : ∀ sp : Nat → Bool, DataW.TrodVars enc P W' sp s.vars (s.fn H (ds ++ [])).vars [] := by
    intro sp; rw [hvs, hvars]; rfl
  have hB : ∀ sp' : Nat → Bool, (∀ x ∈ before, sp' x.block = true) → DataW.TrodAll enc P W' 0 sp' true f.params.toList args.toList (s.fn H (ds ++ [])).args before := fun sp' h' => by rw [hargs]; exact hA' sp' h'
  have hold : ∀ x ∈ before, (fun b => decide (b < W.heap.size)) x.block = true := fun x hx => by simpa using hlt x hx
  refine ⟨ds, [], before, [], before, [], hW, hR _ _ _, hB _ hold, hTV _, World.keptBut_mono (fun x hx => ⟨hx, by simpa using hx⟩) (hs.kept (· ∈ before)), fun _ => ?_⟩
  refine ⟨ok_one hres rfl (okWide_bool_mk htb _), _, _, ([] ++ before) ++ [], ⟨[] ++ before, [], trodAll_append (hB _ (fun _ _ => rfl)) (hR _ _ _), hTV _, rfl, ?_, ?_⟩, ?_⟩
  · intro b off hp
    have hp' : MemPlace.cell b off ∈ before := by simpa using hp
    have := hs.frozen (a := ⟨b, off, none⟩) (hlt _ hp')
    rw [this]
    exact hz b off hp'
  · intro ha; simpa using hn ha
  · intro x hx _; simpa using hx
end

/-! Arguments. -/
/-- A slice whose cells read so. -/
def SlOk (W : World) (v : Value) (d : Data) : Prop :=
  ∃ a cp, v = .slice a d.len cp ∧ d.len ≤ cp ∧ (cp = 0 ∨ ∃ L : Loc, a = some (at' L.c L.base) ∧ cp ≤ L.room ∧ ROk (fun _ => none) d L W)
theorem cell_lt {w : World} {a : Addr} {v : Value} (h : w.cell? a = some v) : a.block < w.heap.size := by
  unfold World.cell? at h
  rcases Nat.lt_or_ge a.block w.heap.size with h' | h'
  · exact h'
  · rw [Array.getElem?_eq_none h'] at h; cases h
section
variable {H : Type} {enc : TypeId × Value → H} {P : Program} {W : World} {base : Nat}
theorem open_sl {t e : TypeId} {k : IntKind} {r : Reach} {v : Value} {dd : DataW H} {ps : List MemPlace} (ht : P.underlying t = some (.slice e)) (he : P.underlying e = some (.int k)) (hc : P.cellsOf e = 1)
    (hval : Value.okWide P W r base t v) (h : DataW.Trod enc P W 0 (fun _ => true) true t v dd ps) (mk : List Int → Data) (hlen : ∀ zs, (mk zs).len = zs.length)
    (hat : ∀ (zs : List Int) (i : Nat) x, (∀ n ∈ zs, (Lit.int k n).wf = true) → (mk zs).at i = some x → i < zs.length ∧ VRel (fun _ => none) x (.int k (zs.getD i 0))) :
    ∃ zs : List Int, SlOk W v (mk zs) ∧ zs.length ≤ maxLen := by
  obtain ⟨a1, len, cap, rfl⟩ := okWide_slice ht hval
  obtain ⟨fuel, hf⟩ := h
  rcases open_ints ht he hc hf with ⟨hcs, hx⟩ | ⟨a, len', cap', zs, hcs, _, hl, hm, hz, hx, hcell, hwz⟩
  · simp [Value.cells] at hcs
    obtain ⟨rfl, rfl, rfl⟩ := hcs
    exact ⟨[], ⟨none, 0, by rw [hlen]; rfl, by rw [hlen]; exact Nat.le_refl _, .inl rfl⟩, Nat.zero_le _⟩
  · simp [Value.cells] at hcs
    obtain ⟨rfl, rfl, rfl⟩ := hcs
    simp only [if_true] at hz
    have hl2 : (mk (zs.take len)).len = len := by rw [hlen, List.length_take]; omega
    refine ⟨zs.take len, ⟨some a, cap, by rw [hl2], by rw [hl2]; exact hl, ?_⟩, by rw [List.length_take]; omega⟩
    by_cases hc0 : cap = 0
    · exact .inl hc0
    right
    have h0 := hcell 0 (by omega)
    have hspot : a.spot = none := by simpa [Addr.add] using World.cell?_spot h0
    have hlt : a.block < W.heap.size := by have := cell_lt h0; simpa [Addr.add] using this
    refine ⟨⟨a.block, a.off, cap⟩, by cases a; simp_all [at'], Nat.le_refl _, hlt, by rw [hl2]; exact hl, fun i x hx => ?_⟩
    obtain ⟨hi, hr⟩ := hat (zs.take len) i x (fun n hn => hwz n (List.mem_of_mem_take hn)) hx
    rw [List.length_take] at hi
    have hci := hcell i (by omega)
    have e1 : (a.add i) = at' a.block (a.off + i) := by
      unfold Addr.add at'
      split
      · rename_i h0; subst h0; cases a; simp_all
      · cases a; simp
    have e2 : (zs.take len).getD i 0 = zs.getD i 0 := by simp [List.getD, show i < len by omega]
    rw [e1] at hci
    exact ⟨_, hci, by rw [e2] at hr; exact hr⟩
theorem at_map {α : Type} {f : α → AV} {l : List α} {i : Nat} {x : AV} (h : (l[i]?).map f = some x) : ∃ y, l[i]? = some y ∧ x = f y := by
  rw [Option.map_eq_some_iff] at h
  obtain ⟨y, h1, h2⟩ := h
  exact ⟨y, h1, h2.symm⟩
theorem getD_of {zs : List Int} {i : Nat} {z : Int} (h : zs[i]? = some z) : zs.getD i 0 = z := by simp [List.getD, h]
theorem val8 {z : Int} (h : (Lit.int .u8 z).wf = true) : (Num.w8 (BitVec.ofInt 8 z)).val = .int .u8 z := by
  have := bounds_u8 h
  show Value.int .u8 ((BitVec.ofInt 8 z).toNat : Int) = _
  congr 1
  rw [BitVec.toNat_ofInt]; omega
theorem val32 {z : Int} (h : (Lit.int .u32 z).wf = true) : (Num.w32 (BitVec.ofInt 32 z)).val = .int .u32 z := by
  have := bounds_u32 h
  show Value.int .u32 ((BitVec.ofInt 32 z).toNat : Int) = _
  congr 1
  rw [BitVec.toNat_ofInt]; omega
theorem val64 {z : Int} (h : (Lit.int .u64 z).wf = true) : (Num.w64 (BitVec.ofInt 64 z)).val = .int .u64 z := by
  have := bounds_u64 h
  show Value.int .u64 ((BitVec.ofInt 64 z).toNat : Int) = _
  congr 1
  rw [BitVec.toNat_ofInt]; omega
theorem open_sl8 {t e : TypeId} {r : Reach} {v : Value} {dd : DataW H} {ps : List MemPlace} (ht : P.underlying t = some (.slice e)) (he : P.underlying e = some (.int .u8)) (hc : P.cellsOf e = 1)
    (hval : Value.okWide P W r base t v) (h : DataW.Trod enc P W 0 (fun _ => true) true t v dd ps) : ∃ l : Vec 8, SlOk W v (.b8 l) ∧ l.n ≤ maxLen := by
  obtain ⟨zs, h1, h2⟩ := open_sl ht he hc hval h (fun zs => .b8 (Vec.of (zs.map (BitVec.ofInt 8)))) (fun zs => by simp [Data.len, Vec.of]) (fun zs i x hw hx => by
    simp only [Data.at, Vec.of] at hx
    obtain ⟨y, hy, rfl⟩ := at_map hx
    rw [List.getElem?_map, Option.map_eq_some_iff] at hy
    obtain ⟨z, hz, rfl⟩ := hy
    refine ⟨(List.getElem?_eq_some_iff.1 hz).1, ?_⟩
    rw [getD_of hz, ← val8 (hw z (List.mem_of_getElem? hz))]
    exact .num _)
  exact ⟨_, h1, by simpa [Vec.of] using h2⟩
theorem open_sl32 {t e : TypeId} {r : Reach} {v : Value} {dd : DataW H} {ps : List MemPlace} (ht : P.underlying t = some (.slice e)) (he : P.underlying e = some (.int .u32)) (hc : P.cellsOf e = 1)
    (hval : Value.okWide P W r base t v) (h : DataW.Trod enc P W 0 (fun _ => true) true t v dd ps) : ∃ l : Vec 32, SlOk W v (.b32 l) ∧ l.n ≤ maxLen := by
  obtain ⟨zs, h1, h2⟩ := open_sl ht he hc hval h (fun zs => .b32 (Vec.of (zs.map (BitVec.ofInt 32)))) (fun zs => by simp [Data.len, Vec.of]) (fun zs i x hw hx => by
    simp only [Data.at, Vec.of] at hx
    obtain ⟨y, hy, rfl⟩ := at_map hx
    rw [List.getElem?_map, Option.map_eq_some_iff] at hy
    obtain ⟨z, hz, rfl⟩ := hy
    refine ⟨(List.getElem?_eq_some_iff.1 hz).1, ?_⟩
    rw [getD_of hz, ← val32 (hw z (List.mem_of_getElem? hz))]
    exact .num _)
  exact ⟨_, h1, by simpa [Vec.of] using h2⟩
theorem open_sl64 {t e : TypeId} {r : Reach} {v : Value} {dd : DataW H} {ps : List MemPlace} (ht : P.underlying t = some (.slice e)) (he : P.underlying e = some (.int .u64)) (hc : P.cellsOf e = 1)
    (hval : Value.okWide P W r base t v) (h : DataW.Trod enc P W 0 (fun _ => true) true t v dd ps) : ∃ l : Vec 64, SlOk W v (.b64 l) ∧ l.n ≤ maxLen := by
  obtain ⟨zs, h1, h2⟩ := open_sl ht he hc hval h (fun zs => .b64 (Vec.of (zs.map (BitVec.ofInt 64)))) (fun zs => by simp [Data.len, Vec.of]) (fun zs i x hw hx => by
    simp only [Data.at, Vec.of] at hx
    obtain ⟨y, hy, rfl⟩ := at_map hx
    rw [List.getElem?_map, Option.map_eq_some_iff] at hy
    obtain ⟨z, hz, rfl⟩ := hy
    refine ⟨(List.getElem?_eq_some_iff.1 hz).1, ?_⟩
    rw [getD_of hz, ← val64 (hw z (List.mem_of_getElem? hz))]
    exact .num _)
  exact ⟨_, h1, by simpa [Vec.of] using h2⟩
/-- An array of numbers. -/
theorem open_arr {t e : TypeId} {k : IntKind} {n : Nat} {r : Reach} {v : Value} {dd : DataW H} {ps : List MemPlace} (ht : P.underlying t = some (.array n e)) (he : P.underlying e = some (.int k)) (hc : P.cellsOf e = 1) (hct : P.cellsOf t = n)
    (hval : Value.okWide P W r base t v) (h : DataW.Trod enc P W 0 (fun _ => true) true t v dd ps) :
    ∃ z : Nat → Int, v = .agg ⟨(List.range n).map fun i => .int k (z i)⟩ ∧ ∀ i, i < n → (Lit.int k (z i)).wf = true := by
  have hv : ∃ cs : Array Value, v = .agg cs := by
    simp only [Value.okWide, ht] at hval
    obtain ⟨cs, h1, _⟩ := hval
    exact ⟨cs, h1⟩
  obtain ⟨cs, rfl⟩ := hv
  obtain ⟨fuel, hf⟩ := h
  obtain ⟨xs, m, _, _, hl, hxl, hel⟩ := DataW.trod_array ht hf
  have hcell : ∀ i, i < n → ∃ z, cs.toList[i]? = some (.int k z) ∧ (Lit.int k z).wf = true := by
    intro i hi
    have hE := hel i hi
    rw [hc, Nat.mul_one, List.getElem?_eq_getElem (by omega)] at hE
    obtain ⟨z, e1, _, e3⟩ := DataW.trod_int he hE
    refine ⟨z, ?_, e3⟩
    have e0 : ((cs.toList.drop i).take 1)[0]? = some (.int k z) := by
      have : (Value.agg cs).cells.toList = cs.toList := rfl
      rw [this] at e1; rw [e1]; rfl
    simpa using e0
  have hlen : cs.toList.length = n := by
    have e1 : (Value.agg cs).cells.toList = cs.toList := rfl
    rw [e1] at hl
    rw [hl, hct]
  refine ⟨fun i => match cs.toList[i]? with | some (.int _ z) => z | _ => 0, ?_, fun i hi => ?_⟩
  · congr 1
    apply Array.ext'
    apply List.ext_getElem?
    intro i
    rcases Nat.lt_or_ge i n with hi | hi
    · obtain ⟨z, hz, _⟩ := hcell i hi
      rw [hz, List.getElem?_map, List.getElem?_range hi]
      simp only [Option.map_some, hz]
    · rw [List.getElem?_eq_none (by omega), List.getElem?_eq_none (by simpa using hi)]
  · obtain ⟨z, hz, hw⟩ := hcell i hi
    simp only [hz]; exact hw
end
end Go.Eng
/- A law's run, from arguments that came in. -/
namespace Go.Eng
set_option linter.unusedSectionVars false
variable [RowAddr]
open Go.ChangeShapes Go.WideShapes Go.RowKit
def noGlob : Nat → Option (List AV) := fun _ => none
def Good (W : World) (p : Value × Data) (o : Option Loc) : Prop :=
  ∃ a cp, p.1 = .slice a p.2.len cp ∧ p.2.len ≤ cp ∧ ((cp = 0 ∧ o = none) ∨ ∃ L : Loc, o = some L ∧ a = some (at' L.c L.base) ∧ cp ≤ L.room ∧ ROk (fun _ => none) p.2 L W)
theorem SlOk.good {W : World} {v : Value} {d : Data} (h : SlOk W v d) : ∃ o, Good W (v, d) o := by
  obtain ⟨a, cp, h1, h2, h3 | ⟨L, h3, h4, h5⟩⟩ := h
  · exact ⟨none, a, cp, h1, h2, .inl ⟨h3, rfl⟩⟩
  · exact ⟨some L, a, cp, h1, h2, .inr ⟨L, rfl, h3, h4, h5⟩⟩
theorem none_le (β : Map) : Map.le (fun _ => none) β := fun _ _ h => by cases h
theorem ROk.up {β : Map} {d : Data} {L : Loc} {w : World} (h : ROk (fun _ => none) d L w) : ROk β d L w :=
  ⟨h.1, h.2.1, fun i x hx => by obtain ⟨v, h1, h2⟩ := h.2.2 i x hx; exact ⟨v, h1, h2.mono (none_le β)⟩⟩
/-- The heap as a law finds it: slices that came in, read only. -/
theorem ro_heapG {G : Nat → Option (List AV)} {W : World} (hG : ∀ g l, G g = some l → gIx g < W.heap.size ∧ ∀ (i : Nat) x, l[i]? = some x → ∃ v, W.cell? (gAt g i) = some v ∧ VRel (fun _ => none) x v) (ss : List (Value × Data)) (h : ∀ p ∈ ss, SlOk W p.1 p.2) :
    ∃ β : Map, HRel G β (ss.map fun p => ⟨p.2, .ro⟩) W ∧ ∀ (i : Nat) v d, ss[i]? = some (v, d) → VRel β (.sl i (.c 0) (.s d.len) none) v := by
  have hex : ∀ i : Nat, ∃ o : Option Loc, (∀ p, ss[i]? = some p → Good W p o) ∧ (ss[i]? = none → o = none) := by
    intro i
    cases hs : ss[i]? with
    | none => exact ⟨none, fun p hp => (by cases hp), fun _ => rfl⟩
    | some p =>
      obtain ⟨o, ho⟩ := (h p (List.mem_of_getElem? hs)).good
      exact ⟨o, fun q hq => (by injection hq with hq; subst hq; exact ho), fun hn => (by cases hn)⟩
  refine ⟨fun i => Classical.choose (hex i), ?_, ?_⟩
  · have key : ∀ i, (∀ p, ss[i]? = some p → Good W p (Classical.choose (hex i))) ∧ (ss[i]? = none → Classical.choose (hex i) = none) := fun i => Classical.choose_spec (hex i)
    generalize hβ : (fun i => Classical.choose (hex i)) = β
    have key : ∀ i, (∀ p, ss[i]? = some p → Good W p (β i)) ∧ (ss[i]? = none → β i = none) := by rw [← hβ]; exact key
    have hget : ∀ (b : Nat) k, (ss.map fun p => (⟨p.2, .ro⟩ : Blk))[b]? = some k → ∃ p, ss[b]? = some p ∧ k = ⟨p.2, .ro⟩ := by
      intro b k hk
      rw [List.getElem?_map, Option.map_eq_some_iff] at hk
      obtain ⟨p, h1, h2⟩ := hk
      exact ⟨p, h1, h2.symm⟩
    refine ⟨fun b k hk _ => ?_, fun b b' k k' L L' _ hk _ ho => ?_, fun b L hL => ?_, hG, fun b k L hk ho => ?_⟩
    · obtain ⟨p, h1, rfl⟩ := hget b k hk
      obtain ⟨a, cp, _, g2, ⟨g3, g4⟩ | ⟨L, g3, g4, g5, g6⟩⟩ := (key b).1 p h1
      · exact .inr ⟨by simp only; omega, g4⟩
      · exact .inl ⟨L, g3, g6.up⟩
    · obtain ⟨p, _, rfl⟩ := hget b k hk
      cases ho
    · rcases Nat.lt_or_ge b ss.length with hb | hb
      · simpa using hb
      · rw [(key b).2 (List.getElem?_eq_none hb)] at hL; cases hL
    · obtain ⟨p, _, rfl⟩ := hget b k hk
      cases ho
  · intro i v d hi
    obtain ⟨a, cp, g1, g2, g3⟩ := (Classical.choose_spec (hex i)).1 (v, d) hi
    simp only at g1 g2
    rw [g1]
    refine .sl i (.c 0) (.s d.len) none a cp g2 (fun C hC => (by cases hC)) ?_
    rcases g3 with ⟨g3, _⟩ | ⟨L, g3, g4, g5, _⟩
    · exact .inl g3
    · exact .inr ⟨L, g3, by rw [g4]; rfl, by show 0 + cp ≤ L.room; omega⟩
theorem ro_heap {W : World} (ss : List (Value × Data)) (h : ∀ p ∈ ss, SlOk W p.1 p.2) :
    ∃ β : Map, HRel noGlob β (ss.map fun p => ⟨p.2, .ro⟩) W ∧ ∀ (i : Nat) v d, ss[i]? = some (v, d) → VRel β (.sl i (.c 0) (.s d.len) none) v := ro_heapG (fun g l hg => (by cases hg)) ss h
def verdict (r : Option (AV × St)) : Option (Bool × List Bool) :=
  match r with
  | some (.atom (.bool b), S) => some (b.v, S.cond)
  | _ => none
theorem verdict_inv {r : Option (AV × St)} {b : Bool} {cs : List Bool} (h : verdict r = some (b, cs)) : ∃ (x : B) (S : St), r = some (.atom (.bool x), S) ∧ x.v = b ∧ S.cond = cs := by
  unfold verdict at h
  split at h
  · rename_i x S
    simp only [Option.some.injEq, Prod.mk.injEq] at h
    exact ⟨x, S, rfl, h.1, h.2⟩
  · cases h
/-- A law whose run says true. -/
theorem run_law {P : Program} {G : Nat → Option (List AV)} {call : CallF} (hcall : CallOk P G call) {f : FuncId} {args : List AV} {vs : List Value} {β : Map} {H : List Blk} {W : World} {dec cs : List Bool} {b : Bool}
    (hrun : verdict (call f args ⟨H, big, dec, []⟩) = some (b, cs)) (hb : b = true) (hcs : ∀ x ∈ cs, x = true) (hargs : LRel β args vs) (hH : HRel G β H W) (hro : ∀ (b : Nat) k, H[b]? = some k → k.mode ≠ .own) :
    Calls P f ⟨vs⟩ W fun e W' => e = .returned (.bool true) ∧ Still W W' := by
  obtain ⟨x, S, h1, h2, h3⟩ := verdict_inv hrun
  obtain ⟨_, g⟩ := hcall _ _ _ _ _ h1
  obtain ⟨_, hc⟩ := g (fun y hy => hcs y (by rw [← h3]; exact hy)) β W vs hargs hH
  refine hc.mono ?_
  rintro e w' ⟨u, β', rfl, q1, _, q3⟩
  refine ⟨by rw [q1.bool_inv, h2, hb], q3.os, q3.output, q3.size, fun c hc => q3.kept c hc ?_⟩
  rintro ⟨b', k, L, hk, ho, _⟩
  exact hro b' k hk ho
/-! Slices of a known length. -/
theorem SlOk.gen8 {W : World} {v : Value} {l : Vec 8} {m : Nat} (h : SlOk W v (.b8 l)) (hm : l.n = m) : SlOk W v (.gen ((List.range m).map fun i => .w8 (l.l.getD i 0#8))) := by
  subst hm
  obtain ⟨a, cp, h1, h2, h3⟩ := h
  have e : (Data.gen ((List.range l.n).map fun i => .w8 (l.l.getD i 0#8))).len = l.n := by simp [Data.len]
  refine ⟨a, cp, by rw [e]; exact h1, by rw [e]; exact h2, ?_⟩
  rcases h3 with h3 | ⟨L, g1, g2, g3, g4, g5⟩
  · exact .inl h3
  · refine .inr ⟨L, g1, g2, g3, by rw [e]; exact g4, fun i x hx => g5 i x ?_⟩
    have hl := l.h
    rcases Nat.lt_or_ge i l.n with hi | hi
    · simp [Data.at, hi] at hx
      subst hx
      simp [Data.at, show i < l.l.length by omega]
    · simp [Data.at, show ¬ i < l.n by omega] at hx
theorem rel_sl {β : Map} {i : Nat} {v : Value} {d : Data} {n : Nat} (h : VRel β (.sl i (.c 0) (.s d.len) none) v) (hn : d.len = n) : VRel β (.sl i (.c 0) (.c n) none) v := by
  subst hn
  cases h with
  | sl _ _ _ _ a cp h1 h2 h3 => exact .sl i (.c 0) (.c d.len) none a cp h1 h2 h3
/-! Values that came in. -/
theorem rel_int {β : Map} (k : IntKind) (n : Int) : VRel β (.int k (.s n)) (.int k n) := .num (.int k (.s n))
theorem rel_bool {β : Map} (b : Bool) : VRel β (.bool (.s b)) (.bool b) := .bool (.s b)
theorem rel_w8 {β : Map} {n : Int} (h : (Lit.int .u8 n).wf = true) : VRel β (.w8 (BitVec.ofInt 8 n)) (.int .u8 n) := by rw [← val8 h]; exact .num _
theorem rel_w32 {β : Map} {n : Int} (h : (Lit.int .u32 n).wf = true) : VRel β (.w32 (BitVec.ofInt 32 n)) (.int .u32 n) := by rw [← val32 h]; exact .num _
theorem rel_w64 {β : Map} {n : Int} (h : (Lit.int .u64 n).wf = true) : VRel β (.w64 (BitVec.ofInt 64 n)) (.int .u64 n) := by rw [← val64 h]; exact .num _
theorem rel_arr {β : Map} {n : Nat} {x : Nat → AV} {v : Nat → Value} (h : ∀ i, i < n → VRel β (x i) (v i)) : VRel β (.agg ((List.range n).map x)) (.agg ⟨(List.range n).map v⟩) := by
  refine .agg _ _ (by simp) fun i a b ha hb => ?_
  rw [List.getElem?_map, Option.map_eq_some_iff] at ha hb
  obtain ⟨j, h1, rfl⟩ := ha
  obtain ⟨j', h2, rfl⟩ := hb
  rw [h1] at h2; injection h2 with h2; subst h2
  have := List.getElem?_eq_some_iff.1 h1
  obtain ⟨hi, hj⟩ := this
  simp at hi hj
  exact h j (by omega)
/-- A law's run over slices that came in. -/
theorem law_run {P : Program} {call : CallF} (hcall : CallOk P noGlob call) {f : FuncId} {args : List AV} {vs : List Value} (ss : List (Value × Data)) {W : World} {dec cs : List Bool} (hss : ∀ p ∈ ss, SlOk W p.1 p.2)
    (hrun : verdict (call f args ⟨ss.map fun p => ⟨p.2, .ro⟩, big, dec, []⟩) = some (true, cs)) (hcs : ∀ x ∈ cs, x = true)
    (hargs : ∀ β, (∀ (i : Nat) v d, ss[i]? = some (v, d) → VRel β (.sl i (.c 0) (.s d.len) none) v) → LRel β args vs) :
    Calls P f ⟨vs⟩ W fun e W' => e = .returned (.bool true) ∧ Still W W' := by
  obtain ⟨β, hH, hv⟩ := ro_heap (W := W) ss hss
  refine run_law hcall hrun rfl hcs (hargs β hv) hH (fun b k hk => ?_)
  rw [List.getElem?_map, Option.map_eq_some_iff] at hk
  obtain ⟨p, _, rfl⟩ := hk
  intro h; cases h
/-- The same, where package variables are read. -/
theorem law_runG {P : Program} {G : Nat → Option (List AV)} {call : CallF} (hcall : CallOk P G call) {f : FuncId} {args : List AV} {vs : List Value} (ss : List (Value × Data)) {W : World} (hG : ∀ g l, G g = some l → gIx g < W.heap.size ∧ ∀ (i : Nat) x, l[i]? = some x → ∃ v, W.cell? (gAt g i) = some v ∧ VRel (fun _ => none) x v) {dec cs : List Bool} (hss : ∀ p ∈ ss, SlOk W p.1 p.2)
    (hrun : verdict (call f args ⟨ss.map fun p => ⟨p.2, .ro⟩, big, dec, []⟩) = some (true, cs)) (hcs : ∀ x ∈ cs, x = true)
    (hargs : ∀ β, (∀ (i : Nat) v d, ss[i]? = some (v, d) → VRel β (.sl i (.c 0) (.s d.len) none) v) → LRel β args vs) :
    Calls P f ⟨vs⟩ W fun e W' => e = .returned (.bool true) ∧ Still W W' := by
  obtain ⟨β, hH, hv⟩ := ro_heapG (W := W) hG ss hss
  refine run_law hcall hrun rfl hcs (hargs β hv) hH (fun b k hk => ?_)
  rw [List.getElem?_map, Option.map_eq_some_iff] at hk
  obtain ⟨p, _, rfl⟩ := hk
  intro h; cases h
theorem ss_nil {W : World} : ∀ p ∈ ([] : List (Value × Data)), SlOk W p.1 p.2 := fun p hp => by cases hp
theorem ss_cons {W : World} {v : Value} {d : Data} {ss : List (Value × Data)} (h : SlOk W v d) (k : ∀ p ∈ ss, SlOk W p.1 p.2) : ∀ p ∈ (v, d) :: ss, SlOk W p.1 p.2 := by
  intro p hp
  rcases List.mem_cons.1 hp with rfl | hp
  · exact h
  · exact k p hp
end Go.Eng
/- Values fitted to a pattern. -/
namespace Go.Eng
set_option linter.unusedSectionVars false
variable [RowAddr]
theorem fit32 : ∀ {xs : List AV} {ys : List (BitVec 32)}, mapOpt AV.bv32 xs = some ys → cL (ys.map fun y => .w32 y) xs = some (ys.map fun y => .w32 y)
  | [], ys, h => by simp [mapOpt] at h; subst h; rfl
  | x :: xs, ys, h => by
    simp only [mapOpt] at h
    split at h
    · cases h
    · rename_i y hy
      split at h
      · cases h
      · rename_i zs hz
        injection h with h; subst h
        simp only [List.map_cons, cL, cV, cNum, hy, Option.map_some, fit32 hz]
theorem fit64 : ∀ {xs : List AV} {ys : List (BitVec 64)}, mapOpt AV.bv64 xs = some ys → cL (ys.map fun y => .w64 y) xs = some (ys.map fun y => .w64 y)
  | [], ys, h => by simp [mapOpt] at h; subst h; rfl
  | x :: xs, ys, h => by
    simp only [mapOpt] at h
    split at h
    · cases h
    · rename_i y hy
      split at h
      · cases h
      · rename_i zs hz
        injection h with h; subst h
        simp only [List.map_cons, cL, cV, cNum, hy, Option.map_some, fit64 hz]
theorem fit8 : ∀ {xs : List AV} {ys : List (BitVec 8)}, mapOpt AV.bv8 xs = some ys → cL (ys.map fun y => .w8 y) xs = some (ys.map fun y => .w8 y)
  | [], ys, h => by simp [mapOpt] at h; subst h; rfl
  | x :: xs, ys, h => by
    simp only [mapOpt] at h
    split at h
    · cases h
    · rename_i y hy
      split at h
      · cases h
      · rename_i zs hz
        injection h with h; subst h
        simp only [List.map_cons, cL, cV, cNum, hy, Option.map_some, fit8 hz]
def isDead (m : Mode) : Bool :=
  match m with
  | .dead => true
  | _ => false
/-- Rows of words whose number is known. -/
def c8 (n : Nat) (f : Nat → BitVec 8) : List AV := (List.range n).map fun i => .w8 (f i)
def c32 (n : Nat) (f : Nat → BitVec 32) : List AV := (List.range n).map fun i => .w32 (f i)
def c64 (n : Nat) (f : Nat → BitVec 64) : List AV := (List.range n).map fun i => .w64 (f i)
def gen8 (n : Nat) (d : Data) : Option (Nat → BitVec 8) :=
  match d with
  | .gen xs =>
    match mapOpt AV.bv8 xs with
    | some l =>
      match Nat.beq l.length n with
      | true => some fun i => l.getD i 0#8
      | false => none
    | none => none
  | _ => none
def gen32 (n : Nat) (d : Data) : Option (Nat → BitVec 32) :=
  match d with
  | .gen xs =>
    match mapOpt AV.bv32 xs with
    | some l =>
      match Nat.beq l.length n with
      | true => some fun i => l.getD i 0#32
      | false => none
    | none => none
  | _ => none
def gen64 (n : Nat) (d : Data) : Option (Nat → BitVec 64) :=
  match d with
  | .gen xs =>
    match mapOpt AV.bv64 xs with
    | some l =>
      match Nat.beq l.length n with
      | true => some fun i => l.getD i 0#64
      | false => none
    | none => none
  | _ => none
theorem range_getD {α β : Type} (l : List α) (d : α) (h : α → β) : (List.range l.length).map (fun i => h (l.getD i d)) = l.map h := by
  apply List.ext_getElem (by simp)
  intro i h1 h2
  simp at h1
  simp [h1]
theorem gen8_fit {n : Nat} {d : Data} {f : Nat → BitVec 8} (h : gen8 n d = some f) : cD (.gen (c8 n f)) d = some (.gen (c8 n f)) := by
  unfold gen8 at h
  split at h
  · split at h
    · rename_i l hl
      split at h
      · rename_i hn
        have hn : l.length = n := by simpa using hn
        injection h with h; subst h; subst hn
        have e : c8 l.length (fun i => l.getD i 0#8) = l.map fun y => .w8 y := range_getD l 0#8 (AV.w8 ·)
        rw [e]; simp only [cD, fit8 hl, Option.map_some]
      · cases h
    · cases h
  · cases h
theorem gen32_fit {n : Nat} {d : Data} {f : Nat → BitVec 32} (h : gen32 n d = some f) : cD (.gen (c32 n f)) d = some (.gen (c32 n f)) := by
  unfold gen32 at h
  split at h
  · split at h
    · rename_i l hl
      split at h
      · rename_i hn
        have hn : l.length = n := by simpa using hn
        injection h with h; subst h; subst hn
        have e : c32 l.length (fun i => l.getD i 0#32) = l.map fun y => .w32 y := range_getD l 0#32 (AV.w32 ·)
        rw [e]; simp only [cD, fit32 hl, Option.map_some]
      · cases h
    · cases h
  · cases h
theorem gen64_fit {n : Nat} {d : Data} {f : Nat → BitVec 64} (h : gen64 n d = some f) : cD (.gen (c64 n f)) d = some (.gen (c64 n f)) := by
  unfold gen64 at h
  split at h
  · split at h
    · rename_i l hl
      split at h
      · rename_i hn
        have hn : l.length = n := by simpa using hn
        injection h with h; subst h; subst hn
        have e : c64 l.length (fun i => l.getD i 0#64) = l.map fun y => .w64 y := range_getD l 0#64 (AV.w64 ·)
        rw [e]; simp only [cD, fit64 hl, Option.map_some]
      · cases h
    · cases h
  · cases h
/-- A row's words, as they come back out of the row. -/
def nf8 (n : Nat) (f : Nat → BitVec 8) : Nat → BitVec 8 := fun i => ((List.range n).map f).getD i 0#8
def nf32 (n : Nat) (f : Nat → BitVec 32) : Nat → BitVec 32 := fun i => ((List.range n).map f).getD i 0#32
def nf64 (n : Nat) (f : Nat → BitVec 64) : Nat → BitVec 64 := fun i => ((List.range n).map f).getD i 0#64
theorem nf8_lt {n i : Nat} (f : Nat → BitVec 8) (h : i < n) : nf8 n f i = f i := by simp [nf8, h]
theorem nf32_lt {n i : Nat} (f : Nat → BitVec 32) (h : i < n) : nf32 n f i = f i := by simp [nf32, h]
theorem nf64_lt {n i : Nat} (f : Nat → BitVec 64) (h : i < n) : nf64 n f i = f i := by simp [nf64, h]
/-- One contract or another. -/
def orSpec (a b : Spec) : Spec := fun args H dec =>
  match a args H dec with
  | some r => some r
  | none => b args H dec
theorem SpecOk.or {P : Program} {G : Nat → Option (List AV)} {f : FuncId} {a b : Spec} (ha : SpecOk P G f a) (hb : SpecOk P G f b) : SpecOk P G f (orSpec a b) := by
  intro args H dec r hr
  unfold orSpec at hr
  split at hr
  · rename_i r' h
    injection hr with hr; subst hr
    exact ha args H dec _ h
  · exact hb args H dec r hr
/-- Two rows of words, compared as the interpreter does it. -/
def chain {w : Nat} : List (BitVec w) → List (BitVec w) → Bool
  | x :: xs, y :: ys => (x == y) && chain xs ys
  | _, _ => true
theorem chain_self {w : Nat} : ∀ l : List (BitVec w), chain l l = true
  | [] => rfl
  | x :: xs => by simp [chain, chain_self xs]
end Go.Eng
/- Loops of a function, by their number. -/
namespace Go.Eng
set_option linter.unusedSectionVars false
variable [RowAddr]
set_option linter.unusedSimpArgs false
set_option linter.unusedVariables false
theorem codeOk_loop {P : Program} {nt : Nat} {dyn : Nat → Bool} : ∀ (n : Nat) (c : Code), codeOk P nt dyn n c = true → ∀ k, ∀ b ∈ loopsOf k c, ∃ m, codeOk P nt dyn m b = true := by
  intro n
  induction n with
  | zero => intro c h; simp [codeOk] at h
  | succ n ih =>
    intro c h k b hb
    cases k with
    | zero => simp [loopsOf] at hb
    | succ k =>
      cases c with
      | seq x y =>
        simp only [codeOk] at h
        split at h
        · rename_i hx
          simp only [loopsOf, List.mem_append] at hb
          rcases hb with hb | hb
          · exact ih x hx k b hb
          · exact ih y h k b hb
        · cases h
      | cond t x y =>
        simp only [codeOk] at h
        split at h
        · rename_i hx
          simp only [loopsOf, List.mem_append] at hb
          rcases hb with hb | hb
          · exact ih x hx k b hb
          · exact ih y h k b hb
        · cases h
      | block i x =>
        simp only [codeOk] at h
        simp only [loopsOf] at hb
        exact ih x h k b hb
      | loop x =>
        simp only [codeOk] at h
        simp only [loopsOf, List.mem_cons] at hb
        rcases hb with rfl | hb
        · exact ⟨n, h⟩
        · exact ih x h k b hb
      | _ => simp [loopsOf] at hb
theorem loopsOf_in : ∀ (k : Nat) (c b : Code), b ∈ loopsOf k c → ∀ k2, ∀ b2 ∈ loopsOf k2 b, ∃ k3, b2 ∈ loopsOf k3 c := by
  intro k
  induction k with
  | zero => intro c b h; simp [loopsOf] at h
  | succ k ih =>
    intro c b h k2 b2 h2
    cases c with
    | seq x y =>
      simp only [loopsOf, List.mem_append] at h
      rcases h with h | h
      · obtain ⟨k3, h3⟩ := ih x b h k2 b2 h2
        exact ⟨k3 + 1, by simp only [loopsOf, List.mem_append]; exact .inl h3⟩
      · obtain ⟨k3, h3⟩ := ih y b h k2 b2 h2
        exact ⟨k3 + 1, by simp only [loopsOf, List.mem_append]; exact .inr h3⟩
    | cond t x y =>
      simp only [loopsOf, List.mem_append] at h
      rcases h with h | h
      · obtain ⟨k3, h3⟩ := ih x b h k2 b2 h2
        exact ⟨k3 + 1, by simp only [loopsOf, List.mem_append]; exact .inl h3⟩
      · obtain ⟨k3, h3⟩ := ih y b h k2 b2 h2
        exact ⟨k3 + 1, by simp only [loopsOf, List.mem_append]; exact .inr h3⟩
    | block i x =>
      simp only [loopsOf] at h
      obtain ⟨k3, h3⟩ := ih x b h k2 b2 h2
      exact ⟨k3 + 1, by simp only [loopsOf]; exact h3⟩
    | loop x =>
      simp only [loopsOf, List.mem_cons] at h
      rcases h with rfl | h
      · exact ⟨k2 + 1, by simp only [loopsOf, List.mem_cons]; exact .inr h2⟩
      · obtain ⟨k3, h3⟩ := ih x b h k2 b2 h2
        exact ⟨k3 + 1, by simp only [loopsOf, List.mem_cons]; exact .inr h3⟩
    | _ => simp [loopsOf] at h
def bodyIn (P : Program) (f : FuncId) : Code :=
  match P.funcs[f]? with
  | some fn =>
    match fn.body with
    | some c => c
    | none => .skip
  | none => .skip
def ntmpsIn (P : Program) (f : FuncId) : Nat :=
  match P.funcs[f]? with
  | some fn => fn.ntmps
  | none => 0
/-- The loops of a function. -/
def loopsIn (P : Program) (f : FuncId) : List Code := loopsOf 100 (bodyIn P f)
def loopIn (P : Program) (f i : Nat) : Code := (loopsIn P f).getD i .skip
theorem exec_loop {C : Cfg} {G : Nat → Option (List AV)} (hG : C.glob = G) {call : CallF} (hcall : CallOk C.P G call) (hm : MethOk C.P C.meth) (hmix : C.P.follows .mixedOrders = true) (hl : LoopsOk C G) {f : FuncId} (hf : fnOk C f = true) (fuel i : Nat) (hi : i < (loopsIn C.P f).length) :
    RunOk C.P G (C.nv f) (ntmpsIn C.P f) (loopIn C.P f i) (exec C fuel (loopIn C.P f i) ⟨call, C.nv f, C.keep f, C.dyn f, C.loop f⟩) := by
  have hmem : loopIn C.P f i ∈ loopsIn C.P f := by
    unfold loopIn
    rw [List.getD_eq_getElem?_getD, List.getElem?_eq_getElem hi]
    exact List.getElem_mem hi
  revert hmem
  generalize loopIn C.P f i = b
  intro hmem
  unfold fnOk at hf
  unfold loopsIn bodyIn at hmem
  unfold ntmpsIn
  split at hf
  · cases hf
  rename_i fn hfn
  split at hf
  · cases hf
  rename_i c hc
  split at hf
  · cases hf
  simp only [hfn, hc] at hmem ⊢
  obtain ⟨m, hmb⟩ := codeOk_loop _ _ hf _ _ hmem
  exact exec_ok (C := C) (G := G) (nt := fn.ntmps) hG (E := ⟨call, C.nv f, C.keep f, C.dyn f, C.loop f⟩) hcall hm hmix fuel m _ hmb (fun k b2 hb2 sp hsp => by
    obtain ⟨k3, h3⟩ := loopsOf_in _ _ _ hmem k b2 hb2
    exact hl f fn c hfn hc k3 b2 h3 sp hsp)
/-- All loops that are told, function by function. -/
theorem LoopsOk.of {C : Cfg} {G : Nat → Option (List AV)} (h : ∀ f, (∀ r, C.loop f r = Option.none) ∨ (depthOk 100 (bodyIn C.P f) = true ∧ ∀ i, i < (loopsIn C.P f).length → ∀ sp, (firstRid (loopIn C.P f i)).bind (C.loop f) = some sp → RunOk C.P G (C.nv f) (ntmpsIn C.P f) (.loop (loopIn C.P f i)) sp)) : LoopsOk C G := by
  intro f fn c hfn hc k b hb sp hsp
  have e1 : bodyIn C.P f = c := by simp only [bodyIn, hfn, hc]
  have e2 : ntmpsIn C.P f = fn.ntmps := by simp only [ntmpsIn, hfn]
  rcases h f with h | ⟨h1, h2⟩
  · cases hr : firstRid b with
    | none => rw [hr] at hsp; cases hsp
    | some r => rw [hr] at hsp; simp [h] at hsp
  · rw [e1] at h1
    have hm := loops_deep 100 c h1 k b hb
    obtain ⟨i, hi, rfl⟩ := List.getElem_of_mem hm
    have e3 : loopsIn C.P f = loopsOf 100 c := by simp only [loopsIn, e1]
    have e4 : loopIn C.P f i = (loopsOf 100 c)[i] := by
      unfold loopIn
      rw [e3, List.getD_eq_getElem?_getD, List.getElem?_eq_getElem hi]; rfl
    have := h2 i (by rw [e3]; exact hi) sp (by rw [e4]; exact hsp)
    rw [e4, e2] at this
    exact this
end Go.Eng
/- A block of one's own under a new name, ahead of a told loop. -/
namespace Go.Eng
set_option linter.unusedSectionVars false
variable [RowAddr]
set_option linter.unusedSimpArgs false
set_option linter.unusedVariables false
def mvN (m n b : Nat) : Nat :=
  match Nat.beq b m with
  | true => n
  | false => b
def mvT (f : Nat → Nat) : List (Nat × AV) → List (Nat × AV)
  | [] => []
  | (k, v) :: r => (k, renV f v) :: mvT f r
def mvF (f : Nat → Nat) (F : Fr) : Fr := ⟨renL f F.vars, mvT f F.tmps⟩
def mvS (m : Nat) (d : Data) (S : St) : St := { S with H := lset ⟨.gen [], .dead⟩ m S.H ++ [⟨d, .own⟩], low := Nat.min S.low m }
def moved (m : Nat) (sp : LSpec) : LSpec := fun F S =>
  match lget m S.H with
  | some ⟨d, md⟩ =>
    match md with
    | .own => sp (mvF (mvN m S.H.length) F) (mvS m d S)
    | _ => none
  | none => none
theorem assoc_mv (f : Nat → Nat) (t : Nat) : ∀ l : List (Nat × AV), assoc t (mvT f l) = renV f (assoc t l)
  | [] => rfl
  | (k, v) :: r => by
    simp only [mvT, assoc]
    split
    · rfl
    · exact assoc_mv f t r
theorem get_mv (f : Nat → Nat) (nv : Nat) (F : Fr) (t : Nat) : (mvF f F).get nv t = renV f (F.get nv t) := by
  unfold Fr.get mvF
  split
  · simp only [renL_map, lget_eq, List.getElem?_map]
    cases F.vars[t]? <;> rfl
  · exact assoc_mv f t F.tmps
section
variable {G : Nat → Option (List AV)} {β : Map} {w : World}
def mvB (β : Map) (m n : Nat) : Map := fun b => if b = n then β m else β b
theorem mv_h {m : Nat} {d : Data} {S : St} (hH : HRel G β S.H w) (hm : S.H[m]? = some ⟨d, .own⟩) :
    Map.le β (mvB β m S.H.length) ∧ HRel G (mvB β m S.H.length) (mvS m d S).H w ∧ Stp β S.H w (mvB β m S.H.length) (mvS m d S).H w ∧ ∀ b L, β b = some L → mvB β m S.H.length (mvN m S.H.length b) = some L := by
  have hmn : m < S.H.length := by
    rcases Nat.lt_or_ge m S.H.length with h | h
    · exact h
    · rw [List.getElem?_eq_none h] at hm; cases hm
  have hle : Map.le β (mvB β m S.H.length) := fun b L hb => by
    have := hH.dom b L hb
    unfold mvB
    rw [if_neg (by omega)]; exact hb
  have hget : ∀ b k, (mvS m d S).H[b]? = some k → (b = m ∧ k = ⟨.gen [], .dead⟩) ∨ (b = S.H.length ∧ k = ⟨d, .own⟩) ∨ (b ≠ m ∧ b < S.H.length ∧ S.H[b]? = some k) := by
    intro b k hb
    show _ ∨ _ ∨ _
    have hb : (lset ⟨.gen [], .dead⟩ m S.H ++ [⟨d, .own⟩])[b]? = some k := hb
    rw [lset_eq] at hb
    rcases Nat.lt_or_ge b S.H.length with h | h
    · rw [List.getElem?_append_left (by rw [List.length_set]; exact h)] at hb
      by_cases e : b = m
      · subst e
        rw [List.getElem?_set_self h] at hb
        injection hb with hb
        exact .inl ⟨rfl, hb.symm⟩
      · rw [List.getElem?_set_ne (Ne.symm e)] at hb
        exact .inr (.inr ⟨e, h, hb⟩)
    · rw [List.getElem?_append_right (by rw [List.length_set]; exact h), List.length_set] at hb
      have : b - S.H.length = 0 := by
        rcases Nat.eq_zero_or_pos (b - S.H.length) with h | h
        · exact h
        · rw [List.getElem?_eq_none (by simp; omega)] at hb; cases hb
      rw [this] at hb
      simp at hb
      exact .inr (.inl ⟨by omega, hb.symm⟩)
  have hb1 : ∀ b, b ≠ S.H.length → mvB β m S.H.length b = β b := fun b hb => if_neg hb
  have hb2 : mvB β m S.H.length S.H.length = β m := if_pos rfl
  refine ⟨hle, ⟨fun b k hb ha => ?_, fun b b' k k' L L' hne hb hb' ho ha hL hL' => ?_, fun b L hb => ?_, hH.glob, fun b k L hb ho hL g l hg => ?_⟩, ⟨hle, ?_, rfl, rfl, rfl, Nat.le_refl _, fun _ _ _ => rfl, fun c hc ho => ?_, fun b hb => hb1 b (by omega)⟩, fun b L hb => ?_⟩
  · rcases hget b k hb with ⟨_, rfl⟩ | ⟨rfl, rfl⟩ | ⟨h1, h2, h3⟩
    · exact absurd rfl ha
    · rw [hb2]
      rcases hH.blk m _ hm ha with ⟨L, hL, hB⟩ | h
      · exact .inl ⟨L, hL, hB.mono hle (Nat.le_refl _) rfl⟩
      · exact .inr h
    · rw [hb1 b (by omega)]
      rcases hH.blk b k h3 ha with ⟨L, hL, hB⟩ | h
      · exact .inl ⟨L, hL, hB.mono hle (Nat.le_refl _) rfl⟩
      · exact .inr h
  · rcases hget b k hb with ⟨_, rfl⟩ | ⟨rfl, rfl⟩ | ⟨h1, h2, h3⟩
    · cases ho
    · rcases hget b' k' hb' with ⟨_, rfl⟩ | ⟨rfl, rfl⟩ | ⟨h1', h2', h3'⟩
      · exact absurd rfl ha
      · exact absurd rfl hne
      · rw [hb2] at hL
        rw [hb1 b' (by omega)] at hL'
        exact hH.dis m b' _ k' L L' (Ne.symm h1') hm h3' rfl ha hL hL'
    · rcases hget b' k' hb' with ⟨_, rfl⟩ | ⟨rfl, rfl⟩ | ⟨h1', h2', h3'⟩
      · exact absurd rfl ha
      · rw [hb2] at hL'
        rw [hb1 b (by omega)] at hL
        exact hH.dis b m k _ L L' h1 h3 hm ho ha hL hL'
      · rw [hb1 b (by omega)] at hL
        rw [hb1 b' (by omega)] at hL'
        exact hH.dis b b' k k' L L' hne h3 h3' ho ha hL hL'
  · show b < (lset (⟨.gen [], .dead⟩ : Blk) m S.H ++ [(⟨d, .own⟩ : Blk)]).length
    rw [lset_eq, List.length_append, List.length_set]
    by_cases e : b = S.H.length
    · subst e; simp
    · rw [hb1 b e] at hb
      have := hH.dom b L hb; omega
  · rcases hget b k hb with ⟨_, rfl⟩ | ⟨rfl, rfl⟩ | ⟨h1, h2, h3⟩
    · cases ho
    · rw [hb2] at hL
      exact hH.apart m _ L hm rfl hL g l hg
    · rw [hb1 b (by omega)] at hL
      exact hH.apart b k L h3 ho hL g l hg
  · show S.H.length ≤ (lset (⟨.gen [], .dead⟩ : Blk) m S.H ++ [(⟨d, .own⟩ : Blk)]).length
    rw [lset_eq, List.length_append, List.length_set]; omega
  · obtain ⟨b, k, L, k1, k2, k3, k4⟩ := ho
    rcases hget b k k1 with ⟨_, rfl⟩ | ⟨rfl, rfl⟩ | ⟨h1, h2, h3⟩
    · cases k2
    · rw [hb2] at k3
      exact ⟨m, _, L, hm, rfl, k3, k4⟩
    · rw [hb1 b (by omega)] at k3
      exact ⟨b, k, L, h3, k2, k3, k4⟩
  · unfold mvN
    split
    · rename_i e
      have e : b = m := by simpa using e
      subst e
      rw [hb2]; exact hb
    · rw [hb1 b (by have := hH.dom b L hb; omega)]; exact hb
theorem mv_ext {m : Nat} {d : Data} {S : St} (hm : lget m S.H = some ⟨d, .own⟩) : Ext S (mvS m d S) := by
  have hmn := lget_lt hm
  have hk : ∀ b, b ≠ m → b < S.H.length → lget b (mvS m d S).H = lget b S.H := by
    intro b hb hl
    show lget b (lset (⟨.gen [], .dead⟩ : Blk) m S.H ++ [(⟨d, .own⟩ : Blk)]) = _
    rw [lget_eq, lget_eq, lset_eq, List.getElem?_append_left (by rw [List.length_set]; exact hl), List.getElem?_set_ne (Ne.symm hb)]
  refine ⟨id, Nat.min_le_left _ _, ?_, fun b hb hl => ?_, fun b k hb hd => ?_, fun b k hb hr => ?_⟩
  · show S.H.length ≤ (lset (⟨.gen [], .dead⟩ : Blk) m S.H ++ [(⟨d, .own⟩ : Blk)]).length
    rw [lset_eq, List.length_append, List.length_set]; omega
  · refine hk b ?_ hb
    have h1 : b < Nat.min S.low m := hl
    have h2 := Nat.min_le_right S.low m
    exact Nat.ne_of_lt (Nat.lt_of_lt_of_le h1 h2)
  · have hne : b ≠ m := by
      intro e; subst e
      rw [hb] at hm; injection hm with hm; subst hm; cases hd
    rw [hk b hne (lget_lt hb)]; exact hb
  · have hlt : b < S.H.length + 1 := by
      have := lget_lt hb
      have e : (mvS m d S).H.length = S.H.length + 1 := by
        show (lset (⟨.gen [], .dead⟩ : Blk) m S.H ++ [(⟨d, .own⟩ : Blk)]).length = _
        rw [lset_eq, List.length_append, List.length_set]; rfl
      omega
    have hne : b ≠ m := by
      intro e; subst e
      have hb : lget b (lset ⟨.gen [], .dead⟩ b S.H ++ [⟨d, .own⟩]) = some k := hb
      rw [lget_eq, lset_eq, List.getElem?_append_left (by rw [List.length_set]; exact hmn), List.getElem?_set_self hmn] at hb
      injection hb with hb; subst hb; cases hr
    by_cases e : b = S.H.length
    · subst e
      have hb : lget S.H.length (lset ⟨.gen [], .dead⟩ m S.H ++ [⟨d, .own⟩]) = some k := hb
      rw [lget_eq, lset_eq, List.getElem?_append_right (by rw [List.length_set]; exact Nat.le_refl _), List.length_set, Nat.sub_self] at hb
      simp at hb; subst hb; cases hr
    · rw [← hk b hne (by omega)]; exact hb
/-- A loop that is told round by round; a block of one's own at the entry gets another name first, and may then be another block in each round. -/
structure LoopM (D : Type) where
  T : LoopT D
  m : Nat
  st0 : D → Fr × List Blk
def LoopM.told {D : Type} (M : LoopM D) : LSpec := fun F S =>
  match M.T.parse F S.H with
  | none => none
  | some d =>
    match mergeH S.H (M.st0 d).2 (M.T.fin (iter M.T.next (M.T.rem d) d)).2 with
    | none => none
    | some R => some (M.T.out, (M.T.fin (iter M.T.next (M.T.rem d) d)).1, { H := R, low := 0, dec := S.dec, cond := M.T.good d :: S.cond })
theorem mv_own {m : Nat} {u : Data} {H : List Blk} {c : Nat} (hd : ∀ b L, β b = some L → b < H.length) (hm : H[m]? = some ⟨u, .own⟩) (h : Own (mvB β m H.length) (lset ⟨.gen [], .dead⟩ m H ++ [⟨u, .own⟩]) c) : Own β H c := by
  obtain ⟨b, k, L, k1, k2, k3, k4⟩ := h
  have hmn : m < H.length := (List.getElem?_eq_some_iff.1 hm).1
  rw [lset_eq] at k1
  rcases Nat.lt_or_ge b H.length with h | h
  · rw [List.getElem?_append_left (by rw [List.length_set]; exact h)] at k1
    by_cases e : b = m
    · subst e
      rw [List.getElem?_set_self h] at k1
      injection k1 with k1; subst k1; cases k2
    · rw [List.getElem?_set_ne (Ne.symm e)] at k1
      have k3 : (if b = H.length then β m else β b) = some L := k3
      rw [if_neg (by omega)] at k3
      exact ⟨b, k, L, k1, k2, k3, k4⟩
  · have k3 : (if b = H.length then β m else β b) = some L := k3
    split at k3
    · exact ⟨m, _, L, hm, rfl, k3, k4⟩
    · have := hd b L k3; omega
theorem loop_toldM {P : Program} {nv nt : Nat} {D : Type} (M : LoopM D) (N : D → Nat) {b : Code} {f : Fr → St → Option (Out × Fr × St)} (hb : RunOk P G nv nt b f)
    (hin : ∀ F H d, M.T.parse F H = some d → wkF none (M.st0 d).1 F = some (M.st0 d).1 ∧ cH (M.st0 d).2 H = some (M.st0 d).2 ∧ N d = H.length ∧
      ∃ u, (M.st0 d).2[M.m]? = some ⟨u, .own⟩ ∧ M.T.st d = (mvF (mvN M.m H.length) (M.st0 d).1, lset ⟨.gen [], .dead⟩ M.m (M.st0 d).2 ++ [⟨u, .own⟩]))
    (hround : ∀ d k, M.T.good d = true → M.T.rem d = k + 1 → ∃ dec F' S' rs, f (M.T.st d).1 ⟨(M.T.st d).2, big, dec, []⟩ = some (.normal, F', S') ∧ S'.ok ∧
      wkF rs (M.T.st (M.T.next d)).1 F' = some (M.T.st (M.T.next d)).1 ∧ wkH (N d) [] rs (M.T.st (M.T.next d)).2 S'.H = some (M.T.st (M.T.next d)).2 ∧ M.T.good (M.T.next d) = true ∧ M.T.rem (M.T.next d) = k ∧ N (M.T.next d) = N d)
    (hend : ∀ d, M.T.good d = true → M.T.rem d = 0 → ∃ dec F' S' rs, f (M.T.st d).1 ⟨(M.T.st d).2, big, dec, []⟩ = some (M.T.out, F', S') ∧ S'.ok ∧ (M.T.out = .normal → False) ∧
      wkF rs (M.T.fin d).1 F' = some (M.T.fin d).1 ∧ wkH (N d) [] rs (M.T.fin d).2 S'.H = some (M.T.fin d).2) :
    LoopOk P G nv nt b M.told := by
  intro F S o F' S' h
  unfold LoopM.told at h
  split at h
  · cases h
  rename_i d hd
  split at h
  · cases h
  rename_i R hR
  simp only [Option.some.injEq, Prod.mk.injEq] at h
  obtain ⟨rfl, rfl, rfl⟩ := h
  obtain ⟨hf1, hh1, hNd, u, hu, hst⟩ := hin F S.H d hd
  have hh1' : cH (M.st0 d).2 (S.H ++ []) = some (M.st0 d).2 := by rw [List.append_nil]; exact hh1
  obtain ⟨m1, m2, m3, m4⟩ := mergeH_spec hR
  have hstlen : (M.st0 d).2.length = S.H.length := (cH_get hh1).1
  refine ⟨⟨fun ok x hx => ok x (List.mem_cons_of_mem _ hx), Nat.zero_le _, by simp only; omega, fun b hb hl => absurd hl (Nat.not_lt_zero _), fun b k hk hm => ?_, fun b k hk hm => ?_⟩, fun ok β a w hF hH Q hQ => ?_⟩
  · simp only [lget_eq] at hk ⊢
    have hb : b < S.H.length := (List.getElem?_eq_some_iff.1 hk).1
    have hbR : b < R.length := by omega
    rcases m4 b _ (List.getElem?_eq_getElem hbR) with ⟨_, _, g3⟩ | ⟨g1, _⟩
    · obtain ⟨f0, e1, e2⟩ := g3 hb
      obtain ⟨k1, e3, e4⟩ := (cH_get hh1).2 b f0 e1
      rw [hk] at e3
      injection e3 with e3; subst e3
      rcases e4 with e4 | ⟨e4, _⟩
      · rw [e2] at e4; cases e4
      · exact absurd hm e4
    · rw [hk] at g1; rw [g1, List.getElem?_eq_getElem hbR]
  · simp only [lget_eq] at hk ⊢
    rcases m4 b k hk with ⟨_, g2, _⟩ | ⟨g1, _⟩
    · exact absurd hm g2
    · exact g1
  · have hgood : M.T.good d = true := ok _ (List.mem_cons_self ..)
    obtain ⟨i1, i2, i3⟩ := wk_in (gh := []) (by intro k hk; cases hk) hH hh1'
    have hF0 : FRel nv nt β (M.st0 d).1 a := by
      refine wkF_rel (β := β) (β' := β) (rs := none) (fun p x y v hy hx => ?_) hf1 hF
      unfold wkV at hy
      split at hy
      · injection hy with hy; subst hy; exact .undef _
      · exact cV_ok hx hy
    have hdom : ∀ b L, β b = some L → b < S.H.length := hH.dom
    obtain ⟨g1, g2, g3, g4⟩ := mv_h (S := { H := (M.st0 d).2, low := 0, dec := [], cond := [] }) (m := M.m) (d := u) i1 hu
    simp only at g1 g2 g3 g4
    rw [hstlen] at g1 g2 g3 g4
    have e1 : (M.T.st d).1 = mvF (mvN M.m S.H.length) (M.st0 d).1 := by rw [hst]
    have e2 : (M.T.st d).2 = lset ⟨.gen [], .dead⟩ M.m (M.st0 d).2 ++ [⟨u, .own⟩] := by rw [hst]
    have hF1 : FRel nv nt (mvB β M.m S.H.length) (M.T.st d).1 a := by
      rw [e1]
      refine ⟨fun t => ?_, hF0.size, hF0.defers⟩
      rw [get_mv]
      exact renV_rel g4 (hF0.val t)
    have hH1 : HRel G (mvB β M.m S.H.length) (M.T.st d).2 w := by rw [e2]; exact g2
    have hq0 : Stq S.H.length β (M.st0 d).2 w (mvB β M.m S.H.length) (M.T.st d).2 w := by
      rw [e2]; exact g3.q (by omega)
    refine lwp_loop_n (fun n a' w' => ∃ d' β', n = M.T.rem d' ∧ M.T.good d' = true ∧ iter M.T.next (M.T.rem d') d' = iter M.T.next (M.T.rem d) d ∧ N d' = N d ∧ FRel nv nt β' (M.T.st d').1 a' ∧ HRel G β' (M.T.st d').2 w' ∧ Stq S.H.length β (M.st0 d).2 w β' (M.T.st d').2 w')
      (n := M.T.rem d) ⟨d, _, rfl, hgood, rfl, rfl, hF1, hH1, hq0⟩ ?_
    rintro n a' w' ⟨d', β', rfl, hgd, hit, hln, hF', hH', hS'⟩
    cases hr : M.T.rem d' with
    | zero =>
      obtain ⟨dec, F2, S2, rs, r1, r2, r2', r3, r4⟩ := hend d' hgd hr
      have hn0 : N d' = S.H.length := hln.trans hNd
      rw [hn0] at r4
      obtain ⟨x1, x2⟩ := hb _ _ _ _ _ r1
      refine x2 r2 β' a' w' hF' hH' _ fun a2 w2 β2 q1 q2 q3 => ?_
      have hlen2 : S.H.length ≤ S2.H.length := by have h8 := hS'.len; have := x1.len; simp only at this; omega
      obtain ⟨β3, p1, p2, p3, p4, p5⟩ := wk_ok (n0 := S.H.length) (gh := []) (by simp) r4 hlen2 q2
      have hF3 := wkF_rel p5 r3 q1
      have e : M.T.fin (iter M.T.next (M.T.rem d) d) = M.T.fin d' := by rw [← hit, hr]; rfl
      rw [e] at hR hQ
      obtain ⟨z1, z2⟩ := merge_ok hH i1 i2 p1 ((hS'.trans q3).wk hdom p2 p3 p4) hR
      have hfin := hQ a2 w2 β3 hF3 z1 z2
      cases ho : M.T.out with
      | normal => exact absurd ho r2'
      | exit i => rw [ho] at hfin; exact hfin
      | ret => rw [ho] at hfin; exact hfin
    | succ k =>
      obtain ⟨dec, F2, S2, rs, r1, r2, r3, r4, r5, r6, r7⟩ := hround d' k hgd hr
      have hn0 : N d' = S.H.length := hln.trans hNd
      rw [hn0] at r4
      obtain ⟨x1, x2⟩ := hb _ _ _ _ _ r1
      refine x2 r2 β' a' w' hF' hH' _ fun a2 w2 β2 q1 q2 q3 => ?_
      have hlen2 : S.H.length ≤ S2.H.length := by have h8 := hS'.len; have := x1.len; simp only at this; omega
      obtain ⟨β3, p1, p2, p3, p4, p5⟩ := wk_ok (n0 := S.H.length) (gh := []) (by simp) r4 hlen2 q2
      have hF3 := wkF_rel p5 r3 q1
      refine ⟨k, Nat.lt_succ_self k, M.T.next d', β3, r6.symm, r5, ?_, r7.trans hln, hF3, p1, (hS'.trans q3).wk hdom p2 p3 p4⟩
      rw [← hit, hr, r6]; rfl
end
end Go.Eng
/- Contracts and loops that are told by a pattern: what is handed is weakened to the pattern's shape, and then read. -/
namespace Go.Eng
set_option linter.unusedSectionVars false
variable [RowAddr]
set_option linter.unusedSimpArgs false
set_option linter.unusedVariables false

theorem cN_again (p x : N) : cN (cN p x) x = cN p x := by
  cases p <;> cases x <;> rfl
theorem cO_again : ∀ (p x : Option N), cO (cO p x) x = cO p x
  | none, _ => rfl
  | some p, some x => by simp only [cO, cN_again]
  | some p, none => rfl
mutual
theorem cV_refl : ∀ x : AV, cV x x = some x
  | .atom .undef => rfl
  | .atom (.bool (.c _)) => rfl
  | .atom (.bool (.s _)) => rfl
  | .atom (.str _) => rfl
  | .atom .nilp => rfl
  | .atom .nils => rfl
  | .atom .nili => rfl
  | .atom .nilf => rfl
  | .atom (.exact _) => rfl
  | .num (.int _ (.c _)) => rfl
  | .num (.int _ (.s _)) => rfl
  | .num (.w8 _) => rfl
  | .num (.w16 _) => rfl
  | .num (.w32 _) => rfl
  | .num (.w64 _) => rfl
  | .ref (.ptr b o) => by cases o <;> rfl
  | .ref (.gp b o) => rfl
  | .ref (.gs g o l) => rfl
  | .ref (.sm b l s) => by cases l <;> rfl
  | .ref (.sl b o l none) => by cases o <;> cases l <;> rfl
  | .ref (.sl b o l (some c)) => by cases o <;> cases l <;> cases c <;> rfl
  | .agg xs => by simp only [cV, cL_refl xs]
  | .obj .tup xs => by simp only [cV, cL_refl xs]
  | .obj (.ifc _) xs => by simp only [cV]
  | .obj (.fn _ _) xs => by simp only [cV]
theorem cL_refl : ∀ xs : List AV, cL xs xs = some xs
  | [] => rfl
  | x :: xs => by simp only [cL, cV_refl x, cL_refl xs]
end
theorem cAtom_again {p : Atom} {x y : AV} (h : cAtom p x = some y) : cV y x = some y := by
  cases p with
  | undef =>
    simp only [cAtom, Option.some.injEq] at h; subst h; rfl
  | bool b =>
    cases b with
    | c _ =>
      simp only [cAtom, Option.some.injEq] at h; subst h; exact cV_refl _
    | s _ =>
      simp only [cAtom] at h
      split at h
      · injection h with h; subst h; rfl
      · cases h
  | _ => simp only [cAtom, Option.some.injEq] at h; subst h; exact cV_refl _
theorem cNum_again {p : Num} {x y : AV} (h : cNum p x = some y) : cV y x = some y := by
  cases p with
  | int _ z =>
    cases z with
    | c _ =>
      simp only [cNum, Option.some.injEq] at h; subst h; exact cV_refl _
    | s _ =>
      simp only [cNum] at h
      split at h
      · injection h with h; subst h; rfl
      · cases h
  | w8 _ =>
    simp only [cNum, Option.map_eq_some_iff] at h
    obtain ⟨v, hv, rfl⟩ := h
    simp only [cV, cNum, hv, Option.map_some]
  | w16 _ =>
    simp only [cNum, Option.map_eq_some_iff] at h
    obtain ⟨v, hv, rfl⟩ := h
    simp only [cV, cNum, hv, Option.map_some]
  | w32 _ =>
    simp only [cNum, Option.map_eq_some_iff] at h
    obtain ⟨v, hv, rfl⟩ := h
    simp only [cV, cNum, hv, Option.map_some]
  | w64 _ =>
    simp only [cNum, Option.map_eq_some_iff] at h
    obtain ⟨v, hv, rfl⟩ := h
    simp only [cV, cNum, hv, Option.map_some]
theorem cRef_again {p : Ref} {x y : AV} (h : cRef p x = some y) : cV y x = some y := by
  cases p with
  | ptr b o =>
    simp only [cRef] at h
    split at h
    · injection h with h; subst h
      simp only [cV, cRef, cN_again]
    · cases h
  | gp b o =>
    simp only [cRef, Option.some.injEq] at h; subst h; exact cV_refl _
  | gs b o l =>
    simp only [cRef, Option.some.injEq] at h; subst h; exact cV_refl _
  | sm b l s =>
    simp only [cRef] at h
    split at h
    · injection h with h; subst h
      simp only [cV, cRef, cN_again]
    · injection h with h; subst h
      simp only [cV, cRef, cN_again]
    · cases h
  | sl b o l c =>
    simp only [cRef] at h
    split at h
    · injection h with h; subst h
      simp only [cV, cRef, cN_again, cO_again]
    · injection h with h; subst h
      simp only [cV, cRef, cN_again]
    · cases h
mutual
theorem cV_again : ∀ (p x y : AV), cV p x = some y → cV y x = some y
  | .atom p, x, y, h => cAtom_again h
  | .num p, x, y, h => cNum_again h
  | .ref p, x, y, h => cRef_again h
  | .agg ps, x, y, h => by
    simp only [cV] at h
    split at h
    · rename_i xs
      split at h
      · rename_i ys hys
        injection h with h; subst h
        simp only [cV, cL_again ps xs ys hys]
      · cases h
    · cases h
  | .obj t ps, x, y, h => by
    cases t with
    | tup =>
      simp only [cV] at h
      split at h
      · rename_i xs
        split at h
        · rename_i ys hys
          injection h with h; subst h
          simp only [cV, cL_again ps xs ys hys]
        · cases h
      · cases h
    | ifc _ => simp only [cV, Option.some.injEq] at h; subst h; exact cV_refl _
    | fn _ _ => simp only [cV, Option.some.injEq] at h; subst h; exact cV_refl _
theorem cL_again : ∀ (ps xs ys : List AV), cL ps xs = some ys → cL ys xs = some ys
  | [], [], ys, h => by simp only [cL, Option.some.injEq] at h; subst h; rfl
  | [], _ :: _, ys, h => by simp only [cL, reduceCtorEq] at h
  | p :: ps, [], ys, h => by simp only [cL, reduceCtorEq] at h
  | p :: ps, x :: xs, ys, h => by
    simp only [cL] at h
    split at h
    · cases h
    · rename_i y hy
      split at h
      · cases h
      · rename_i zs hzs
        injection h with h; subst h
        simp only [cL, cV_again p x y hy, cL_again ps xs zs hzs]
end
theorem cD_again {p d d' : Data} (h : cD p d = some d') : cD d' d = some d' := by
  cases p with
  | gen ps =>
    simp only [cD] at h
    split at h
    · simp only [Option.map_eq_some_iff] at h
      obtain ⟨l, hl, rfl⟩ := h
      simp only [cD, cL_again _ _ _ hl, Option.map_some]
    · cases h
  | b8 _ =>
    simp only [cD, Option.map_eq_some_iff] at h
    obtain ⟨l, hl, rfl⟩ := h
    simp only [cD, hl, Option.map_some]
  | b32 _ =>
    simp only [cD, Option.map_eq_some_iff] at h
    obtain ⟨l, hl, rfl⟩ := h
    simp only [cD, hl, Option.map_some]
  | b64 _ =>
    simp only [cD, Option.map_eq_some_iff] at h
    obtain ⟨l, hl, rfl⟩ := h
    simp only [cD, hl, Option.map_some]
  | spot _ _ _ => cases h
  | kn _ pt =>
    simp only [cD] at h
    split at h
    · simp only [Option.map_eq_some_iff] at h
      obtain ⟨l, hl, rfl⟩ := h
      simp only [cD, cL_again _ _ _ hl, Option.map_some]
    · cases h
theorem cB_again {p k k' : Blk} (h : cB p k = some k') : cB k' k = some k' := by
  obtain ⟨pd, pm⟩ := p
  obtain ⟨kd, km⟩ := k
  cases pm with
  | dead => simp only [cB, Option.some.injEq] at h; subst h; rfl
  | ro =>
    simp only [cB] at h
    split at h
    · cases h
    · rename_i hm
      split at h
      · rename_i d hd
        injection h with h; subst h
        simp only [cB, cD_again hd]
      · cases h
  | own =>
    simp only [cB] at h
    split at h
    · split at h
      · rename_i d hd
        injection h with h; subst h
        simp only [cB, cD_again hd]
      · cases h
    · cases h
theorem cH_again : ∀ (ps ks ks' : List Blk), cH ps ks = some ks' → cH ks' ks = some ks' ∧ ks'.length = ks.length
  | [], [], ys, h => by simp only [cH, Option.some.injEq] at h; subst h; exact ⟨rfl, rfl⟩
  | [], _ :: _, ys, h => by simp only [cH, reduceCtorEq] at h
  | p :: ps, [], ys, h => by simp only [cH, reduceCtorEq] at h
  | p :: ps, x :: xs, ys, h => by
    simp only [cH] at h
    split at h
    · cases h
    · rename_i y hy
      split at h
      · cases h
      · rename_i zs hzs
        injection h with h; subst h
        obtain ⟨h1, h2⟩ := cH_again ps xs zs hzs
        exact ⟨by simp only [cH, cB_again hy, h1], by simp only [List.length_cons, h2]⟩
theorem wkV_of {y x : AV} (h : cV y x = some y) : wkV none y x = some y := by
  unfold wkV
  split
  · rfl
  · exact h
theorem wkV_again {p x y : AV} (h : wkV none p x = some y) : wkV none y x = some y := by
  unfold wkV at h
  split at h
  · injection h with h; subst h; rfl
  · exact wkV_of (cV_again _ _ _ h)
theorem wkL_again : ∀ (ps xs ys : List AV), wkL none ps xs = some ys → wkL none ys xs = some ys
  | [], [], ys, h => by simp only [wkL, Option.some.injEq] at h; subst h; rfl
  | [], _ :: _, ys, h => by simp only [wkL, reduceCtorEq] at h
  | p :: ps, [], ys, h => by simp only [wkL, reduceCtorEq] at h
  | p :: ps, x :: xs, ys, h => by
    simp only [wkL] at h
    split at h
    · cases h
    · rename_i y hy
      split at h
      · cases h
      · rename_i zs hzs
        injection h with h; subst h
        simp only [wkL, wkV_again hy, wkL_again ps xs zs hzs]
theorem wkT_again (ts : List (Nat × AV)) : ∀ (ps ys : List (Nat × AV)), wkT none ts ps = some ys → wkT none ts ys = some ys
  | [], ys, h => by simp only [wkT, Option.some.injEq] at h; subst h; rfl
  | (t, p) :: ps, ys, h => by
    simp only [wkT] at h
    split at h
    · cases h
    · rename_i y hy
      split at h
      · cases h
      · rename_i zs hzs
        injection h with h; subst h
        simp only [wkT, wkV_again hy, wkT_again ts ps zs hzs]
theorem wkF_again {p F F' : Fr} (h : wkF none p F = some F') : wkF none F' F = some F' := by
  unfold wkF at h
  split at h
  · cases h
  · rename_i vs hvs
    split at h
    · cases h
    · rename_i ts hts
      injection h with h; subst h
      simp only [wkF, wkL_again _ _ _ hvs, wkT_again _ _ _ hts]

/-! Rows of words that stand as cells. -/
def sw8 (v : AV) : Option (BitVec 8) :=
  match v with
  | .num (.w8 x) => some x
  | _ => none
/-- So many words in a row, as cells. -/
def c8v (v : Vec 8) (n : Nat) : List AV := (List.range n).map fun i => .num (.w8 (v.l.getD i 0#8))
def rd8 (n : Nat) (xs : List AV) : Option (Vec 8) :=
  match mapOpt sw8 xs with
  | some l =>
    match Nat.beq l.length n with
    | true => some (Vec.of l)
    | false => none
  | none => none
theorem sw8_eq : ∀ {xs : List AV} {l : List (BitVec 8)}, mapOpt sw8 xs = some l → xs = l.map fun x => .num (.w8 x)
  | [], l, h => by simp [mapOpt] at h; subst h; rfl
  | x :: xs, l, h => by
    simp only [mapOpt] at h
    split at h
    · cases h
    · rename_i y hy
      split at h
      · cases h
      · rename_i ys hys
        injection h with h; subst h
        rw [sw8_eq hys]
        unfold sw8 at hy
        split at hy
        · injection hy with hy; subst hy; rfl
        · cases hy
theorem rd8_eq {n : Nat} {xs : List AV} {v : Vec 8} (h : rd8 n xs = some v) : xs = c8v v n ∧ v.n = n := by
  unfold rd8 at h
  split at h
  · rename_i l hl
    split at h
    · rename_i hn
      injection h with h; subst h
      have hn : l.length = n := by simpa using hn
      refine ⟨?_, hn⟩
      rw [sw8_eq hl]
      subst hn
      unfold c8v
      refine List.ext_getElem? fun i => ?_
      rw [List.getElem?_map, List.getElem?_map]
      rcases Nat.lt_or_ge i l.length with hi | hi
      · simp [hi, Vec.of]
      · simp [hi]
    · cases h
  · cases h
def sw32 (v : AV) : Option (BitVec 32) :=
  match v with
  | .num (.w32 x) => some x
  | _ => none
/-- So many words in a row, as cells. -/
def c32v (v : Vec 32) (n : Nat) : List AV := (List.range n).map fun i => .num (.w32 (v.l.getD i 0#32))
def rd32 (n : Nat) (xs : List AV) : Option (Vec 32) :=
  match mapOpt sw32 xs with
  | some l =>
    match Nat.beq l.length n with
    | true => some (Vec.of l)
    | false => none
  | none => none
theorem sw32_eq : ∀ {xs : List AV} {l : List (BitVec 32)}, mapOpt sw32 xs = some l → xs = l.map fun x => .num (.w32 x)
  | [], l, h => by simp [mapOpt] at h; subst h; rfl
  | x :: xs, l, h => by
    simp only [mapOpt] at h
    split at h
    · cases h
    · rename_i y hy
      split at h
      · cases h
      · rename_i ys hys
        injection h with h; subst h
        rw [sw32_eq hys]
        unfold sw32 at hy
        split at hy
        · injection hy with hy; subst hy; rfl
        · cases hy
theorem rd32_eq {n : Nat} {xs : List AV} {v : Vec 32} (h : rd32 n xs = some v) : xs = c32v v n ∧ v.n = n := by
  unfold rd32 at h
  split at h
  · rename_i l hl
    split at h
    · rename_i hn
      injection h with h; subst h
      have hn : l.length = n := by simpa using hn
      refine ⟨?_, hn⟩
      rw [sw32_eq hl]
      subst hn
      unfold c32v
      refine List.ext_getElem? fun i => ?_
      rw [List.getElem?_map, List.getElem?_map]
      rcases Nat.lt_or_ge i l.length with hi | hi
      · simp [hi, Vec.of]
      · simp [hi]
    · cases h
  · cases h
def sw64 (v : AV) : Option (BitVec 64) :=
  match v with
  | .num (.w64 x) => some x
  | _ => none
/-- So many words in a row, as cells. -/
def c64v (v : Vec 64) (n : Nat) : List AV := (List.range n).map fun i => .num (.w64 (v.l.getD i 0#64))
def rd64 (n : Nat) (xs : List AV) : Option (Vec 64) :=
  match mapOpt sw64 xs with
  | some l =>
    match Nat.beq l.length n with
    | true => some (Vec.of l)
    | false => none
  | none => none
theorem sw64_eq : ∀ {xs : List AV} {l : List (BitVec 64)}, mapOpt sw64 xs = some l → xs = l.map fun x => .num (.w64 x)
  | [], l, h => by simp [mapOpt] at h; subst h; rfl
  | x :: xs, l, h => by
    simp only [mapOpt] at h
    split at h
    · cases h
    · rename_i y hy
      split at h
      · cases h
      · rename_i ys hys
        injection h with h; subst h
        rw [sw64_eq hys]
        unfold sw64 at hy
        split at hy
        · injection hy with hy; subst hy; rfl
        · cases hy
theorem rd64_eq {n : Nat} {xs : List AV} {v : Vec 64} (h : rd64 n xs = some v) : xs = c64v v n ∧ v.n = n := by
  unfold rd64 at h
  split at h
  · rename_i l hl
    split at h
    · rename_i hn
      injection h with h; subst h
      have hn : l.length = n := by simpa using hn
      refine ⟨?_, hn⟩
      rw [sw64_eq hl]
      subst hn
      unfold c64v
      refine List.ext_getElem? fun i => ?_
      rw [List.getElem?_map, List.getElem?_map]
      rcases Nat.lt_or_ge i l.length with hi | hi
      · simp [hi, Vec.of]
      · simp [hi]
    · cases h
  · cases h
/-- Known numbers in a row. -/
def mkC : List Int → List AV
  | [] => []
  | n :: r => .num (.int .i64 (.c n)) :: mkC r
def eqC : List AV → List Int → Bool
  | [], l =>
    match l with
    | [] => true
    | _ => false
  | x :: xs, l =>
    match l with
    | [] => false
    | n :: r =>
      match x with
      | .num (.int .i64 (.c m)) =>
        match intEq m n with
        | true => eqC xs r
        | false => false
      | _ => false
theorem eqC_eq : ∀ {xs : List AV} {l : List Int}, eqC xs l = true → xs = mkC l
  | [], [], _ => rfl
  | [], _ :: _, h => by simp [eqC] at h
  | _ :: _, [], h => by simp [eqC] at h
  | x :: xs, n :: r, h => by
    simp only [eqC] at h
    split at h
    · split at h
      · rename_i m hm
        have e := hm
        rw [intEq_eq] at e
        rw [eq_of_beq e, eqC_eq h]; rfl
      · cases h
    · cases h
/-- A contract by a pattern. -/
structure Ct (D : Type) where
  pat : List AV
  patH : List Blk
  read : List AV → List Blk → Option D
  args : D → List AV
  heap : D → List Blk
  out : D → List Blk
  val : D → AV
  good : D → Bool
def Ct.spec {D : Type} (c : Ct D) : Spec := fun args H dec =>
  match wkL none c.pat args with
  | none => none
  | some a =>
    match cH c.patH H with
    | none => none
    | some K =>
      match c.read a K with
      | none => none
      | some d =>
        match mergeH H (c.heap d) (c.out d) with
        | none => none
        | some R => some ⟨c.val d, R, dec, [c.good d]⟩
theorem Ct.ok {D : Type} (c : Ct D) {P : Program} {G : Nat → Option (List AV)} {f : FuncId} {call : CallF} (hc : CallOk P G call)
    (hread : ∀ a K d, c.read a K = some d → a = c.args d ∧ K = c.heap d)
    (hrun : ∀ d, c.good d = true → ∃ dec rs cs, endsAs (c.heap d).length rs (c.out d) (c.val d) (call f (c.args d) ⟨c.heap d, big, dec, []⟩) = some (c.out d, c.val d, cs) ∧ ∀ x ∈ cs, x = true) :
    SpecOk P G f c.spec := by
  refine SpecOk.ends hc (fun args H dec r hr hcond => ?_) (fun args H dec r hr i k hk hm => ?_)
  · unfold Ct.spec at hr
    split at hr
    · cases hr
    rename_i a ha
    split at hr
    · cases hr
    rename_i K hK
    split at hr
    · cases hr
    rename_i d hd
    split at hr
    · cases hr
    rename_i R hR
    injection hr with hr; subst hr
    obtain ⟨rfl, rfl⟩ := hread a K d hd
    obtain ⟨dec', rs, cs, h1, h2⟩ := hrun d (hcond _ (List.mem_singleton.2 rfl))
    refine ⟨c.pat, c.patH, c.args d, c.heap d, dec', rs, c.out d, cs, ha, hK, ?_, h2, hR⟩
    rw [← (cH_again _ _ _ hK).2]
    exact h1
  · unfold Ct.spec at hr
    split at hr
    · cases hr
    split at hr
    · cases hr
    split at hr
    · cases hr
    rename_i d hd
    split at hr
    · cases hr
    rename_i R hR
    injection hr with hr; subst hr
    rcases (mergeH_spec hR).2.2.2 i k hk with ⟨_, h2, _⟩ | ⟨h1, _⟩
    · exact absurd hm h2
    · exact ⟨k, h1, hm⟩

/-- A loop by a pattern. -/
structure LoopP (D : Type) where
  pat : Fr
  patH : List Blk
  read : Fr → List Blk → Option D
  gh : List Blk
  st : D → Fr × List Blk
  next : D → D
  rem : D → Nat
  good : D → Bool
  out : Out
  fin : D → Fr × List Blk
def LoopP.T {D : Type} (L : LoopP D) : LoopT D where
  parse F H :=
    match wkF none L.pat F with
    | none => none
    | some F' =>
      match cH L.patH (H ++ L.gh) with
      | none => none
      | some H' => L.read F' H'
  gh := L.gh
  st := L.st
  next := L.next
  rem := L.rem
  good := L.good
  out := L.out
  fin := L.fin
theorem LoopP.ran {D : Type} (L : LoopP D) {P : Program} {G : Nat → Option (List AV)} {nv nt : Nat} {b : Code} {f : Fr → St → Option (Out × Fr × St)} (hb : RunOk P G nv nt b f)
    (hg : ∀ k ∈ L.gh, k.data.len = 0) (hout : L.out = .normal → False)
    (hread : ∀ F H d, L.read F H = some d → (F, H) = L.st d)
    (hround : ∀ d k, L.good d = true → L.rem d = k + 1 → (∃ dec rs cs, ranAs ((L.st d).2.length - L.gh.length) rs (L.st (L.next d)) (f (L.st d).1 ⟨(L.st d).2, big, dec, []⟩) = some (.normal, L.st (L.next d), cs) ∧ (∀ x ∈ cs, x = true)) ∧
      L.good (L.next d) = true ∧ L.rem (L.next d) = k ∧ (L.st (L.next d)).2.length = (L.st d).2.length)
    (hend : ∀ d, L.good d = true → L.rem d = 0 → ∃ dec rs cs, ranAs ((L.st d).2.length - L.gh.length) rs (L.fin d) (f (L.st d).1 ⟨(L.st d).2, big, dec, []⟩) = some (L.out, L.fin d, cs) ∧ (∀ x ∈ cs, x = true)) :
    LoopOk P G nv nt b L.T.told := by
  refine loop_ranL L.T hb hg hout (fun F H d h => ?_) hround hend
  have h : (match wkF none L.pat F with
    | none => none
    | some F' =>
      match cH L.patH (H ++ L.gh) with
      | none => none
      | some H' => L.read F' H') = some d := h
  split at h
  · cases h
  rename_i F' hF
  split at h
  · cases h
  rename_i H' hH
  have e := hread F' H' d h
  show wkF none (L.st d).1 F = some (L.st d).1 ∧ cH (L.st d).2 (H ++ L.gh) = some (L.st d).2
  rw [← e]
  exact ⟨wkF_again hF, (cH_again _ _ _ hH).1⟩
/-- A loop by a pattern whose rounds may change the pattern: the pattern is that of the entry. -/
theorem LoopP.ranN {D : Type} (L : LoopP D) (N : D → Nat) {P : Program} {G : Nat → Option (List AV)} {nv nt : Nat} {b : Code} {f : Fr → St → Option (Out × Fr × St)} (hb : RunOk P G nv nt b f)
    (hg : ∀ k ∈ L.gh, k.data.len = 0) (hout : L.out = .normal → False)
    (hread : ∀ F H d, L.read F H = some d → (F, H) = L.st d ∧ N d + L.gh.length = H.length)
    (hround : ∀ d k, L.good d = true → L.rem d = k + 1 → (∃ dec rs cs, ranAs (N d) rs (L.st (L.next d)) (f (L.st d).1 ⟨(L.st d).2, big, dec, []⟩) = some (.normal, L.st (L.next d), cs) ∧ (∀ x ∈ cs, x = true)) ∧
      L.good (L.next d) = true ∧ L.rem (L.next d) = k ∧ N (L.next d) = N d)
    (hend : ∀ d, L.good d = true → L.rem d = 0 → ∃ dec rs cs, ranAs (N d) rs (L.fin d) (f (L.st d).1 ⟨(L.st d).2, big, dec, []⟩) = some (L.out, L.fin d, cs) ∧ (∀ x ∈ cs, x = true)) :
    LoopOk P G nv nt b L.T.told := by
  have key : ∀ F H d, L.T.parse F H = some d → (wkF none (L.st d).1 F = some (L.st d).1 ∧ cH (L.st d).2 (H ++ L.gh) = some (L.st d).2) ∧ N d = H.length := by
    intro F H d h
    have h : (match wkF none L.pat F with
      | none => none
      | some F' =>
        match cH L.patH (H ++ L.gh) with
        | none => none
        | some H' => L.read F' H') = some d := h
    split at h
    · cases h
    rename_i F' hF
    split at h
    · cases h
    rename_i H' hH
    obtain ⟨e, hn⟩ := hread F' H' d h
    have hl := (cH_again _ _ _ hH).2
    rw [List.length_append] at hl
    refine ⟨?_, by omega⟩
    rw [← e]
    exact ⟨wkF_again hF, (cH_again _ _ _ hH).1⟩
  exact loop_ranN L.T N (fun F H d h => (key F H d h).2) hb hg hout (fun F H d h => (key F H d h).1) hround hend
def LoopP.M {D : Type} (L : LoopP D) (m : Nat) (st0 : D → Fr × List Blk) : LoopM D := ⟨L.T, m, st0⟩
/-- A loop by a pattern; a block of one's own is named anew at the entry. -/
theorem LoopP.ranM {D : Type} (L : LoopP D) (m n : Nat) (st0 : D → Fr × List Blk) {P : Program} {G : Nat → Option (List AV)} {nv nt : Nat} {b : Code} {f : Fr → St → Option (Out × Fr × St)} (hb : RunOk P G nv nt b f)
    (hgh : L.gh = []) (hout : L.out = .normal → False)
    (hread : ∀ F H d, L.read F H = some d → (F, H) = st0 d)
    (hst : ∀ d, (st0 d).2.length = n ∧ ∃ u, (st0 d).2[m]? = some ⟨u, .own⟩ ∧ L.st d = (mvF (mvN m n) (st0 d).1, lset ⟨.gen [], .dead⟩ m (st0 d).2 ++ [⟨u, .own⟩]))
    (hround : ∀ d k, L.good d = true → L.rem d = k + 1 → (∃ dec rs cs, ranAs n rs (L.st (L.next d)) (f (L.st d).1 ⟨(L.st d).2, big, dec, []⟩) = some (.normal, L.st (L.next d), cs) ∧ (∀ x ∈ cs, x = true)) ∧
      L.good (L.next d) = true ∧ L.rem (L.next d) = k)
    (hend : ∀ d, L.good d = true → L.rem d = 0 → ∃ dec rs cs, ranAs n rs (L.fin d) (f (L.st d).1 ⟨(L.st d).2, big, dec, []⟩) = some (L.out, L.fin d, cs) ∧ (∀ x ∈ cs, x = true)) :
    LoopOk P G nv nt b (L.M m st0).told := by
  refine loop_toldM (L.M m st0) (fun _ => n) hb (fun F H d h => ?_) (fun d k h1 h2 => ?_) (fun d h1 h2 => ?_)
  · have h : (match wkF none L.pat F with
      | none => none
      | some F' =>
        match cH L.patH (H ++ L.gh) with
        | none => none
        | some H' => L.read F' H') = some d := h
    rw [hgh, List.append_nil] at h
    split at h
    · cases h
    rename_i F' hF
    split at h
    · cases h
    rename_i H' hH
    have e := hread F' H' d h
    obtain ⟨g1, u, g2, g3⟩ := hst d
    have el : H.length = n := by
      rw [← (cH_again _ _ _ hH).2, show H' = (st0 d).2 by rw [← e]]; exact g1
    show wkF none (st0 d).1 F = some (st0 d).1 ∧ cH (st0 d).2 H = some (st0 d).2 ∧ n = H.length ∧ _
    refine ⟨?_, ?_, el.symm, u, g2, ?_⟩
    · rw [← e]; exact wkF_again hF
    · rw [← e]; exact (cH_again _ _ _ hH).1
    · rw [el]; exact g3
  · obtain ⟨⟨dec, rs, cs, g1, g2⟩, g3, g4⟩ := hround d k h1 h2
    obtain ⟨F', S', e1, e2, e3, e4⟩ := ranAs_inv g1
    exact ⟨dec, F', S', rs, e1, fun x hx => g2 x (by rw [← e4]; exact hx), e2, e3, g3, g4, rfl⟩
  · obtain ⟨dec, rs, cs, g1, g2⟩ := hend d h1 h2
    obtain ⟨F', S', e1, e2, e3, e4⟩ := ranAs_inv g1
    exact ⟨dec, F', S', rs, e1, fun x hx => g2 x (by rw [← e4]; exact hx), hout, e2, e3⟩
/-- Code that is run once from a pattern. -/
theorem RunOk.weak {P : Program} {G : Nat → Option (List AV)} {nv nt : Nat} {D : Type} (T : LoopT D) {c : Code} {f : Fr → St → Option (Out × Fr × St)} (hb : RunOk P G nv nt c f)
    (hg : ∀ k ∈ T.gh, k.data.len = 0)
    (hin : ∀ F H d, T.parse F H = some d → wkF none (T.st d).1 F = some (T.st d).1 ∧ cH (T.st d).2 (H ++ T.gh) = some (T.st d).2)
    (hrem : ∀ d, T.rem d = 0)
    (hend : ∀ d, T.good d = true → ∃ dec F' S' rs, f (T.st d).1 ⟨(T.st d).2, big, dec, []⟩ = some (T.out, F', S') ∧ S'.ok ∧
      wkF rs (T.fin d).1 F' = some (T.fin d).1 ∧ wkH ((T.st d).2.length - T.gh.length) [] rs (T.fin d).2 S'.H = some (T.fin d).2) :
    RunOk P G nv nt c T.told := by
  intro F S o F' S' h
  unfold LoopT.told at h
  split at h
  · cases h
  rename_i d hd
  split at h
  · cases h
  rename_i R hR
  simp only [Option.some.injEq, Prod.mk.injEq] at h
  obtain ⟨rfl, rfl, rfl⟩ := h
  obtain ⟨hf1, hh1⟩ := hin F S.H d hd
  obtain ⟨m1, m2, m3, m4⟩ := mergeH_spec hR
  have hstlen : (T.st d).2.length = S.H.length + T.gh.length := by rw [(cH_get hh1).1, List.length_append]
  refine ⟨⟨fun ok x hx => ok x (List.mem_cons_of_mem _ hx), Nat.zero_le _, by simp only; omega, fun b hb hl => absurd hl (Nat.not_lt_zero _), fun b k hk hm => ?_, fun b k hk hm => ?_⟩, fun ok β a w hF hH Q hQ => ?_⟩
  · -- what is dead stays so
    simp only [lget_eq] at hk ⊢
    have hb : b < S.H.length := (List.getElem?_eq_some_iff.1 hk).1
    have hbR : b < R.length := by omega
    rcases m4 b _ (List.getElem?_eq_getElem hbR) with ⟨_, _, g3⟩ | ⟨g1, _⟩
    · obtain ⟨f0, e1, e2⟩ := g3 hb
      obtain ⟨k1, e3, e4⟩ := (cH_get hh1).2 b f0 e1
      rw [List.getElem?_append_left hb, hk] at e3
      injection e3 with e3; subst e3
      rcases e4 with e4 | ⟨e4, _⟩
      · rw [e2] at e4; cases e4
      · exact absurd hm e4
    · rw [hk] at g1; rw [g1, List.getElem?_eq_getElem hbR]
  · simp only [lget_eq] at hk ⊢
    rcases m4 b k hk with ⟨_, g2, _⟩ | ⟨g1, _⟩
    · exact absurd hm g2
    · exact g1
  · have hgood : T.good d = true := ok _ (List.mem_cons_self ..)
    obtain ⟨i1, i2, i3⟩ := wk_in hg hH hh1
    obtain ⟨β0, _, _, _, _, htr⟩ := wk_ok (n0 := 0) (gh := T.gh) (rs := none) (ps := (T.st d).2) hg (by simp only [wkH]; exact hh1) (Nat.zero_le _) hH
    have hF0 : FRel nv nt β (T.st d).1 a := by
      refine wkF_rel (β := β) (β' := β) (rs := none) (fun p x y v hy hx => ?_) hf1 hF
      unfold wkV at hy
      split at hy
      · injection hy with hy; subst hy; exact .undef _
      · exact cV_ok hx hy
    have hdom : ∀ b L, β b = some L → b < S.H.length := hH.dom
    obtain ⟨dec, F2, S2, rs, r1, r2, r3, r4⟩ := hend d hgood
    have hn0 : (T.st d).2.length - T.gh.length = S.H.length := by omega
    rw [hn0] at r4
    obtain ⟨x1, x2⟩ := hb _ _ _ _ _ r1
    refine x2 r2 β a w hF0 i1 _ fun a2 w2 β2 q1 q2 q3 => ?_
    have hlen2 : S.H.length ≤ S2.H.length := by have := x1.len; simp only at this; omega
    obtain ⟨β3, p1, p2, p3, p4, p5⟩ := wk_ok (n0 := S.H.length) (gh := []) (by simp) r4 hlen2 q2
    have hF3 := wkF_rel p5 r3 q1
    have e : T.fin (iter T.next (T.rem d) d) = T.fin d := by rw [hrem]; rfl
    rw [e] at hR hQ
    have hS' : Stq S.H.length β (T.st d).2 w β (T.st d).2 w := (Stp.refl ..).q (by omega)
    obtain ⟨z1, z2⟩ := merge_ok hH i1 i2 p1 ((hS'.trans q3).wk hdom p2 p3 p4) hR
    exact hQ a2 w2 β3 hF3 z1 z2
theorem LoopP.once {D : Type} (L : LoopP D) {P : Program} {G : Nat → Option (List AV)} {nv nt : Nat} {c : Code} {f : Fr → St → Option (Out × Fr × St)} (hb : RunOk P G nv nt c f)
    (hg : ∀ k ∈ L.gh, k.data.len = 0)
    (hread : ∀ F H d, L.read F H = some d → (F, H) = L.st d)
    (hrem : ∀ d, L.rem d = 0)
    (hend : ∀ d, L.good d = true → ∃ dec rs cs, ranAs ((L.st d).2.length - L.gh.length) rs (L.fin d) (f (L.st d).1 ⟨(L.st d).2, big, dec, []⟩) = some (L.out, L.fin d, cs) ∧ (∀ x ∈ cs, x = true)) :
    RunOk P G nv nt c L.T.told := by
  refine RunOk.weak L.T hb hg (fun F H d h => ?_) hrem (fun d hd => ?_)
  · have h : (match wkF none L.pat F with
      | none => none
      | some F' =>
        match cH L.patH (H ++ L.gh) with
        | none => none
        | some H' => L.read F' H') = some d := h
    split at h
    · cases h
    rename_i F' hF
    split at h
    · cases h
    rename_i H' hH
    have e := hread F' H' d h
    show wkF none (L.st d).1 F = some (L.st d).1 ∧ cH (L.st d).2 (H ++ L.gh) = some (L.st d).2
    rw [← e]
    exact ⟨wkF_again hF, (cH_again _ _ _ hH).1⟩
  · obtain ⟨dec, rs, cs, g1, g2⟩ := hend d hd
    obtain ⟨F', S', e1, e2, e3, e4⟩ := ranAs_inv g1
    exact ⟨dec, F', S', rs, e1, fun x hx => g2 x (by rw [← e4]; exact hx), e2, e3⟩
theorem exec_whole {C : Cfg} {G : Nat → Option (List AV)} (hG : C.glob = G) {call : CallF} (hcall : CallOk C.P G call) (hm : MethOk C.P C.meth) (hmix : C.P.follows .mixedOrders = true) (hl : LoopsOk C G) {f : FuncId} (hf : fnOk C f = true) (fuel i : Nat) (hi : i < (loopsIn C.P f).length) :
    RunOk C.P G (C.nv f) (ntmpsIn C.P f) (.loop (loopIn C.P f i)) (exec C fuel (.loop (loopIn C.P f i)) ⟨call, C.nv f, C.keep f, C.dyn f, C.loop f⟩) := by
  have hmem : loopIn C.P f i ∈ loopsIn C.P f := by
    unfold loopIn
    rw [List.getD_eq_getElem?_getD, List.getElem?_eq_getElem hi]
    exact List.getElem_mem hi
  revert hmem
  generalize loopIn C.P f i = b
  intro hmem
  unfold fnOk at hf
  unfold loopsIn bodyIn at hmem
  unfold ntmpsIn
  split at hf
  · cases hf
  rename_i fn hfn
  split at hf
  · cases hf
  rename_i c hc
  split at hf
  · cases hf
  simp only [hfn, hc] at hmem ⊢
  obtain ⟨m, hmb⟩ := codeOk_loop _ _ hf _ _ hmem
  refine exec_ok (C := C) (G := G) (nt := fn.ntmps) hG (E := ⟨call, C.nv f, C.keep f, C.dyn f, C.loop f⟩) hcall hm hmix fuel (m + 1) (.loop b) hmb (fun k b2 hb2 sp hsp => ?_)
  cases k with
  | zero => simp [loopsOf] at hb2
  | succ k =>
    simp only [loopsOf, List.mem_cons] at hb2
    rcases hb2 with rfl | hb2
    · exact hl f fn c hfn hc _ _ hmem sp hsp
    · obtain ⟨k3, h3⟩ := loopsOf_in _ _ _ hmem k b2 hb2
      exact hl f fn c hfn hc k3 b2 h3 sp hsp
end Go.Eng
