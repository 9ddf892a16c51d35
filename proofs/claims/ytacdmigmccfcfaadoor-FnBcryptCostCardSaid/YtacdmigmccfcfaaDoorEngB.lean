/- An interpreter of the model's code over abstract values, proved sound, part 2. No condition. -/
import Derived.Test.YtacdmigmccfcfaaDoorEngA
import Derived.ChangeKeysEq
/- Each operation does what the interpreter says: loads, stores, addresses, slices. -/
namespace Go.Eng
set_option linter.unusedSectionVars false
variable [RowAddr]
set_option linter.unusedSimpArgs false
set_option linter.unusedVariables false
section
variable {P : Program} {G : Nat → Option (List AV)} {β : Map} {w : World}

/-- The outcome of a computation of the model: a value, and a world. -/
def Does (P : Program) (G : Nat → Option (List AV)) (β : Map) (S : St) (w : World) (s : Sem Value) (x : AV) (S' : St) : Prop :=
  ∃ v w' β', s.run P w = .ok v w' ∧ VRel β' x v ∧ HRel G β' S'.H w' ∧ Stp β S.H w β' S'.H w'
/-- The same for one that has no value. -/
def DoesU (P : Program) (G : Nat → Option (List AV)) (β : Map) (S : St) (w : World) (s : Sem Unit) (S' : St) : Prop :=
  ∃ w' β', s.run P w = .ok () w' ∧ HRel G β' S'.H w' ∧ Stp β S.H w β' S'.H w'
theorem Does.pure {S S' : St} {s : Sem Value} {x : AV} {v : Value} (hH : HRel G β S.H w) (hp : Pure S S') (h : s.run P w = .ok v w) (hv : VRel β x v) : Does P G β S w s x S' := by
  refine ⟨v, w, β, h, hv, ?_, ?_⟩
  · rw [hp.H]; exact hH
  · rw [hp.H]; exact Stp.refl β S.H w

theorem run_und {t : TypeId} {d : TypeDesc} (h : P.underlying t = some d) (w : World) : (underlying t).run P w = .ok d w := run_underlying h w
theorem isAggT_spec {t : TypeId} {b : Bool} (h : isAggT P t = some b) (w : World) : (isAgg t).run P w = .ok b w := by
  unfold isAggT at h
  cases hu : P.underlying t with
  | none => simp [hu] at h
  | some d => cases d <;> simp [hu] at h <;> subst h <;> simp [isAgg, run_und hu]
theorem sizeT_info {t : TypeId} {n : Nat} (h : sizeT P t = some n) : ∃ i, P.info? t = some i ∧ i.size = n := by
  unfold sizeT at h
  cases hi : P.info? t with
  | none => simp [hi] at h
  | some i => simp [hi] at h; exact ⟨i, rfl, h⟩
theorem sizeT_spec {t : TypeId} {n : Nat} (h : sizeT P t = some n) (w : World) : (sizeOf t).run P w = .ok n w := by
  obtain ⟨i, hi, rfl⟩ := sizeT_info h
  simp [sizeOf, typeInfo, hi]
theorem single_one {x : AV} {v : Value} (h : x.single = true) (hv : VRel β x v) : v.oneCell' = true ∧ v.cells = #[v] := by
  cases hv <;> simp [AV.single] at h <;> simp [Value.oneCell', Value.cells, Num.val]
theorem row_spec {x : AV} {v : Value} {l : List AV} (h : x.row = some l) (hv : VRel β x v) : LRel β l v.cells.toList := by
  unfold AV.row at h
  split at h
  · injection h with h; subst h
    obtain ⟨vs, rfl, hl⟩ := hv.agg_inv
    exact hl
  · split at h
    · rename_i hs
      injection h with h; subst h
      rw [(single_one hs hv).2]
      exact LRel.cons hv (LRel.nil β)
    · cases h
theorem allSingle_spec {xs : List AV} {vs : List Value} (h : allSingle xs = true) (hv : LRel β xs vs) : ∀ v ∈ vs, v.oneCell' = true := by
  induction xs generalizing vs with
  | nil => rw [hv.nil_inv]; intro v hv; cases hv
  | cons x xs ih =>
    obtain ⟨v, vs', rfl, h1, h2⟩ := hv.cons_inv
    simp only [allSingle] at h
    cases hs : x.single with
    | false => simp [hs] at h
    | true =>
      simp only [hs] at h
      intro u hu
      rcases List.mem_cons.1 hu with rfl | hu
      · exact (single_one hs h1).1
      · exact ih h h2 u hu

theorem loadOp_spec {t : TypeId} {a x : AV} {va : Value} {S S' : St} (h : loadOp P G t a S = some (x, S')) (ha : VRel β a va) (hH : HRel G β S.H w) :
    Pure S S' ∧ (S'.ok → Does P G β S w (Instr.loadAt t va) x S') := by
  unfold loadOp at h
  cases hg : isAggT P t with
  | none => simp [hg] at h
  | some b =>
    cases b with
    | true =>
      simp only [hg] at h
      cases hs : sizeT P t with
      | none => simp [hs] at h
      | some n =>
        simp only [hs] at h
        cases hr : readCells G a n S with
        | none => simp [hr] at h
        | some r =>
          obtain ⟨l, S2⟩ := r
          simp only [hr, Option.some.injEq, Prod.mk.injEq] at h
          obtain ⟨rfl, rfl⟩ := h
          obtain ⟨hp, hx⟩ := readCells_spec hH ha hr
          refine ⟨hp, fun ok => ?_⟩
          obtain ⟨p, vs, rfl, hl, hlen, hc⟩ := hx ok
          refine Does.pure hH hp (v := .agg ⟨vs⟩) ?_ (VRel.aggL hl)
          have hvl : vs.length = n := by rw [← hl.1, hlen]
          have := run_loadCells_list (P := P) w p vs hc
          rw [hvl] at this
          simp [Instr.loadAt, Instr.sureAddr, loadVar, isAggT_spec hg w, sizeT_spec hs w, this]
    | false =>
      simp only [hg] at h
      obtain ⟨hp, hx⟩ := readCell_spec hH ha h
      refine ⟨hp, fun ok => ?_⟩
      obtain ⟨p, v, rfl, hc, hv⟩ := hx ok
      refine Does.pure hH hp (v := v) ?_ hv
      simp [Instr.loadAt, Instr.sureAddr, loadVar, isAggT_spec hg w, load, Sem.run, hc]

/-! Stores. -/
theorem Data.set0_spec {d d' : Data} {o : N} {x : AV} {S S' : St} (h : d.set0 o x S = some (d', S')) :
    Pure S S' ∧ d'.len = d.len ∧ (S'.ok → o.v < d.len ∧ ∀ {β : Map} {v : Value} {vs : List Value}, VRel β x v → LRel β d.list vs → LRel β d'.list (vs.set o.v v)) := by
  cases d with
  | gen l =>
    cases o with
    | s _ => simp [Data.set0] at h
    | c n =>
      simp only [Data.set0] at h
      cases hb : Nat.blt n l.length <;> simp [hb] at h
      obtain ⟨rfl, rfl⟩ := h
      rw [lset_eq]
      refine ⟨Pure.refl _, by simp [Data.len], fun _ => ⟨by show n < l.length; simpa using hb, fun hv hl => ?_⟩⟩
      exact hl.set hv n
  | b8 l =>
    simp only [Data.set0, Option.map_eq_some_iff, Prod.mk.injEq] at h
    obtain ⟨y, hy, rfl, rfl⟩ := h
    refine ⟨demand_pure _ _, rfl, fun o' => ⟨of_decide_eq_true (demand_ok o'), fun hv hl => ?_⟩⟩
    cases x <;> simp only [AV.bv8, reduceCtorEq] at hy
    have e := hv.num_inv
    rw [Num.bv8_spec hy] at e
    subst e
    simp only [Data.list, Vec.set] at hl ⊢
    rw [List.map_set]
    exact hl.set (VRel.of_n (.w8 y)) _
  | b32 l =>
    simp only [Data.set0, Option.map_eq_some_iff, Prod.mk.injEq] at h
    obtain ⟨y, hy, rfl, rfl⟩ := h
    refine ⟨demand_pure _ _, rfl, fun o' => ⟨of_decide_eq_true (demand_ok o'), fun hv hl => ?_⟩⟩
    cases x <;> simp only [AV.bv32, reduceCtorEq] at hy
    have e := hv.num_inv
    rw [Num.bv32_spec hy] at e
    subst e
    simp only [Data.list, Vec.set] at hl ⊢
    rw [List.map_set]
    exact hl.set (VRel.of_n (.w32 y)) _
  | b64 l =>
    simp only [Data.set0, Option.map_eq_some_iff, Prod.mk.injEq] at h
    obtain ⟨y, hy, rfl, rfl⟩ := h
    refine ⟨demand_pure _ _, rfl, fun o' => ⟨of_decide_eq_true (demand_ok o'), fun hv hl => ?_⟩⟩
    cases x <;> simp only [AV.bv64, reduceCtorEq] at hy
    have e := hv.num_inv
    rw [Num.bv64_spec hy] at e
    subst e
    simp only [Data.list, Vec.set] at hl ⊢
    rw [List.map_set]
    exact hl.set (VRel.of_n (.w64 y)) _
  | spot _ _ _ => simp [Data.set0] at h
  | kn _ _ => simp [Data.set0] at h

theorem Data.set1_spec {d d' : Data} {o : N} {x : AV} {S S' : St} (h : d.set1 o x S = some (d', S')) :
    Pure S S' ∧ d'.len = d.len ∧ (S'.ok → o.v < d.len ∧ ∀ {β : Map} {v : Value} {vs : List Value}, VRel β x v → LRel β d.list vs → LRel β d'.list (vs.set o.v v)) := by
  unfold Data.set1 at h
  split at h
  · rename_i m hm
    split at h
    · rename_i y hy
      simp only [Option.some.injEq, Prod.mk.injEq] at h
      obtain ⟨rfl, rfl⟩ := h
      refine ⟨demand_pure _ _, put_len hm rfl, fun o' => ?_⟩
      have hd := of_decide_eq_true (demand_ok o')
      have hr := m.row.h
      have hl := mid_len hm
      refine ⟨by omega, fun {β v vs} hv hvs => ?_⟩
      rw [put_list (show (m.row.set (o.v - m.pre.length) y).n = m.row.n from rfl)]
      cases x <;> simp only [AV.bv8, reduceCtorEq] at hy
      have e := hv.num_inv
      rw [Num.bv8_spec hy] at e
      subst e
      have k := (mid_rel hm hvs).set (VRel.of_n (.w8 y)) o.v
      have e1 : (m.pre ++ (m.row.l.map AV.w8 ++ m.post)).set o.v (.w8 y) = m.pre ++ ((m.row.set (o.v - m.pre.length) y).l.map AV.w8 ++ m.post) := by
        rw [List.set_append_right _ _ (by omega), List.set_append_left _ _ (by rw [List.length_map]; omega), ← List.map_set]; rfl
      rw [← e1]; exact k
    · cases h
  · cases h
theorem Data.set_spec {d d' : Data} {o : N} {x : AV} {S S' : St} (h : d.set o x S = some (d', S')) :
    Pure S S' ∧ d'.len = d.len ∧ (S'.ok → o.v < d.len ∧ ∀ {β : Map} {v : Value} {vs : List Value}, VRel β x v → LRel β d.list vs → LRel β d'.list (vs.set o.v v)) := by
  unfold Data.set at h
  split at h
  · rename_i r hr
    injection h with h; subst h
    exact Data.set0_spec hr
  · split at h
    · rename_i d2 hd
      obtain ⟨h1, h2, h3⟩ := Data.set0_spec h
      refine ⟨h1, h2.trans (words_len hd), fun ok => ?_⟩
      obtain ⟨g1, g2⟩ := h3 ok
      exact ⟨by rw [← words_len hd]; exact g1, fun hv hl => g2 hv (words_rel hd hl)⟩
    · exact Data.set1_spec h
theorem LRel.over {l xs : List AV} {vs us : List Value} (h : LRel β l vs) (k : LRel β xs us) (o : Nat) : LRel β (Eng.over l o xs) (Eng.over vs o us) := by
  unfold Eng.over
  rw [show o + xs.length = o + us.length by rw [k.1]]
  exact ((h.take o).append k).append (h.drop _)
theorem over_len {α : Type} (l : List α) (o : Nat) (xs : List α) (h : o + xs.length ≤ l.length) : (Eng.over l o xs).length = l.length := by simp [Eng.over]; omega
theorem over_map {α γ : Type} (f : α → γ) (l : List α) (o : Nat) (xs : List α) : (Eng.over l o xs).map f = Eng.over (l.map f) o (xs.map f) := by simp [Eng.over]
theorem setL_over {α : Type} : ∀ (xs l : List α) (o : Nat), o + xs.length ≤ l.length → setL l o xs = Eng.over l o xs
  | [], l, o, _ => by simp [setL, Eng.over]
  | x :: xs, l, o, h => by
    simp only [List.length_cons] at h
    rw [setL, setL_over xs _ _ (by rw [List.length_set]; omega)]
    unfold Eng.over
    have e1 : (l.set o x).take (o + 1) = l.take o ++ [x] := by
      rw [List.take_add_one, List.take_set_of_le (Nat.le_refl o), List.getElem?_set_self (by omega)]; rfl
    have e2 : (l.set o x).drop (o + 1 + xs.length) = l.drop (o + 1 + xs.length) := List.drop_set_of_lt (by omega)
    rw [e1, e2]
    simp [Nat.add_assoc, Nat.add_comm 1]
theorem Data.over0_spec {d d' x : Data} {o : N} {S S' : St} (h : d.over0 o x S = some (d', S')) :
    Pure S S' ∧ (S'.ok → o.v + x.len ≤ d.len ∧ d'.len = d.len ∧ ∀ {β : Map} {us vs : List Value}, LRel β x.list us → LRel β d.list vs → LRel β d'.list (Eng.over vs o.v us)) := by
  cases d with
  | gen l =>
    cases o with
    | s _ => simp [Data.over0] at h
    | c n =>
      cases x <;> simp [Data.over0] at h
      rename_i xs
      obtain ⟨r, hr, rfl, rfl⟩ := h
      obtain ⟨h1, rfl⟩ := lput_eq _ _ _ _ hr
      exact ⟨Pure.refl _, fun _ => ⟨h1, over_len l n xs h1, fun hu hv => LRel.over hv hu n⟩⟩
  | b8 l =>
    simp only [Data.over0, Option.map_eq_some_iff, Prod.mk.injEq] at h
    obtain ⟨xs, hx, rfl, rfl⟩ := h
    refine ⟨demand_pure _ _, fun o' => ?_⟩
    have hd := of_decide_eq_true (demand_ok o')
    have hlx : x.len = xs.n := (as8_len hx).symm
    have h1 := l.h
    have h2 := xs.h
    refine ⟨by rw [hlx]; exact hd, rfl, fun hu hv => ?_⟩
    simp only [Data.list, Vec.over] at hv ⊢
    rw [setL_over _ _ _ (by omega), over_map]
    exact LRel.over hv (as8_rel hx hu) _
  | b32 l =>
    simp only [Data.over0, Option.map_eq_some_iff, Prod.mk.injEq] at h
    obtain ⟨xs, hx, rfl, rfl⟩ := h
    refine ⟨demand_pure _ _, fun o' => ?_⟩
    have hd := of_decide_eq_true (demand_ok o')
    have hlx : x.len = xs.n := (as32_len hx).symm
    have h1 := l.h
    have h2 := xs.h
    refine ⟨by rw [hlx]; exact hd, rfl, fun hu hv => ?_⟩
    simp only [Data.list, Vec.over] at hv ⊢
    rw [setL_over _ _ _ (by omega), over_map]
    exact LRel.over hv (as32_rel hx hu) _
  | b64 l =>
    simp only [Data.over0, Option.map_eq_some_iff, Prod.mk.injEq] at h
    obtain ⟨xs, hx, rfl, rfl⟩ := h
    refine ⟨demand_pure _ _, fun o' => ?_⟩
    have hd := of_decide_eq_true (demand_ok o')
    have hlx : x.len = xs.n := (as64_len hx).symm
    have h1 := l.h
    have h2 := xs.h
    refine ⟨by rw [hlx]; exact hd, rfl, fun hu hv => ?_⟩
    simp only [Data.list, Vec.over] at hv ⊢
    rw [setL_over _ _ _ (by omega), over_map]
    exact LRel.over hv (as64_rel hx hu) _
  | spot _ _ _ => simp [Data.over0] at h
  | kn _ _ => simp [Data.over0] at h

theorem Data.over1_spec {d d' x : Data} {o : N} {S S' : St} (h : d.over1 o x S = some (d', S')) :
    Pure S S' ∧ (S'.ok → o.v + x.len ≤ d.len ∧ d'.len = d.len ∧ ∀ {β : Map} {us vs : List Value}, LRel β x.list us → LRel β d.list vs → LRel β d'.list (Eng.over vs o.v us)) := by
  unfold Data.over1 at h
  split at h
  · rename_i m hm
    split at h
    · rename_i xs hx
      simp only [Option.some.injEq, Prod.mk.injEq] at h
      obtain ⟨rfl, rfl⟩ := h
      refine ⟨demand_pure _ _, fun o' => ?_⟩
      have hd := of_decide_eq_true (demand_ok o')
      have hr := m.row.h
      have hxl := xs.h
      have hl := mid_len hm
      have hlx : x.len = xs.n := (as8_len hx).symm
      refine ⟨by omega, put_len hm rfl, fun {β us vs} hu hv => ?_⟩
      rw [put_list (show (m.row.over (o.v - m.pre.length) xs).n = m.row.n from rfl)]
      have k := LRel.over (mid_rel hm hv) (as8_rel hx hu) o.v
      have e1 : Eng.over (m.pre ++ (m.row.l.map AV.w8 ++ m.post)) o.v (xs.l.map AV.w8) = m.pre ++ ((m.row.over (o.v - m.pre.length) xs).l.map AV.w8 ++ m.post) := by
        show _ = m.pre ++ ((setL m.row.l (o.v - m.pre.length) xs.l).map AV.w8 ++ m.post)
        rw [setL_over _ _ _ (by omega), over_map]
        unfold Eng.over
        simp only [List.length_map]
        rw [show o.v + xs.l.length = m.pre.length + (o.v - m.pre.length + xs.l.length) by omega]
        have e2 : o.v = m.pre.length + (o.v - m.pre.length) := by omega
        generalize o.v - m.pre.length = q at *
        rw [e2, List.take_append, List.take_append, List.drop_append, List.drop_append]
        simp only [Nat.add_sub_cancel_left, List.length_map]
        rw [List.take_of_length_le (l := m.pre) (by omega), List.drop_of_length_le (l := m.pre) (by omega), show q - m.row.l.length = 0 by omega, show q + xs.l.length - m.row.l.length = 0 by omega]
        simp
      rw [← e1]; exact k
    · cases h
  · cases h
theorem Data.over_spec {d d' x : Data} {o : N} {S S' : St} (h : d.over o x S = some (d', S')) :
    Pure S S' ∧ (S'.ok → o.v + x.len ≤ d.len ∧ d'.len = d.len ∧ ∀ {β : Map} {us vs : List Value}, LRel β x.list us → LRel β d.list vs → LRel β d'.list (Eng.over vs o.v us)) := by
  unfold Data.over at h
  split at h
  · rename_i r hr
    injection h with h; subst h
    exact Data.over0_spec hr
  · split at h
    · rename_i d2 hd
      obtain ⟨h1, h3⟩ := Data.over0_spec h
      refine ⟨h1, fun ok => ?_⟩
      obtain ⟨g1, g2, g3⟩ := h3 ok
      exact ⟨by rw [← words_len hd]; exact g1, g2.trans (words_len hd), fun hv hl => g3 hv (words_rel hd hl)⟩
    · exact Data.over1_spec h
theorem Pure.of_write {S S' S'' : St} {b : Nat} {d : Data} (hp : Pure S S') (h : S'.write b d = some S'') : S''.ok → S.ok := by
  obtain ⟨_, _, _, _, hc, _⟩ := St.write_spec h
  intro o
  exact hp.ok fun x hx => o x (by rw [hc]; exact hx)
theorem ok_of_write {S' S'' : St} {b : Nat} {d : Data} (h : S'.write b d = some S'') : S''.ok → S'.ok := by
  obtain ⟨_, _, _, _, hc, _⟩ := St.write_spec h
  exact fun o x hx => o x (by rw [hc]; exact hx)

/-- Cells put into a block of our own. -/
theorem stored_spec {S S1 S2 : St} {b : Nat} {d d' : Data} {o : Nat} {L : Loc} {us : List Value} (hH : HRel G β S.H w) (hp : Pure S S1) (hb : S.read b = some d) (hw : S1.write b d' = some S2)
    (hL : β b = some L) (ho : o + us.length ≤ d.len) (hd : d'.len = d.len) (hr : ∀ {vs : List Value}, LRel β d.list vs → LRel β d'.list (Eng.over vs o us)) (h1 : ∀ v ∈ us, v.oneCell' = true) :
    DoesU P G β S w (storeCells (at' L.c (L.base + o)) us) S2 := by
  obtain ⟨d0, hb0, hH2, _, _, _⟩ := St.write_spec hw
  obtain ⟨m, hbm, hm⟩ := St.read_spec hb
  rw [hp.H, hbm] at hb0
  injection hb0 with e; injection e with e1 e2; subst e1 e2
  have hob : OOk β d L w := by
    rcases hH.blk b _ hbm hm with ⟨L', hL', hbr⟩ | ⟨_, hn⟩
    · rw [hL] at hL'; injection hL' with e; subst e; exact hbr
    · rw [hL] at hn; cases hn
  obtain ⟨h0, vs, t, fz, hh, hfz, hvl, hdl, hrr⟩ := hob
  have hst := run_storeCells_atG P L.c o t fz us 0 ⟨vs⟩ w hh hfz (by simp; omega) h1
  simp only [Nat.add_zero] at hst
  have e : at' L.c (L.base + o) = ⟨L.c, o, none⟩ := by simp [at', h0]
  have hov : (vs.take o ++ us ++ vs.drop (o + us.length)) = Eng.over vs o us := rfl
  have hlen : (Eng.over vs o us).length = L.room := by rw [over_len _ _ _ (by omega), hvl]
  have hrel : LRel β d'.list ((Eng.over vs o us).take d'.len) := by
    have := hr hrr
    have e2 : Eng.over (vs.take d.len) o us = (Eng.over vs o us).take d'.len := by
      rw [hd]
      apply List.ext_getElem?
      intro i
      simp only [Eng.over, List.getElem?_append, List.getElem?_take, List.getElem?_drop, List.length_append, List.length_take]
      repeat' split
      all_goals first | rfl | omega | (congr 1; omega) | skip
      all_goals (try simp_all)
      all_goals (try omega)
    rw [← e2]; exact this
  have hw' := hH.write hbm hL (Eng.over vs o us) hlen (by omega) hrel
  refine ⟨w.setRow L.c ⟨Eng.over vs o us⟩, β, ?_, ?_, ?_⟩
  · rw [e]; rw [hst]; rfl
  · rw [hH2, hp.H]; exact hw'.1
  · rw [hH2, hp.H]; exact hw'.2
end
end Go.Eng
/- Each operation does what the interpreter says: stores, addresses, slices. -/
namespace Go.Eng
set_option linter.unusedSectionVars false
variable [RowAddr]
set_option linter.unusedSimpArgs false
set_option linter.unusedVariables false
section
variable {P : Program} {G : Nat → Option (List AV)} {β : Map} {w : World}

theorem storeOp_spec {t : TypeId} {a x : AV} {va vx : Value} {S S' : St} (h : storeOp P t a x S = some S') (ha : VRel β a va) (hx : VRel β x vx) (hH : HRel G β S.H w) :
    (S'.ok → S.ok) ∧ (S'.ok → DoesU P G β S w (Instr.storeAt t va vx) S') := by
  unfold storeOp at h
  split at h
  case h_2 => cases h
  rename_i b o
  obtain ⟨L, hL, rfl⟩ := ha.ptr_inv
  cases hr : S.read b with
  | none => simp [hr] at h
  | some d =>
    simp only [hr] at h
    cases hs : sizeT P t with
    | none => simp [hs] at h
    | some n =>
      simp only [hs] at h
      split at h
      · rename_i xs
        obtain ⟨vs, rfl, hl⟩ := hx.agg_inv
        split at h
        case h_2 => cases h
        rename_i hc
        simp only [Bool.and_eq_true] at hc
        have hn : xs.length = n := by simpa using hc.1
        split at h
        case h_2 => cases h
        rename_i d' S1 ho
        obtain ⟨hp, hov⟩ := Data.over_spec ho
        refine ⟨hp.of_write h, fun ok => ?_⟩
        obtain ⟨h1, h2, h3⟩ := hov (ok_of_write h ok)
        have := stored_spec (P := P) (us := vs) hH hp hr h hL (by rw [← hl.1]; exact h1) h2 (fun hv => h3 hl hv) (allSingle_spec hc.2 hl)
        obtain ⟨w', β', h4, h5, h6⟩ := this
        refine ⟨w', β', ?_, h5, h6⟩
        have hvn : ¬ (vs.length ≠ n) := by rw [← hl.1, hn]; simp
        simp [Instr.storeAt, Instr.sureAddr, storeVar, sizeT_spec hs w, Value.cells, hvn, h4]
      · split at h
        case h_2 => cases h
        rename_i hsg
        split at h
        case h_2 => cases h
        rename_i h1n
        split at h
        case h_2 => cases h
        rename_i d' S1 hst
        obtain ⟨hp, hlen, hov⟩ := Data.set_spec hst
        refine ⟨hp.of_write h, fun ok => ?_⟩
        obtain ⟨h1, h2⟩ := hov (ok_of_write h ok)
        obtain ⟨g1, g2⟩ := single_one hsg hx
        have hover : ∀ vs : List Value, o.v < vs.length → Eng.over vs o.v [vx] = vs.set o.v vx := by
          intro vs hlt
          simp only [Eng.over, List.length_cons, List.length_nil]
          rw [List.set_eq_take_append_cons_drop, if_pos hlt]; simp
        have := stored_spec (P := P) (us := [vx]) (o := o.v) hH hp hr h hL (by show o.v + 1 ≤ d.len; omega) hlen
          (fun {vs} hv => by rw [hover vs (by rw [← hv.1, Data.list_len]; exact h1)]; exact h2 hx hv) (by simpa using g1)
        obtain ⟨w', β', h4, h5, h6⟩ := this
        refine ⟨w', β', ?_, h5, h6⟩
        have hn : n = 1 := by simpa using h1n
        simp [Instr.storeAt, Instr.sureAddr, storeVar, sizeT_spec hs w, g2, hn, h4]

/-! Addresses. -/
theorem AV.nm_spec {x : AV} {v : Value} {z : Z} (h : x.nm = some z) (hv : VRel β x v) : ∃ k, v = .int k z.v := by
  cases x <;> simp [AV.nm] at h
  rename_i n
  subst h
  exact ⟨n.k, hv.num_inv⟩
theorem inRange_spec {z l : Z} {S S' : St} (h : (inRange z l).claim S = some S') : Pure S S' ∧ (S'.ok → 0 ≤ z.v ∧ z.v < l.v) := by
  obtain ⟨hp, hv⟩ := B.claim_spec h
  refine ⟨hp, fun ok => ?_⟩
  have := hv ok
  rw [inRange, B.and_v, Z.le_v, Z.lt_v, Bool.and_eq_true] at this
  exact ⟨of_decide_eq_true this.1, of_decide_eq_true this.2⟩
theorem addr_add (c base o i s : Nat) : (at' c (base + o)).add (i * s) = at' c (base + (o + i * s)) := by rw [add_at, Nat.add_assoc]

theorem indexAddrOp_spec {t : TypeId} {a i x : AV} {va vi : Value} {S S' : St} (h : indexAddrOp P t a i S = some (x, S')) (ha : VRel β a va) (hi : VRel β i vi) (hH : HRel G β S.H w) :
    Pure S S' ∧ (S'.ok → Does P G β S w (Instr.indexAt t va vi) x S') := by
  unfold indexAddrOp at h
  cases hz : i.nm with
  | none => simp [hz] at h
  | some z =>
    simp only [hz] at h
    obtain ⟨k, rfl⟩ := AV.nm_spec hz hi
    split at h
    · rename_i n e hu
      cases hs : sizeT P e with
      | none => simp [hs] at h
      | some s =>
        simp only [hs] at h
        cases hc : (inRange z (.c n)).claim S with
        | none => simp [hc] at h
        | some S1 =>
          simp only [hc] at h
          obtain ⟨hp, hv⟩ := inRange_spec hc
          have hoff : ∀ o : N, (o.add (z.toN.mulc s)).v = o.v + z.v.toNat * s := fun o => by rw [N.add_v, N.mulc_v, Z.toN_v]
          split at h
          · rename_i b o
            obtain ⟨rfl, rfl⟩ : _ ∧ _ := by simpa using h
            refine ⟨hp, fun ok => ?_⟩
            obtain ⟨h1, h2⟩ := hv ok
            obtain ⟨L, hL, rfl⟩ := ha.ptr_inv
            refine Does.pure hH hp ?_ (.ptr b _ L hL)
            have h2' : z.v < (n : Int) := h2
            simp [Instr.indexAt, run_und hu, Instr.sureAddr, asIntOf, sizeT_spec hs w, h1, h2', addr_add, hoff]
          · rename_i g o
            obtain ⟨rfl, rfl⟩ : _ ∧ _ := by simpa using h
            refine ⟨hp, fun ok => ?_⟩
            obtain ⟨h1, h2⟩ := hv ok
            rw [ha.gp_inv]
            refine Does.pure hH hp ?_ (.gp g _)
            have h2' : z.v < (n : Int) := h2
            simp [Instr.indexAt, run_und hu, Instr.sureAddr, asIntOf, sizeT_spec hs w, h1, h2', gAt_add, hoff]
          · cases h
    · rename_i e hu
      cases hs : sizeT P e with
      | none => simp [hs] at h
      | some s =>
        simp only [hs] at h
        have hoff : ∀ o : N, (o.add (z.toN.mulc s)).v = o.v + z.v.toNat * s := fun o => by rw [N.add_v, N.mulc_v, Z.toN_v]
        split at h
        case h_4 => cases h
        case h_3 =>
          rename_i b l s'
          split at h
          case h_2 => cases h
          rename_i hss
          have hss : s' = s := by simpa using hss
          subst hss
          cases hc : (inRange z l.toZ).claim S with
          | none => simp [hc] at h
          | some S1 =>
            simp only [hc, Option.some.injEq, Prod.mk.injEq] at h
            obtain ⟨rfl, rfl⟩ := h
            obtain ⟨hp, hv⟩ := inRange_spec hc
            refine ⟨hp, fun ok => ?_⟩
            obtain ⟨h1, h2⟩ := hv ok
            rw [N.toZ_v] at h2
            obtain ⟨a, cp, rfl, g1, g3⟩ := ha.sm_inv
            rcases g3 with g3 | ⟨L, hL, rfl, g4⟩
            · omega
            · refine Does.pure hH hp ?_ (.ptr b _ L hL)
              have e0 : (N.c 0).v = 0 := rfl
              simp [Instr.indexAt, run_und hu, asIntOf, sizeT_spec hs w, h1, h2, addr_add, hoff, e0, add_at]
        case h_2 =>
          rename_i g o l
          cases hc : (inRange z l.toZ).claim S with
          | none => simp [hc] at h
          | some S1 =>
            simp only [hc, Option.some.injEq, Prod.mk.injEq] at h
            obtain ⟨rfl, rfl⟩ := h
            obtain ⟨hp, hv⟩ := inRange_spec hc
            refine ⟨hp, fun ok => ?_⟩
            obtain ⟨h1, h2⟩ := hv ok
            rw [N.toZ_v] at h2
            obtain ⟨cp, rfl, g1⟩ := ha.gs_inv
            refine Does.pure hH hp ?_ (.gp g _)
            simp [Instr.indexAt, run_und hu, asIntOf, sizeT_spec hs w, h1, h2, gAt_add, hoff]
        rename_i b o l cap
        cases hc : (inRange z l.toZ).claim S with
        | none => simp [hc] at h
        | some S1 =>
          simp only [hc, Option.some.injEq, Prod.mk.injEq] at h
          obtain ⟨rfl, rfl⟩ := h
          obtain ⟨hp, hv⟩ := inRange_spec hc
          refine ⟨hp, fun ok => ?_⟩
          obtain ⟨h1, h2⟩ := hv ok
          rw [N.toZ_v] at h2
          obtain ⟨a, cp, rfl, g1, g2, g3⟩ := ha.sl_inv
          rcases g3 with g3 | ⟨L, hL, rfl, g4⟩
          · omega
          · refine Does.pure hH hp ?_ (.ptr b _ L hL)
            simp [Instr.indexAt, run_und hu, asIntOf, sizeT_spec hs w, h1, h2, addr_add, hoff]
    · cases h

theorem fieldAddrOp_spec {t : TypeId} {a x : AV} {va : Value} {f : Nat} {S : St} (h : fieldAddrOp P t a f = some x) (ha : VRel β a va) (hH : HRel G β S.H w) :
    Does P G β S w (Instr.fieldAt t va f) x S := by
  unfold fieldAddrOp at h
  split at h
  case h_2 => cases h
  rename_i fields hu
  rw [lget_eq] at h
  cases hf : fields.toList[f]? with
  | none => simp [hf] at h
  | some fd =>
    simp only [hf] at h
    have hf' : fields[f]? = some fd := by simpa using hf
    split at h
    case h_1 => cases h
    case h_3 => cases h
    rename_i s hne hs
    have hs0 : ¬ s = 0 := fun e => hne e
    split at h
    · rename_i b o
      injection h with h; subst h
      obtain ⟨L, hL, rfl⟩ := ha.ptr_inv
      refine Does.pure hH (Pure.refl _) ?_ (.ptr b _ L hL)
      simp [Instr.fieldAt, run_und hu, hf', Instr.sureAddr, fieldPlace, sizeT_spec hs w, hs0, add_at, Nat.add_assoc]
      rw [N.add_v]; rfl
    · rename_i b o
      injection h with h; subst h
      rw [ha.gp_inv]
      refine Does.pure hH (Pure.refl _) ?_ (.gp b _)
      simp [Instr.fieldAt, run_und hu, hf', Instr.sureAddr, fieldPlace, sizeT_spec hs w, hs0, gAt_add]
      rw [N.add_v]; rfl
    · cases h

/-! Slices. -/
def ORel (β : Map) (x : Option AV) (v : Option Value) : Prop :=
  match x, v with
  | none, none => True
  | some x, some v => VRel β x v
  | _, _ => False
theorem ordered_spec {l h m : Z} {S S' : St} (hc : (ordered l h m).claim S = some S') : Pure S S' ∧ (S'.ok → 0 ≤ l.v ∧ l.v ≤ h.v ∧ h.v ≤ m.v) := by
  obtain ⟨hp, hv⟩ := B.claim_spec hc
  refine ⟨hp, fun ok => ?_⟩
  have := hv ok
  rw [ordered, B.and_v, B.and_v, Z.le_v, Z.le_v, Z.le_v, Bool.and_eq_true, Bool.and_eq_true] at this
  exact ⟨of_decide_eq_true this.1.1, of_decide_eq_true this.1.2, of_decide_eq_true this.2⟩
theorem bound_spec {x : Option AV} {v : Option Value} {d : N} {z : Z} (h : bound x d = some z) (hv : ORel β x v) : (v = none ∧ z.v = (d.v : Int)) ∨ ∃ k, v = some (.int k z.v) := by
  cases x with
  | none =>
    cases v with
    | none => simp [bound] at h; subst h; exact .inl ⟨rfl, N.toZ_v d⟩
    | some v => exact absurd hv (by simp [ORel])
  | some x =>
    cases v with
    | none => exact absurd hv (by simp [ORel])
    | some v =>
      obtain ⟨k, rfl⟩ := AV.nm_spec h hv
      exact .inr ⟨k, rfl⟩
theorem run_sliceBound {k : IntKind} {i : Int} {y : Nat} {c : BoundsCode} (h1 : 0 ≤ i) (h2 : i ≤ y) : (Instr.sliceBound (.int k i) y c).run P w = .ok i.toNat w := by
  simp [Instr.sliceBound, asIntOf, h1, h2]
theorem run_sliceBounds {isS : Bool} {len cap : Nat} {lo hi mx : Option Value} {l h m : Int}
    (hm : (mx = none ∧ m = cap) ∨ ∃ k, mx = some (.int k m)) (hh : (hi = none ∧ h = len ∧ mx = none) ∨ ∃ k, hi = some (.int k h)) (hl : (lo = none ∧ l = 0) ∨ ∃ k, lo = some (.int k l))
    (o1 : 0 ≤ l) (o2 : l ≤ h) (o3 : h ≤ m) (o4 : m ≤ cap) : (Instr.sliceBounds isS len cap lo hi mx).run P w = .ok (l.toNat, h.toNat, m.toNat) w := by
  have e0 : (h.toNat : Int) = h := Int.toNat_of_nonneg (by omega)
  have e1 : (m.toNat : Int) = m := Int.toNat_of_nonneg (by omega)
  have b1 : ∀ k c, (Instr.sliceBound (.int k m) cap c).run P w = .ok m.toNat w := fun k c => run_sliceBound (by omega) o4
  have b2 : ∀ k c, (Instr.sliceBound (.int k h) m.toNat c).run P w = .ok h.toNat w := fun k c => run_sliceBound (by omega) (by omega)
  have b3 : ∀ k c, (Instr.sliceBound (.int k l) h.toNat c).run P w = .ok l.toNat w := fun k c => run_sliceBound o1 (by omega)
  rcases hm with ⟨rfl, rfl⟩ | ⟨km, rfl⟩
  · simp only [Int.toNat_natCast] at b2 ⊢
    rcases hh with ⟨rfl, rfl, _⟩ | ⟨kh, rfl⟩
    · simp only [Int.toNat_natCast] at b3 ⊢
      rcases hl with ⟨rfl, rfl⟩ | ⟨kl, rfl⟩ <;> simp [Instr.sliceBounds, b3]
    · rcases hl with ⟨rfl, rfl⟩ | ⟨kl, rfl⟩ <;> simp [Instr.sliceBounds, b3, b2]
  · rcases hh with ⟨rfl, rfl, hx⟩ | ⟨kh, rfl⟩
    · cases hx
    · rcases hl with ⟨rfl, rfl⟩ | ⟨kl, rfl⟩ <;> simp [Instr.sliceBounds, b3, b2, b1]

theorem bound_hi {x : Option AV} {v : Option Value} {d : N} {z : Z} (h : bound x d = some z) (hv : ORel β x v) : (v = none ∧ z.v = (d.v : Int) ∧ (none : Option Value) = none) ∨ ∃ k, v = some (.int k z.v) := by
  rcases bound_spec h hv with ⟨h1, h2⟩ | h1
  · exact .inl ⟨h1, h2, rfl⟩
  · exact .inr h1
theorem ORel.none_l {v : Option Value} (h : ORel β none v) : v = none := by cases v <;> simp [ORel] at h; rfl
theorem ORel.some_l {x : AV} {v : Option Value} (h : ORel β (some x) v) : ∃ u, v = some u ∧ VRel β x u := by
  cases v with
  | none => simp [ORel] at h
  | some u => exact ⟨u, rfl, h⟩
theorem toNat_le {a b : Int} (h : a ≤ b) : a.toNat ≤ b.toNat := Int.toNat_le_toNat h
/-- What a slice of a slice is. -/
theorem slice_rel {b : Nat} {o len : N} {cap cap' : Option N} {a : Option Addr} {cp : Nat} {l h m : Z} (g3 : cp = 0 ∨ ∃ L, β b = some L ∧ a = some (at' L.c (L.base + o.v)) ∧ o.v + cp ≤ L.room)
    (o1 : 0 ≤ l.v) (o2 : l.v ≤ h.v) (o3 : h.v ≤ m.v) (o4 : m.v ≤ cp) (hcap : ∀ C, cap' = some C → C.v = m.v.toNat - l.v.toNat) :
    VRel β (.ref (.sl b (o.add l.toN) (h.toN.sub l.toN) cap')) (.slice (if m.v.toNat = l.v.toNat then a else a.map (·.add (l.v.toNat * 1))) (h.v.toNat - l.v.toNat) (m.v.toNat - l.v.toNat)) := by
  have e : h.v.toNat - l.v.toNat = (h.toN.sub l.toN).v := by rw [N.sub_v, Z.toN_v, Z.toN_v]
  rw [e]
  refine .sl b _ _ cap' _ _ (by rw [← e]; omega) hcap ?_
  by_cases hm : m.v.toNat = l.v.toNat
  · exact .inl (by omega)
  · right
    rcases g3 with g3 | ⟨L, hL, rfl, g4⟩
    · omega
    · refine ⟨L, hL, ?_, ?_⟩
      · rw [if_neg hm, N.add_v, Z.toN_v]; simp [add_at, Nat.add_assoc]
      · rw [N.add_v, Z.toN_v]; omega

theorem sliceOp_spec {t : TypeId} {a x : AV} {va : Value} {lo hi mx : Option AV} {vlo vhi vmx : Option Value} {S S' : St} (h : sliceOp P t a lo hi mx S = some (x, S')) (ha : VRel β a va)
    (hlo : ORel β lo vlo) (hhi : ORel β hi vhi) (hmx : ORel β mx vmx) (hH : HRel G β S.H w) :
    Pure S S' ∧ (S'.ok → Does P G β S w (Instr.sliceAt t va vlo vhi vmx) x S') := by
  unfold sliceOp at h
  split at h
  · rename_i n e hu
    split at h
    case h_2 => cases h
    rename_i b o
    split at h
    case h_1 => cases h
    case h_3 => cases h
    · rename_i s hs00 hs
      have hs0 : ¬ s = 0 := fun e => hs00 e
      obtain ⟨L, hL, rfl⟩ := ha.ptr_inv
      unfold sliceArr at h
      cases hl : bound lo (.c 0) with
      | none => simp [hl] at h
      | some l =>
        cases hh : bound hi (.c n) with
        | none => simp [hl, hh] at h
        | some h' =>
          simp only [hl, hh] at h
          cases mx with
          | some _ => simp at h
          | none =>
            obtain rfl := hmx.none_l
            simp only at h
            cases hr : S.read b with
            | none => simp [hr] at h
            | some d =>
              simp only [hr] at h
              cases hc0 : ((o.add (.c (n * s))).le d.lenN).claim S with
              | none => simp [hc0] at h
              | some S0 =>
                simp only [hc0] at h
                obtain ⟨hp0, hv0⟩ := B.claim_spec hc0
                cases hc : (ordered l h' (.c n)).claim S0 with
                | none => simp [hc] at h
                | some S1 =>
                  simp only [hc, Option.some.injEq, Prod.mk.injEq] at h
                  obtain ⟨rfl, rfl⟩ := h
                  obtain ⟨hp, hv⟩ := ordered_spec hc
                  refine ⟨hp0.trans hp, fun ok => ?_⟩
                  obtain ⟨o1, o2, o3⟩ := hv ok
                  have o3' : h'.v ≤ (n : Int) := o3
                  have hroom := hv0 (hp.ok ok)
                  rw [N.le_v, N.add_v] at hroom
                  have hroom : o.v + n * s ≤ d.len := by
                    have hd : d.lenN.v = d.len := by cases d <;> rfl
                    rw [hd] at hroom
                    exact of_decide_eq_true hroom
                  obtain ⟨m, hbm, hm⟩ := St.read_spec hr
                  have hLr := hH.room hbm hm hL
                  simp only at hLr
                  have hb := run_sliceBounds (P := P) (w := w) (isS := false) (len := n) (cap := n) (lo := vlo) (hi := vhi) (mx := none) (l := l.v) (h := h'.v) (m := n) (.inl ⟨rfl, rfl⟩)
                    (bound_hi hh hhi) (bound_spec hl hlo) o1 o2 o3' (Int.le_refl _)
                  simp only [Int.toNat_natCast] at hb
                  have e : h'.v.toNat - l.v.toNat = (h'.toN.sub l.toN).v := by rw [N.sub_v, Z.toN_v, Z.toN_v]
                  have hln : l.v.toNat ≤ n := by omega
                  refine Does.pure hH (hp0.trans hp) (v := .slice (some (if n = l.v.toNat then at' L.c (L.base + o.v) else (at' L.c (L.base + o.v)).add (l.v.toNat * s))) (h'.toN.sub l.toN).v (n - l.v.toNat)) ?_ ?_
                  · simp [Instr.sliceAt, run_und hu, Instr.sureAddr, hb, sizeT_spec hs w, e]
                  · refine .sl b _ _ _ _ _ (by rw [← e]; omega) (by intro C hC; injection hC with hC; subst hC; rw [N.sub_v, Z.toN_v]; rfl) ?_
                    by_cases hnl : n = l.v.toNat
                    · exact .inl (by omega)
                    · refine .inr ⟨L, hL, ?_, ?_⟩
                      · rw [if_neg hnl, addr_add, N.add_v, N.mulc_v, Z.toN_v]
                      · rw [N.add_v, N.mulc_v, Z.toN_v]
                        · have : l.v.toNat * s + (n - l.v.toNat) ≤ n * s := by
                            have h1 : (n - l.v.toNat) ≤ (n - l.v.toNat) * s := Nat.le_mul_of_pos_right _ (by omega)
                            have h2 : l.v.toNat * s + (n - l.v.toNat) * s = n * s := by rw [← Nat.add_mul]; congr 1; omega
                            omega
                          omega
  · rename_i e hu
    split at h
    · rename_i b o len cap
      split at h
      case h_2 => cases h
      rename_i hs
      obtain ⟨a, cp, rfl, g1, g2, g3⟩ := ha.sl_inv
      unfold sliceSl at h
      cases hl : bound lo (.c 0) with
      | none => simp [hl] at h
      | some l =>
        cases hh : bound hi len with
        | none => simp [hl, hh] at h
        | some h' =>
          simp only [hl, hh] at h
          cases cap with
          | none =>
            cases mx with
            | some _ => simp at h
            | none =>
              obtain rfl := hmx.none_l
              simp only at h
              cases hc : (ordered l h' len.toZ).claim S with
              | none => simp [hc] at h
              | some S1 =>
                simp only [hc, Option.some.injEq, Prod.mk.injEq] at h
                obtain ⟨rfl, rfl⟩ := h
                obtain ⟨hp, hv⟩ := ordered_spec hc
                refine ⟨hp, fun ok => ?_⟩
                obtain ⟨o1, o2, o3⟩ := hv ok
                rw [N.toZ_v] at o3
                have hb := run_sliceBounds (P := P) (w := w) (isS := true) (len := len.v) (cap := cp) (lo := vlo) (hi := vhi) (mx := none) (l := l.v) (h := h'.v) (m := cp) (.inl ⟨rfl, rfl⟩)
                  (bound_hi hh hhi) (bound_spec hl hlo) o1 o2 (by omega) (Int.le_refl _)
                have hr := slice_rel (β := β) (b := b) (o := o) (len := len) (cap := none) (cap' := none) (a := a) (cp := cp) (l := l) (h := h') (m := .s cp) g3 o1 o2 (by show h'.v ≤ (cp : Int); omega) (Int.le_refl _) (fun C hC => by cases hC)
                refine Does.pure hH hp ?_ hr
                simp [Instr.sliceAt, run_und hu, Instr.slice, hb, sizeT_spec hs w, Z.v]
          | some c =>
            have hcp := g2 c rfl
            cases mx with
            | none =>
              obtain rfl := hmx.none_l
              simp only at h
              cases hc : (ordered l h' c.toZ).claim S with
              | none => simp [hc] at h
              | some S1 =>
                simp only [hc, Option.some.injEq, Prod.mk.injEq] at h
                obtain ⟨rfl, rfl⟩ := h
                obtain ⟨hp, hv⟩ := ordered_spec hc
                refine ⟨hp, fun ok => ?_⟩
                obtain ⟨o1, o2, o3⟩ := hv ok
                rw [N.toZ_v, hcp] at o3
                have hb := run_sliceBounds (P := P) (w := w) (isS := true) (len := len.v) (cap := cp) (lo := vlo) (hi := vhi) (mx := none) (l := l.v) (h := h'.v) (m := cp) (.inl ⟨rfl, rfl⟩)
                  (bound_hi hh hhi) (bound_spec hl hlo) o1 o2 (by omega) (Int.le_refl _)
                have hr := slice_rel (β := β) (b := b) (o := o) (len := len) (cap := none) (cap' := some (c.sub l.toN)) (a := a) (cp := cp) (l := l) (h := h') (m := .s cp) g3 o1 o2 (by show h'.v ≤ (cp : Int); omega) (Int.le_refl _)
                  (fun C hC => by injection hC with hC; subst hC; rw [N.sub_v, Z.toN_v, hcp]; rfl)
                refine Does.pure hH hp ?_ hr
                simp [Instr.sliceAt, run_und hu, Instr.slice, hb, sizeT_spec hs w, Z.v]
            | some mv =>
              obtain ⟨um, rfl, hum⟩ := hmx.some_l
              simp only at h
              cases hm : mv.nm with
              | none => simp [hm] at h
              | some m =>
                cases hi with
                | none => simp [hm] at h
                | some hix =>
                simp only [hm] at h
                obtain ⟨km, rfl⟩ := AV.nm_spec hm hum
                cases hc : (B.and (ordered l h' m) (m.le c.toZ)).claim S with
                | none => simp [hc] at h
                | some S1 =>
                  simp only [hc, Option.some.injEq, Prod.mk.injEq] at h
                  obtain ⟨rfl, rfl⟩ := h
                  obtain ⟨hp, hv⟩ := B.claim_spec hc
                  refine ⟨hp, fun ok => ?_⟩
                  have hv := hv ok
                  rw [B.and_v, ordered, B.and_v, B.and_v, Z.le_v, Z.le_v, Z.le_v, Z.le_v, Bool.and_eq_true, Bool.and_eq_true, Bool.and_eq_true] at hv
                  obtain ⟨⟨⟨o1, o2⟩, o3⟩, o4⟩ := hv
                  have o1 : 0 ≤ l.v := of_decide_eq_true o1
                  have o2 := of_decide_eq_true o2
                  have o3 := of_decide_eq_true o3
                  have o4 := of_decide_eq_true o4
                  rw [N.toZ_v, hcp] at o4
                  rcases bound_spec hh hhi with ⟨rfl, _⟩ | ⟨kh, rfl⟩
                  · simp [ORel] at hhi
                  · have hb := run_sliceBounds (P := P) (w := w) (isS := true) (len := len.v) (cap := cp) (lo := vlo) (hi := some (.int kh h'.v)) (mx := some (.int km m.v)) (l := l.v) (h := h'.v) (m := m.v) (.inr ⟨km, rfl⟩)
                      (.inr ⟨kh, rfl⟩) (bound_spec hl hlo) o1 o2 o3 o4
                    have hr := slice_rel (β := β) (b := b) (o := o) (len := len) (cap := none) (cap' := some (m.toN.sub l.toN)) (a := a) (cp := cp) (l := l) (h := h') (m := m) g3 o1 o2 o3 o4
                      (fun C hC => by injection hC with hC; subst hC; rw [N.sub_v, Z.toN_v, Z.toN_v])
                    refine Does.pure hH hp ?_ hr
                    simp [Instr.sliceAt, run_und hu, Instr.slice, hb, sizeT_spec hs w]
    · split at h
      · cases h
      · cases h
      rename_i hs
      obtain rfl := hmx.none_l
      cases hl : bound lo (.c 0) with
      | none => simp [hl] at h
      | some l =>
        cases hh : bound hi (.c 0) with
        | none => simp [hl, hh] at h
        | some h' =>
          simp only [hl, hh] at h
          cases hc : (ordered l h' (.c 0)).claim S with
          | none => simp [hc] at h
          | some S1 =>
            simp only [hc, Option.some.injEq, Prod.mk.injEq] at h
            obtain ⟨rfl, rfl⟩ := h
            obtain ⟨hp, hv⟩ := ordered_spec hc
            refine ⟨hp, fun ok => ?_⟩
            obtain ⟨o1, o2, o3⟩ := hv ok
            have o3 : h'.v ≤ 0 := o3
            cases ha
            have hb := run_sliceBounds (P := P) (w := w) (isS := true) (len := 0) (cap := 0) (lo := vlo) (hi := vhi) (mx := none) (l := l.v) (h := h'.v) (m := 0) (.inl ⟨rfl, rfl⟩)
              (bound_hi hh hhi) (bound_spec hl hlo) o1 o2 (by omega) (Int.le_refl _)
            have e1 : l.v.toNat = 0 := by omega
            have e2 : h'.v.toNat = 0 := by omega
            refine Does.pure hH hp ?_ .nils
            rw [e1, e2] at hb
            simp only [Int.toNat_zero] at hb
            simp [Instr.sliceAt, run_und hu, Instr.slice, hb, sizeT_spec hs w]
    · cases h
  · cases h
end
end Go.Eng
/- Each operation does what the interpreter says: make, append, copy. -/
namespace Go.Eng
set_option linter.unusedSectionVars false
variable [RowAddr]
set_option linter.unusedSimpArgs false
set_option linter.unusedVariables false
section
variable {P : Program} {G : Nat → Option (List AV)} {β : Map} {w : World}

theorem zeroRow_spec {t : TypeId} {l : List AV} (h : zeroRow P t = some l) (β : Map) : ∃ i z, P.info? t = some i ∧ i.zero = some z ∧ LRel β l z.cells.toList ∧ l.length = i.size ∧ z.cells.size = i.size := by
  unfold zeroRow at h
  cases hi : P.info? t with
  | none => simp [hi] at h
  | some i =>
    simp only [hi] at h
    cases hz : i.zero with
    | none => simp [hz] at h
    | some z =>
      simp only [hz] at h
      cases hr : (absV z).row with
      | none => simp [hr] at h
      | some l' =>
        simp only [hr] at h
        cases hb : Nat.beq l'.length i.size <;> simp [hb] at h
        subst h
        have hl := row_spec hr (absV_rel β z)
        have e : l'.length = i.size := by simpa using hb
        exact ⟨i, z, rfl, hz, hl, e, by rw [← e, hl.1]; simp⟩
theorem madeCells_rel {l : List AV} {z : Array Value} (h : LRel β l z.toList) (n : Nat) : LRel β (List.replicate n l).flatten (madeCells z (n * z.size)).toList := by
  have e : (madeCells z (n * z.size)).toList = (List.replicate n z.toList).flatten := by
    have hz : z.size = z.toList.length := by simp
    simp only [madeCells, Array.toList_map, Array.toList_range]
    apply List.ext_getElem?
    intro j
    rcases Nat.eq_zero_or_pos z.size with h0 | h0
    · have : z.toList = [] := List.eq_nil_of_length_eq_zero (by simpa using h0)
      simp [h0, this]
    · induction n generalizing j with
      | zero => simp
      | succ n ih =>
        rw [List.replicate_succ, List.flatten_cons]
        rcases Nat.lt_or_ge j z.size with hj | hj
        · rw [List.getElem?_append_left (by simpa using hj)]
          have : j < (n + 1) * z.size := by rw [Nat.add_mul]; omega
          simp [this, hj, Nat.mod_eq_of_lt hj]
        · have hn : LRel β (List.replicate n l).flatten ((List.replicate n z.toList).flatten) := h.replicate n
          rw [List.getElem?_append_right (by simpa using hj)]
          have := ih (j := j - z.size)
          simp only [Array.length_toList] at this ⊢
          rw [← this]
          rcases Nat.lt_or_ge j ((n + 1) * z.size) with h1 | h1
          · have h2 : j - z.size < n * z.size := by rw [Nat.add_mul] at h1; omega
            simp only [List.getElem?_map, List.getElem?_range h1, List.getElem?_range h2, Option.map_some]
            rw [Nat.mod_eq_sub_mod hj]
          · have h2 : n * z.size ≤ j - z.size := by rw [Nat.add_mul] at h1; omega
            rw [List.getElem?_eq_none (by simpa using h1), List.getElem?_eq_none (by simpa using h2)]
  rw [e]; exact h.replicate n

theorem new_gen {S : St} (hH : HRel G β S.H w) {l : List AV} {vs : List Value} (t : TypeId) (hl : LRel β l vs) :
    HRel G (β.put S.H.length ⟨w.heap.size, 0, vs.length⟩) (S.new (.gen l)).2.H (w.alloc (.cells ⟨vs⟩ t)) ∧
    Stp β S.H w (β.put S.H.length ⟨w.heap.size, 0, vs.length⟩) (S.new (.gen l)).2.H (w.alloc (.cells ⟨vs⟩ t)) :=
  hH.new (.gen l) vs t (by simp [Data.len, hl.1]) (by simp only [Data.len, Data.list]; rw [hl.1, List.take_length]; exact hl)
theorem allocE_spec {C : Cfg} (hG : C.glob = G) {t : TypeId} {x : AV} {S S' : St} (h : allocE C t S = some (x, S')) (hH : HRel G β S.H w) :
    (S'.ok → S.ok) ∧ Does C.P G β S w (Instr.alloc t true (.tuple #[])) x S' := by
  unfold allocE at h
  cases hz : zeroRow C.P t with
  | none => simp [hz] at h
  | some l =>
    simp only [hz, Option.some.injEq, Prod.mk.injEq] at h
    obtain ⟨rfl, rfl⟩ := h
    obtain ⟨i, z, hi, hz', hl, e1, e2⟩ := zeroRow_spec hz β
    refine ⟨fun o => o, ?_⟩
    obtain ⟨h1, h2⟩ := new_gen hH t hl
    refine ⟨.pointer (some (at' w.heap.size 0)), w.alloc (.cells z.cells t), _, ?_, ?_, h1, h2⟩
    · simp [Instr.alloc, zeroValue, typeInfo, hi, hz', newVar, newRow, at']
    · exact .ptr _ _ _ (Map.put_same ..)
theorem boxE_spec {t : TypeId} {x y : AV} {v : Value} {S S' : St} (h : boxE x S = some (y, S')) (hx : VRel β x v) (hH : HRel G β S.H w) :
    (S'.ok → S.ok) ∧ Does P G β S w (Instr.box t v) y S' := by
  unfold boxE at h
  cases hr : x.row with
  | none => simp [hr] at h
  | some l =>
    simp only [hr, Option.some.injEq, Prod.mk.injEq] at h
    obtain ⟨rfl, rfl⟩ := h
    have hl := row_spec hr hx
    refine ⟨fun o => o, ?_⟩
    obtain ⟨h1, h2⟩ := new_gen hH t hl
    refine ⟨.pointer (some (at' w.heap.size 0)), w.alloc (.cells v.cells t), _, ?_, ?_, h1, h2⟩
    · simp [Instr.box, newVar, newRow, at']
    · exact .ptr _ _ _ (Map.put_same ..)

theorem zeroData_spec {e : TypeId} {n : N} {d : Data} (h : zeroData P e n = some d) (β : Map) : ∃ i z, P.info? e = some i ∧ i.zero = some z ∧ d.len = n.v * i.size ∧ LRel β d.list (madeCells z.cells (n.v * i.size)).toList := by
  cases n with
  | c n =>
    simp only [zeroData] at h
    cases hz : zeroRow P e with
    | none => simp [hz] at h
    | some l =>
      simp only [hz, Option.some.injEq] at h
      subst h
      obtain ⟨i, z, hi, hz', hl, e1, e2⟩ := zeroRow_spec hz β
      refine ⟨i, z, hi, hz', ?_, ?_⟩
      · simp [Data.len, e1, N.v]
      · have := madeCells_rel hl n
        rw [e2] at this
        exact this
  | s n =>
    simp only [zeroData] at h
    split at h
    case h_2 => cases h
    rename_i z0 hz
    obtain ⟨i, z, hi, hz', hl, e1, e2⟩ := zeroRow_spec hz β
    split at h
    case h_2 => cases h
    rename_i k z1
    split at h
    · cases h
    rename_i hz0
    rw [intEq_eq] at hz0
    have hz0 : z1 = 0 := by simpa using hz0
    subst hz0
    have hs : i.size = 1 := by simpa using e1.symm
    obtain ⟨v, vs, hv, hv1, hv2⟩ := hl.cons_inv
    have hv2 := hv2.nil_inv; subst hv2
    have hv1 := hv1.num_inv
    have hzc : z.cells = #[v] := by
      apply Array.ext'; exact hv
    refine ⟨i, z, hi, hz', ?_, ?_⟩
    · rw [hs]; cases k <;> simp at h <;> subst h <;> simp [Data.len, N.v, Vec.zero]
    · rw [hs, hzc, Nat.mul_one, toList_madeCells_one, hv1]
      cases k <;> simp at h <;> subst h <;> refine ⟨by simp [Data.list, N.v, Vec.zero], fun j x u hx hu => ?_⟩ <;>
        simp only [Data.list, Vec.zero, List.getElem?_map, List.getElem?_replicate, N.v] at hx hu <;> split at hu <;> simp_all <;> subst hx hu <;> first | exact .num (.w8 0#8) | exact .num (.w32 0#32) | exact .num (.w64 0#64)

theorem new_data {S : St} (hH : HRel G β S.H w) {d : Data} {vs : List Value} (t : TypeId) (hl : LRel β d.list vs) :
    HRel G (β.put S.H.length ⟨w.heap.size, 0, vs.length⟩) (S.new d).2.H (w.alloc (.cells ⟨vs⟩ t)) ∧
    Stp β S.H w (β.put S.H.length ⟨w.heap.size, 0, vs.length⟩) (S.new d).2.H (w.alloc (.cells ⟨vs⟩ t)) := by
  have e : d.len = vs.length := by rw [← Data.list_len, hl.1]
  exact hH.new d vs t (by omega) (by rw [e, List.take_length]; exact hl)
theorem makeSliceOp_run {t : TypeId} {l c x : AV} {vl vc : Value} {S S' : St} (h : makeSliceOp P t l c S = some (x, S')) (hl : VRel β l vl) (hc : VRel β c vc) :
    ∃ S2 d n cp, Pure S S2 ∧ S' = (S2.new d).2 ∧ x = .ref (.sl S2.H.length (.c 0) n (some cp)) ∧ (S'.ok → ∃ vs e, (∀ β', LRel β' d.list vs) ∧ (∀ w : World, (Instr.makeSlice t vl vc).run P w = .ok (.slice (some (at' w.heap.size 0)) n.v cp.v) (w.alloc (.cells ⟨vs⟩ e))) ∧ n.v ≤ cp.v ∧ cp.v ≤ vs.length) := by
  unfold makeSliceOp at h
  split at h
  case h_2 => cases h
  rename_i e hu
  cases hi : P.info? e with
  | none => simp [hi] at h
  | some i =>
    simp only [hi] at h
    split at h
    · cases h
    rename_i hs0
    cases hnl : l.nm with
    | none => simp [hnl] at h
    | some zl =>
      cases hnc : c.nm with
      | none => simp [hnl, hnc] at h
      | some zc =>
        simp only [hnl, hnc] at h
        obtain ⟨kl, rfl⟩ := AV.nm_spec hnl hl
        obtain ⟨kc, rfl⟩ := AV.nm_spec hnc hc
        cases hc1 : (ordered zl zc (.c 1099511627776)).claim S with
        | none => simp [hc1] at h
        | some S1 =>
          simp only [hc1] at h
          obtain ⟨hp1, hv1⟩ := ordered_spec hc1
          cases hc2 : (zc.toN.mulc i.bytes).fits.claim S1 with
          | none => simp [hc2] at h
          | some S2 =>
            simp only [hc2] at h
            obtain ⟨hp2, hv2⟩ := B.claim_spec hc2
            cases hz : zeroData P e zc.toN with
            | none => simp [hz] at h
            | some d =>
              simp only [hz, Option.some.injEq, Prod.mk.injEq] at h
              obtain ⟨rfl, rfl⟩ := h
              have hp := hp1.trans hp2
              refine ⟨S2, d, zl.toN, zc.toN, hp, rfl, rfl, fun ok => ?_⟩
              have ok2 : S2.ok := ok
              obtain ⟨o1, o2, o3⟩ := hv1 (hp2.ok ok2)
              have hf := hv2 ok2
              rw [N.fits, N.le_v, N.mulc_v, Z.toN_v] at hf
              have hf := of_decide_eq_true hf
              simp only [N.v] at hf
              have o3 : zc.v ≤ 1099511627776 := o3
              obtain ⟨i', z, hi', hz', hlen, hrel⟩ := zeroData_spec hz β
              rw [hi] at hi'; injection hi' with hi'; subst hi'
              have ezc : (zc.v.toNat : Int) = zc.v := Int.toNat_of_nonneg (by omega)
              have hb : (i.bytes : Int) * zc.v ≤ 281474976710656 := by
                have : (i.bytes : Int) * zc.v = ((zc.v.toNat * i.bytes : Nat) : Int) := by
                  rw [Nat.mul_comm]; push_cast; rw [ezc]
                omega
              rw [Z.toN_v] at hrel hlen
              have hs0' : i.size ≠ 0 := by intro e; rw [e] at hs0; cases hs0
              refine ⟨(madeCells z.cells (zc.v.toNat * i.size)).toList, e, fun β' => ?_, fun w => ?_, ?_, ?_⟩
              · obtain ⟨i', z', hi', hz'', _, hrel'⟩ := zeroData_spec hz β'
                rw [hi] at hi'; injection hi' with hi'; subst hi'
                rw [hz'] at hz''; injection hz'' with hz''; subst hz''
                rw [Z.toN_v] at hrel'; exact hrel'
              · rw [Z.toN_v, Z.toN_v]
                exact run_make (P := P) w t e i z hu hi hz' kl kc zl.v zc.v o1 o2 hb (by omega)
              · rw [Z.toN_v, Z.toN_v]; exact Int.toNat_le_toNat o2
              · rw [Z.toN_v, Array.length_toList, size_madeCells]
                exact Nat.le_mul_of_pos_right _ (by omega)
theorem makeSliceOp_spec {t : TypeId} {l c x : AV} {vl vc : Value} {S S' : St} (h : makeSliceOp P t l c S = some (x, S')) (hl : VRel β l vl) (hc : VRel β c vc) (hH : HRel G β S.H w) :
    (S'.ok → S.ok) ∧ (S'.ok → Does P G β S w (Instr.makeSlice t vl vc) x S') := by
  obtain ⟨S2, d, n, cp, hp, rfl, rfl, hx⟩ := makeSliceOp_run h hl hc
  refine ⟨hp.ok, fun ok => ?_⟩
  obtain ⟨vs, e, h1, h2, h3, h4⟩ := hx ok
  have hHS : HRel G β S2.H w := by rw [hp.H]; exact hH
  obtain ⟨g1, g2⟩ := new_data (S := S2) hHS (d := d) e (h1 β)
  refine ⟨_, _, _, h2 w, ?_, g1, by rw [hp.H] at g2 ⊢; exact g2⟩
  exact .sl _ (.c 0) n (some cp) (some (at' w.heap.size 0)) cp.v h3 (fun C hC => by injection hC with hC; subst hC; rfl)
    (.inr ⟨_, Map.put_same .., rfl, by show (0:Nat) + cp.v ≤ vs.length; omega⟩)
end
end Go.Eng
/- Each operation does what the interpreter says: append, copy. -/
namespace Go.Eng
set_option linter.unusedSectionVars false
variable [RowAddr]
set_option linter.unusedSimpArgs false
set_option linter.unusedVariables false
section
variable {P : Program} {G : Nat → Option (List AV)} {β : Map} {w : World}

theorem Data.sub0_spec {d d' : Data} {o n : N} {S S' : St} (h : d.sub0 o n S = some (d', S')) :
    Pure S S' ∧ (S'.ok → o.v + n.v ≤ d.len ∧ d'.len = n.v ∧ d'.list = (d.list.drop o.v).take n.v) := by
  cases d with
  | gen l =>
    cases o with
    | s _ => simp [Data.sub0] at h
    | c o =>
      cases n with
      | s _ => simp [Data.sub0] at h
      | c n =>
        simp only [Data.sub0, Option.map_eq_some_iff, Prod.mk.injEq] at h
        obtain ⟨r, hr, rfl, rfl⟩ := h
        obtain ⟨h1, rfl⟩ := lsub_eq _ _ _ _ hr
        exact ⟨Pure.refl _, fun _ => ⟨h1, by simp [Data.len, N.v]; omega, rfl⟩⟩
  | b8 l =>
    simp only [Data.sub0, Option.some.injEq, Prod.mk.injEq] at h
    obtain ⟨rfl, rfl⟩ := h
    refine ⟨demand_pure _ _, fun ok => ?_⟩
    have hd := of_decide_eq_true (demand_ok ok)
    exact ⟨hd, rfl, by simp [Data.list, Vec.sub_l hd, List.map_take, List.map_drop]⟩
  | b32 l =>
    simp only [Data.sub0, Option.some.injEq, Prod.mk.injEq] at h
    obtain ⟨rfl, rfl⟩ := h
    refine ⟨demand_pure _ _, fun ok => ?_⟩
    have hd := of_decide_eq_true (demand_ok ok)
    exact ⟨hd, rfl, by simp [Data.list, Vec.sub_l hd, List.map_take, List.map_drop]⟩
  | b64 l =>
    simp only [Data.sub0, Option.some.injEq, Prod.mk.injEq] at h
    obtain ⟨rfl, rfl⟩ := h
    refine ⟨demand_pure _ _, fun ok => ?_⟩
    have hd := of_decide_eq_true (demand_ok ok)
    exact ⟨hd, rfl, by simp [Data.list, Vec.sub_l hd, List.map_take, List.map_drop]⟩
  | spot _ _ _ => simp [Data.sub0] at h
  | kn _ _ => simp [Data.sub0] at h

theorem Data.sub1_spec {d d' : Data} {o n : N} {S S' : St} (h : d.sub1 o n S = some (d', S')) :
    Pure S S' ∧ (S'.ok → o.v + n.v ≤ d.len ∧ d'.len = n.v ∧ ∀ (β : Map) vs, LRel β ((d.list.drop o.v).take n.v) vs → LRel β d'.list vs) := by
  unfold Data.sub1 at h
  split at h
  · rename_i m hm
    simp only [Option.some.injEq, Prod.mk.injEq] at h
    obtain ⟨rfl, rfl⟩ := h
    refine ⟨demand_pure _ _, fun ok => ?_⟩
    have hd := of_decide_eq_true (demand_ok ok)
    have hr := m.row.h
    have hl := mid_len hm
    refine ⟨by omega, rfl, fun β vs hv => ?_⟩
    have e : (m.row.sub (o.v - m.pre.length) n.v).l = (m.row.l.drop (o.v - m.pre.length)).take n.v := Vec.sub_l (by omega)
    show LRel β ((m.row.sub (o.v - m.pre.length) n.v).l.map .w8) vs
    rw [e]
    refine ⟨?_, fun i x v hx hv' => ?_⟩
    · rw [← hv.1, List.length_map, List.length_take, List.length_take, List.length_drop, List.length_drop, Data.list_len]; omega
    · rw [List.getElem?_map, Option.map_eq_some_iff] at hx
      obtain ⟨y, hy, rfl⟩ := hx
      rw [List.getElem?_take] at hy
      split at hy
      · rename_i hi
        rw [List.getElem?_drop] at hy
        obtain ⟨z, h3, h4⟩ := mid_at hm hy
        refine h4 β v (hv.2 i z v ?_ hv')
        rw [List.getElem?_take, if_pos hi, List.getElem?_drop, Data.list_at, show o.v + i = m.pre.length + (o.v - m.pre.length + i) by omega]; exact h3
      · cases hy
  · cases h
/-- Cells of a block, one behind the other, as the model loads them. -/
theorem Data.sub_spec {d d' : Data} {o n : N} {S S' : St} (h : d.sub o n S = some (d', S')) :
    Pure S S' ∧ (S'.ok → o.v + n.v ≤ d.len ∧ d'.len = n.v ∧ ∀ (β : Map) vs, LRel β ((d.list.drop o.v).take n.v) vs → LRel β d'.list vs) := by
  unfold Data.sub at h
  split at h
  · rename_i r hr
    injection h with h; subst h
    obtain ⟨h1, h2⟩ := Data.sub0_spec hr
    refine ⟨h1, fun ok => ?_⟩
    obtain ⟨g1, g2, g3⟩ := h2 ok
    exact ⟨g1, g2, fun β vs hv => by rw [g3]; exact hv⟩
  · split at h
    · rename_i d2 hd
      obtain ⟨h1, h2⟩ := Data.sub0_spec h
      refine ⟨h1, fun ok => ?_⟩
      obtain ⟨g1, g2, g3⟩ := h2 ok
      have hl := words_len hd
      refine ⟨by omega, g2, fun β vs hv => ?_⟩
      rw [g3]
      refine ⟨?_, fun i x v hx hv' => ?_⟩
      · rw [← hv.1, List.length_take, List.length_take, List.length_drop, List.length_drop, Data.list_len, Data.list_len, hl]
      · rw [List.getElem?_take] at hx
        split at hx
        · rename_i hi
          rw [List.getElem?_drop, Data.list_at] at hx
          obtain ⟨y, h3, h4⟩ := words_at hd hx
          refine h4 β v (hv.2 i y v ?_ hv')
          rw [List.getElem?_take, if_pos hi, List.getElem?_drop, Data.list_at]; exact h3
        · cases hx
    · exact Data.sub1_spec h
theorem block_cells {H : List Blk} {b : Nat} {d : Data} {m : Mode} {L : Loc} (hH : HRel G β H w) (hb : H[b]? = some ⟨d, m⟩) (hm : m.alive) (hL : β b = some L) {o n : Nat} (hn : o + n ≤ d.len) :
    ∃ vs : List Value, vs.length = n ∧ LRel β ((d.list.drop o).take n) vs ∧ ∀ (j : Nat) v, vs[j]? = some v → w.cell? ((at' L.c (L.base + o)).add j) = some v := by
  refine ⟨(List.range n).map fun j => (w.cell? (at' L.c (L.base + (o + j)))).getD undef, by simp, ⟨?_, ?_⟩, ?_⟩
  · simp [Data.list_len]; omega
  · intro j x v hx hv
    rcases Nat.lt_or_ge j n with hj | hj
    · simp only [List.getElem?_take, hj, if_true, List.getElem?_drop, Data.list_at] at hx
      rcases hH.blk b _ hb hm with ⟨L', hL', hbr⟩ | ⟨_, hno⟩
      · rw [hL] at hL'; injection hL' with e; subst e
        obtain ⟨u, hu, hxu⟩ := hbr.cell hm hx
        simp [hj, hu] at hv
        subst hv; exact hxu
      · rw [hL] at hno; cases hno
    · rw [List.getElem?_eq_none (by simpa using hj)] at hv; cases hv
  · intro j v hv
    rcases Nat.lt_or_ge j n with hj | hj
    · have hx : d.at (o + j) = some (d.list[o + j]'(by rw [Data.list_len]; omega)) := by rw [← Data.list_at]; simp
      rcases hH.blk b _ hb hm with ⟨L', hL', hbr⟩ | ⟨_, hno⟩
      · rw [hL] at hL'; injection hL' with e; subst e
        obtain ⟨u, hu, _⟩ := hbr.cell hm hx
        simp [hj, hu] at hv
        rw [add_at, Nat.add_assoc, hu, hv]
      · rw [hL] at hno; cases hno
    · rw [List.getElem?_eq_none (by simpa using hj)] at hv; cases hv

/-- What is behind a slice or a string: its cells, in this world and in every one whose cells are the same. -/
theorem dataOf_spec {x : AV} {vx : Value} {n l : N} {S S' : St} {xs : Data} (h : dataOf x n S = some (xs, S')) (hx : VRel β x vx) (hl : lenN x = some l) (hn : n.v ≤ l.v) (hH : HRel G β S.H w) :
    Pure S S' ∧ (S'.ok → xs.len = n.v ∧ ∃ vs : List Value, vs.length = n.v ∧ LRel β xs.list vs ∧
      ∀ w' : World, (∀ a, w'.cell? a = w.cell? a) → (Builtin.firstCells 1 n.v vx).run P w' = .ok ⟨vs⟩ w') := by
  unfold dataOf at h
  split at h
  · rename_i b o _ _
    cases hr : S.read b with
    | none => simp [hr] at h
    | some d =>
      simp only [hr] at h
      obtain ⟨hp, hs⟩ := Data.sub_spec h
      refine ⟨hp, fun ok => ?_⟩
      obtain ⟨h1, h2, h3⟩ := hs ok
      obtain ⟨a, cp, rfl, g1, g2, g3⟩ := hx.sl_inv
      obtain ⟨m, hb, hm⟩ := St.read_spec hr
      simp only [lenN, Option.some.injEq] at hl
      subst hl
      refine ⟨h2, ?_⟩
      rcases g3 with g3 | ⟨L, hL, rfl, g4⟩
      · have hn0 : n.v = 0 := by omega
        refine ⟨[], by simp [hn0], ?_, fun w' _ => ?_⟩
        · exact h3 _ _ (by rw [hn0]; exact LRel.nil β)
        · rw [hn0]
          cases a with
          | none => exact run_firstCells_none w' 1 0 _ _
          | some a => exact run_firstCells_some w' 1 0 a _ _ [] (by simp) (fun j v hv => by simp at hv)
      · obtain ⟨vs, v1, v2, v3⟩ := block_cells hH hb hm hL h1
        exact ⟨vs, v1, h3 _ _ v2, fun w' hw => run_firstCells_some w' 1 n.v _ _ _ vs (by omega) (fun j v hv => by rw [hw]; exact v3 j v hv)⟩
  · obtain ⟨rfl, rfl⟩ : _ ∧ _ := by simpa using h
    simp only [lenN, Option.some.injEq] at hl
    subst hl
    have hn0 : n.v = 0 := by simpa [N.v] using hn
    cases hx
    refine ⟨Pure.refl _, fun _ => ⟨by simp [Data.len, hn0], [], by simp [hn0], LRel.nil β, fun w' _ => ?_⟩⟩
    rw [hn0]; exact run_firstCells_none w' 1 0 _ _
  · rename_i s
    cases n with
    | s _ => simp at h
    | c n =>
      simp only [Option.some.injEq, Prod.mk.injEq] at h
      obtain ⟨rfl, rfl⟩ := h
      simp only [lenN, Option.some.injEq] at hl
      subst hl
      cases hx
      have hns : n ≤ s.data.toList.length := by simpa [N.v] using hn
      refine ⟨Pure.refl _, fun _ => ⟨by simp only [Data.len, N.v, List.length_map, List.length_take]; omega, (s.data.toList.take n).map (fun b => .int .u8 b.toNat), by simp only [List.length_map, List.length_take, N.v]; omega, ⟨by simp [Data.list], ?_⟩, ?_⟩⟩
      · intro j x v hx hv
        simp only [Data.list, List.getElem?_map, Option.map_eq_some_iff] at hx hv
        obtain ⟨y, hy, rfl⟩ := hx
        obtain ⟨z, hz, rfl⟩ := hv
        rw [hy] at hz; injection hz with hz; subst hz
        exact .num (.int .u8 (.c y.toNat))
      · intro w' _
        simp only [Builtin.firstCells, Sem.run_pure, N.v]
        congr 1
        apply Array.ext'
        simp [ByteArray.data_extract]
  · cases h

theorem singles_spec {d : Data} {vs : List Value} (h : d.singles = true) (hv : LRel β d.list vs) : ∀ v ∈ vs, v.oneCell' = true := by
  cases d with
  | gen l => exact allSingle_spec h hv
  | b8 l =>
    intro v hm
    obtain ⟨i, hi⟩ := List.getElem?_of_mem hm
    have hlt : i < (Data.b8 l).list.length := by rw [hv.1]; exact (List.getElem?_eq_some_iff.1 hi).1
    have := hv.2 i _ v (List.getElem?_eq_getElem hlt) hi
    simp only [Data.list, List.getElem_map] at this
    rw [this.num_inv]; rfl
  | b32 l =>
    intro v hm
    obtain ⟨i, hi⟩ := List.getElem?_of_mem hm
    have hlt : i < (Data.b32 l).list.length := by rw [hv.1]; exact (List.getElem?_eq_some_iff.1 hi).1
    have := hv.2 i _ v (List.getElem?_eq_getElem hlt) hi
    simp only [Data.list, List.getElem_map] at this
    rw [this.num_inv]; rfl
  | b64 l =>
    intro v hm
    obtain ⟨i, hi⟩ := List.getElem?_of_mem hm
    have hlt : i < (Data.b64 l).list.length := by rw [hv.1]; exact (List.getElem?_eq_some_iff.1 hi).1
    have := hv.2 i _ v (List.getElem?_eq_getElem hlt) hi
    simp only [Data.list, List.getElem_map] at this
    rw [this.num_inv]; rfl
  | spot _ _ _ => simp [Data.singles] at h
  | kn _ _ => simp [Data.singles] at h

theorem lenN_spec {x : AV} {v : Value} {l : N} (h : lenN x = some l) (hx : VRel β x v) (w : World) : (Builtin.lenOf v).run P w = .ok l.v w := by
  unfold lenN at h
  split at h
  · injection h with h; subst h
    obtain ⟨a, cp, rfl, _⟩ := hx.sl_inv
    simp [Builtin.lenOf]
  · injection h with h; subst h
    cases hx; simp [Builtin.lenOf, N.v]
  · injection h with h; subst h
    cases hx; simp [Builtin.lenOf, N.v]
  · cases h

theorem Data.app_spec {d x r : Data} (h : d.app x = some r) : r.len = d.len + x.len ∧ ∀ {β : Map} {vs us : List Value}, LRel β d.list vs → LRel β x.list us → LRel β r.list (vs ++ us) := by
  cases d with
  | gen l =>
    cases x with
    | gen xs => simp [Data.app] at h; subst h; exact ⟨by simp [Data.len], fun hv hu => hv.append hu⟩
    | b8 xs =>
      simp [Data.app] at h
      obtain ⟨a, ha, rfl⟩ := h
      exact ⟨by simp [Data.len, Vec.app, Vec.of, mapOpt_len ha], fun hv hu => by simp only [Data.list, Vec.app, Vec.of, List.map_append] at *; exact (mapOpt_rel8 ha hv).append hu⟩
    | b32 xs =>
      simp [Data.app] at h
      obtain ⟨a, ha, rfl⟩ := h
      exact ⟨by simp [Data.len, Vec.app, Vec.of, mapOpt_len ha], fun hv hu => by simp only [Data.list, Vec.app, Vec.of, List.map_append] at *; exact (mapOpt_rel32 ha hv).append hu⟩
    | b64 xs =>
      simp [Data.app] at h
      obtain ⟨a, ha, rfl⟩ := h
      exact ⟨by simp [Data.len, Vec.app, Vec.of, mapOpt_len ha], fun hv hu => by simp only [Data.list, Vec.app, Vec.of, List.map_append] at *; exact (mapOpt_rel64 ha hv).append hu⟩
    | spot _ _ _ => simp [Data.app] at h
    | kn _ _ => simp [Data.app] at h
  | b8 l =>
    simp only [Data.app, Option.map_eq_some_iff] at h
    obtain ⟨a, ha, rfl⟩ := h
    exact ⟨by simp [Data.len, Vec.app, as8_len ha], fun hv hu => by simp only [Data.list, Vec.app, List.map_append] at hv ⊢; exact hv.append (as8_rel ha hu)⟩
  | b32 l =>
    simp only [Data.app, Option.map_eq_some_iff] at h
    obtain ⟨a, ha, rfl⟩ := h
    exact ⟨by simp [Data.len, Vec.app, as32_len ha], fun hv hu => by simp only [Data.list, Vec.app, List.map_append] at hv ⊢; exact hv.append (as32_rel ha hu)⟩
  | b64 l =>
    simp only [Data.app, Option.map_eq_some_iff] at h
    obtain ⟨a, ha, rfl⟩ := h
    exact ⟨by simp [Data.len, Vec.app, as64_len ha], fun hv hu => by simp only [Data.list, Vec.app, List.map_append] at hv ⊢; exact hv.append (as64_rel ha hu)⟩
  | spot _ _ _ => simp [Data.app] at h
  | kn l t =>
    cases x with
    | gen xs =>
      simp [Data.app] at h
      subst h
      exact ⟨by simp [Data.len]; omega, fun hv hu => by simp only [Data.list, List.append_assoc] at hv ⊢; rw [← List.append_assoc]; exact hv.append hu⟩
    | _ => simp [Data.app] at h

/-- A block without cells, that lies nowhere. -/
theorem HRel.phantom {H : List Blk} (hH : HRel G β H w) {d : Data} (hd : d.len = 0) : HRel G β (H ++ [⟨d, .own⟩]) w ∧ Stp β H w β (H ++ [⟨d, .own⟩]) w := by
  have hn := hH.none_at
  have hb : ∀ (b : Nat) k, (H ++ [⟨d, .own⟩])[b]? = some k → (b < H.length ∧ H[b]? = some k) ∨ (b = H.length ∧ k = ⟨d, .own⟩) := by
    intro b k hk
    rcases Nat.lt_trichotomy b H.length with h | h | h
    · rw [List.getElem?_append_left h] at hk; exact .inl ⟨h, hk⟩
    · subst h; simp at hk; exact .inr ⟨rfl, hk.symm⟩
    · rw [List.getElem?_append_right (by omega), List.getElem?_eq_none (by simp; omega)] at hk; cases hk
  refine ⟨⟨?_, ?_, ?_, hH.glob, ?_⟩, ⟨Map.le_refl β, by simp, rfl, rfl, rfl, Nat.le_refl _, fun _ _ _ => rfl, ?_, fun _ _ => rfl⟩⟩
  · intro b k hk ha
    rcases hb b k hk with ⟨h, hk⟩ | ⟨rfl, rfl⟩
    · exact hH.blk b k hk ha
    · exact .inr ⟨hd, hn⟩
  · intro b b' k k' L L' hne hk hk' ho ha hL hL'
    rcases hb b k hk with ⟨h, hk⟩ | ⟨rfl, rfl⟩
    · rcases hb b' k' hk' with ⟨h', hk'⟩ | ⟨rfl, rfl⟩
      · exact hH.dis b b' k k' L L' hne hk hk' ho ha hL hL'
      · rw [hn] at hL'; cases hL'
    · rw [hn] at hL; cases hL
  · intro b L hL; have := hH.dom b L hL; simp; omega
  · intro b k L hk ho hL
    rcases hb b k hk with ⟨h, hk⟩ | ⟨rfl, rfl⟩
    · exact hH.apart b k L hk ho hL
    · rw [hn] at hL; cases hL
  · intro c hc ⟨b, k, L, hk, ho, hL, hLc⟩
    rcases hb b k hk with ⟨h, hk⟩ | ⟨rfl, rfl⟩
    · exact ⟨b, k, L, hk, ho, hL, hLc⟩
    · rw [hn] at hL; cases hL

/-- A block of our own goes on under a new name, with cells more. -/
theorem HRel.move {H : List Blk} (hH : HRel G β H w) {b : Nat} {d d' : Data} {L : Loc} (hb : H[b]? = some ⟨d, .own⟩) (hL : β b = some L) (vs' : List Value)
    (hl : vs'.length = L.room) (hd : d'.len ≤ L.room) (hr : LRel β d'.list (vs'.take d'.len)) (d0 : Data) :
    HRel G (β.put H.length L) (H.set b ⟨d0, .dead⟩ ++ [⟨d', .own⟩]) (w.setRow L.c ⟨vs'⟩) ∧ Stp β H w (β.put H.length L) (H.set b ⟨d0, .dead⟩ ++ [⟨d', .own⟩]) (w.setRow L.c ⟨vs'⟩) := by
  obtain ⟨h1, h2⟩ := hH.write hb hL vs' hl hd hr
  have hblt : b < H.length := by
    rcases Nat.lt_or_ge b H.length with h | h
    · exact h
    · simp [List.getElem?_eq_none h] at hb
  have hle := Map.put_le (L := L) hH.none_at
  have hbs : (H.set b ⟨d', .own⟩)[b]? = some ⟨d', .own⟩ := by simp [hblt]
  -- what the new heap's blocks are in the written one
  have hg : ∀ (x : Nat) k, (H.set b ⟨d0, .dead⟩ ++ [⟨d', .own⟩])[x]? = some k → k.mode.alive → (x < H.length ∧ x ≠ b ∧ (H.set b ⟨d', .own⟩)[x]? = some k) ∨ (x = H.length ∧ k = ⟨d', .own⟩) := by
    intro x k hk ha
    rcases Nat.lt_trichotomy x H.length with h | h | h
    · rw [List.getElem?_append_left (by simpa using h)] at hk
      by_cases e : x = b
      · subst e; rw [List.getElem?_set_self hblt] at hk; injection hk with hk; subst hk; exact absurd rfl ha
      · rw [List.getElem?_set_ne (Ne.symm e)] at hk
        exact .inl ⟨h, e, by rw [List.getElem?_set_ne (Ne.symm e)]; exact hk⟩
    · subst h
      rw [List.getElem?_append_right (by simp)] at hk
      simp at hk; exact .inr ⟨rfl, hk.symm⟩
    · rw [List.getElem?_append_right (by simp; omega), List.getElem?_eq_none (by simp; omega)] at hk; cases hk
  refine ⟨⟨?_, ?_, ?_, h1.glob, ?_⟩, ⟨hle, by simp, h2.os, h2.tape, h2.output, h2.size, h2.kept, ?_, fun b hb => Map.put_ne (by omega)⟩⟩
  · intro x k hk ha
    rcases hg x k hk ha with ⟨hx, hxb, hk⟩ | ⟨rfl, rfl⟩
    · rcases h1.blk x k hk ha with ⟨L', hL', hbr⟩ | ⟨a2, a3⟩
      · exact .inl ⟨L', hle x L' hL', hbr.mono hle (Nat.le_refl _) rfl⟩
      · exact .inr ⟨a2, by rw [Map.put_ne (by omega)]; exact a3⟩
    · rcases h1.blk b _ hbs (own_alive rfl) with ⟨L', hL', hbr⟩ | ⟨_, hn⟩
      · rw [hL] at hL'; injection hL' with e; subst e
        exact .inl ⟨L, Map.put_same .., hbr.mono hle (Nat.le_refl _) rfl⟩
      · rw [hL] at hn; cases hn
  · intro x y k k' L1 L2 hne hk hk' ho ha hL1 hL2
    rcases hg x k hk (own_alive ho) with ⟨hx, hxb, hk⟩ | ⟨rfl, rfl⟩
    · rw [Map.put_ne (by omega)] at hL1
      rcases hg y k' hk' ha with ⟨hy, hyb, hk'⟩ | ⟨rfl, rfl⟩
      · rw [Map.put_ne (by omega)] at hL2
        exact h1.dis x y k k' L1 L2 hne hk hk' ho ha hL1 hL2
      · rw [Map.put_same] at hL2; injection hL2 with e; subst e
        exact h1.dis x b k _ L1 L hxb hk hbs ho (own_alive rfl) hL1 hL
    · rw [Map.put_same] at hL1; injection hL1 with e; subst e
      rcases hg y k' hk' ha with ⟨hy, hyb, hk'⟩ | ⟨rfl, rfl⟩
      · rw [Map.put_ne (by omega)] at hL2
        exact h1.dis b y _ k' L L2 (Ne.symm hyb) hbs hk' rfl ha hL hL2
      · exact absurd rfl hne
  · intro x L' hL'
    simp only [List.length_append, List.length_set, List.length_cons, List.length_nil]
    by_cases e : x = H.length
    · omega
    · rw [Map.put_ne e] at hL'; have := hH.dom x L' hL'; omega
  · intro x k L' hk ho hL'
    rcases hg x k hk (own_alive ho) with ⟨hx, hxb, hk⟩ | ⟨rfl, rfl⟩
    · rw [Map.put_ne (by omega)] at hL'; exact h1.apart x k L' hk ho hL'
    · rw [Map.put_same] at hL'; injection hL' with e; subst e; exact h1.apart b _ L hbs rfl hL
  · intro c hc ⟨x, k, L', hk, ho, hL', hLc⟩
    refine h2.own c hc ?_
    rcases hg x k hk (own_alive ho) with ⟨hx, hxb, hk⟩ | ⟨rfl, rfl⟩
    · rw [Map.put_ne (by omega)] at hL'; exact ⟨x, k, L', hk, ho, hL', hLc⟩
    · rw [Map.put_same] at hL'; injection hL' with e; subst e; exact ⟨b, _, L, hbs, rfl, hL, hLc⟩

theorem Stp.kill {H : List Blk} (b : Nat) (d : Data) : Stp β H w β (H.set b ⟨d, .dead⟩) w := by
  refine ⟨Map.le_refl β, by simp, rfl, rfl, rfl, Nat.le_refl _, fun _ _ _ => rfl, ?_, fun _ _ => rfl⟩
  intro c hc ⟨x, k, L, hk, ho, hL, hLc⟩
  by_cases e : x = b
  · subst e
    rcases Nat.lt_or_ge x H.length with h | h
    · rw [List.getElem?_set_self h] at hk; injection hk with hk; subst hk; cases ho
    · rw [List.getElem?_eq_none (by simpa using h)] at hk; cases hk
  · rw [List.getElem?_set_ne (Ne.symm e)] at hk; exact ⟨x, k, L, hk, ho, hL, hLc⟩
end
end Go.Eng
/- Each operation does what the interpreter says: append, copy. -/
namespace Go.Eng
set_option linter.unusedSectionVars false
variable [RowAddr]
set_option linter.unusedSimpArgs false
set_option linter.unusedVariables false
section
variable {P : Program} {G : Nat → Option (List AV)} {β : Map} {w : World}

def notInt (d : TypeDesc) : Prop := (∃ e, d = .slice e) ∨ d = .string
theorem run_append_fit {t u ty e : TypeId} {i : TypeInfo} {d : TypeDesc} {base : Option Addr} {sLen sCap n : Nat} {x : Value} {vs : List Value} {w' : World} (ht : P.underlying t = some (.slice e)) (hu : P.underlying u = some d) (hd : notInt d)
    (hi : P.info? e = some i) (hs : i.size = 1) (hlen : ∀ w, (Builtin.lenOf x).run P w = .ok n w) (hf : (Builtin.firstCells 1 n x).run P w = .ok ⟨vs⟩ w) (hfit : sLen + n ≤ sCap)
    (hst : (base = none ∧ w' = w) ∨ ∃ a, base = some a ∧ (storeCells (a.add sLen) vs).run P w = .ok () w') :
    (Builtin.append_ #[t, u] ty #[.slice base sLen sCap, x]).run P w = .ok (.slice base (sLen + n) sCap) w' := by
  rcases hst with ⟨rfl, rfl⟩ | ⟨a, rfl, hst⟩ <;> rcases hd with ⟨e', rfl⟩ | rfl
  · simp [Builtin.append_, run_und ht, run_und hu, sizeOf, typeInfo, hi, hs, hlen, hf, hfit]
  · simp [Builtin.append_, run_und ht, run_und hu, sizeOf, typeInfo, hi, hs, hlen, hf, hfit]
  · simp [Builtin.append_, run_und ht, run_und hu, sizeOf, typeInfo, hi, hs, hlen, hf, hfit, hst]
  · simp [Builtin.append_, run_und ht, run_und hu, sizeOf, typeInfo, hi, hs, hlen, hf, hfit, hst]
theorem run_append_more {t u ty e : TypeId} {i : TypeInfo} {z : Value} {d : TypeDesc} {base : Option Addr} {sLen sCap n : Nat} {x : Value} {olds vs : List Value} (ht : P.underlying t = some (.slice e)) (hu : P.underlying u = some d) (hd : notInt d)
    (hi : P.info? e = some i) (hz : i.zero = some z) (hs : i.size = 1) (hlen : ∀ w, (Builtin.lenOf x).run P w = .ok n w) (hf : (Builtin.firstCells 1 n x).run P w.drew = .ok ⟨vs⟩ w.drew)
    (ho : (Builtin.firstCells 1 sLen (.slice base sLen sCap)).run P w.drew = .ok ⟨olds⟩ w.drew) (hmore : sCap < sLen + n) (hbytes : (sLen + n) * i.bytes ≤ 1099511627776) (hb0 : i.bytes ≠ 0) :
    (Builtin.append_ #[t, u] ty #[.slice base sLen sCap, x]).run P w =
      .ok (.slice (some (at' w.heap.size 0)) (sLen + n) (grownCap w (sLen + n) sCap e))
        (w.drew.alloc (.cells ⟨olds ++ vs ++ (Builtin.zeroCells z.cells (grownCap w (sLen + n) sCap e - (sLen + n))).toList⟩ e)) := by
  have h0 : ¬ (sLen + n ≤ sCap) := by omega
  have hle : sLen + n ≤ (sLen + n) * i.bytes := Nat.le_mul_of_pos_right _ (by omega)
  have h63 : ¬ (9223372036854775807 < ((sLen : Int) + (n : Int))) := by omega
  have h48 : ¬ (281474976710656 < Builtin.nextslicecap (sLen + n) sCap * i.bytes) := by have := growslice_fits hmore (bytes := i.bytes) (by omega); omega
  rcases hd with ⟨e', rfl⟩ | rfl
  · simp [Builtin.append_, run_und ht, run_und hu, sizeOf, typeInfo, zeroValue, hi, hz, hs, hlen, h0, h63, h48, hb0, Question.forced, hf, ho, newRow, grownCap, at']
    congr 2; apply Array.ext'; simp
  · simp [Builtin.append_, run_und ht, run_und hu, sizeOf, typeInfo, zeroValue, hi, hz, hs, hlen, h0, h63, h48, hb0, Question.forced, hf, ho, newRow, grownCap, at']
    congr 2; apply Array.ext'; simp
theorem le_grownCap (w : World) (need old : Nat) (e : TypeId) : need ≤ grownCap w need old e := by
  simp [grownCap, Question.cut]

/-- What append makes of a slice and more cells, told for any slice that the model has. -/
theorem append_core {t u ty e : TypeId} {i : TypeInfo} {z : Value} {d : TypeDesc} {s x : Value} {S S1 S2 : St} {b : Nat} {o l : N} {cap : Option N} {n : N} {xs : Data} {r : AV} {us : List Value}
    (ht : P.underlying t = some (.slice e)) (hu : P.underlying u = some d) (hd : notInt d) (hi : P.info? e = some i) (hz : i.zero = some z) (hs : i.size = 1) (hzs : z.cells.size = 1) (hb0 : i.bytes ≠ 0)
    (hlen : ∀ w, (Builtin.lenOf x).run P w = .ok n.v w) (hf : ∀ w' : World, (∀ a, w'.cell? a = w.cell? a) → (Builtin.firstCells 1 n.v x).run P w' = .ok ⟨us⟩ w') (hul : us.length = n.v) (hxl : xs.len = n.v) (hxr : LRel β xs.list us)
    (hone : ∀ v ∈ us, v.oneCell' = true) (hsv : VRel β (.ref (.sl b o l cap)) s) (hH : HRel G β S.H w) (hp : Pure S S1) (hbytes : (l.v + n.v) * i.bytes ≤ 1099511627776) (h : appendSl b o l cap n xs S1 = some (r, S2)) :
    (S2.ok → S1.ok) ∧ (S2.ok → Does P G β S w (Builtin.append_ #[t, u] ty #[s, x]) r S2) := by
  obtain ⟨a, cp, rfl, g1, g2, g3⟩ := hsv.sl_inv
  have hH1 : HRel G β S1.H w := by rw [hp.H]; exact hH
  have hzc : LRel β [] [] := LRel.nil β
  unfold appendSl at h
  -- the way on which a new block is made
  have grow : ∀ (dd d' : Data) (m : Mode) (H0 : List Blk), S1.H[b]? = some ⟨dd, m⟩ → m.alive → o.v + l.v ≤ dd.len → (∀ vs : List Value, LRel β ((dd.list.drop o.v).take l.v) vs → LRel β d'.list (vs ++ us)) → d'.len = l.v + n.v → cp < l.v + n.v →
      HRel G β H0 w → Stp β S1.H w β H0 w → H0.length = S1.H.length → ∀ k : N, k.v = l.v + n.v →
      ∃ v w' β', (Builtin.append_ #[t, u] ty #[.slice a l.v cp, x]).run P w = .ok v w' ∧ VRel β' (.ref (.sl S1.H.length (.c 0) k none)) v ∧ HRel G β' (H0 ++ [⟨d', .own⟩]) w' ∧ Stp β S1.H w β' (H0 ++ [⟨d', .own⟩]) w' := by
    intro dd d' m H0 hbm hm hol hrel hdl hmore hH0 hS0 hlen0 k hk
    have hold : ∃ olds : List Value, olds.length = l.v ∧ LRel β ((dd.list.drop o.v).take l.v) olds ∧ (Builtin.firstCells 1 l.v (.slice a l.v cp)).run P w.drew = .ok ⟨olds⟩ w.drew := by
      rcases g3 with g3 | ⟨L, hL, rfl, g4⟩
      · have hl0 : l.v = 0 := by omega
        refine ⟨[], by simp [hl0], by rw [hl0]; exact LRel.nil β, ?_⟩
        rw [hl0]
        cases a with
        | none => exact run_firstCells_none _ 1 0 _ _
        | some a => exact run_firstCells_some _ 1 0 a _ _ [] (by simp) (fun j v hv => by simp at hv)
      · obtain ⟨vs, v1, v2, v3⟩ := block_cells hH1 hbm hm hL hol
        exact ⟨vs, v1, v2, run_firstCells_some _ 1 l.v _ _ _ vs (by omega) (fun j v hv => v3 j v hv)⟩
    obtain ⟨olds, e1, e2, e3⟩ := hold
    have hrun := run_append_more (P := P) (w := w) (base := a) (ty := ty) ht hu hd hi hz hs hlen (hf w.drew (fun a => rfl)) e3 hmore hbytes hb0
    have hnew := hH0.drew.new d' (olds ++ us ++ (Builtin.zeroCells z.cells (grownCap w (l.v + n.v) cp e - (l.v + n.v))).toList) e (by simp; omega) (by
      rw [hdl, List.append_assoc, ← List.append_assoc, List.take_append_of_le_length (by simp; omega), List.take_of_length_le (by simp; omega)]
      exact hrel olds e2)
    refine ⟨_, _, _, hrun, ?_, hnew.1, (hS0.trans (Stp.drew β H0 w)).trans hnew.2⟩
    have hg := le_grownCap w (l.v + n.v) cp e
    have hzl : (Builtin.zeroCells z.cells (grownCap w (l.v + n.v) cp e - (l.v + n.v))).toList.length = grownCap w (l.v + n.v) cp e - (l.v + n.v) := by simp [Builtin.zeroCells, hzs]
    have hv := VRel.sl (β := β.put H0.length ⟨w.heap.size, 0, (olds ++ us ++ (Builtin.zeroCells z.cells (grownCap w (l.v + n.v) cp e - (l.v + n.v))).toList).length⟩) H0.length (.c 0) k none (some (at' w.heap.size 0)) (grownCap w (l.v + n.v) cp e)
      (by rw [hk]; exact hg) (fun C hC => by cases hC) (.inr ⟨_, Map.put_same .., rfl, by
        show 0 + grownCap w (l.v + n.v) cp e ≤ (olds ++ us ++ _).length
        rw [List.length_append, List.length_append, hzl, e1, hul]; omega⟩)
    rw [hk, hlen0] at hv
    rw [← hlen0] at hv ⊢
    exact hv
  cases cap with
  | some C =>
    simp only at h
    split at h
    case h_2 => cases h
    rename_i C l' n'
    cases hr : S1.read b with
    | none => simp [hr] at h
    | some dd =>
      simp only [hr] at h
      obtain ⟨m, hbm, hm⟩ := St.read_spec hr
      have hcp : C = cp := g2 _ rfl
      subst hcp
      split at h
      · rename_i hfit
        simp only [Bool.and_eq_true] at hfit
        have hfit1 : l' + n' ≤ C := by simpa using hfit.1
        have hfit2 : 1 ≤ C := by simpa using hfit.2
        split at h
        case h_2 => cases h
        rename_i d' S3 hov
        obtain ⟨hp3, hov⟩ := Data.over_spec hov
        cases hw : S3.write b d' with
        | none => simp [hw] at h
        | some S4 =>
          simp only [hw, Option.some.injEq, Prod.mk.injEq] at h
          obtain ⟨rfl, rfl⟩ := h
          refine ⟨hp3.of_write hw, fun ok => ?_⟩
          obtain ⟨h1, h2, h3⟩ := hov (ok_of_write hw ok)
          rcases g3 with g3 | ⟨L, hL, rfl, g4⟩
          · omega
          · rw [N.add_v] at h1
            have hst := stored_spec (P := P) (us := us) (o := (o.add (.c l')).v) hH1 hp3 hr hw hL (by rw [N.add_v, hul]; simp only [N.v] at h1 hxl ⊢; omega) h2 (fun hv => h3 hxr hv) hone
            obtain ⟨w', β', q1, q2, q3⟩ := hst
            refine ⟨.slice (some (at' L.c (L.base + o.v))) (l' + n') C, w', β', ?_, ?_, q2, by rw [← hp.H]; exact q3⟩
            · refine run_append_fit (ty := ty) ht hu hd hi hs hlen (hf w (fun _ => rfl)) hfit1 (.inr ⟨_, rfl, ?_⟩)
              rw [add_at, ← q1, N.add_v, Nat.add_assoc]
            · exact .sl b o (.c (l' + n')) (some (.c C)) _ C hfit1 (fun C' hC' => by injection hC' with hC'; subst hC'; rfl) (.inr ⟨L, q3.le b L hL, rfl, g4⟩)
      · split at h
        · cases h
        rename_i hfit
        have hmore : C < l' + n' := by
          rcases Nat.lt_or_ge C (l' + n') with h | h
          · exact h
          · rw [Nat.ble_eq_true_of_le h] at hfit; cases hfit
        split at h
        case h_2 => cases h
        rename_i d1 S3 hsub
        obtain ⟨hp3, hsub⟩ := Data.sub_spec hsub
        cases ha : d1.app xs with
        | none => simp [ha] at h
        | some d' =>
          simp only [ha, Option.some.injEq, Prod.mk.injEq] at h
          obtain ⟨rfl, rfl⟩ := h
          refine ⟨fun o => hp3.ok o, fun ok => ?_⟩
          obtain ⟨h1, h2, h3⟩ := hsub ok
          obtain ⟨a1, a2⟩ := Data.app_spec ha
          obtain ⟨v, w', β', q1, q2, q3, q4⟩ := grow dd d' m S1.H hbm hm h1 (fun vs hv => a2 (h3 _ _ hv) hxr) (by rw [a1, h2, hxl]) hmore hH1 (Stp.refl ..) rfl (.c (l' + n')) rfl
          refine ⟨v, w', β', q1, by rw [hp3.H]; exact q2, ?_, ?_⟩
          · show HRel G β' (S3.H ++ _) w'; rw [hp3.H]; exact q3
          · show Stp β S.H w β' (S3.H ++ _) w'; rw [hp3.H, ← hp.H]; exact q4
  | none =>
    simp only [lget_eq] at h
    split at h
    case h_2 => cases h
    rename_i dd m hbm
    cases m <;> simp only [reduceCtorEq] at h
    split at h
    case h_2 => cases h
    rename_i S3 hc
    obtain ⟨hp3, hv⟩ := B.claim_spec hc
    cases ha : dd.app xs with
    | none => simp [ha] at h
    | some d' =>
      simp only [ha, Option.some.injEq, Prod.mk.injEq] at h
      obtain ⟨rfl, rfl⟩ := h
      refine ⟨fun o => hp3.ok o, fun ok => ?_⟩
      have hv := hv ok
      rw [B.and_v, N.eq_v, N.eq_v, Bool.and_eq_true] at hv
      have ho0 : o.v = 0 := by simpa [N.v] using hv.1
      have hll : l.v = dd.len := by
        have := hv.2
        cases l <;> simpa [N.v] using this
      obtain ⟨a1, a2⟩ := Data.app_spec ha
      have hkill : (S3.kill b).H = S1.H.set b ⟨.gen [], .dead⟩ := by simp [St.kill, lset_eq, hp3.H]
      have hHk : HRel G β (S1.H.set b ⟨.gen [], .dead⟩) w := hH1.kill b _
      by_cases hfit : l.v + n.v ≤ cp
      · rcases g3 with g3 | ⟨L, hL, rfl, g4⟩
        · -- nothing at all
          have hn0 : n.v = 0 := by omega
          have hl0 : l.v = 0 := by omega
          have hph := hHk.phantom (d := d') (by rw [a1, hxl]; omega)
          have hus : us = [] := List.eq_nil_of_length_eq_zero (by omega)
          refine ⟨.slice a (l.v + n.v) cp, w, β, ?_, ?_, ?_, ?_⟩
          · refine run_append_fit (ty := ty) ht hu hd hi hs hlen (hf w (fun _ => rfl)) hfit ?_
            cases a with
            | none => exact .inl ⟨rfl, rfl⟩
            | some a => exact .inr ⟨a, rfl, by rw [hus]; rfl⟩
          · have := VRel.sl (β := β) S3.H.length (.c 0) (l.add n) none a cp (by rw [N.add_v]; exact hfit) (fun C hC => by cases hC) (.inl g3)
            rw [N.add_v] at this; exact this
          · show HRel G β ((S3.kill b).H ++ _) w; rw [hkill]; exact hph.1
          · show Stp β S.H w β ((S3.kill b).H ++ _) w; rw [hkill, ← hp.H]; exact (Stp.kill b _).trans hph.2
        · have hob : OOk β dd L w := by
            rcases hH1.blk b _ hbm (own_alive rfl) with ⟨L', hL', hbr⟩ | ⟨_, hn⟩
            · rw [hL] at hL'; injection hL' with e; subst e; exact hbr
            · rw [hL] at hn; cases hn
          obtain ⟨h0, vs, tt, fz, hh, hfz, hvl, hdl, hrr⟩ := hob
          have hst := run_storeCells_atG P L.c (o.v + l.v) tt fz us 0 ⟨vs⟩ w hh hfz (by simp; omega) hone
          simp only [Nat.add_zero] at hst
          have hrel : LRel β d'.list ((Eng.over vs (o.v + l.v) us).take d'.len) := by
            have := a2 hrr hxr
            have e2 : vs.take dd.len ++ us = (Eng.over vs (o.v + l.v) us).take d'.len := by
              rw [a1, hxl, ho0, Nat.zero_add, hll]
              have hl1 : (vs.take dd.len ++ us).length = dd.len + n.v := by rw [List.length_append, List.length_take, hul]; omega
              show _ = (vs.take dd.len ++ us ++ vs.drop (dd.len + us.length)).take (dd.len + n.v)
              rw [List.take_append_of_le_length (by omega)]
              exact (List.take_of_length_le (by omega)).symm
            rw [← e2]; exact this
          have hmv := hH1.move hbm hL (Eng.over vs (o.v + l.v) us) (by rw [over_len _ _ _ (by omega), hvl]) (by rw [a1, hxl]; omega) hrel (.gen [])
          refine ⟨.slice (some (at' L.c (L.base + o.v))) (l.v + n.v) cp, w.setRow L.c ⟨Eng.over vs (o.v + l.v) us⟩, β.put S1.H.length L, ?_, ?_, ?_, ?_⟩
          · refine run_append_fit (ty := ty) ht hu hd hi hs hlen (hf w (fun _ => rfl)) hfit (.inr ⟨_, rfl, ?_⟩)
            rw [add_at, show at' L.c (L.base + o.v + l.v) = ⟨L.c, o.v + l.v, none⟩ by simp [at', h0]]
            exact hst
          · have hS3 : S3.H.length = S1.H.length := by rw [hp3.H]
            have := VRel.sl (β := β.put S1.H.length L) S3.H.length (.c 0) (l.add n) none (some (at' L.c (L.base + o.v))) cp (by rw [N.add_v]; exact hfit) (fun C hC => by cases hC)
              (.inr ⟨L, by rw [hS3]; exact Map.put_same .., by rw [ho0]; rfl, by show 0 + cp ≤ L.room; omega⟩)
            rw [N.add_v] at this; exact this
          · show HRel G _ ((S3.kill b).H ++ _) _; rw [hkill]; exact hmv.1
          · show Stp β S.H w _ ((S3.kill b).H ++ _) _; rw [hkill, ← hp.H]; exact hmv.2
      · obtain ⟨v, w', β', q1, q2, q3, q4⟩ := grow dd d' .own (S1.H.set b ⟨.gen [], .dead⟩) hbm (by intro h; cases h) (by omega)
          (fun vs hv => a2 (by rw [ho0, hll, List.drop_zero, List.take_of_length_le (by rw [Data.list_len]; exact Nat.le_refl _)] at hv; exact hv) hxr) (by rw [a1, hxl, hll]) (by omega) hHk (Stp.kill b _) (by simp) (l.add n) (N.add_v ..)
        refine ⟨v, w', β', q1, by rw [hp3.H]; exact q2, ?_, ?_⟩
        · show HRel G β' ((S3.kill b).H ++ _) w'; rw [hkill]; exact q3
        · show Stp β S.H w β' ((S3.kill b).H ++ _) w'; rw [hkill, ← hp.H]; exact q4
end
end Go.Eng
/- Each operation does what the interpreter says: append, copy, as the code has them. -/
namespace Go.Eng
set_option linter.unusedSectionVars false
variable [RowAddr]
set_option linter.unusedSimpArgs false
set_option linter.unusedVariables false
section
variable {P : Program} {G : Nat → Option (List AV)} {β : Map} {w : World}

theorem elemT_spec {t e : TypeId} {s : Nat} (h : elemT P t = some (e, s)) : P.underlying t = some (.slice e) ∧ sizeT P e = some s := by
  unfold elemT at h
  split at h
  · rename_i e' hu
    simp only [Option.map_eq_some_iff, Prod.mk.injEq] at h
    obtain ⟨s', hs, rfl, rfl⟩ := h
    exact ⟨hu, hs⟩
  · cases h
theorem sliceOrString_spec {d : Option TypeDesc} (h : sliceOrString d = true) : ∃ d', d = some d' ∧ notInt d' := by
  unfold sliceOrString at h
  split at h
  · exact ⟨_, rfl, .inl ⟨_, rfl⟩⟩
  · exact ⟨_, rfl, .inr rfl⟩
  · cases h
theorem appendOp_spec {ts : List TypeId} {as : List AV} {vs : List Value} {ty : TypeId} {x : AV} {S S' : St} (h : appendOp P ts as S = some (x, S')) (ha : LRel β as vs) (hH : HRel G β S.H w) :
    (S'.ok → S.ok) ∧ (S'.ok → Does P G β S w (Builtin.append_ ⟨ts⟩ ty ⟨vs⟩) x S') := by
  unfold appendOp at h
  split at h
  case h_2 => cases h
  rename_i t u
  split at h
  case h_2 => cases h
  rename_i e he
  obtain ⟨ht, hse⟩ := elemT_spec he
  split at h
  case h_1 => cases h
  case h_2 => cases h
  rename_i i zr hi hzr
  obtain ⟨i', z, hi', hz, _, _, hzs⟩ := zeroRow_spec hzr β
  rw [hi] at hi'; injection hi' with hi'; subst hi'
  obtain ⟨i', hi', hs⟩ := sizeT_info hse
  rw [hi] at hi'; injection hi' with hi'; subst hi'
  rw [hs] at hzs
  split at h
  · cases h
  rename_i hb0
  have hb0 : i.bytes ≠ 0 := by intro e; rw [e] at hb0; cases hb0
  split at h
  · cases h
  rename_i hu
  obtain ⟨d, hu, hd⟩ := sliceOrString_spec hu
  split at h
  case h_2 => cases h
  rename_i s a
  obtain ⟨vs1, vr, rfl, hsv, hr⟩ := ha.cons_inv
  obtain ⟨vx, vr', rfl, hxv, hr'⟩ := hr.cons_inv
  have := hr'.nil_inv; subst this
  cases hn : lenN a with
  | none => simp [hn] at h
  | some n =>
    simp only [hn] at h
    cases hda : dataOf a n S with
    | none => simp [hda] at h
    | some r =>
      obtain ⟨xs, S1⟩ := r
      simp only [hda] at h
      obtain ⟨hp1, hds⟩ := dataOf_spec (P := P) hda hxv hn (Nat.le_refl _) hH
      split at h
      · cases h
      rename_i hsing
      split at h
      · -- nil
        cases hsv
        have key : ∀ S2 : St, (n.mulc i.bytes).fits.claim S1 = some S2 → some (AV.sl S2.H.length (.c 0) n none, (S2.new xs).2) = some (x, S') → (S'.ok → S.ok) ∧ (S'.ok → Does P G β S w (Builtin.append_ ⟨[t, u]⟩ ty ⟨[Value.slice none 0 0, vx]⟩) x S') := by
          intro S2 hc h
          simp only [Option.some.injEq, Prod.mk.injEq] at h
          obtain ⟨rfl, rfl⟩ := h
          obtain ⟨hp2, hv2⟩ := B.claim_spec hc
          refine ⟨fun o => hp1.ok (hp2.ok o), fun ok => ?_⟩
          have hf := hv2 ok
          rw [N.fits, N.le_v, N.mulc_v] at hf
          have hf := of_decide_eq_true hf
          have hf : n.v * i.bytes ≤ 1099511627776 := hf
          obtain ⟨hxl, us, hul, hxr, hfc⟩ := hds (hp2.ok ok)
          have hH2 : HRel G β S2.H w := by rw [hp2.H, hp1.H]; exact hH
          by_cases hn0 : n.v = 0
          · have hph := hH2.phantom (d := xs) (by omega)
            have hus : us = [] := List.eq_nil_of_length_eq_zero (by omega)
            refine ⟨.slice none 0 0, w, β, ?_, ?_, hph.1, ?_⟩
            · have := run_append_fit (P := P) (w := w) (ty := ty) (base := none) (sLen := 0) (sCap := 0) (w' := w) ht hu hd hi hs (fun w => lenN_spec hn hxv w) (hfc w (fun _ => rfl)) (by omega) (.inl ⟨rfl, rfl⟩)
              rw [hn0] at this; exact this
            · have := VRel.sl (β := β) S2.H.length (.c 0) n none none 0 (by omega) (fun C hC => by cases hC) (.inl rfl)
              rw [hn0] at this; exact this
            · rw [hp2.H, hp1.H] at hph; show Stp β S.H w β (S2.H ++ _) w; rw [hp2.H, hp1.H]; exact hph.2
          · have hrun := run_append_more (P := P) (w := w) (base := none) (sLen := 0) (sCap := 0) (olds := []) (ty := ty) ht hu hd hi hz hs (fun w => lenN_spec hn hxv w) (hfc w.drew (fun _ => rfl)) (run_firstCells_none _ 1 0 _ _) (by omega) (by rw [Nat.zero_add]; exact hf) hb0
            simp only [Nat.zero_add, List.nil_append] at hrun
            have hg := le_grownCap w n.v 0 e
            have hzl : (Builtin.zeroCells z.cells (grownCap w n.v 0 e - n.v)).toList.length = grownCap w n.v 0 e - n.v := by simp [Builtin.zeroCells, hzs]
            have hnew := hH2.drew.new xs (us ++ (Builtin.zeroCells z.cells (grownCap w n.v 0 e - n.v)).toList) e (by rw [List.length_append]; omega)
              (by rw [hxl, ← hul, List.take_left]; exact hxr)
            refine ⟨_, _, _, hrun, ?_, hnew.1, ?_⟩
            · exact .sl S2.H.length (.c 0) n none (some (at' w.heap.size 0)) (grownCap w n.v 0 e) hg (fun C hC => by cases hC) (.inr ⟨_, Map.put_same .., rfl, by
                show 0 + _ ≤ (us ++ _).length
                rw [List.length_append, hzl]; omega⟩)
            · show Stp β S.H w _ (S2.H ++ _) _
              have := (Stp.drew β S2.H w).trans hnew.2
              rw [hp2.H, hp1.H] at this ⊢; exact this
        cases n with
        | c n' =>
          cases n' with
          | zero =>
            simp only [Option.some.injEq, Prod.mk.injEq] at h
            obtain ⟨rfl, rfl⟩ := h
            refine ⟨hp1.ok, fun ok => ?_⟩
            obtain ⟨hxl, us, hul, hxr, hfc⟩ := hds ok
            refine Does.pure hH hp1 (v := .slice none 0 0) ?_ .nils
            exact run_append_fit (P := P) (w := w) (ty := ty) (base := none) (sLen := 0) (sCap := 0) (w' := w) ht hu hd hi hs (fun w => lenN_spec hn hxv w) (hfc w (fun _ => rfl)) (by simp [N.v]) (.inl ⟨rfl, rfl⟩)
          | succ n' =>
            simp only at h
            cases hc : (N.mulc (.c (n' + 1)) i.bytes).fits.claim S1 with
            | none => simp [hc] at h
            | some S2 => simp only [hc] at h; exact key S2 hc h
        | s n' =>
          simp only at h
          cases hc : (N.mulc (.s n') i.bytes).fits.claim S1 with
          | none => simp [hc] at h
          | some S2 => simp only [hc] at h; exact key S2 hc h
      · rename_i b o l cap
        cases hc : ((l.add n).mulc i.bytes).fits.claim S1 with
        | none => simp [hc] at h
        | some S2 =>
          simp only [hc] at h
          obtain ⟨hp2, hv2⟩ := B.claim_spec hc
          have mono : S'.ok → S2.ok := by
            intro ok
            clear hds
            -- appendSl only adds to what is owed
            unfold appendSl at h
            cases cap with
            | some C =>
              simp only at h
              split at h
              case h_2 => cases h
              split at h
              · cases h
              · split at h
                · split at h
                  case h_2 => cases h
                  rename_i hov
                  obtain ⟨hp3, _⟩ := Data.over_spec hov
                  split at h
                  case h_2 => cases h
                  rename_i hw
                  simp only [Option.some.injEq, Prod.mk.injEq] at h
                  obtain ⟨_, rfl⟩ := h
                  exact hp3.of_write hw ok
                · split at h
                  · cases h
                  · split at h
                    case h_2 => cases h
                    rename_i hsub
                    obtain ⟨hp3, _⟩ := Data.sub_spec hsub
                    split at h
                    case h_2 => cases h
                    simp only [Option.some.injEq, Prod.mk.injEq] at h
                    obtain ⟨_, rfl⟩ := h
                    exact hp3.ok ok
            | none =>
              simp only at h
              split at h
              case h_2 => cases h
              split at h
              case h_2 => cases h
              split at h
              case h_2 => cases h
              rename_i hcl
              obtain ⟨hp3, _⟩ := B.claim_spec hcl
              split at h
              case h_2 => cases h
              simp only [Option.some.injEq, Prod.mk.injEq] at h
              obtain ⟨_, rfl⟩ := h
              exact hp3.ok ok
          refine ⟨fun ok => hp1.ok (hp2.ok (mono ok)), fun ok => ?_⟩
          have ok2 := mono ok
          obtain ⟨hxl, us, hul, hxr, hfc⟩ := hds (hp2.ok ok2)
          have hf := hv2 ok2
          rw [N.fits, N.le_v, N.mulc_v, N.add_v] at hf
          have hf := of_decide_eq_true hf
          have hf : (l.v + n.v) * i.bytes ≤ 1099511627776 := hf
          exact (append_core (ty := ty) ht hu hd hi hz hs hzs hb0 (fun w => lenN_spec hn hxv w) hfc hul hxl hxr (singles_spec hsing hxr) hsv hH (hp1.trans hp2) hf h).2 ok
      · cases h

theorem copyOp_spec {ts : List TypeId} {as : List AV} {vs : List Value} {ty : TypeId} {x : AV} {S S' : St} (h : copyOp P ts as S = some (x, S')) (ha : LRel β as vs) (hH : HRel G β S.H w) :
    (S'.ok → S.ok) ∧ (S'.ok → Does P G β S w (Builtin.copy_ ⟨ts⟩ ty ⟨vs⟩) x S') := by
  unfold copyOp at h
  split at h
  case h_2 => cases h
  rename_i t tr
  split at h
  case h_2 => cases h
  rename_i e he
  obtain ⟨ht, hse⟩ := elemT_spec he
  split at h
  case h_2 => cases h
  rename_i d a
  obtain ⟨vd, vr, rfl, hdv, hr⟩ := ha.cons_inv
  obtain ⟨vx, vr', rfl, hxv, hr'⟩ := hr.cons_inv
  have := hr'.nil_inv; subst this
  cases hl : lenN d with
  | none => simp [hl] at h
  | some l =>
    cases hm : lenN a with
    | none => simp [hl, hm] at h
    | some m =>
      simp only [hl, hm] at h
      cases hda : dataOf a (m.min l) S with
      | none => simp [hda] at h
      | some r =>
        obtain ⟨xs, S1⟩ := r
        simp only [hda] at h
        have hnv : (m.min l).v = Nat.min m.v l.v := N.min_v m l
        obtain ⟨hp1, hds⟩ := dataOf_spec (P := P) hda hxv hm (by rw [hnv]; exact Nat.min_le_left _ _) hH
        split at h
        · cases h
        rename_i hsing
        split at h
        · rename_i b o l' cap
          simp only [lenN, Option.some.injEq] at hl; subst hl
          cases hr : S1.read b with
          | none => simp [hr] at h
          | some dd =>
            simp only [hr] at h
            split at h
            case h_2 => cases h
            rename_i d' S2 hov
            obtain ⟨hp2, hov⟩ := Data.over_spec hov
            split at h
            case h_2 => cases h
            rename_i S3 hw
            simp only [Option.some.injEq, Prod.mk.injEq] at h
            obtain ⟨rfl, rfl⟩ := h
            refine ⟨fun ok => hp1.ok (hp2.of_write hw ok), fun ok => ?_⟩
            obtain ⟨hxl, us, hul, hxr, hfc⟩ := hds (hp2.of_write hw ok)
            obtain ⟨h1, h2, h3⟩ := hov (ok_of_write hw ok)
            obtain ⟨base, cp, rfl, g1, g2, g3⟩ := hdv.sl_inv
            have hH1 : HRel G β S1.H w := by rw [hp1.H]; exact hH
            have hrun : ∀ w', (base = none ∧ w' = w ∨ ∃ p, base = some p ∧ (storeCells p us).run P w = .ok () w') → (Builtin.copy_ ⟨t :: tr⟩ ty ⟨[Value.slice base l'.v cp, vx]⟩).run P w = .ok (.int .i64 ((m.min l').toZ).v) w' := by
              intro w' hst
              have e : Nat.min m.v l'.v = (m.min l').v := hnv.symm
              have hfc' := hfc w (fun _ => rfl)
              rcases hst with ⟨rfl, rfl⟩ | ⟨p, rfl, hst⟩
              · simp [Builtin.copy_, run_und ht, sizeT_spec hse, lenN_spec hm hxv, e, hfc', goInt, N.toZ_v]
              · simp [Builtin.copy_, run_und ht, sizeT_spec hse, lenN_spec hm hxv, e, hfc', hst, goInt, N.toZ_v]
            rcases g3 with g3 | ⟨L, hL, rfl, g4⟩
            · -- no cells
              have hn0 : (m.min l').v = 0 := by rw [hnv]; have : Nat.min m.v l'.v ≤ l'.v := Nat.min_le_right _ _; omega
              have hus : us = [] := List.eq_nil_of_length_eq_zero (by omega)
              obtain ⟨d0, hb0, hS3, _⟩ := St.write_spec hw
              obtain ⟨md, hbm, hmd⟩ := St.read_spec hr
              rw [hp2.H, hbm] at hb0
              injection hb0 with e1; injection e1 with e1 e2; subst e1 e2
              have hblt : b < S1.H.length := by
                rcases Nat.lt_or_ge b S1.H.length with h | h
                · exact h
                · simp [List.getElem?_eq_none h] at hbm
              have hmain : HRel G β S3.H w ∧ Stp β S1.H w β S3.H w := by
                rw [hS3, hp2.H]
                rcases hH1.blk b _ hbm (own_alive rfl) with ⟨L, hL, hbr⟩ | ⟨hz, hno⟩
                · obtain ⟨h0, vs, tt, fz, hh, hfz, hvl, hdl, hrr⟩ := hbr
                  have hwr := hH1.write (d' := d') hbm hL vs hvl (by rw [h2]; exact hdl) (by
                    have := h3 (us := []) (vs := vs.take dd.len) (by rw [← hus]; exact hxr) hrr
                    rw [h2]
                    simpa [Eng.over] using this)
                  rw [setRow_self w L.c ⟨vs⟩ tt fz hh] at hwr
                  exact hwr
                · have hget : ∀ (x : Nat) k, (S1.H.set b ⟨d', .own⟩)[x]? = some k → (x = b ∧ k = ⟨d', .own⟩) ∨ (x ≠ b ∧ S1.H[x]? = some k) := by
                    intro x k hk
                    by_cases e : x = b
                    · subst e; rw [List.getElem?_set_self hblt] at hk; injection hk with hk; exact .inl ⟨rfl, hk.symm⟩
                    · rw [List.getElem?_set_ne (Ne.symm e)] at hk; exact .inr ⟨e, hk⟩
                  refine ⟨⟨?_, ?_, fun x L h => by simpa using hH1.dom x L h, hH1.glob, ?_⟩, ⟨Map.le_refl β, by simp, rfl, rfl, rfl, Nat.le_refl _, fun _ _ _ => rfl, ?_, fun _ _ => rfl⟩⟩
                  · intro x k hk ha
                    rcases hget x k hk with ⟨rfl, rfl⟩ | ⟨hx, hk⟩
                    · exact .inr ⟨by simp only [h2]; exact hz, hno⟩
                    · exact hH1.blk x k hk ha
                  · intro x y k k' L1 L2 hne hk hk' ho hal hL1 hL2
                    rcases hget x k hk with ⟨rfl, rfl⟩ | ⟨hx, hk⟩
                    · rw [hno] at hL1; cases hL1
                    · rcases hget y k' hk' with ⟨rfl, rfl⟩ | ⟨hy, hk'⟩
                      · rw [hno] at hL2; cases hL2
                      · exact hH1.dis x y k k' L1 L2 hne hk hk' ho hal hL1 hL2
                  · intro x k L1 hk ho hL1
                    rcases hget x k hk with ⟨rfl, rfl⟩ | ⟨hx, hk⟩
                    · rw [hno] at hL1; cases hL1
                    · exact hH1.apart x k L1 hk ho hL1
                  · intro c hc ⟨x, k, L1, hk, ho, hL1, hLc⟩
                    rcases hget x k hk with ⟨rfl, rfl⟩ | ⟨hx, hk⟩
                    · rw [hno] at hL1; cases hL1
                    · exact ⟨x, k, L1, hk, ho, hL1, hLc⟩
              refine ⟨_, w, β, hrun w ?_, .num (.int .i64 _), hmain.1, by rw [← hp1.H]; exact hmain.2⟩
              cases base with
              | none => exact .inl ⟨rfl, rfl⟩
              | some p => exact .inr ⟨p, rfl, by rw [hus]; rfl⟩
            · have hst := stored_spec (P := P) (us := us) (o := o.v) hH1 hp2 hr hw hL (by omega) h2 (fun hv => h3 hxr hv) (singles_spec hsing hxr)
              obtain ⟨w', β', q1, q2, q3⟩ := hst
              exact ⟨_, w', β', hrun w' (.inr ⟨_, rfl, q1⟩), .num (.int .i64 _), q2, by rw [← hp1.H]; exact q3⟩
        · simp only [lenN, Option.some.injEq] at hl; subst hl
          simp only [Option.some.injEq, Prod.mk.injEq] at h
          obtain ⟨rfl, rfl⟩ := h
          refine ⟨hp1.ok, fun ok => ?_⟩
          obtain ⟨hxl, us, hul, hxr, hfc⟩ := hds ok
          cases hdv
          have hn0 : (m.min (.c 0)).v = 0 := by rw [hnv]; simp [N.v]
          have hfc' := hfc w (fun _ => rfl)
          rw [hn0] at hfc'
          refine Does.pure hH hp1 (v := .int .i64 0) ?_ (.num (.int .i64 (.c 0)))
          simp [Builtin.copy_, run_und ht, sizeT_spec hse, lenN_spec hm hxv, hfc', goInt]
        · cases h
end
end Go.Eng
/- Each operation does what the interpreter says: aggregates, lengths, tests. -/
namespace Go.Eng
set_option linter.unusedSectionVars false
variable [RowAddr]
set_option linter.unusedSimpArgs false
set_option linter.unusedVariables false
section
variable {P : Program} {G : Nat → Option (List AV)} {β : Map} {w : World}

theorem foldl_over (off : Nat) : ∀ (l : List Value) (k : Nat) (cs : Array Value), off + k + l.length ≤ cs.size →
    ((l.zipIdx k).foldl (fun (cs : Array Value) (p : Value × Nat) => cs.setIfInBounds (off + p.2) p.1) cs).toList = Eng.over cs.toList (off + k) l
  | [], k, cs, h => by simp [Eng.over]
  | v :: l, k, cs, h => by
    simp only [List.zipIdx_cons, List.foldl_cons]
    rw [foldl_over off l (k + 1) _ (by simp at h ⊢; omega), Array.toList_setIfInBounds]
    have := list_seg_step cs.toList (off + k) v l (by simp at h ⊢; omega)
    simpa [Eng.over, Nat.add_assoc] using this
theorem fill_spec (place : Nat → Option (Nat × Nat)) : ∀ (ps : List (Nat × AV)) (vs : List (Nat × Value)) (qs : List (Nat × Nat × AV)) (cells : List AV) (cs : Array Value) (r : List AV),
    fillAt cells qs = some r → LRel β cells cs.toList → ps.length = vs.length → (∀ (i : Nat) p v, ps[i]? = some p → vs[i]? = some v → p.1 = v.1 ∧ VRel β p.2 v.2) →
    ps.length = qs.length → (∀ (i : Nat) p q, ps[i]? = some p → qs[i]? = some q → place p.1 = some (q.1, q.2.1) ∧ q.2.2 = p.2) →
    ∃ rs, Instr.fill place cs vs = some rs ∧ LRel β r rs.toList
  | [], [], [], cells, cs, r, h, hc, _, _, _, _ => by simp [fillAt] at h; subst h; exact ⟨cs, rfl, hc⟩
  | p :: ps, v :: vs, q :: qs, cells, cs, r, h, hc, h1, h2, h3, h4 => by
    obtain ⟨off, size, x⟩ := q
    obtain ⟨i, u⟩ := v
    obtain ⟨e1, hv⟩ := h2 0 p _ rfl rfl
    obtain ⟨e2, e3⟩ := h4 0 p _ rfl rfl
    simp only at e1 e2 e3 hv
    subst e3
    simp only [fillAt] at h
    cases hr : p.2.row with
    | none => simp [hr] at h
    | some vc =>
      simp only [hr] at h
      have hvc := row_spec hr hv
      split at h
      case h_2 => cases h
      rename_i hsz
      have hsz : vc.length = size := by simpa using hsz
      cases hp : lput vc off cells with
      | none => simp [hp] at h
      | some cells' =>
        simp only [hp] at h
        obtain ⟨b1, rfl⟩ := lput_eq _ _ _ _ hp
        have hcl := hc.1
        have hvl := hvc.1
        have hu : u.cells.size = size := by rw [← hsz, hvl]; simp
        have hfit : off + u.cells.size ≤ cs.size := by
          have : cells.length = cs.size := by rw [hcl]; simp
          omega
        have hf : (u.cells.zipIdx.foldl (fun cs (p : Value × Nat) => cs.setIfInBounds (off + p.2) p.1) cs).toList = Eng.over cs.toList off u.cells.toList := by
          rw [← Array.foldl_toList, Array.toList_zipIdx]
          have := foldl_over off u.cells.toList 0 cs (by simpa using hfit)
          simpa using this
        obtain ⟨rs, g1, g2⟩ := fill_spec place ps vs qs _ (u.cells.zipIdx.foldl (fun cs (p : Value × Nat) => cs.setIfInBounds (off + p.2) p.1) cs) r h
          (by rw [hf]; exact LRel.over hc hvc off) (by simpa using h1) (fun i p v hp hv => h2 (i + 1) p v (by simpa using hp) (by simpa using hv)) (by simpa using h3) (fun i p q hp hq => h4 (i + 1) p q (by simpa using hp) (by simpa using hq))
        refine ⟨rs, ?_, g2⟩
        rw [← g1]
        have hn : ¬ (cs.size < off + u.cells.size) := by omega
        simp [Instr.fill, ← e1, e2, hu, hu ▸ hn]
  | [], v :: vs, _, _, _, _, _, _, h1, _, _, _ => by simp at h1
  | p :: ps, [], _, _, _, _, _, _, h1, _, _, _ => by simp at h1
  | [], [], q :: qs, _, _, _, _, _, _, _, h3, _ => by simp at h3
  | p :: ps, v :: vs, [], _, _, _, _, _, _, _, h3, _ => by simp at h3

/-- Parts, one by one. -/
def PRel (β : Map) (ps : List (Nat × AV)) (vs : List (Nat × Value)) : Prop := ps.length = vs.length ∧ ∀ (i : Nat) p v, ps[i]? = some p → vs[i]? = some v → p.1 = v.1 ∧ VRel β p.2 v.2

theorem run_places (fields : List Field) (places : List (Nat × Nat)) (h : mapOpt (fun (f : Field) => (sizeT P f.type).map fun s => (f.offset, s)) fields = some places) (w : World) :
    (fields.mapM fun (f : Field) => (Prod.mk f.offset <$> sizeOf f.type : Sem (Nat × Nat))).run P w = .ok places w := by
  induction fields generalizing places with
  | nil => simp [mapOpt] at h; subst h; rfl
  | cons f fields ih =>
    simp only [mapOpt] at h
    cases hs : sizeT P f.type with
    | none => simp [hs] at h
    | some s =>
      simp only [hs, Option.map_some] at h
      cases hm : mapOpt (fun (f : Field) => (sizeT P f.type).map fun s => (f.offset, s)) fields with
      | none => simp [hm] at h
      | some r =>
        simp only [hm, Option.some.injEq] at h; subst h
        simp [List.mapM_cons, sizeT_spec hs, ih r hm]
theorem mapOpt_get {α γ : Type} {f : α → Option γ} {l : List α} {r : List γ} (h : mapOpt f l = some r) (i : Nat) (x : α) (y : γ) (hx : l[i]? = some x) (hy : r[i]? = some y) : f x = some y := by
  induction l generalizing r i with
  | nil => simp at hx
  | cons a l ih =>
    simp only [mapOpt] at h
    cases h1 : f a with
    | none => simp [h1] at h
    | some b =>
      cases h2 : mapOpt f l with
      | none => simp [h1, h2] at h
      | some bs =>
        simp [h1, h2] at h; subst h
        cases i with
        | zero => simp at hx hy; subst hx hy; exact h1
        | succ i => exact ih h2 i (by simpa using hx) (by simpa using hy)
theorem buildOp_spec {t : TypeId} {ps : List (Nat × AV)} {vs : List (Nat × Value)} {x : AV} {S : St} (h : buildOp P t ps = some x) (hp : PRel β ps vs) (hH : HRel G β S.H w) :
    Does P G β S w (Instr.build t ⟨vs⟩) x S := by
  unfold buildOp at h
  cases hz : zeroRow P t with
  | none => simp [hz] at h
  | some zr =>
    simp only [hz] at h
    obtain ⟨i, z, hi, hz', hzl, _, _⟩ := zeroRow_spec hz β
    split at h
    · rename_i fields hu
      cases hm : mapOpt (fun (f : Field) => (sizeT P f.type).map fun s => (f.offset, s)) fields.toList with
      | none => simp [hm] at h
      | some places =>
        simp only [hm] at h
        cases hq : mapOpt (fun (p : Nat × AV) => (lget p.1 places).map fun q => (q.1, q.2, p.2)) ps with
        | none => simp [hq] at h
        | some qs =>
          simp only [hq, Option.map_eq_some_iff] at h
          obtain ⟨r, hr, rfl⟩ := h
          obtain ⟨rs, g1, g2⟩ := fill_spec (β := β) (fun i => places[i]?) ps vs qs zr z.cells r hr hzl hp.1 hp.2 (mapOpt_len hq).symm (fun i p q hpi hqi => by
            have := mapOpt_get hq i p q hpi hqi
            simp only [Option.map_eq_some_iff] at this
            obtain ⟨q', h1, h2⟩ := this
            rw [lget_eq] at h1
            subst h2
            exact ⟨h1, rfl⟩)
          refine Does.pure hH (Pure.refl _) (v := .agg rs) ?_ (by cases rs; exact VRel.aggL g2)
          have hpl := run_places (P := P) fields.toList places hm w
          simp [Instr.build, zeroValue, typeInfo, hi, hz', run_und hu, Array.mapM_eq_mapM_toList, hpl, g1]
    · rename_i n e hu
      cases hs : sizeT P e with
      | none => simp [hs] at h
      | some s =>
        simp only [hs, Option.map_eq_some_iff] at h
        obtain ⟨r, hr, rfl⟩ := h
        obtain ⟨rs, g1, g2⟩ := fill_spec (β := β) (fun i => some (i * s, s)) ps vs (ps.map fun p => (p.1 * s, s, p.2)) zr z.cells r hr hzl hp.1 hp.2 (by simp) (fun i p q hpi hqi => by
          simp only [List.getElem?_map, hpi, Option.map_some, Option.some.injEq] at hqi
          subst hqi; exact ⟨rfl, rfl⟩)
        refine Does.pure hH (Pure.refl _) (v := .agg rs) ?_ (by cases rs; exact VRel.aggL g2)
        simp [Instr.build, zeroValue, typeInfo, hi, hz', run_und hu, sizeT_spec hs, g1]
    · cases h
end
end Go.Eng
/- Each operation does what the interpreter says: the rest. -/
namespace Go.Eng
set_option linter.unusedSectionVars false
variable [RowAddr]
set_option linter.unusedSimpArgs false
set_option linter.unusedVariables false
section
variable {P : Program} {G : Nat → Option (List AV)} {β : Map} {w : World}

theorem buildSliceOp_run {t : TypeId} {n : Nat} {ps : List (Nat × AV)} {vs : List (Nat × Value)} {x : AV} {S S' : St} (h : buildSliceOp P t n ps S = some (x, S')) (hp : PRel β ps vs) :
    ∃ (r : List AV) (rs : Array Value) (e : TypeId), S' = (S.new (.gen r)).2 ∧ x = .ref (.sl S.H.length (.c 0) (.c n) (some (.c n))) ∧ LRel β r rs.toList ∧ n ≤ rs.toList.length ∧
      ∀ w : World, (Instr.buildSlice t n ⟨vs⟩).run P w = .ok (.slice (some (at' w.heap.size 0)) n n) (w.alloc (.cells rs e)) := by
  unfold buildSliceOp at h
  split at h
  case h_2 => cases h
  rename_i e s he
  obtain ⟨hu, hs⟩ := elemT_spec he
  split at h
  · cases h
  rename_i hs0
  have h0 : ¬ n * s = 0 := by intro e; rw [e] at hs0; cases hs0
  have hs0 : s ≠ 0 := by intro e; rw [e] at h0; simp at h0
  split at h
  · cases h
  rename_i hbig
  have hbig : n * s ≤ 2 ^ 24 := Nat.le_of_ble_eq_true hbig
  cases hz : zeroRow P e with
  | none => simp [hz] at h
  | some zr =>
    simp only [hz] at h
    obtain ⟨i, z, hi, hz', hzl, e1, e2⟩ := zeroRow_spec hz β
    obtain ⟨i', hi', hsi⟩ := sizeT_info hs
    rw [hi] at hi'; injection hi' with hi'; subst hi'
    split at h
    case h_2 => cases h
    rename_i r hr
    simp only [Option.some.injEq, Prod.mk.injEq] at h
    obtain ⟨rfl, rfl⟩ := h
    have hzc := madeCells_rel hzl n
    rw [e2, hsi] at hzc
    obtain ⟨rs, g1, g2⟩ := fill_spec (β := β) (fun i => some (i * s, s)) ps vs (ps.map fun p => (p.1 * s, s, p.2)) _ (madeCells z.cells (n * s)) r hr hzc hp.1 hp.2 (by simp) (fun i p q hpi hqi => by
      simp only [List.getElem?_map, hpi, Option.map_some, Option.some.injEq] at hqi
      subst hqi; exact ⟨rfl, rfl⟩)
    have hrl : rs.toList.length = n * s := by
      have hlen : r.length = (List.replicate n zr).flatten.length := by
        have : ∀ (qs : List (Nat × Nat × AV)) (cells r : List AV), fillAt cells qs = some r → r.length = cells.length := by
          intro qs
          induction qs with
          | nil => intro cells r h; simp [fillAt] at h; subst h; rfl
          | cons q qs ih =>
            intro cells r h
            obtain ⟨off, size, v⟩ := q
            simp only [fillAt] at h
            cases hv : v.row with
            | none => simp [hv] at h
            | some vc =>
              simp only [hv] at h
              split at h
              case h_2 => cases h
              cases hl : lput vc off cells with
              | none => simp [hl] at h
              | some c' =>
                simp only [hl] at h
                obtain ⟨b1, rfl⟩ := lput_eq _ _ _ _ hl
                rw [ih _ _ h, over_len _ _ _ b1]
        exact this _ _ _ hr
      rw [← g2.1, hlen, List.length_flatten]
      simp [e1, hsi]
    refine ⟨r, rs, e, rfl, rfl, g2, ?_, fun w => ?_⟩
    · rw [hrl]
      exact Nat.le_mul_of_pos_right _ (by omega)
    · have hmc : (if n * s = 0 then (#[] : Array Value) else z.cells).size = (if n * s = 0 then 0 else s) := by split <;> simp [e2, hsi]
      have hb : ¬ (16777216 < n * s) := by omega
      have hm : madeCells z.cells (n * s) = (Array.range (n * s)).map (fun i => z.cells[i % z.cells.size]!) := rfl
      rw [hm] at g1
      simp [Instr.buildSlice, run_und hu, sizeT_spec hs, h0, hb, zeroValue, typeInfo, hi, hz', g1, newRow, at']
theorem buildSliceOp_spec {t : TypeId} {n : Nat} {ps : List (Nat × AV)} {vs : List (Nat × Value)} {x : AV} {S S' : St} (h : buildSliceOp P t n ps S = some (x, S')) (hp : PRel β ps vs) (hH : HRel G β S.H w) :
    (S'.ok → S.ok) ∧ Does P G β S w (Instr.buildSlice t n ⟨vs⟩) x S' := by
  obtain ⟨r, rs, e, rfl, rfl, g2, g3, g4⟩ := buildSliceOp_run h hp
  obtain ⟨h1, h2⟩ := new_gen hH e g2
  refine ⟨fun o => o, .slice (some (at' w.heap.size 0)) n n, w.alloc (.cells rs e), _, g4 w, ?_, h1, h2⟩
  refine .sl _ _ _ _ _ _ (Nat.le_refl _) (fun C hC => by injection hC with hC; subst hC; rfl) (.inr ⟨_, Map.put_same .., rfl, ?_⟩)
  show 0 + n ≤ rs.toList.length
  omega

theorem partOf_spec {t : TypeId} {xs : List AV} {vs : List Value} {off : Nat} {x : AV} (h : partOf P t xs off = some x) (hv : LRel β xs vs) (w : World) :
    ∃ v, (part t ⟨vs⟩ off).run P w = .ok v w ∧ VRel β x v := by
  unfold partOf at h
  cases hg : isAggT P t with
  | none => simp [hg] at h
  | some b =>
    cases b with
    | true =>
      simp only [hg] at h
      cases hs : sizeT P t with
      | none => simp [hs] at h
      | some s =>
        simp only [hs, Option.map_eq_some_iff] at h
        obtain ⟨r, hr, rfl⟩ := h
        obtain ⟨h1, rfl⟩ := lsub_eq _ _ _ _ hr
        refine ⟨.agg ⟨(vs.drop off).take s⟩, ?_, VRel.aggL ((hv.drop off).take s)⟩
        simp [part, isAggT_spec hg, sizeT_spec hs, List.take_drop]
    | false =>
      simp only [hg, lget_eq] at h
      obtain ⟨v, h1, h2⟩ := hv.get h
      refine ⟨v, ?_, h2⟩
      simp [part, isAggT_spec hg, h1]
theorem fieldOp_spec {t : TypeId} {a x : AV} {va : Value} {f : Nat} {S : St} (h : fieldOp P t a f = some x) (ha : VRel β a va) (hH : HRel G β S.H w) :
    Does P G β S w (Instr.field t va f) x S := by
  unfold fieldOp at h
  split at h
  case h_2 => cases h
  rename_i fields hu
  split at h
  case h_2 => cases h
  rename_i xs
  rw [lget_eq] at h
  cases hf : fields.toList[f]? with
  | none => simp [hf] at h
  | some fd =>
    simp only [hf] at h
    have hf' : fields[f]? = some fd := by simpa using hf
    obtain ⟨vs, rfl, hl⟩ := ha.agg_inv
    obtain ⟨v, h1, h2⟩ := partOf_spec (P := P) h hl w
    refine Does.pure hH (Pure.refl _) ?_ h2
    simp [Instr.field, run_und hu, hf', asAgg, h1]
theorem str_get (s : ByteArray) (n : Nat) : s[n]? = s.data.toList[n]? := by
  rw [Array.getElem?_toList]
  by_cases h : n < s.size
  · rw [getElem?_pos s n h, getElem?_pos s.data n h]; rfl
  · rw [getElem?_neg s n h, getElem?_neg s.data n h]
theorem indexOp_spec {t : TypeId} {a i x : AV} {va vi : Value} {S S' : St} (h : indexOp P t a i S = some (x, S')) (ha : VRel β a va) (hi : VRel β i vi) (hH : HRel G β S.H w) :
    Pure S S' ∧ (S'.ok → Does P G β S w (Instr.index t va vi) x S') := by
  unfold indexOp at h
  cases hz : i.nm with
  | none => simp [hz] at h
  | some z =>
    simp only [hz] at h
    obtain ⟨k, rfl⟩ := AV.nm_spec hz hi
    split at h
    case h_3 => cases h
    case h_2 hu =>
      split at h
      case h_2 => cases h
      rename_i s
      cases ha
      cases z with
      | c z =>
        simp only at h
        split at h
        case h_2 => cases h
        rename_i hb
        rw [intLe_eq] at hb
        have hb1 : 0 ≤ z := of_decide_eq_true hb
        rw [lget_eq] at h
        cases hg : s.data.toList[z.toNat]? with
        | none => simp [hg] at h
        | some b =>
          simp only [hg, Option.some.injEq, Prod.mk.injEq] at h
          obtain ⟨rfl, rfl⟩ := h
          refine ⟨Pure.refl _, fun _ => Does.pure (v := .int .u8 (b.toNat : Int)) hH (Pure.refl _) ?_ (VRel.num (.int .u8 (.c b.toNat)))⟩
          have hg2 : s.data[z.toNat]? = some b := by rw [← Array.getElem?_toList]; exact hg
          simp [Instr.index, run_und hu, asIntOf, Z.v, hb1, str_get, hg2]
      | s k' =>
        simp only at h
        cases hc : (inRange (.s k') (.c s.size)).claim S with
        | none => simp [hc] at h
        | some S1 =>
          simp only [hc, Option.some.injEq, Prod.mk.injEq] at h
          obtain ⟨rfl, rfl⟩ := h
          obtain ⟨hp, hv⟩ := inRange_spec hc
          refine ⟨hp, fun ok => ?_⟩
          obtain ⟨hb1, hb2⟩ := hv ok
          simp only [Z.v] at hb1 hb2
          have hl : k'.toNat < s.data.toList.length := by
            have h1 : s.data.toList.length = s.size := by rw [Array.length_toList]; rfl
            rw [h1]; omega
          obtain ⟨b, hg⟩ : ∃ b, s.data.toList[k'.toNat]? = some b := ⟨_, List.getElem?_eq_getElem hl⟩
          have hx : (BitVec.ofNat 8 b.toNat).toNat = b.toNat := by
            rw [BitVec.toNat_ofNat]; exact Nat.mod_eq_of_lt b.toNat_lt
          refine Does.pure (v := .int .u8 (b.toNat : Int)) hH hp ?_ ?_
          · have hg2 : s.data[k'.toNat]? = some b := by rw [← Array.getElem?_toList]; exact hg
            simp [Instr.index, run_und hu, asIntOf, Z.v, hb1, str_get, hg2]
          · have := VRel.num (β := β) (.w8 (strAt s k'))
            simpa [strAt, Num.val, Num.k, Num.z, Z.v, List.getD_eq_getElem?_getD, hg, hx] using this
    rename_i n e hu
    split at h
    case h_2 => cases h
    rename_i xs
    cases z with
    | s _ => simp at h
    | c z =>
      simp only at h
      split at h
      case h_2 => cases h
      rename_i hb
      rw [intLe_eq, intLt_eq, Bool.and_eq_true] at hb
      have hb1 : 0 ≤ z := of_decide_eq_true hb.1
      have hb2 : z < (n : Int) := of_decide_eq_true hb.2
      cases hs : sizeT P e with
      | none => simp [hs] at h
      | some s =>
        simp only [hs, Option.map_eq_some_iff, Prod.mk.injEq] at h
        obtain ⟨r, hr, rfl, rfl⟩ := h
        obtain ⟨vs, rfl, hl⟩ := ha.agg_inv
        obtain ⟨v, h1, h2⟩ := partOf_spec (P := P) hr hl w
        refine ⟨Pure.refl _, fun _ => Does.pure hH (Pure.refl _) ?_ h2⟩
        simp [Instr.index, run_und hu, asIntOf, Z.v, hb1, hb2, sizeT_spec hs, h1]
theorem arrayPtrOp_spec {t : TypeId} {a x : AV} {va : Value} {S S' : St} (h : arrayPtrOp P t a S = some (x, S')) (ha : VRel β a va) (hH : HRel G β S.H w) :
    Pure S S' ∧ (S'.ok → Does P G β S w (Instr.arrayAt t va) x S') := by
  unfold arrayPtrOp at h
  split at h
  case h_2 => cases h
  rename_i n e hu
  split at h
  · cases h
  rename_i hn0
  split at h
  case h_2 => cases h
  rename_i b o l cap
  cases hc : (N.le (.c n) l).claim S with
  | none => simp [hc] at h
  | some S1 =>
    simp only [hc, Option.some.injEq, Prod.mk.injEq] at h
    obtain ⟨rfl, rfl⟩ := h
    obtain ⟨hp, hv⟩ := B.claim_spec hc
    refine ⟨hp, fun ok => ?_⟩
    have hv := hv ok
    rw [N.le_v] at hv
    have hv : n ≤ l.v := of_decide_eq_true hv
    obtain ⟨a, cp, rfl, g1, g2, g3⟩ := ha.sl_inv
    have hn : n ≠ 0 := fun e => hn0 e
    rcases g3 with g3 | ⟨L, hL, rfl, g4⟩
    · omega
    · refine Does.pure hH hp ?_ (.ptr b o L hL)
      have : ¬ (l.v < n) := by omega
      simp [Instr.arrayAt, run_und hu, this]
theorem lenOp_spec {ts : List TypeId} {as : List AV} {vs : List Value} {ty : TypeId} {x : AV} {S : St} (h : lenOp P ts as = some x) (ha : LRel β as vs) (hH : HRel G β S.H w) :
    Does P G β S w (Builtin.len_ ⟨ts⟩ ty ⟨vs⟩) x S := by
  unfold lenOp at h
  split at h
  case h_2 => cases h
  rename_i t tr
  split at h
  case h_2 => cases h
  rename_i a ar
  obtain ⟨v, vr, rfl, hv, _⟩ := ha.cons_inv
  split at h
  · rename_i n e hu
    injection h with h; subst h
    exact Does.pure hH (Pure.refl _) (v := .int .i64 n) (by simp [Builtin.len_, run_und hu, goInt]) (.num (.int .i64 (.c n)))
  · rename_i e hu
    split at h
    · injection h with h; subst h
      rename_i b o l cap
      obtain ⟨p, cp, rfl, _⟩ := hv.sl_inv
      refine Does.pure hH (Pure.refl _) (v := .int .i64 l.toZ.v) (by simp [Builtin.len_, run_und hu, goInt, N.toZ_v]) (.num (.int .i64 l.toZ))
    · injection h with h; subst h
      rename_i g o l
      obtain ⟨cp, rfl, _⟩ := hv.gs_inv
      refine Does.pure hH (Pure.refl _) (v := .int .i64 l.toZ.v) (by simp [Builtin.len_, run_und hu, goInt, N.toZ_v]) (.num (.int .i64 l.toZ))
    · injection h with h; subst h
      rename_i b l s
      obtain ⟨p, cp, rfl, _⟩ := hv.sm_inv
      refine Does.pure hH (Pure.refl _) (v := .int .i64 l.toZ.v) (by simp [Builtin.len_, run_und hu, goInt, N.toZ_v]) (.num (.int .i64 l.toZ))
    · injection h with h; subst h
      cases hv
      exact Does.pure hH (Pure.refl _) (v := .int .i64 0) (by simp [Builtin.len_, run_und hu, goInt]) (.num (.int .i64 (.c 0)))
    · cases h
  · rename_i hu
    split at h
    · injection h with h; subst h
      rename_i s
      cases hv
      exact Does.pure hH (Pure.refl _) (v := .int .i64 s.size) (by simp [Builtin.len_, run_und hu, goInt]) (.num (.int .i64 (.c s.size)))
    · cases h
  · cases h
theorem capOp_spec {ts : List TypeId} {as : List AV} {vs : List Value} {ty : TypeId} {x : AV} {S : St} (h : capOp P ts as = some x) (ha : LRel β as vs) (hH : HRel G β S.H w) :
    Does P G β S w (Builtin.cap_ ⟨ts⟩ ty ⟨vs⟩) x S := by
  unfold capOp at h
  split at h
  case h_2 => cases h
  rename_i t tr
  split at h
  case h_2 => cases h
  rename_i a ar
  obtain ⟨v, vr, rfl, hv, _⟩ := ha.cons_inv
  split at h
  · rename_i n e hu
    injection h with h; subst h
    exact Does.pure hH (Pure.refl _) (v := .int .i64 n) (by simp [Builtin.cap_, run_und hu, goInt]) (.num (.int .i64 (.c n)))
  · rename_i e hu
    split at h
    · injection h with h; subst h
      rename_i b o l c
      obtain ⟨p, cp, rfl, _, g2, _⟩ := hv.sl_inv
      have := g2 c rfl
      refine Does.pure hH (Pure.refl _) (v := .int .i64 c.toZ.v) (by simp [Builtin.cap_, run_und hu, goInt, N.toZ_v, this]) (.num (.int .i64 c.toZ))
    · injection h with h; subst h
      cases hv
      exact Does.pure hH (Pure.refl _) (v := .int .i64 0) (by simp [Builtin.cap_, run_und hu, goInt]) (.num (.int .i64 (.c 0)))
    · cases h
  · cases h
theorem min2_spec {mx : Bool} {x y r : AV} {vx vy : Value} {ty : TypeId} {ts : Array TypeId} {S : St} (h : min2 mx x y = some r) (hx : VRel β x vx) (hy : VRel β y vy) (hH : HRel G β S.H w) :
    Does P G β S w (if mx then Builtin.max_ ts ty #[vx, vy] else Builtin.min_ ts ty #[vx, vy]) r S := by
  unfold min2 at h
  split at h
  case h_2 => cases h
  rename_i k a
  split at h
  case h_2 => cases h
  rename_i k' b
  split at h
  · cases h
  rename_i hk
  obtain rfl := kindEq_spec hk
  rw [hx.num_inv, hy.num_inv]
  have e : (if mx = true then a.lt b else b.lt a).v = if mx = true then decide (a.v < b.v) else decide (b.v < a.v) := by cases mx <;> simp [Z.lt_v]
  have key : ∀ t : Bool, t = (if mx = true then decide (a.v < b.v) else decide (b.v < a.v)) →
      (if mx then Builtin.max_ ts ty #[Num.val (.int k a), Num.val (.int k b)] else Builtin.min_ ts ty #[Num.val (.int k a), Num.val (.int k b)]).run P w = .ok (.int k (if t then b.v else a.v)) w := by
    intro t ht
    subst ht
    cases mx <;> simp [Builtin.max_, Builtin.min_, Builtin.max2, Builtin.min2, Num.val, Num.k, Num.z]
  split at h
  · rename_i t ht
    rw [ht] at e
    injection h with h; subst h
    refine Does.pure hH (Pure.refl _) (key t e) ?_
    cases t
    · exact .num (.int k a)
    · exact .num (.int k b)
  · rename_i t ht
    rw [ht] at e
    injection h with h; subst h
    exact Does.pure hH (Pure.refl _) (key t e) (.num (.int k (.s (if t then b.v else a.v))))

/-! Equality. -/
theorem eqN_spec {x y : Num} {b : B} (h : eqN x y = some b) : x.k = y.k ∧ b.v = (x.z.v == y.z.v) := by
  have w : ∀ {n : Nat} (p q : BitVec n), (p == q) = (((p.toNat : Int)) == (q.toNat : Int)) := by
    intro n p q; rw [Bool.eq_iff_iff]; simp [BitVec.toNat_eq]; omega
  have c8 : ∀ (x : Num) (y : BitVec 8) (r : B), (x.bv8.map fun x => B.s (x == y)) = some r → x.k = .u8 ∧ r.v = (x.z.v == (y.toNat : Int)) := by
    intro x y r h
    simp only [Option.map_eq_some_iff] at h
    obtain ⟨a, ha, rfl⟩ := h
    have := Num.bv8_spec ha
    simp only [Num.val, Value.int.injEq] at this
    exact ⟨this.1, by rw [this.2]; exact w a y⟩
  have c16 : ∀ (x : Num) (y : BitVec 16) (r : B), (x.bv16.map fun x => B.s (x == y)) = some r → x.k = .u16 ∧ r.v = (x.z.v == (y.toNat : Int)) := by
    intro x y r h
    simp only [Option.map_eq_some_iff] at h
    obtain ⟨a, ha, rfl⟩ := h
    have := Num.bv16_spec ha
    simp only [Num.val, Value.int.injEq] at this
    exact ⟨this.1, by rw [this.2]; exact w a y⟩
  have c32 : ∀ (x : Num) (y : BitVec 32) (r : B), (x.bv32.map fun x => B.s (x == y)) = some r → x.k = .u32 ∧ r.v = (x.z.v == (y.toNat : Int)) := by
    intro x y r h
    simp only [Option.map_eq_some_iff] at h
    obtain ⟨a, ha, rfl⟩ := h
    have := Num.bv32_spec ha
    simp only [Num.val, Value.int.injEq] at this
    exact ⟨this.1, by rw [this.2]; exact w a y⟩
  have c64 : ∀ (x : Num) (y : BitVec 64) (r : B), (x.bv64.map fun x => B.s (x == y)) = some r → x.k = .u64 ∧ r.v = (x.z.v == (y.toNat : Int)) := by
    intro x y r h
    simp only [Option.map_eq_some_iff] at h
    obtain ⟨a, ha, rfl⟩ := h
    have := Num.bv64_spec ha
    simp only [Num.val, Value.int.injEq] at this
    exact ⟨this.1, by rw [this.2]; exact w a y⟩
  have d8 : ∀ (x : BitVec 8) (y : Num) (r : B), (y.bv8.map fun y => B.s (x == y)) = some r → y.k = .u8 ∧ r.v = ((x.toNat : Int) == y.z.v) := by
    intro x y r h
    simp only [Option.map_eq_some_iff] at h
    obtain ⟨a, ha, rfl⟩ := h
    have := Num.bv8_spec ha
    simp only [Num.val, Value.int.injEq] at this
    exact ⟨this.1, by rw [this.2]; exact w x a⟩
  have d16 : ∀ (x : BitVec 16) (y : Num) (r : B), (y.bv16.map fun y => B.s (x == y)) = some r → y.k = .u16 ∧ r.v = ((x.toNat : Int) == y.z.v) := by
    intro x y r h
    simp only [Option.map_eq_some_iff] at h
    obtain ⟨a, ha, rfl⟩ := h
    have := Num.bv16_spec ha
    simp only [Num.val, Value.int.injEq] at this
    exact ⟨this.1, by rw [this.2]; exact w x a⟩
  have d32 : ∀ (x : BitVec 32) (y : Num) (r : B), (y.bv32.map fun y => B.s (x == y)) = some r → y.k = .u32 ∧ r.v = ((x.toNat : Int) == y.z.v) := by
    intro x y r h
    simp only [Option.map_eq_some_iff] at h
    obtain ⟨a, ha, rfl⟩ := h
    have := Num.bv32_spec ha
    simp only [Num.val, Value.int.injEq] at this
    exact ⟨this.1, by rw [this.2]; exact w x a⟩
  have d64 : ∀ (x : BitVec 64) (y : Num) (r : B), (y.bv64.map fun y => B.s (x == y)) = some r → y.k = .u64 ∧ r.v = ((x.toNat : Int) == y.z.v) := by
    intro x y r h
    simp only [Option.map_eq_some_iff] at h
    obtain ⟨a, ha, rfl⟩ := h
    have := Num.bv64_spec ha
    simp only [Num.val, Value.int.injEq] at this
    exact ⟨this.1, by rw [this.2]; exact w x a⟩
  cases x with
  | int k a =>
    cases y with
    | int k' b' =>
      simp only [eqN] at h
      cases hk : kindEq k k' with
      | false => simp [hk] at h
      | true =>
        simp only [hk, Option.some.injEq] at h
        subst h
        exact ⟨kindEq_spec hk, Z.eq_v a b'⟩
    | w8 y => exact c8 _ y b h
    | w16 y => exact c16 _ y b h
    | w32 y => exact c32 _ y b h
    | w64 y => exact c64 _ y b h
  | w8 x => obtain ⟨h1, h2⟩ := d8 x y b h; exact ⟨h1.symm, h2⟩
  | w16 x => obtain ⟨h1, h2⟩ := d16 x y b h; exact ⟨h1.symm, h2⟩
  | w32 x => obtain ⟨h1, h2⟩ := d32 x y b h; exact ⟨h1.symm, h2⟩
  | w64 x => obtain ⟨h1, h2⟩ := d64 x y b h; exact ⟨h1.symm, h2⟩
end
end Go.Eng
/- Each operation does what the interpreter says: tests, and all that call nothing. -/
namespace Go.Eng
set_option linter.unusedSectionVars false
variable [RowAddr]
set_option linter.unusedSimpArgs false
set_option linter.unusedVariables false
section
variable {P : Program} {G : Nat → Option (List AV)} {β : Map} {w : World}

theorem eqItems_spec {e : TypeId} {k : IntKind} (he : P.underlying e = some (.int k)) (d : Nat) : ∀ (xs ys : List AV) (vs us : List Value) (j m : Nat) (b : B), eqCells xs ys = some b → xs.length = m → LRel β xs (vs.drop j) → LRel β ys (us.drop j) →
    (Op.eqItems (d + 1) e 1 ⟨vs⟩ ⟨us⟩ (List.range' j m)).run P w = .ok b.v w
  | [], ys, vs, us, j, m, b, h, hm, h1, h2 => by
    simp only [List.length_nil] at hm; subst hm
    cases ys <;> simp [eqCells] at h
    subst h
    simp [Op.eqItems, B.v]
  | x :: xs, ys, vs, us, j, m, b, h, hm, h1, h2 => by
    cases ys with
    | nil => simp [eqCells] at h
    | cons y ys =>
      simp only [eqCells] at h
      cases hc : eqCell x y with
      | none => simp [hc] at h
      | some a =>
        cases hr : eqCells xs ys with
        | none => simp [hc, hr] at h
        | some r =>
          simp only [hc, hr, Option.some.injEq] at h
          subst h
          obtain ⟨v, vr, hv, g1, g2⟩ := h1.cons_inv
          obtain ⟨u, ur, hu, g3, g4⟩ := h2.cons_inv
          have hvj : vs[j]? = some v := by
            have : (vs.drop j)[0]? = some v := by rw [hv]; rfl
            simpa using this
          have huj : us[j]? = some u := by
            have : (us.drop j)[0]? = some u := by rw [hu]; rfl
            simpa using this
          have hvr : vr = vs.drop (j + 1) := by
            have := congrArg (List.drop 1) hv
            rw [List.drop_drop] at this; simpa [Nat.add_comm] using this.symm
          have hur : ur = us.drop (j + 1) := by
            have := congrArg (List.drop 1) hu
            rw [List.drop_drop] at this; simpa [Nat.add_comm] using this.symm
          subst hvr hur
          obtain ⟨m', rfl⟩ : ∃ m', m = m' + 1 := ⟨m - 1, by simp at hm; omega⟩
          have ih := eqItems_spec he d xs ys vs us (j + 1) m' r hr (by simpa using hm) g2 g4
          cases x <;> simp only [eqCell, reduceCtorEq] at hc
          cases y <;> simp only [reduceCtorEq] at hc
          rename_i x y
          obtain ⟨q1, q2⟩ := eqN_spec hc
          have e1 := g1.num_inv
          have e2 := g3.num_inv
          subst e1 e2
          have hag : (isAgg e).run P w = .ok false w := by simp [isAgg, run_und he]
          rw [List.range'_succ]
          simp only [Op.eqItems, Sem.run_bind, part, hag, Result.andThen_ok, Bool.false_eq_true, if_false, Nat.mul_one, List.getElem?_toArray, hvj, huj, Sem.run_pure]
          have heq : (Op.equalIn (d + 1) e x.val y.val).run P w = .ok a.v w := by
            rw [q2]
            simp only [Num.val]
            rw [← q1]
            exact run_equalIn_int w d e x.k k x.z.v y.z.v he
          rw [heq]
          simp only [Result.andThen_ok]
          rw [B.and_v]
          cases hav : a.v
          · simp
          · simp only [Bool.not_true, Bool.false_eq_true, if_false, Bool.true_and]
            exact ih
theorem eqArr_run {t e : TypeId} {k : IntKind} {n : Nat} (ht : P.underlying t = some (.array n e)) (he : P.underlying e = some (.int k)) (hs : sizeT P e = some 1) {xs ys : List AV} {vs us : List Value} {b : B}
    (h : eqCells xs ys = some b) (hx : LRel β xs vs) (hy : LRel β ys us) (hn : xs.length = n) : (Op.equalIn 10000 t (.agg ⟨vs⟩) (.agg ⟨us⟩)).run P w = .ok b.v w := by
  obtain ⟨i, hi, hsi⟩ := sizeT_info hs
  rw [run_equalIn_array w 9999 ⟨vs⟩ ⟨us⟩ ht hi]
  have hc : P.cellsOf e = 1 := by simp [Program.cellsOf, hi, hsi]
  rw [hc, List.range_eq_range']
  exact eqItems_spec (P := P) (w := w) he 9998 xs ys vs us 0 n b h hn (by simpa using hx) (by simpa using hy)
theorem eqGuard_arr {op : BinOp} {t e : TypeId} {k : IntKind} {n : Nat} (ht : P.underlying t = some (.array n e)) (he : P.underlying e = some (.int k)) (x y : Operand) (xs ys : Array Value) :
    (eqGuard op t x y (.agg xs) (.agg ys)).run P w = .ok () w := by
  refine run_eqGuard_agg w op t x y xs ys ?_
  have : ∃ d, P.depth = d + 2 := ⟨2 * (P.types.size + Made.depth), rfl⟩
  obtain ⟨d, hd⟩ := this
  rw [hd]
  simp [Program.eqGuardType, ht, he]

theorem run_eq_iface_nil {t : TypeId} {ms : Array (String × TypeId)} (ht : P.underlying t = some (.interface ms)) (d : Nat) (u : TypeId) (x : Value) :
    (Op.equalIn (d + 1) t (.iface u x) .nilIface).run P w = .ok false w ∧ (Op.equalIn (d + 1) t .nilIface (.iface u x)).run P w = .ok false w ∧ (Op.equalIn (d + 1) t .nilIface .nilIface).run P w = .ok true w := by
  simp [Op.equalIn, run_und ht]
theorem eqOpE_spec {op : BinOp} (hop : op = .eql ∨ op = .neq) {t : TypeId} {ox oy : Operand} {x y : AV} {vx vy : Value} {b : B} (h : eqOpE P t (isConst ox || isConst oy) x y = some b) (hx : VRel β x vx) (hy : VRel β y vy) :
    ((eqGuard op t ox oy vx vy).run P w = .ok () w) ∧ (binOp op t vx vy).run P w = .ok (.bool (if op = .eql then b.v else !b.v)) w := by
  have fin : ∀ (u v : Value), (∀ t a b, binOp .eql t u v = (do pure (.bool (← Op.equal t u v))) ∧ binOp .neq t u v = (do pure (.bool (!(← Op.equal t u v)))) ∨ (a : Nat) = b + 1) → True := fun _ _ _ => trivial
  have conv : ∀ {r : Bool}, (Op.equalIn 10000 t vx vy).run P w = .ok r w → (binOp .eql t vx vy = do pure (.bool (← Op.equal t vx vy))) → (binOp .neq t vx vy = do pure (.bool (!(← Op.equal t vx vy)))) → (binOp op t vx vy).run P w = .ok (.bool (if op = .eql then r else !r)) w := by
    intro r hr h1 h2
    rcases hop with rfl | rfl
    · rw [h1]; simp [Op.equal, Op.maxDepth, hr]
    · rw [h2]; simp [Op.equal, Op.maxDepth, hr]
  unfold eqOpE at h
  split at h
  · rename_i hn
    rw [Bool.and_eq_true] at hn
    have ex : x = .atom .nili := by
      have := hn.1; unfold isNili at this; split at this; rfl; cases this
    have ey : y = .atom .nili := by
      have := hn.2; unfold isNili at this; split at this; rfl; cases this
    subst ex ey
    cases hx; cases hy
    split at h
    case h_2 => cases h
    rename_i hk
    split at h
    case h_2 => cases h
    rename_i ms ht
    injection h with h; subst h
    refine ⟨?_, ?_⟩
    · rw [Bool.or_eq_true] at hk
      rcases hk with hk | hk
      · cases ox <;> simp [isConst] at hk
        rw [eqGuard_nil_constL]; rfl
      · cases oy <;> simp [isConst] at hk
        rw [eqGuard_nil_constR]; rfl
    · exact conv (run_eq_iface_nil (P := P) (w := w) ht 9999 0 .nilFunc).2.2 rfl rfl
  · rename_i hnf
    clear hnf
    unfold eqOp at h
    split at h
    · rename_i xs
      split at h
      case h_2 => cases h
      rename_i ys
      split at h
      case h_2 => cases h
      rename_i n e ht
      split at h
      case h_2 => cases h
      rename_i k he
      split at h
      case h_2 => cases h
      rename_i hs
      split at h
      case h_2 => cases h
      rename_i hn
      obtain ⟨vs, rfl, hxl⟩ := hx.agg_inv
      obtain ⟨us, rfl, hyl⟩ := hy.agg_inv
      have hn : xs.length = n := by simpa using hn
      exact ⟨eqGuard_arr ht he ox oy _ _, conv (eqArr_run ht he hs h hxl hyl hn) rfl rfl⟩
    · rename_i a
      split at h
      case h_2 => cases h
      rename_i b'
      split at h
      case h_2 => cases h
      rename_i ht
      injection h with h; subst h
      rw [hx.bool_inv, hy.bool_inv] at conv ⊢
      have e : (eqB a b').v = (a.v == b'.v) := by cases a <;> cases b' <;> rfl
      rw [eqGuard_at_bool]
      refine ⟨rfl, ?_⟩
      rw [e]
      exact conv (run_equalIn_bool w 9999 t a.v b'.v ht) rfl rfl
    · split at h
      case h_2 => cases h
      split at h
      case h_2 => cases h
      rename_i ms ht
      injection h with h; subst h
      cases hx
      cases hy
      rw [eqGuard_nil_iface]
      exact ⟨rfl, conv (run_eq_iface_nil (P := P) (w := w) ht 9999 _ _).2.1 rfl rfl⟩
    · split at h
      case h_2 => cases h
      split at h
      case h_2 => cases h
      rename_i ms ht
      injection h with h; subst h
      cases hx
      cases hy
      rw [eqGuard_at_iface]
      exact ⟨rfl, conv (run_eq_iface_nil (P := P) (w := w) ht 9999 _ _).1 rfl rfl⟩
    · cases h
theorem binOpE_spec {op : BinOp} {t : TypeId} {ox oy : Operand} {x y r : AV} {vx vy : Value} {S S' : St} (h : binOpE P op t ox oy x y S = some (r, S')) (hx : VRel β x vx) (hy : VRel β y vy) (hH : HRel G β S.H w) :
    Pure S S' ∧ (S'.ok → Does P G β S w (do eqGuard op t ox oy vx vy; binOp op t vx vy) r S') := by
  unfold binOpE at h
  cases hb : binop op x y S with
  | some r' =>
    simp only [hb, Option.some.injEq] at h
    subst h
    obtain ⟨a, b, rfl, rfl, hp, hv⟩ := binop_sound (P := P) w hb t
    refine ⟨hp, fun ok => ?_⟩
    obtain ⟨v, h1, h2⟩ := hv ok
    rw [hx.num_inv, hy.num_inv]
    refine Does.pure hH hp (v := v) ?_ (VRel.of_n h2)
    rw [show eqGuard op t ox oy a.val b.val = pure () from eqGuard_at_int _ _ _ _ _ _ _]
    simpa using h1
  | none =>
    simp only [hb] at h
    cases he : eqOpE P t (isConst ox || isConst oy) x y with
    | none => simp [he] at h
    | some b =>
      simp only [he] at h
      cases op <;> simp only [Option.some.injEq, Prod.mk.injEq, reduceCtorEq] at h <;> obtain ⟨rfl, rfl⟩ := h
      · obtain ⟨h1, h2⟩ := eqOpE_spec (P := P) (w := w) (.inl rfl) he hx hy
        refine ⟨Pure.refl _, fun _ => Does.pure hH (Pure.refl _) (v := .bool b.v) ?_ (.bool b)⟩
        simp only [Sem.run_bind, h1, Result.andThen_ok, h2]; rfl
      · obtain ⟨h1, h2⟩ := eqOpE_spec (P := P) (w := w) (.inr rfl) he hx hy
        refine ⟨Pure.refl _, fun _ => Does.pure hH (Pure.refl _) (v := .bool b.not.v) ?_ (.bool b.not)⟩
        simp only [Sem.run_bind, h1, Result.andThen_ok, h2, B.not_v]; rfl
end
end Go.Eng
/- Append of an element of more cells. -/
namespace Go.Eng
set_option linter.unusedSectionVars false
variable [RowAddr]
set_option linter.unusedSimpArgs false
set_option linter.unusedVariables false
section
variable {P : Program} {G : Nat → Option (List AV)} {β : Map} {w : World}
theorem run_wide_fit {t u ty e : TypeId} {i : TypeInfo} {d : TypeDesc} {a : Addr} {sLen sCap n s : Nat} {x : Value} {vs : List Value} {w' : World} (ht : P.underlying t = some (.slice e)) (hu : P.underlying u = some d) (hd : notInt d)
    (hi : P.info? e = some i) (hs : i.size = s) (hlen : ∀ w, (Builtin.lenOf x).run P w = .ok n w) (hf : (Builtin.firstCells s n x).run P w = .ok ⟨vs⟩ w) (hfit : sLen + n ≤ sCap)
    (hst : (storeCells (a.add (sLen * s)) vs).run P w = .ok () w') :
    (Builtin.append_ #[t, u] ty #[.slice (some a) sLen sCap, x]).run P w = .ok (.slice (some a) (sLen + n) sCap) w' := by
  subst hs
  rcases hd with ⟨e', rfl⟩ | rfl
  · simp [Builtin.append_, run_und ht, run_und hu, sizeOf, typeInfo, hi, hlen, hf, hfit, hst]
  · simp [Builtin.append_, run_und ht, run_und hu, sizeOf, typeInfo, hi, hlen, hf, hfit, hst]
theorem run_wide_more {t u ty e : TypeId} {i : TypeInfo} {z : Value} {d : TypeDesc} {base : Option Addr} {sLen sCap n s : Nat} {x : Value} {olds vs : List Value} (ht : P.underlying t = some (.slice e)) (hu : P.underlying u = some d) (hd : notInt d)
    (hi : P.info? e = some i) (hz : i.zero = some z) (hs : i.size = s) (hlen : ∀ w, (Builtin.lenOf x).run P w = .ok n w) (hf : (Builtin.firstCells s n x).run P w.drew = .ok ⟨vs⟩ w.drew)
    (ho : (Builtin.firstCells s sLen (.slice base sLen sCap)).run P w.drew = .ok ⟨olds⟩ w.drew) (hmore : sCap < sLen + n) (hbytes : (sLen + n) * i.bytes ≤ 1099511627776) (hb0 : i.bytes ≠ 0) :
    (Builtin.append_ #[t, u] ty #[.slice base sLen sCap, x]).run P w =
      .ok (.slice (some (at' w.heap.size 0)) (sLen + n) (grownCap w (sLen + n) sCap e))
        (w.drew.alloc (.cells ⟨olds ++ vs ++ (Builtin.zeroCells z.cells (grownCap w (sLen + n) sCap e - (sLen + n))).toList⟩ e)) := by
  subst hs
  have h0 : ¬ (sLen + n ≤ sCap) := by omega
  have hle : sLen + n ≤ (sLen + n) * i.bytes := Nat.le_mul_of_pos_right _ (by omega)
  have h63 : ¬ (9223372036854775807 < ((sLen : Int) + (n : Int))) := by omega
  have h48 : ¬ (281474976710656 < Builtin.nextslicecap (sLen + n) sCap * i.bytes) := by have := growslice_fits hmore (bytes := i.bytes) (by omega); omega
  rcases hd with ⟨e', rfl⟩ | rfl
  · simp [Builtin.append_, run_und ht, run_und hu, sizeOf, typeInfo, zeroValue, hi, hz, hlen, h0, h63, h48, hb0, Question.forced, hf, ho, newRow, grownCap, at']
    congr 2; apply Array.ext'; simp
  · simp [Builtin.append_, run_und ht, run_und hu, sizeOf, typeInfo, zeroValue, hi, hz, hlen, h0, h63, h48, hb0, Question.forced, hf, ho, newRow, grownCap, at']
    congr 2; apply Array.ext'; simp
/-- What append makes of a slice and one element of more cells. -/
theorem appendRow_spec {t u ty e : TypeId} {i : TypeInfo} {z : Value} {d : TypeDesc} {x : AV} {vx vy : Value} {S S2 : St} {s : Nat} {cs : List AV} {r : AV} {us : List Value}
    (ht : P.underlying t = some (.slice e)) (hu : P.underlying u = some d) (hd : notInt d) (hi : P.info? e = some i) (hz : i.zero = some z) (hs : i.size = s) (hzs : z.cells.size = s) (hb0 : i.bytes ≠ 0)
    (hlen : ∀ w, (Builtin.lenOf vy).run P w = .ok 1 w) (hf : ∀ w' : World, (∀ a, w'.cell? a = w.cell? a) → (Builtin.firstCells s 1 vy).run P w' = .ok ⟨us⟩ w') (hul : us.length = s) (hcl : cs.length = s) (hxr : LRel β cs us)
    (hone : ∀ v ∈ us, v.oneCell' = true) (hsv : VRel β x vx) (hH : HRel G β S.H w) (h : appendRow x s i.bytes cs S = some (r, S2)) :
    (S2.ok → S.ok) ∧ (S2.ok → Does P G β S w (Builtin.append_ #[t, u] ty #[vx, vy]) r S2) := by
  -- the way on which a new block is made
  have grow : ∀ (dd : Data) (olds : List Value) (a : Option Addr) (l cp : Nat) (H0 : List Blk), olds.length = l * s → LRel β dd.list (olds ++ us) → dd.len = (l + 1) * s → cp < l + 1 → (l + 1) * i.bytes ≤ 1099511627776 →
      (Builtin.firstCells s l (.slice a l cp)).run P w.drew = .ok ⟨olds⟩ w.drew →
      HRel G β H0 w → Stp β S.H w β H0 w → H0.length = S.H.length → ∀ k : N, k.v = l + 1 →
      ∃ v w' β', (Builtin.append_ #[t, u] ty #[.slice a l cp, vy]).run P w = .ok v w' ∧ VRel β' (.ref (.sm S.H.length k s)) v ∧ HRel G β' (H0 ++ [⟨dd, .own⟩]) w' ∧ Stp β S.H w β' (H0 ++ [⟨dd, .own⟩]) w' := by
    intro dd olds a l cp H0 hol hrel hdl hmore hbytes ho hH0 hS0 hlen0 k hk
    have hrun := run_wide_more (P := P) (w := w) (base := a) (ty := ty) ht hu hd hi hz hs hlen (hf w.drew (fun a => rfl)) ho hmore hbytes hb0
    have hzl : (Builtin.zeroCells z.cells (grownCap w (l + 1) cp e - (l + 1))).toList.length = (grownCap w (l + 1) cp e - (l + 1)) * s := by simp [Builtin.zeroCells, hzs]
    have h1s : (l + 1) * s = l * s + s := by rw [Nat.succ_mul]
    have hnew := hH0.drew.new dd (olds ++ us ++ (Builtin.zeroCells z.cells (grownCap w (l + 1) cp e - (l + 1))).toList) e (by rw [List.length_append, List.length_append]; omega) (by
      rw [List.take_append_of_le_length (by rw [List.length_append]; omega), List.take_of_length_le (by rw [List.length_append]; omega)]
      exact hrel)
    refine ⟨_, _, _, hrun, ?_, hnew.1, (hS0.trans (Stp.drew β H0 w)).trans hnew.2⟩
    have hg := le_grownCap w (l + 1) cp e
    have hroom : grownCap w (l + 1) cp e * s = (l + 1) * s + (grownCap w (l + 1) cp e - (l + 1)) * s := by
      rw [← Nat.add_mul]; congr 1; omega
    have hv := VRel.sm (β := β.put H0.length ⟨w.heap.size, 0, (olds ++ us ++ (Builtin.zeroCells z.cells (grownCap w (l + 1) cp e - (l + 1))).toList).length⟩) H0.length k s (some (at' w.heap.size 0)) (grownCap w (l + 1) cp e)
      (by rw [hk]; exact hg) (.inr ⟨_, Map.put_same .., rfl, by
        show grownCap w (l + 1) cp e * s ≤ (olds ++ us ++ _).length
        rw [List.length_append, List.length_append, hzl, hol, hul]; omega⟩)
    rw [hk, hlen0] at hv
    rw [← hlen0] at hv ⊢
    exact hv
  unfold appendRow at h
  split at h
  · -- nil
    cases hsv
    split at h
    case h_2 => cases h
    rename_i S1 hc
    obtain ⟨hp, hv⟩ := B.claim_spec hc
    simp only [Option.some.injEq, Prod.mk.injEq] at h
    obtain ⟨rfl, rfl⟩ := h
    refine ⟨fun o => hp.ok o, fun ok => ?_⟩
    have hb : (1 : Nat) * i.bytes ≤ 1099511627776 := by
      have := hv ok
      simpa [N.fits, N.le, N.mulc, B.v] using this
    obtain ⟨v, w', β', q1, q2, q3, q4⟩ := grow (.gen cs) [] none 0 0 S.H (by simp) (show LRel β (Data.gen cs).list ([] ++ us) from hxr) (by show cs.length = _; omega) (by omega) (by simpa using hb) (run_firstCells_none _ s 0 _ _) hH (Stp.refl ..) rfl (.c 1) rfl
    refine ⟨v, w', β', q1, by rw [hp.H]; exact q2, ?_, ?_⟩
    · show HRel G β' (S1.H ++ _) w'; rw [hp.H]; exact q3
    · show Stp β S.H w β' (S1.H ++ _) w'; rw [hp.H]; exact q4
  · rename_i b l s'
    split at h
    · cases h
    rename_i hss
    have hss : s' = s := by simpa using hss
    subst hss
    simp only [lget_eq] at h
    split at h
    case h_2 => cases h
    rename_i dd m hbm
    cases m <;> simp only [reduceCtorEq] at h
    split at h
    case h_2 => cases h
    rename_i S1 hc1
    obtain ⟨hp1, hv1⟩ := B.claim_spec hc1
    split at h
    case h_2 => cases h
    rename_i S3 hc2
    obtain ⟨hp3, hv3⟩ := B.claim_spec hc2
    cases ha : dd.app (.gen cs) with
    | none => simp [ha] at h
    | some d' =>
      simp only [ha, Option.some.injEq, Prod.mk.injEq] at h
      obtain ⟨rfl, rfl⟩ := h
      have hp := hp1.trans hp3
      refine ⟨fun o => hp.ok o, fun ok => ?_⟩
      have h3 := hv3 ok
      have h1 := hv1 (hp3.ok ok)
      obtain ⟨a, cp, rfl, g1, g3⟩ := hsv.sm_inv
      have hll : l.v * s' = dd.len := by
        cases l <;> simpa [N.eq, N.mulc, B.v, N.v] using h1
      have hbytes : (l.v + 1) * i.bytes ≤ 1099511627776 := by
        cases l with
        | c x => exact Nat.le_of_ble_eq_true h3
        | s x => exact of_decide_eq_true h3
      obtain ⟨a1, a2⟩ := Data.app_spec ha
      have hkill : (S3.kill b).H = S.H.set b ⟨.gen [], .dead⟩ := by simp [St.kill, lset_eq, hp.H]
      have hHk : HRel G β (S.H.set b ⟨.gen [], .dead⟩) w := hH.kill b _
      have hl1 : (l.add (.c 1)).v = l.v + 1 := N.add_v ..
      have hdl : d'.len = (l.v + 1) * s' := by
        have : (Data.gen cs).len = cs.length := rfl
        rw [a1, this, Nat.succ_mul]; omega
      rcases hH.blk b _ hbm (own_alive rfl) with ⟨L, hL, hbr⟩ | ⟨hno, hn⟩
      · obtain ⟨h0, vs, tt, fz, hh, hfz, hvl, hdl0, hrr⟩ := (show OOk β dd L w from hbr)
        by_cases hfit : l.v + 1 ≤ cp
        · rcases g3 with g3 | ⟨L', hL', rfl, g4⟩
          · omega
          · rw [hL] at hL'; injection hL' with e; subst e
            have hm : (l.v + 1) * s' ≤ cp * s' := Nat.mul_le_mul_right _ hfit
            rw [Nat.succ_mul] at hm
            have hst := run_storeCells_atG P L.c (l.v * s') tt fz us 0 ⟨vs⟩ w hh hfz (by simp; omega) hone
            simp only [Nat.add_zero] at hst
            have hrel : LRel β d'.list ((Eng.over vs (l.v * s') us).take d'.len) := by
              have := a2 hrr hxr
              have e2 : vs.take dd.len ++ us = (Eng.over vs (l.v * s') us).take d'.len := by
                rw [hdl, hll, Nat.succ_mul, hll]
                have hl2 : (vs.take dd.len ++ us).length = dd.len + s' := by rw [List.length_append, List.length_take, hul]; omega
                show _ = (vs.take dd.len ++ us ++ vs.drop (dd.len + us.length)).take (dd.len + s')
                rw [List.take_append_of_le_length (by omega)]
                exact (List.take_of_length_le (by omega)).symm
              rw [← e2]; exact this
            have hmv := hH.move hbm hL (Eng.over vs (l.v * s') us) (by rw [over_len _ _ _ (by omega), hvl]) (by rw [hdl, Nat.succ_mul]; omega) hrel (.gen [])
            refine ⟨.slice (some (at' L.c L.base)) (l.v + 1) cp, w.setRow L.c ⟨Eng.over vs (l.v * s') us⟩, β.put S.H.length L, ?_, ?_, ?_, ?_⟩
            · refine run_wide_fit (ty := ty) ht hu hd hi hs hlen (hf w (fun _ => rfl)) hfit ?_
              rw [add_at, show at' L.c (L.base + l.v * s') = ⟨L.c, l.v * s', none⟩ by simp [at', h0]]
              exact hst
            · have hS3 : S3.H.length = S.H.length := by rw [hp.H]
              have := VRel.sm (β := β.put S.H.length L) S3.H.length (l.add (.c 1)) s' (some (at' L.c L.base)) cp (by rw [hl1]; exact hfit)
                (.inr ⟨L, by rw [hS3]; exact Map.put_same .., rfl, g4⟩)
              rw [hl1] at this; exact this
            · show HRel G _ ((S3.kill b).H ++ _) _; rw [hkill]; exact hmv.1
            · show Stp β S.H w _ ((S3.kill b).H ++ _) _; rw [hkill]; exact hmv.2
        · have hold : ∃ olds : List Value, olds.length = l.v * s' ∧ LRel β dd.list olds ∧ (Builtin.firstCells s' l.v (.slice a l.v cp)).run P w.drew = .ok ⟨olds⟩ w.drew := by
            rcases g3 with g3 | ⟨L', hL', rfl, g4⟩
            · have hl0 : l.v = 0 := by omega
              have hd0 : dd.len = 0 := by rw [← hll, hl0, Nat.zero_mul]
              have hdn : dd.list = [] := List.eq_nil_of_length_eq_zero (by rw [Data.list_len]; exact hd0)
              refine ⟨[], by rw [hl0]; simp, by rw [hdn]; exact LRel.nil β, ?_⟩
              rw [hl0]
              cases a with
              | none => exact run_firstCells_none _ s' 0 _ _
              | some a => exact run_firstCells_some _ s' 0 a _ _ [] (by simp) (fun j v hv => by simp at hv)
            · rw [hL] at hL'; injection hL' with e; subst e
              obtain ⟨vs1, v1, v2, v3⟩ := block_cells hH hbm (by intro h; cases h) hL (o := 0) (n := dd.len) (by omega)
              rw [List.drop_zero, List.take_of_length_le (by rw [Data.list_len]; exact Nat.le_refl _)] at v2
              refine ⟨vs1, by omega, v2, run_firstCells_some _ s' l.v _ _ _ vs1 (by omega) (fun j v hv => ?_)⟩
              have := v3 j v hv
              rw [Nat.add_zero] at this
              exact this
          obtain ⟨olds, e1, e2, e3⟩ := hold
          obtain ⟨v, w', β', q1, q2, q3, q4⟩ := grow d' olds a l.v cp (S.H.set b ⟨.gen [], .dead⟩) e1 (a2 e2 hxr) hdl (by omega) hbytes e3 hHk (Stp.kill b _) (by simp) (l.add (.c 1)) hl1
          refine ⟨v, w', β', q1, by rw [hp.H]; exact q2, ?_, ?_⟩
          · show HRel G β' ((S3.kill b).H ++ _) w'; rw [hkill]; exact q3
          · show Stp β S.H w β' ((S3.kill b).H ++ _) w'; rw [hkill]; exact q4
      · have hcp : cp = 0 := by
          rcases g3 with g3 | ⟨L', hL', _⟩
          · exact g3
          · rw [hn] at hL'; cases hL'
        have hl0 : l.v = 0 := by omega
        have hdn : dd.list = [] := List.eq_nil_of_length_eq_zero (by rw [Data.list_len]; exact hno)
        have e3 : (Builtin.firstCells s' l.v (.slice a l.v cp)).run P w.drew = .ok ⟨[]⟩ w.drew := by
          rw [hl0]
          cases a with
          | none => exact run_firstCells_none _ s' 0 _ _
          | some a => exact run_firstCells_some _ s' 0 a _ _ [] (by simp) (fun j v hv => by simp at hv)
        obtain ⟨v, w', β', q1, q2, q3, q4⟩ := grow d' [] a l.v cp (S.H.set b ⟨.gen [], .dead⟩) (by rw [hl0]; simp) (a2 (by rw [hdn]; exact LRel.nil β) hxr) hdl (by omega) hbytes e3 hHk (Stp.kill b _) (by simp) (l.add (.c 1)) hl1
        refine ⟨v, w', β', q1, by rw [hp.H]; exact q2, ?_, ?_⟩
        · show HRel G β' ((S3.kill b).H ++ _) w'; rw [hkill]; exact q3
        · show Stp β S.H w β' ((S3.kill b).H ++ _) w'; rw [hkill]; exact q4
  · cases h
theorem oneRow_spec {y : AV} {vy : Value} {s : Nat} {S : St} {cs : List AV} (h : oneRow y s S = some cs) (hy : VRel β y vy) (hH : HRel G β S.H w) :
    ∃ us : List Value, us.length = s ∧ cs.length = s ∧ LRel β cs us ∧ (∀ w, (Builtin.lenOf vy).run P w = .ok 1 w) ∧ (∀ w' : World, (∀ a, w'.cell? a = w.cell? a) → (Builtin.firstCells s 1 vy).run P w' = .ok ⟨us⟩ w') ∧ ∀ v ∈ us, v.oneCell' = true := by
  unfold oneRow at h
  split at h
  case h_2 => cases h
  rename_i b o l c
  split at h
  case h_2 => cases h
  split at h
  case h_2 => cases h
  rename_i cs' hr
  split at h
  case h_2 => cases h
  rename_i hb
  injection h with h; subst h
  simp only [Bool.and_eq_true] at hb
  have hcl : cs'.length = s := by simpa using hb.1
  obtain ⟨m, hbm, hm⟩ := St.read_spec hr
  obtain ⟨a, cp, rfl, g1, g2, g3⟩ := hy.sl_inv
  have g1 : 1 ≤ cp := g1
  rcases g3 with g3 | ⟨L, hL, rfl, g4⟩
  · omega
  · obtain ⟨us, v1, v2, v3⟩ := block_cells hH hbm hm hL (o := 0) (n := s) (by show 0 + s ≤ cs'.length; omega)
    have v2 : LRel β cs' us := by
      have : ((Data.gen cs').list.drop 0).take s = cs' := by
        show (cs'.drop 0).take s = cs'
        rw [List.drop_zero, List.take_of_length_le (by omega)]
      rw [this] at v2; exact v2
    refine ⟨us, v1, hcl, v2, fun w => lenN_spec (l := .c 1) (x := .ref (.sl b (.c 0) (.c 1) c)) rfl hy w, fun w' hw' => ?_, singles_spec (d := .gen cs') hb.2 v2⟩
    refine run_firstCells_some _ s 1 _ _ _ us (by omega) (fun j v hv => ?_)
    rw [hw']
    exact v3 j v hv
theorem appendE_spec {ts : List TypeId} {as : List AV} {vs : List Value} {ty : TypeId} {x : AV} {S S' : St} (h : appendE P ts as S = some (x, S')) (ha : LRel β as vs) (hH : HRel G β S.H w) :
    (S'.ok → S.ok) ∧ (S'.ok → Does P G β S w (Builtin.append_ ⟨ts⟩ ty ⟨vs⟩) x S') := by
  unfold appendE at h
  split at h
  · rename_i r hr
    injection h with h; subst h
    exact appendOp_spec hr ha hH
  · unfold appendBig at h
    split at h
    case h_2 => cases h
    rename_i t u
    split at h
    case h_2 => cases h
    rename_i e s he
    obtain ⟨ht, hse⟩ := elemT_spec he
    split at h
    · cases h
    split at h
    case h_1 => cases h
    case h_2 => cases h
    rename_i i zr hi hzr
    obtain ⟨i', z, hi', hz, _, _, hzs⟩ := zeroRow_spec hzr β
    rw [hi] at hi'; injection hi' with hi'; subst hi'
    obtain ⟨i', hi', hs⟩ := sizeT_info hse
    rw [hi] at hi'; injection hi' with hi'; subst hi'
    rw [hs] at hzs
    split at h
    · cases h
    rename_i hb0
    have hb0 : i.bytes ≠ 0 := by intro e; rw [e] at hb0; cases hb0
    split at h
    · cases h
    rename_i hu
    obtain ⟨d, hu, hd⟩ := sliceOrString_spec hu
    split at h
    case h_2 => cases h
    rename_i x y
    obtain ⟨vx, vr, rfl, hsv, hr⟩ := ha.cons_inv
    obtain ⟨vy, vr', rfl, hyv, hr'⟩ := hr.cons_inv
    have := hr'.nil_inv; subst this
    split at h
    case h_2 => cases h
    rename_i cs hcs
    obtain ⟨us, k1, k2, k3, k4, k5, k6⟩ := oneRow_spec (P := P) hcs hyv hH
    exact appendRow_spec ht hu hd hi hz hs hzs hb0 k4 k5 k1 k2 k3 k6 hsv hH h
end
end Go.Eng
/- Every operation that calls nothing does what the interpreter says. -/
namespace Go.Eng
set_option linter.unusedSectionVars false
variable [RowAddr]
set_option linter.unusedSimpArgs false
set_option linter.unusedVariables false
section
variable {G : Nat → Option (List AV)} {β : Map} {w : World}

theorem evL_rel {ev : Operand → AV} {ρ : Operand → Value} (h : ∀ x, VRel β (ev x) (ρ x)) : ∀ l : List Operand, LRel β (evL ev l) (l.map ρ)
  | [] => LRel.nil β
  | x :: l => LRel.cons (h x) (evL_rel h l)
theorem evP_rel {ev : Operand → AV} {ρ : Operand → Value} (h : ∀ x, VRel β (ev x) (ρ x)) : ∀ l : List (Nat × Operand), PRel β (evP ev l) (l.map fun p => (p.1, ρ p.2))
  | [] => ⟨rfl, fun i p v hp => by simp [evP] at hp⟩
  | (k, x) :: l => by
    obtain ⟨h1, h2⟩ := evP_rel h l
    refine ⟨by simp [evP, h1], fun i p v hp hv => ?_⟩
    cases i with
    | zero => simp [evP] at hp hv; subst hp hv; exact ⟨rfl, h x⟩
    | succ i => exact h2 i p v (by simpa [evP] using hp) (by simpa using hv)
theorem evO_rel {ev : Operand → AV} {ρ : Operand → Value} (h : ∀ x, VRel β (ev x) (ρ x)) (o : Option Operand) : ORel β (evO ev o) (o.map ρ) := by
  cases o with
  | none => trivial
  | some x => exact h x

/-- The outcome of an operation. -/
def DoesO (P : Program) (G : Nat → Option (List AV)) (β : Map) (S : St) (w : World) (s : Sem Next) (x : AV) (S' : St) : Prop :=
  ∃ r v w' β', s.run P w = .ok r w' ∧ (r = .value v ∨ r = .skip ∧ v = undef) ∧ VRel β' x v ∧ HRel G β' S'.H w' ∧ Stp β S.H w β' S'.H w'
theorem does_o {P : Program} {S S' : St} {s : Sem Value} {x : AV} (h : Does P G β S w s x S') : DoesO P G β S w (do pure (Next.value (← s))) x S' := by
  obtain ⟨v, w', β', h1, h2, h3, h4⟩ := h
  exact ⟨.value v, v, w', β', by simp [h1], .inl rfl, h2, h3, h4⟩
theorem doesU_o {P : Program} {S S' : St} {s : Sem Unit} (h : DoesU P G β S w s S') : DoesO P G β S w (do s; pure Next.skip) .undef S' := by
  obtain ⟨w', β', h1, h3, h4⟩ := h
  exact ⟨.skip, undef, w', β', by simp [h1], .inr ⟨rfl, rfl⟩, .undef _, h3, h4⟩
theorem DoesO.val {P : Program} {S : St} {v : Value} {x : AV} (hH : HRel G β S.H w) (h : VRel β x v) : DoesO P G β S w (pure (Next.value v)) x S :=
  ⟨.value v, v, w, β, rfl, .inl rfl, h, hH, Stp.refl ..⟩
theorem val_some {S S' : St} {o : Option AV} {x : AV} (h : val S o = some (x, S')) : o = some x ∧ S' = S := by
  cases o with
  | none => simp [val] at h
  | some y => simp [val] at h; exact ⟨by rw [h.1], h.2.symm⟩

theorem plain_spec {C : Cfg} (hG : C.glob = G) {o : Oper} {f : (Operand → AV) → St → Option (AV × St)} {ev : Operand → AV} {ρ : Operand → Value} {x : AV} {S S' : St} (hf : opF C o.op = .run f) (h : f ev S = some (x, S'))
    (hev : ∀ x, VRel β (ev x) (ρ x)) (hH : HRel G β S.H w) : (S'.ok → S.ok) ∧ (S'.ok → DoesO C.P G β S w (execOp ρ o) x S') := by
  obtain ⟨dst, op, ty, pos, after, guard⟩ := o
  simp only at hf
  cases op <;> simp only [opF, OpF.run.injEq, reduceCtorEq] at hf <;> subst hf <;> (try (simp at h; done)) <;> (try dsimp only at h)
  case move a =>
    simp only [Option.some.injEq, Prod.mk.injEq] at h
    obtain ⟨rfl, rfl⟩ := h
    exact ⟨id, fun _ => DoesO.val hH (hev a)⟩
  case assign a =>
    simp only [Option.some.injEq, Prod.mk.injEq] at h
    obtain ⟨rfl, rfl⟩ := h
    exact ⟨id, fun _ => DoesO.val hH (hev a)⟩
  case pick c a b =>
    unfold pickE at h
    split at h
    case h_2 => cases h
    rename_i t hc
    have hc' := hev c
    rw [hc] at hc'
    have hcv := hc'.bool_inv
    split at h
    · rename_i S1 ht
      simp only [Option.some.injEq, Prod.mk.injEq] at h
      obtain ⟨rfl, rfl⟩ := h
      obtain ⟨hp, hv⟩ := B.test_spec ht
      refine ⟨hp.ok, fun ok => ?_⟩
      refine ⟨.value (ρ a), ρ a, w, β, ?_, .inl rfl, hev a, by rw [hp.H]; exact hH, by rw [hp.H]; exact Stp.refl ..⟩
      simp [execOp, hcv, asBool, hv ok]
    · rename_i S1 ht
      simp only [Option.some.injEq, Prod.mk.injEq] at h
      obtain ⟨rfl, rfl⟩ := h
      obtain ⟨hp, hv⟩ := B.test_spec ht
      refine ⟨hp.ok, fun ok => ?_⟩
      refine ⟨.value (ρ b), ρ b, w, β, ?_, .inl rfl, hev b, by rw [hp.H]; exact hH, by rw [hp.H]; exact Stp.refl ..⟩
      simp [execOp, hcv, asBool, hv ok]
    · cases h
  case alloc e =>
    obtain ⟨h1, h2⟩ := allocE_spec hG h hH
    exact ⟨h1, fun _ => does_o h2⟩
  case box t v =>
    obtain ⟨h1, h2⟩ := boxE_spec (P := C.P) (t := t) h (hev v) hH
    exact ⟨h1, fun _ => does_o h2⟩
  case build t ps =>
    obtain ⟨hq, hS⟩ := val_some h; clear h; have h := hq; clear hq; subst hS
    refine ⟨id, fun _ => ?_⟩
    have := does_o (buildOp_spec h (evP_rel hev ps.toList) hH)
    have e : ps.map (fun (x : Nat × Operand) => (x.1, ρ x.2)) = ⟨ps.toList.map fun p => (p.1, ρ p.2)⟩ := by apply Array.ext'; simp
    simp only [execOp]
    rw [e]; exact this
  case buildSlice t n ps =>
    obtain ⟨h1, h2⟩ := buildSliceOp_spec h (evP_rel hev ps.toList) hH
    refine ⟨h1, fun _ => ?_⟩
    have e : ps.map (fun (x : Nat × Operand) => (x.1, ρ x.2)) = ⟨ps.toList.map fun p => (p.1, ρ p.2)⟩ := by apply Array.ext'; simp
    simp only [execOp]
    rw [e]; exact does_o h2
  case load t a =>
    rw [hG] at h
    obtain ⟨hp, h2⟩ := loadOp_spec h (hev a) hH
    exact ⟨hp.ok, fun ok => does_o (h2 ok)⟩
  case store t a v =>
    unfold storeE at h
    split at h
    case h_2 => cases h
    rename_i S1 hs
    simp only [Option.some.injEq, Prod.mk.injEq] at h
    obtain ⟨rfl, rfl⟩ := h
    obtain ⟨h1, h2⟩ := storeOp_spec hs (hev a) (hev v) hH
    exact ⟨h1, fun ok => doesU_o (h2 ok)⟩
  case nilCheck a =>
    have ha := hev a
    unfold nilCheckE at h
    split at h
    · rename_i b o' hb
      simp only [Option.some.injEq, Prod.mk.injEq] at h
      obtain ⟨rfl, rfl⟩ := h
      rw [hb] at ha
      refine ⟨id, fun _ => ?_⟩
      obtain ⟨L, hL, hv⟩ := ha.ptr_inv
      have := DoesO.val (P := C.P) hH ha
      rw [hv] at this
      simp only [execOp, hv]; exact this
    · rename_i b o' hb
      simp only [Option.some.injEq, Prod.mk.injEq] at h
      obtain ⟨rfl, rfl⟩ := h
      rw [hb] at ha
      refine ⟨id, fun _ => ?_⟩
      have hv := ha.gp_inv
      have := DoesO.val (P := C.P) hH ha
      rw [hv] at this
      simp only [execOp, hv]; exact this
    · cases h
  case binOp op t x' y' ty' =>
    obtain ⟨hp, h2⟩ := binOpE_spec h (hev x') (hev y') hH
    exact ⟨hp.ok, fun ok => does_o (h2 ok)⟩
  case unOp op t x' =>
    obtain ⟨hq, hS⟩ := val_some h; clear h; have h := hq; clear hq; subst hS
    refine ⟨id, fun _ => ?_⟩
    have hx := hev x'
    have hn : NRel (ev x') (ρ x') := by
      cases he : ev x' with
      | num n => rw [he] at hx; rw [hx.num_inv]; exact .num n
      | atom a =>
        cases a with
        | bool b => rw [he] at hx; rw [hx.bool_inv]; exact .bool b
        | _ => rw [he] at h; simp [unop] at h
      | _ => rw [he] at h; simp [unop] at h
    obtain ⟨v, h1, h2⟩ := unop_sound (P := C.P) w hn h
    exact does_o (Does.pure hH (Pure.refl _) h1 (VRel.of_n h2))
  case convert src dst x' =>
    unfold convE at h
    split at h
    · cases h
    rename_i ds hds
    split at h
    case h_3 => cases h
    case h_2 =>
      rename_i e hk
      unfold convSl at h
      split at h
      · cases h
      rename_i hsame
      have hsd : src = dst := Nat.eq_of_beq_eq_true hsame
      split at h
      case h_2 => cases h
      rename_i hu8
      split at h
      case h_2 => cases h
      rename_i b o n cp hv
      split at h
      case h_2 => cases h
      rename_i dd hb
      simp only [Option.some.injEq, Prod.mk.injEq] at h
      obtain ⟨rfl, rfl⟩ := h
      rw [lget_eq] at hb
      have hx := hev x'
      refine ⟨id, fun _ => ?_⟩
      rw [hv] at hx
      obtain ⟨a, c, hva, hlc, _, hor⟩ := hx.sl_inv
      have hc0 : c ≠ 0 := by
        have : n + 1 ≤ c := hlc
        omega
      rcases hor with h0 | ⟨L, hL, ha, hroom⟩
      · exact absurd h0 hc0
      subst ha
      obtain ⟨ty, hsh, hrel, hstp⟩ := hH.mark hb hL
      subst hsd
      rw [hv]
      refine does_o ⟨_, _, β, ?_, hx, hrel, hstp⟩
      rw [hva]
      simp [convert, run_und hk, run_und hu8, markStringish, at', hsh]
    rename_i k hk
    have hx := hev x'
    cases he : ev x' with
    | num n =>
      rw [he] at h hx
      simp only [convNum] at h
      obtain ⟨hp, hv⟩ := convN_sound h
      refine ⟨hp.ok, fun ok => ?_⟩
      refine does_o (Does.pure hH hp (v := .int k (k.wrap n.z.v)) ?_ (VRel.of_n (hv ok)))
      rw [hx.num_inv]
      simp [convert, run_und hds, run_und hk, Num.val, Conv.intToInt]
    | _ => rw [he] at h; simp [convNum] at h
  case sliceToArrayPointer t x' =>
    obtain ⟨hp, h2⟩ := arrayPtrOp_spec h (hev x') hH
    exact ⟨hp.ok, fun ok => does_o (h2 ok)⟩
  case makeInterface t x' =>
    unfold ifaceE at h
    split at h
    · cases h
    · cases h
    rename_i d hni hd
    simp only [Option.some.injEq, Prod.mk.injEq] at h
    obtain ⟨rfl, rfl⟩ := h
    refine ⟨id, fun _ => ?_⟩
    refine does_o (Does.pure hH (Pure.refl _) (v := .iface t (ρ x')) ?_ (.ifc t _ _ (hev x')))
    cases d <;> first | (simp [Instr.makeInterface, run_und hd]; done) | (exact absurd rfl (hni _))
  case makeFunc fn first captured =>
    simp only [Option.some.injEq, Prod.mk.injEq] at h
    obtain ⟨rfl, rfl⟩ := h
    refine ⟨id, fun _ => ?_⟩
    have h1 := evL_rel hev first.toList
    have h2 := evL_rel hev captured.toList
    have h3 := h1.append h2
    refine does_o (Does.pure hH (Pure.refl _) (v := .func fn ⟨first.toList.map ρ⟩ ⟨captured.toList.map ρ⟩) ?_ (.fn fn _ _ _ _ h1.1.symm h3.1 h3.2))
    have e1 : first.map ρ = ⟨first.toList.map ρ⟩ := by apply Array.ext'; simp
    have e2 : captured.map ρ = ⟨captured.toList.map ρ⟩ := by apply Array.ext'; simp
    rw [← e1, ← e2]; rfl
  case makeSlice t l c =>
    obtain ⟨h1, h2⟩ := makeSliceOp_spec h (hev l) (hev c) hH
    exact ⟨h1, fun ok => does_o (h2 ok)⟩
  case slice t x' lo hi mx =>
    obtain ⟨hp, h2⟩ := sliceOp_spec h (hev x') (evO_rel hev lo) (evO_rel hev hi) (evO_rel hev mx) hH
    exact ⟨hp.ok, fun ok => does_o (h2 ok)⟩
  case fieldAddr t x' f =>
    obtain ⟨hq, hS⟩ := val_some h; clear h; have h := hq; clear hq; subst hS
    exact ⟨id, fun _ => does_o (fieldAddrOp_spec h (hev x') hH)⟩
  case field t x' f =>
    obtain ⟨hq, hS⟩ := val_some h; clear h; have h := hq; clear hq; subst hS
    exact ⟨id, fun _ => does_o (fieldOp_spec h (hev x') hH)⟩
  case indexAddr t x' i =>
    obtain ⟨hp, h2⟩ := indexAddrOp_spec h (hev x') (hev i) hH
    exact ⟨hp.ok, fun ok => does_o (h2 ok)⟩
  case index t x' i =>
    obtain ⟨hp, h2⟩ := indexOp_spec h (hev x') (hev i) hH
    exact ⟨hp.ok, fun ok => does_o (h2 ok)⟩
  case extract t i =>
    unfold extractE at h
    split at h
    case h_2 => cases h
    rename_i xs hxs
    obtain ⟨hq, hS⟩ := val_some h; clear h; have h := hq; clear hq; subst hS
    have ht := hev t
    rw [hxs] at ht
    obtain ⟨vs, hv, hl⟩ := ht.tup_inv
    rw [lget_eq] at h
    obtain ⟨v, h1, h2⟩ := hl.get h
    refine ⟨id, fun _ => does_o (Does.pure hH (Pure.refl _) (v := v) ?_ h2)⟩
    rw [hv]
    simp [Instr.extract, h1]

theorem builtin_spec {C : Cfg} {c : Call} {ev : Operand → AV} {ρ : Operand → Value} {x : AV} {o : Oper} {S S' : St} (ho : o.op = .call c) (h : callBE C c ev S = some (x, S')) (hev : ∀ x, VRel β (ev x) (ρ x)) (hH : HRel G β S.H w) :
    (S'.ok → S.ok) ∧ (S'.ok → DoesO C.P G β S w (execOp ρ o) x S') := by
  unfold callBE at h
  split at h
  case h_2 => cases h
  rename_i b hb
  have hl := evL_rel hev c.args.toList
  have e : c.args.map ρ = ⟨c.args.toList.map ρ⟩ := by apply Array.ext'; simp
  have ex : ∃ consts, execOp ρ o = builtin b c.argTypes o.type consts ⟨c.args.toList.map ρ⟩ := by
    refine ⟨c.args.map fun | .const _ => true | _ => false, ?_⟩
    simp only [execOp, ho, resolve, hb, e]; rfl
  obtain ⟨consts, hex⟩ := ex
  rw [hex]
  have ets : c.argTypes = ⟨c.argTypes.toList⟩ := rfl
  generalize c.argTypes.toList = ts at *
  rw [ets]
  generalize evL ev c.args.toList = as at *
  generalize c.args.toList.map ρ = vs at *
  unfold builtinE at h
  split at h
  · obtain ⟨hq, hS⟩ := val_some h; clear h; have h := hq; clear hq; subst hS
    exact ⟨id, fun _ => does_o (lenOp_spec h hl hH)⟩
  · obtain ⟨hq, hS⟩ := val_some h; clear h; have h := hq; clear hq; subst hS
    exact ⟨id, fun _ => does_o (capOp_spec h hl hH)⟩
  · obtain ⟨h1, h2⟩ := appendE_spec (P := C.P) (ty := o.type) h hl hH
    exact ⟨h1, fun ok => does_o (h2 ok)⟩
  · obtain ⟨h1, h2⟩ := copyOp_spec (P := C.P) (ty := o.type) h hl hH
    exact ⟨h1, fun ok => does_o (h2 ok)⟩
  · split at h
    case h_2 => cases h
    obtain ⟨hq, hS⟩ := val_some h; clear h; have h := hq; clear hq; subst hS
    obtain ⟨v1, vr, rfl, g1, g2⟩ := hl.cons_inv
    obtain ⟨v2, vr', rfl, g3, g4⟩ := g2.cons_inv
    have := g4.nil_inv; subst this
    have := min2_spec (P := C.P) (w := w) (G := G) (S := S') (ty := o.type) (ts := ⟨ts⟩) h g1 g3 hH
    exact ⟨id, fun _ => does_o this⟩
  · split at h
    case h_2 => cases h
    obtain ⟨hq, hS⟩ := val_some h; clear h; have h := hq; clear hq; subst hS
    obtain ⟨v1, vr, rfl, g1, g2⟩ := hl.cons_inv
    obtain ⟨v2, vr', rfl, g3, g4⟩ := g2.cons_inv
    have := g4.nil_inv; subst this
    have := min2_spec (P := C.P) (w := w) (G := G) (S := S') (ty := o.type) (ts := ⟨ts⟩) h g1 g3 hH
    exact ⟨id, fun _ => does_o this⟩
  · cases h
end
end Go.Eng
/- What operations do not look at, and what they leave as it is. -/
namespace Go.Eng
set_option linter.unusedSectionVars false
variable [RowAddr]
set_option linter.unusedSimpArgs false
set_option linter.unusedVariables false

/-- The same, with another heap and more that is owed. -/
def St.re (H : List Blk) (low : Nat) (cs : List Bool) (S : St) : St := ⟨H, low, S.dec, S.cond ++ cs⟩
def reP {α : Type} (H : List Blk) (low : Nat) (cs : List Bool) (p : α × St) : α × St := (p.1, p.2.re H low cs)
section
variable {H : List Blk} {low : Nat} {cs : List Bool} {S : St}
theorem demand_re (b : Bool) : (S.re H low cs).demand b = (S.demand b).re H low cs := rfl
theorem test_re (b : B) : b.test (S.re H low cs) = (b.test S).map (reP H low cs) := by
  cases b with
  | c b => rfl
  | s b =>
    simp only [B.test, St.re]
    cases S.dec <;> rfl
theorem claim_re (b : B) : b.claim (S.re H low cs) = (b.claim S).map (St.re H low cs) := by
  cases b with
  | c b => cases b <;> rfl
  | s b => rfl
theorem val_re (v : Option AV) : val (S.re H low cs) v = (val S v).map (reP H low cs) := by cases v <;> rfl
theorem bvOp_re (op : BinOp) (n : Nat) (mk : BitVec n → AV) (x y : BitVec n) : bvOp op n mk x y (S.re H low cs) = (bvOp op n mk x y S).map (reP H low cs) := by
  unfold bvOp; cases wOp op <;> rfl
theorem bvBin_re {n : Nat} (mk : BitVec n → AV) (op : BinOp) (x y : Option (BitVec n)) : bvBin mk op x y (S.re H low cs) = (bvBin mk op x y S).map (reP H low cs) := by
  cases x <;> cases y <;> simp [bvBin, bvOp_re]
theorem bvSh_re (op : BinOp) (n : Nat) (mk : BitVec n → AV) (x : BitVec n) (s : Nat) : bvSh op n mk x s (S.re H low cs) = (bvSh op n mk x s S).map (reP H low cs) := by
  unfold bvSh; cases wSh op <;> rfl
theorem bvShift_re {n : Nat} (mk : BitVec n → AV) (op : BinOp) (x : BitVec n) (s : Z) : bvShift mk op x s (S.re H low cs) = (bvShift mk op x s S).map (reP H low cs) := by
  unfold bvShift; rw [claim_re]
  cases ((Z.c 0).le s).claim S <;> simp [bvSh_re]
theorem arithSE_re (op : BinOp) (k : IntKind) (a b : Int) : arithSE op k a b (S.re H low cs) = (arithSE op k a b S).map (reP H low cs) := by
  unfold arithSE arithS; cases op <;> rfl
theorem intArith_re (op : BinOp) (k : IntKind) (x y : Z) : intArith op k x y (S.re H low cs) = (intArith op k x y S).map (reP H low cs) := by
  unfold intArith
  cases cmpZ op with
  | some f => rfl
  | none =>
    cases x <;> cases y <;> simp only [arithSE_re]
    cases arithC op with
    | none => rfl
    | some f => dsimp only; cases f k _ _ <;> rfl
theorem shiftI_re (k : IntKind) (z : Z) (op : BinOp) (s : Z) : shiftI k z op s (S.re H low cs) = (shiftI k z op s S).map (reP H low cs) := by
  unfold shiftI
  cases s with
  | s _ => rfl
  | c b =>
    dsimp only
    cases intLe 0 b with
    | false => rfl
    | true =>
      cases z with
      | c a => dsimp only; cases shiftC op k a b.toNat <;> rfl
      | s a =>
        dsimp only
        cases Nat.blt b.toNat k.bits with
        | false => rfl
        | true => cases op <;> rfl
theorem shiftOp_re (x : Num) (op : BinOp) (s : Z) : shiftOp x op s (S.re H low cs) = (shiftOp x op s S).map (reP H low cs) := by
  cases x <;> simp only [shiftOp, shiftI_re, bvShift_re]
theorem intOp_re (k : IntKind) (a : Z) (y : Num) (op : BinOp) : intOp k a y op (S.re H low cs) = (intOp k a y op S).map (reP H low cs) := by
  cases y <;> simp only [intOp, bvBin_re]
  cases kindEq k _ <;> simp [intArith_re]
theorem numOp_re (x y : Num) (op : BinOp) : numOp x y op (S.re H low cs) = (numOp x y op S).map (reP H low cs) := by
  cases x <;> simp only [numOp, intOp_re, bvBin_re]
theorem binop_re (op : BinOp) (x y : AV) : binop op x y (S.re H low cs) = (binop op x y S).map (reP H low cs) := by
  unfold binop
  cases x <;> try rfl
  cases y <;> try rfl
  dsimp only
  cases isShift op <;> simp only [shiftOp_re, numOp_re]
theorem binOpE_re (P : Program) (op : BinOp) (t : TypeId) (x y : Operand) (a b : AV) : binOpE P op t x y a b (S.re H low cs) = (binOpE P op t x y a b S).map (reP H low cs) := by
  unfold binOpE
  rw [binop_re]
  cases binop op a b S with
  | some r => rfl
  | none =>
    simp only [Option.map_none]
    cases eqOpE P t (isConst x || isConst y) a b with
    | none => rfl
    | some r => cases op <;> rfl
theorem convW_re (k : IntKind) (n : Nat) (a b c d : AV) : convW k n a b c d (S.re H low cs) = (convW k n a b c d S).map (reP H low cs) := by cases k <;> rfl
theorem convI_re (n : Int) (k : IntKind) : convI n k (S.re H low cs) = (convI n k S).map (reP H low cs) := by cases k <;> rfl
theorem convN_re (v : Num) (k : IntKind) : convN v k (S.re H low cs) = (convN v k S).map (reP H low cs) := by
  cases v with
  | int _ z => cases z <;> simp only [convN, convI_re]; rfl
  | _ => simp only [convN, convW_re]
theorem convNum_re (v : AV) (k : IntKind) : convNum v k (S.re H low cs) = (convNum v k S).map (reP H low cs) := by
  cases v <;> simp only [convNum, convN_re] <;> rfl
theorem convSl_re (C : Cfg) (e : TypeId) (same : Bool) (v : AV) (hr : same = true → ∀ b, slOf v = some b → lget b H = lget b S.H) : convSl C e same v (S.re H low cs) = (convSl C e same v S).map (reP H low cs) := by
  unfold convSl
  cases same with
  | false => rfl
  | true =>
    dsimp only
    cases C.P.underlying e with
    | none => rfl
    | some d =>
      cases d <;> try rfl
      rename_i k
      cases k <;> try rfl
      dsimp only
      split
      · rename_i b _ _ _
        have h := hr rfl b rfl
        show (match lget b H with | some ⟨_, .own⟩ => _ | _ => _) = _
        rw [h]
        cases lget b S.H with
        | none => rfl
        | some k => obtain ⟨d, m⟩ := k; cases m <;> rfl
      · rfl
theorem convE_re (C : Cfg) (src dst : TypeId) (v : AV) (hr : Nat.beq src dst = true → ∀ b, slOf v = some b → lget b H = lget b S.H) : convE C src dst v (S.re H low cs) = (convE C src dst v S).map (reP H low cs) := by
  unfold convE
  cases C.P.underlying src with
  | none => rfl
  | some _ =>
    dsimp only
    cases hd : C.P.underlying dst with
    | none => rfl
    | some d => cases d <;> first | exact convNum_re .. | exact convSl_re _ _ _ _ hr | rfl
theorem pickE_re (c a b : AV) : pickE c a b (S.re H low cs) = (pickE c a b S).map (reP H low cs) := by
  unfold pickE
  cases c <;> try rfl
  rename_i at'
  cases at' <;> try rfl
  simp only [test_re]
  rename_i t
  cases ht : t.test S with
  | none => rfl
  | some p => obtain ⟨x, S1⟩ := p; cases x <;> rfl
theorem nilCheckE_re (v : AV) : nilCheckE v (S.re H low cs) = (nilCheckE v S).map (reP H low cs) := by
  unfold nilCheckE
  cases v <;> try rfl
  rename_i r
  cases r <;> rfl
theorem arrayPtrOp_re (P : Program) (t : TypeId) (x : AV) : arrayPtrOp P t x (S.re H low cs) = (arrayPtrOp P t x S).map (reP H low cs) := by
  unfold arrayPtrOp
  cases P.underlying t with
  | none => rfl
  | some d =>
    cases d <;> try rfl
    rename_i n e
    cases n <;> try rfl
    cases x <;> try rfl
    rename_i r
    cases r <;> try rfl
    simp only [claim_re]
    rename_i n b o l cap
    cases (N.le (.c (n + 1)) l).claim S <;> rfl
theorem ifaceE_re (C : Cfg) (t : TypeId) (v : AV) : ifaceE C t v (S.re H low cs) = (ifaceE C t v S).map (reP H low cs) := by
  unfold ifaceE
  cases C.P.underlying t with
  | none => rfl
  | some d => cases d <;> rfl
theorem sliceSl_re (b : Nat) (o len : N) (cap : Option N) (lo hi mx : Option AV) : sliceSl b o len cap lo hi mx (S.re H low cs) = (sliceSl b o len cap lo hi mx S).map (reP H low cs) := by
  unfold sliceSl
  cases bound lo (.c 0) with
  | none => rfl
  | some l =>
    dsimp only
    cases bound hi len with
    | none => rfl
    | some h =>
      cases cap with
      | none =>
        cases mx with
        | some _ => rfl
        | none =>
          simp only [claim_re]
          cases (ordered l h len.toZ).claim S <;> rfl
      | some c =>
        cases mx with
        | none =>
          simp only [claim_re]
          cases (ordered l h c.toZ).claim S <;> rfl
        | some m =>
          dsimp only
          cases m.nm with
          | none => rfl
          | some m =>
            cases hi with
            | none => rfl
            | some _ =>
              simp only [claim_re]
              cases (B.and (ordered l h m) (m.le c.toZ)).claim S <;> rfl
theorem indexAddrOp_re (P : Program) (t : TypeId) (x i : AV) : indexAddrOp P t x i (S.re H low cs) = (indexAddrOp P t x i S).map (reP H low cs) := by
  unfold indexAddrOp
  cases i.nm with
  | none => rfl
  | some z =>
    dsimp only
    cases P.underlying t with
    | none => rfl
    | some d =>
      cases d with
      | array n e =>
        dsimp only
        cases sizeT P e with
        | none => rfl
        | some s =>
          simp only [claim_re]
          cases (inRange z (.c n)).claim S with
          | none => rfl
          | some S1 =>
            cases x with
            | ref r => cases r <;> rfl
            | _ => rfl
      | slice e =>
        dsimp only
        cases sizeT P e with
        | none => rfl
        | some s =>
          cases x with
          | ref r =>
            cases r with
            | sl b o l c =>
              simp only [claim_re]
              cases (inRange z l.toZ).claim S <;> rfl
            | gs g o l =>
              simp only [claim_re]
              cases (inRange z l.toZ).claim S <;> rfl
            | sm b l s' =>
              simp only [claim_re]
              cases Nat.beq s' s with
              | false => rfl
              | true => cases (inRange z l.toZ).claim S <;> rfl
            | _ => rfl
          | _ => rfl
      | _ => rfl
theorem indexOp_re (P : Program) (t : TypeId) (x i : AV) : indexOp P t x i (S.re H low cs) = (indexOp P t x i S).map (reP H low cs) := by
  unfold indexOp
  cases i.nm with
  | none => rfl
  | some z =>
    dsimp only
    cases P.underlying t with
    | none => rfl
    | some d =>
      cases d with
      | string =>
        cases x with
        | atom a =>
          cases a with
          | str s =>
            cases z with
            | c z =>
              dsimp only
              split <;> try rfl
              split <;> rfl
            | s k =>
              simp only [claim_re]
              cases (inRange (.s k) (.c s.size)).claim S <;> rfl
          | _ => rfl
        | _ => rfl
      | array n e =>
        cases x <;> try rfl
        cases z <;> try rfl
        dsimp only
        split <;> try rfl
        split <;> try rfl
        simp only [Option.map_map]; rfl
      | _ => rfl
theorem extractE_re (v : AV) (i : Nat) : extractE v i (S.re H low cs) = (extractE v i S).map (reP H low cs) := by
  unfold extractE
  cases v <;> try rfl
  rename_i t xs
  cases t <;> simp only [val_re] <;> rfl
theorem get0_re (d : Data) (o : N) : d.get0 o (S.re H low cs) = (d.get0 o S).map (reP H low cs) := by
  cases d <;> try rfl
  cases o <;> simp only [Data.get0, Option.map_map] <;> rfl
theorem get_re (d : Data) (o : N) : d.get o (S.re H low cs) = (d.get o S).map (reP H low cs) := by
  unfold Data.get
  rw [get0_re]
  cases d.get0 o S with
  | some r => rfl
  | none =>
    cases d.words with
    | none =>
      show d.get1 o (S.re H low cs) = (d.get1 o S).map (reP H low cs)
      unfold Data.get1
      cases d.mid <;> rfl
    | some d' => exact get0_re d' o
theorem cells0_re (d : Data) (n : Nat) (o : N) : d.cells0 n o (S.re H low cs) = (d.cells0 n o S).map (reP H low cs) := by
  cases d <;> try rfl
  cases o <;> simp only [Data.cells0, Option.map_map] <;> rfl
theorem cells_re (d : Data) (n : Nat) (o : N) : d.cells n o (S.re H low cs) = (d.cells n o S).map (reP H low cs) := by
  unfold Data.cells
  rw [cells0_re]
  cases d.cells0 n o S with
  | some r => rfl
  | none =>
    cases d.words with
    | none => rfl
    | some d' => exact cells0_re d' n o
end
end Go.Eng
