/- An interpreter of the model's code over abstract values, proved sound, part 5. No condition. -/
import Derived.Test.YtnonaagcnenbdaaEngD
/- Rows that are kept one behind the other, their number unknown: two loops, one that keeps them and one that looks one up in each round. -/
namespace Go.Eng
set_option linter.unusedSectionVars false
set_option linter.unusedSimpArgs false
set_option linter.unusedVariables false
variable [RowAddr]
variable {G : Nat → Option (List AV)} {β β' : Map} {w w' : World} {H H' : List Blk}

/-- Words in all cells. -/
def WordD (d : Data) : Prop := ∀ i x, d.at i = some x → ∃ n, x = .num n
theorem wordD8 (v : Vec 8) : WordD (.b8 v) := fun i x h => by
  simp only [Data.at, Option.map_eq_some_iff] at h
  obtain ⟨z, _, rfl⟩ := h
  exact ⟨_, rfl⟩
theorem wordD32 (v : Vec 32) : WordD (.b32 v) := fun i x h => by
  simp only [Data.at, Option.map_eq_some_iff] at h
  obtain ⟨z, _, rfl⟩ := h
  exact ⟨_, rfl⟩
theorem ROk.word {d : Data} {L : Loc} (hd : WordD d) (h : ROk β d L w) : ROk (fun _ => none) d L w := by
  refine ⟨h.1, h.2.1, fun i x hx => ?_⟩
  obtain ⟨v, h1, h2⟩ := h.2.2 i x hx
  obtain ⟨n, rfl⟩ := hd i x hx
  rw [h2.num_inv] at h1
  exact ⟨_, h1, .num n⟩
theorem ROk.kn {l : List Value} {L : Loc} (h : ROk β (.kn l []) L w) : ROk (fun _ => none) (.kn l []) L w := by
  refine ⟨h.1, h.2.1, fun i x hx => ?_⟩
  obtain ⟨v, h1, h2⟩ := h.2.2 i x hx
  have hx' : (l.map AV.exact ++ [])[i]? = some x := hx
  rw [List.append_nil, List.getElem?_map, Option.map_eq_some_iff] at hx'
  obtain ⟨u, _, rfl⟩ := hx'
  refine ⟨v, h1, ?_⟩
  cases h2
  exact .exact _
theorem ROk.upG {d : Data} {L : Loc} (h : ROk (fun _ => none) d L w) : ROk β d L w := by
  refine ⟨h.1, h.2.1, fun i x hx => ?_⟩
  obtain ⟨v, h1, h2⟩ := h.2.2 i x hx
  exact ⟨v, h1, h2.mono (fun _ _ h => by cases h)⟩
/-- What a step leaves of what is nobody's own. -/
structure Keeps (β : Map) (H : List Blk) (w : World) (β' : Map) (H' : List Blk) (w' : World) : Prop where
  size : w.heap.size ≤ w'.heap.size
  kept : ∀ c, c < w.heap.size → ¬ Own β H c → w'.heap[c]? = w.heap[c]?
  own : ∀ c, c < w.heap.size → Own β' H' c → Own β H c
theorem Keeps.of {β' : Map} {H' : List Blk} {w' : World} (h : Stp β H w β' H' w') : Keeps β H w β' H' w' := ⟨h.size, h.kept, h.own⟩
theorem Keeps.less {β' : Map} {H' : List Blk} {w' : World} {β2 : Map} {H2 : List Blk} (h : Keeps β H w β' H' w') (k : ∀ c, Own β2 H2 c → Own β' H' c) : Keeps β H w β2 H2 w' := ⟨h.size, h.kept, fun c hc ho => h.own c hc (k c ho)⟩
/-- A slice that leads to a row of words: it is nobody's own. -/
def RowAt (β : Map) (H : List Blk) (w : World) (v : Value) (d : Data) : Prop :=
  ∃ L cp, v = .slice (some (at' L.c L.base)) d.len cp ∧ d.len ≤ cp ∧ cp ≤ L.room ∧ ROk (fun _ => none) d L w ∧ ¬ Own β H L.c
theorem RowAt.keep {v : Value} {d : Data} (h : RowAt β H w v d) (k : Keeps β H w β' H' w') : RowAt β' H' w' v d := by
  obtain ⟨L, cp, h1, h2, h3, h4, h5⟩ := h
  refine ⟨L, cp, h1, h2, h3, ?_, fun ho => h5 (k.own _ h4.1 ho)⟩
  exact ROk.mono (Map.le_refl _) h4 k.size (k.kept _ h4.1 h5)
def Fam (β : Map) (H : List Blk) (w : World) (l : List Value) (F : Nat → Data) : Prop := ∀ (K : Nat) v, l[K]? = some v → RowAt β H w v (F K)
theorem Fam.keep {l : List Value} {F : Nat → Data} (h : Fam β H w l F) (k : Keeps β H w β' H' w') : Fam β' H' w' l F := fun K v hv => (h K v hv).keep k
theorem Fam.more {l : List Value} {F : Nat → Data} {v : Value} (h : Fam β H w l F) (k : RowAt β H w v (F l.length)) : Fam β H w (l ++ [v]) F := by
  intro K u hu
  rcases Nat.lt_or_ge K l.length with g | g
  · rw [List.getElem?_append_left g] at hu; exact h K u hu
  · rw [List.getElem?_append_right g] at hu
    cases e : K - l.length with
    | zero =>
      rw [e] at hu
      simp at hu
      subst hu
      rw [show K = l.length by omega]; exact k
    | succ j => rw [e] at hu; simp at hu
/-- The slices that were kept: where they lie. -/
def KeptAt (β : Map) (H : List Blk) (w : World) (a : Nat) (l : List Value) : Prop := ∃ L, β a = some L ∧ ROk (fun _ => none) (.kn l []) L w ∧ ¬ Own β H L.c
theorem KeptAt.keep {a : Nat} {l : List Value} (h : KeptAt β H w a l) (k : Keeps β H w β' H' w') (e : β' a = β a) : KeptAt β' H' w' a l := by
  obtain ⟨L, h1, h2, h3⟩ := h
  exact ⟨L, e.trans h1, ROk.mono (Map.le_refl _) h2 k.size (k.kept _ h2.1 h3), fun ho => h3 (k.own _ h2.1 ho)⟩

/-- One block's cells told otherwise. -/
theorem HRel.swap {a : Nat} {d d' : Data} {m : Mode} (hH : HRel G β H w) (ha : H[a]? = some ⟨d, m⟩) (hm : m.alive) (hne : β a = none → d'.len = 0) (hd : ∀ L, β a = some L → BRel β ⟨d, m⟩ L w → BRel β ⟨d', m⟩ L w) :
    HRel G β (H.set a ⟨d', m⟩) w ∧ ∀ c, Own β (H.set a ⟨d', m⟩) c ↔ Own β H c := by
  have hlt : a < H.length := (List.getElem?_eq_some_iff.1 ha).1
  have hget : ∀ (b : Nat) k, (H.set a ⟨d', m⟩)[b]? = some k → ∃ k0, H[b]? = some k0 ∧ k0.mode = k.mode := by
    intro b k hk
    by_cases e : a = b
    · subst e
      rw [List.getElem?_set_self hlt] at hk
      injection hk with hk; subst hk
      exact ⟨_, ha, rfl⟩
    · rw [List.getElem?_set_ne e] at hk
      exact ⟨k, hk, rfl⟩
  refine ⟨⟨fun b k hk hal => ?_, fun b b' k k' L L' hne hk hk' ho hal hL hL' => ?_, fun b L hL => by rw [List.length_set]; exact hH.dom b L hL, hH.glob, fun b k L hk ho hL => ?_⟩, fun c => ⟨?_, ?_⟩⟩
  · by_cases e : a = b
    · subst e
      rw [List.getElem?_set_self hlt] at hk
      injection hk with hk; subst hk
      rcases hH.blk a _ ha hm with ⟨L, hL, hb⟩ | ⟨g1, g2⟩
      · exact .inl ⟨L, hL, hd L hL hb⟩
      · exact .inr ⟨hne g2, g2⟩
    · rw [List.getElem?_set_ne e] at hk
      exact hH.blk b k hk hal
  · obtain ⟨k0, h1, h2⟩ := hget b k hk
    obtain ⟨k0', h1', h2'⟩ := hget b' k' hk'
    exact hH.dis b b' k0 k0' L L' hne h1 h1' (h2.trans ho) (by unfold Mode.alive; rw [h2']; exact hal) hL hL'
  · obtain ⟨k0, h1, h2⟩ := hget b k hk
    exact hH.apart b k0 L h1 (h2.trans ho) hL
  · rintro ⟨b, k, L, hk, ho, hL, hc⟩
    obtain ⟨k0, h1, h2⟩ := hget b k hk
    exact ⟨b, k0, L, h1, h2.trans ho, hL, hc⟩
  · rintro ⟨b, k, L, hk, ho, hL, hc⟩
    by_cases e : a = b
    · subst e
      rw [ha] at hk; injection hk with hk; subst hk
      exact ⟨a, _, L, List.getElem?_set_self hlt, ho, hL, hc⟩
    · exact ⟨b, k, L, by rw [List.getElem?_set_ne e]; exact hk, ho, hL, hc⟩
/-- A block forgotten. -/
theorem HRel.forget {a : Nat} (hH : HRel G β H w) : HRel G β (H.set a ⟨.gen [], .dead⟩) w ∧ (∀ c, Own β (H.set a ⟨.gen [], .dead⟩) c → Own β H c) := by
  have hget : ∀ (b : Nat) k, (H.set a ⟨.gen [], .dead⟩)[b]? = some k → k.mode ≠ .dead → H[b]? = some k := by
    intro b k hk hd
    by_cases e : a = b
    · subst e
      have hlt : a < H.length := by have := (List.getElem?_eq_some_iff.1 hk).1; simpa using this
      rw [List.getElem?_set_self hlt] at hk
      injection hk with hk; subst hk
      exact absurd rfl hd
    · rw [List.getElem?_set_ne e] at hk; exact hk
  have hown : ∀ {m : Mode}, m = .own → m ≠ .dead := fun h => by rw [h]; intro h; cases h
  refine ⟨⟨fun b k hk hal => hH.blk b k (hget b k hk hal) hal, fun b b' k k' L L' hne hk hk' ho hal hL hL' => hH.dis b b' k k' L L' hne (hget b k hk (hown ho)) (hget b' k' hk' hal) ho hal hL hL',
    fun b L hL => by rw [List.length_set]; exact hH.dom b L hL, hH.glob, fun b k L hk ho hL => hH.apart b k L (hget b k hk (hown ho)) ho hL⟩, ?_⟩
  rintro c ⟨b, k, L, hk, ho, hL, hc⟩
  exact ⟨b, k, L, hget b k hk (hown ho), ho, hL, hc⟩
/-- One more row kept. -/
theorem kn_more {a r : Nat} {l : List Value} {d : Data} {n : N} (hH : HRel G β H w) (ha : H[a]? = some ⟨.kn l [.ref (.sl r (.c 0) n none)], .own⟩) (hr : H[r]? = some ⟨d, .ro⟩) (hn : n.v = d.len) (h0 : 0 < d.len) (hd : WordD d) :
    ∃ v, HRel G β (H.set a ⟨.kn (l ++ [v]) [], .own⟩) w ∧ (∀ c, Own β (H.set a ⟨.kn (l ++ [v]) [], .own⟩) c ↔ Own β H c) ∧ RowAt β H w v d := by
  rcases hH.blk a _ ha (own_alive rfl) with ⟨L, hL, hb⟩ | ⟨g1, _⟩
  case inr => simp [Data.len] at g1
  obtain ⟨b0, vs, t, fz, b1, b2, b3, b4, b5⟩ := hb
  have hlen : (Data.kn l [.ref (.sl r (.c 0) n none)]).len = l.length + 1 := rfl
  have b4' : l.length + 1 ≤ L.room := b4
  have hvl : l.length < (vs.take (l.length + 1)).length := by rw [List.length_take, b3]; omega
  have b5' : LRel β (l.map AV.exact ++ [.ref (.sl r (.c 0) n none)]) (vs.take (l.length + 1)) := b5
  obtain ⟨v, hv, hvr⟩ := b5'.get (i := l.length) (x := .ref (.sl r (.c 0) n none)) (by rw [List.getElem?_append_right (by simp)]; simp)
  have hex : ∀ (i : Nat) u x, l[i]? = some u → (vs.take (l.length + 1))[i]? = some x → x = u := by
    intro i u x hu hx
    have hi := (List.getElem?_eq_some_iff.1 hu).1
    have := b5'.2 i (.exact u) x (by rw [List.getElem?_append_left (by simpa using hi), List.getElem?_map, hu]; rfl) hx
    cases this; rfl
  have hrow : RowAt β H w v d := by
    obtain ⟨ad, cp, rfl, c1, _, c3⟩ := hvr.sl_inv
    rw [hn] at c1
    rcases c3 with c3 | ⟨Lr, c4, c5, c6⟩
    · omega
    have hn' : (N.c 0).v = 0 := rfl
    rw [hn', Nat.add_zero] at c5
    rw [hn', Nat.zero_add] at c6
    have hra : (Blk.mk d .ro).mode.alive := by intro h; cases h
    rcases hH.blk r _ hr hra with ⟨L', hL', hb'⟩ | ⟨g1, _⟩
    · rw [c4] at hL'; injection hL' with hL'; subst hL'
      refine ⟨Lr, cp, by rw [hn, c5], c1, c6, ROk.word hd hb', ?_⟩
      rintro ⟨b, k, Lb, k1, k2, k3, k4⟩
      refine hH.dis b r k _ Lb Lr (fun e => ?_) k1 hr k2 hra k3 c4 k4
      subst e
      rw [hr] at k1; injection k1 with k1; subst k1; cases k2
    · exact absurd g1 (by show d.len ≠ 0; omega)
  have hsw := hH.swap (d' := .kn (l ++ [v]) []) ha (fun h => by cases h) (fun h => by rw [hL] at h; cases h) (fun L' hL' hb => by
    rw [hL] at hL'; injection hL' with hL'; subst hL'
    have e : (Data.kn (l ++ [v]) []).len = l.length + 1 := by simp [Data.len]
    refine ⟨b0, vs, t, fz, b1, b2, b3, by show (Data.kn (l ++ [v]) []).len ≤ L.room; rw [e]; exact b4', ?_⟩
    show LRel β (Data.kn (l ++ [v]) []).list (vs.take (Data.kn (l ++ [v]) []).len)
    rw [e]
    refine ⟨by simp only [Data.list, List.append_nil, List.length_map, List.length_append, List.length_cons, List.length_nil, List.length_take, b3]; omega, fun i x u hx hu => ?_⟩
    simp only [Data.list, List.append_nil, List.getElem?_map, Option.map_eq_some_iff] at hx
    obtain ⟨y, hy, rfl⟩ := hx
    have : u = y := by
      rcases Nat.lt_or_ge i l.length with g | g
      · rw [List.getElem?_append_left g] at hy
        exact hex i y u hy hu
      · have hi := (List.getElem?_eq_some_iff.1 hy).1
        simp at hi
        have ei : i = l.length := by omega
        subst ei
        rw [hv] at hu; injection hu with hu
        simp at hy
        rw [← hu, hy]
    subst this
    exact .exact _)
  exact ⟨v, hsw.1, hsw.2, hrow⟩
/-- All kept: the block itself is forgotten, what it holds is known besides. -/
theorem kn_kept {a : Nat} {l : List Value} (hH : HRel G β H w) (ha : H[a]? = some ⟨.kn l [], .own⟩) (h0 : 0 < l.length) :
    HRel G β (H.set a ⟨.gen [], .dead⟩) w ∧ KeptAt β (H.set a ⟨.gen [], .dead⟩) w a l ∧ (∀ c, Own β (H.set a ⟨.gen [], .dead⟩) c → Own β H c) := by
  obtain ⟨g1, g2⟩ := hH.forget (a := a)
  refine ⟨g1, ?_, g2⟩
  rcases hH.blk a _ ha (own_alive rfl) with ⟨L, hL, hb⟩ | ⟨g, _⟩
  · have hal : (Blk.mk (.kn l []) .own).mode.alive := own_alive rfl
    have hro : ROk β (.kn l []) L w := ⟨hb.lt hal, hb.room hal, fun i x hx => hb.cell hal hx⟩
    refine ⟨L, hL, hro.kn, ?_⟩
    rintro ⟨b, k, Lb, k1, k2, k3, k4⟩
    have hlt : a < H.length := (List.getElem?_eq_some_iff.1 ha).1
    by_cases e : a = b
    · subst e
      rw [List.getElem?_set_self hlt] at k1
      injection k1 with k1; subst k1; cases k2
    · rw [List.getElem?_set_ne e] at k1
      exact hH.dis b a k _ Lb L (Ne.symm e) k1 ha k2 hal k3 hL k4
  · simp [Data.len] at g; subst g; simp at h0
/-- One of the rows taken up: the block of slices is seen again, with one cell known. -/
theorem kn_spot {a K : Nat} {l : List Value} {v : Value} {d x : Data} {n : N} (hn : n.v = d.len) (hH : HRel G β H w) (ha : H[a]? = some ⟨x, .dead⟩) (hk : KeptAt β H w a l) (hv : l[K]? = some v) (hrow : RowAt β H w v d) :
    ∃ β', HRel G β' (H.set a ⟨.spot l.length K (.sl H.length (.c 0) n none), .ro⟩ ++ [⟨d, .ro⟩]) w ∧ Stp β H w β' (H.set a ⟨.spot l.length K (.sl H.length (.c 0) n none), .ro⟩ ++ [⟨d, .ro⟩]) w := by
  obtain ⟨LA, hLA, hro, hnA⟩ := hk
  obtain ⟨LR, cp, rfl, r1, r2, r3, hnR⟩ := hrow
  have hlt : a < H.length := (List.getElem?_eq_some_iff.1 ha).1
  have hK : K < l.length := (List.getElem?_eq_some_iff.1 hv).1
  let β2 : Map := fun b => if b = H.length then some LR else β b
  have hle : Map.le β β2 := fun b L hL => by
    show (if b = H.length then some LR else β b) = some L
    have := hH.dom b L hL
    rw [if_neg (by omega)]; exact hL
  have hnew : β2 H.length = some LR := by show (if H.length = H.length then some LR else β H.length) = some LR; rw [if_pos rfl]
  have hold : ∀ b, b < H.length → β2 b = β b := fun b hb => by show (if b = H.length then some LR else β b) = β b; rw [if_neg (by omega)]
  let H2 := H.set a ⟨.spot l.length K (.sl H.length (.c 0) n none), .ro⟩ ++ [⟨d, .ro⟩]
  have hget : ∀ (b : Nat) k, H2[b]? = some k → (b = a ∧ k = ⟨.spot l.length K (.sl H.length (.c 0) n none), .ro⟩) ∨ (b = H.length ∧ k = ⟨d, .ro⟩) ∨ (b ≠ a ∧ b < H.length ∧ H[b]? = some k) := by
    intro b k hk
    rcases Nat.lt_or_ge b H.length with g | g
    · have hk : (H.set a ⟨.spot l.length K (.sl H.length (.c 0) n none), .ro⟩ ++ [⟨d, .ro⟩])[b]? = some k := hk
      rw [List.getElem?_append_left (by rw [List.length_set]; exact g)] at hk
      by_cases e : a = b
      · subst e
        rw [List.getElem?_set_self hlt] at hk
        injection hk with hk
        exact .inl ⟨rfl, hk.symm⟩
      · rw [List.getElem?_set_ne e] at hk
        exact .inr (.inr ⟨Ne.symm e, g, hk⟩)
    · have hk : (H.set a ⟨.spot l.length K (.sl H.length (.c 0) n none), .ro⟩ ++ [⟨d, .ro⟩])[b]? = some k := hk
      rw [List.getElem?_append_right (by rw [List.length_set]; exact g), List.length_set] at hk
      cases e : b - H.length with
      | zero =>
        rw [e] at hk; simp at hk
        exact .inr (.inl ⟨by omega, hk.symm⟩)
      | succ j => rw [e] at hk; simp at hk
  have hown : ∀ c, Own β2 H2 c → Own β H c := by
    rintro c ⟨b, k, L, k1, k2, k3, k4⟩
    rcases hget b k k1 with ⟨rfl, rfl⟩ | ⟨rfl, rfl⟩ | ⟨h1, h2, h3⟩
    · cases k2
    · cases k2
    · exact ⟨b, k, L, h3, k2, by rw [← hold b h2]; exact k3, k4⟩
  refine ⟨β2, ⟨fun b k hk hal => ?_, fun b b' k k' L L' hne hk hk' ho hal hL hL' => ?_, fun b L hL => ?_, hH.glob, fun b k L hk ho hL g lg hg => ?_⟩, ⟨hle, ?_, rfl, rfl, rfl, Nat.le_refl _, fun _ _ _ => rfl, fun c _ ho => hown c ho, hold⟩⟩
  · rcases hget b k hk with ⟨rfl, rfl⟩ | ⟨rfl, rfl⟩ | ⟨h1, h2, h3⟩
    · refine .inl ⟨LA, by rw [hold _ hlt]; exact hLA, hro.1, ?_, fun i y hy => ?_⟩
      · have := hro.2.1; simp only [Data.len, List.length_nil, Nat.add_zero] at this ⊢; exact this
      · have hi : i < l.length := by
          have hy : ((List.replicate l.length (AV.atom .undef)).set K (.sl H.length (.c 0) n none))[i]? = some y := hy
          have := (List.getElem?_eq_some_iff.1 hy).1
          simpa using this
        obtain ⟨u, hu1, hu2⟩ := hro.2.2 i (.exact l[i]) (by simp [Data.at, hi])
        cases hu2
        refine ⟨_, hu1, ?_⟩
        rcases spot_get (show ((List.replicate l.length (AV.atom .undef)).set K (.sl H.length (.c 0) n none))[i]? = some y from hy) with rfl | ⟨rfl, rfl⟩
        · exact .undef _
        · rw [List.getElem?_eq_getElem hi] at hv
          injection hv with hv
          rw [hv]
          have := VRel.sl (β := β2) H.length (.c 0) n none (some (at' LR.c LR.base)) cp (by rw [hn]; exact r1) (fun _ h => by cases h) (.inr ⟨LR, hnew, by simp [N.v], by simp [N.v]; exact r2⟩)
          rw [hn] at this
          exact this
    · exact .inl ⟨LR, hnew, ROk.upG r3⟩
    · rcases hH.blk b k h3 hal with ⟨L, hL, hb⟩ | ⟨g1, g2⟩
      · exact .inl ⟨L, hle b L hL, hb.mono hle (Nat.le_refl _) rfl⟩
      · exact .inr ⟨g1, by rw [hold b h2]; exact g2⟩
  · rcases hget b k hk with ⟨rfl, rfl⟩ | ⟨rfl, rfl⟩ | ⟨h1, h2, h3⟩
    · cases ho
    · cases ho
    · rw [hold b h2] at hL
      have hO : Own β H L.c := ⟨b, k, L, h3, ho, hL, rfl⟩
      rcases hget b' k' hk' with ⟨rfl, rfl⟩ | ⟨rfl, rfl⟩ | ⟨h1', h2', h3'⟩
      · rw [hold _ hlt, hLA] at hL'
        injection hL' with hL'; subst hL'
        intro e; exact hnA (e ▸ hO)
      · rw [hnew] at hL'
        injection hL' with hL'; subst hL'
        intro e; exact hnR (e ▸ hO)
      · rw [hold b' h2'] at hL'
        exact hH.dis b b' k k' L L' hne h3 h3' ho hal hL hL'
  · show b < H2.length
    have : H2.length = H.length + 1 := by simp [H2]
    have hL : (if b = H.length then some LR else β b) = some L := hL
    split at hL
    · omega
    · have := hH.dom b L hL; omega
  · rcases hget b k hk with ⟨rfl, rfl⟩ | ⟨rfl, rfl⟩ | ⟨h1, h2, h3⟩
    · cases ho
    · cases ho
    · rw [hold b h2] at hL
      exact hH.apart b k L h3 ho hL g lg hg
  · show H.length ≤ H2.length
    simp [H2]
/-- A block that is read only, under one more name. -/
theorem alias_ok {i : Nat} {d : Data} (hH : HRel G β H w) (hi : H[i]? = some ⟨d, .ro⟩) :
    ∃ β', HRel G β' (H ++ [⟨d, .ro⟩]) w ∧ Stp β H w β' (H ++ [⟨d, .ro⟩]) w ∧ β' H.length = β i ∧ ∀ c, Own β' (H ++ [⟨d, .ro⟩]) c → Own β H c := by
  have hlt : i < H.length := (List.getElem?_eq_some_iff.1 hi).1
  have hra : (Blk.mk d .ro).mode.alive := by intro h; cases h
  let β2 : Map := fun b => if b = H.length then β i else β b
  have hnew : β2 H.length = β i := by show (if H.length = H.length then β i else β H.length) = β i; rw [if_pos rfl]
  have hold : ∀ b, b < H.length → β2 b = β b := fun b hb => by show (if b = H.length then β i else β b) = β b; rw [if_neg (by omega)]
  have hle : Map.le β β2 := fun b L hL => by rw [hold b (hH.dom b L hL)]; exact hL
  have hget : ∀ (b : Nat) k, (H ++ [⟨d, .ro⟩])[b]? = some k → (b < H.length ∧ H[b]? = some k) ∨ (b = H.length ∧ k = ⟨d, .ro⟩) := by
    intro b k hk
    rcases Nat.lt_or_ge b H.length with g | g
    · rw [List.getElem?_append_left g] at hk; exact .inl ⟨g, hk⟩
    · rw [List.getElem?_append_right g] at hk
      cases e : b - H.length with
      | zero => rw [e] at hk; simp at hk; exact .inr ⟨by omega, hk.symm⟩
      | succ j => rw [e] at hk; simp at hk
  have hown : ∀ c, Own β2 (H ++ [⟨d, .ro⟩]) c → Own β H c := by
    rintro c ⟨b, k, L, k1, k2, k3, k4⟩
    rcases hget b k k1 with ⟨h1, h2⟩ | ⟨rfl, rfl⟩
    · exact ⟨b, k, L, h2, k2, by rw [← hold b h1]; exact k3, k4⟩
    · cases k2
  refine ⟨β2, ⟨fun b k hk hal => ?_, fun b b' k k' L L' hne hk hk' ho hal hL hL' => ?_, fun b L hL => ?_, hH.glob, fun b k L hk ho hL g lg hg => ?_⟩, ⟨hle, by simp, rfl, rfl, rfl, Nat.le_refl _, fun _ _ _ => rfl, fun c _ ho => hown c ho, hold⟩, hnew, hown⟩
  · rcases hget b k hk with ⟨h1, h2⟩ | ⟨rfl, rfl⟩
    · rcases hH.blk b k h2 hal with ⟨L, hL, hb⟩ | ⟨g1, g2⟩
      · exact .inl ⟨L, hle b L hL, hb.mono hle (Nat.le_refl _) rfl⟩
      · exact .inr ⟨g1, by rw [hold b h1]; exact g2⟩
    · rcases hH.blk i _ hi hra with ⟨L, hL, hb⟩ | ⟨g1, g2⟩
      · exact .inl ⟨L, hnew.trans hL, hb.mono hle (Nat.le_refl _) rfl⟩
      · exact .inr ⟨g1, hnew.trans g2⟩
  · rcases hget b k hk with ⟨h1, h2⟩ | ⟨rfl, rfl⟩
    · rw [hold b h1] at hL
      rcases hget b' k' hk' with ⟨h1', h2'⟩ | ⟨rfl, rfl⟩
      · rw [hold b' h1'] at hL'
        exact hH.dis b b' k k' L L' hne h2 h2' ho hal hL hL'
      · rw [hnew] at hL'
        refine hH.dis b i k _ L L' (fun e => ?_) h2 hi ho hra hL hL'
        subst e
        rw [hi] at h2; injection h2 with h2; subst h2; cases ho
    · cases ho
  · have hL : (if b = H.length then β i else β b) = some L := hL
    rw [List.length_append, List.length_singleton]
    split at hL
    · omega
    · have := hH.dom b L hL; omega
  · rcases hget b k hk with ⟨h1, h2⟩ | ⟨rfl, rfl⟩
    · rw [hold b h1] at hL
      exact hH.apart b k L h2 ho hL g lg hg
    · cases ho
theorem VRel.alias {β' : Map} {b b' : Nat} {o l : N} {cap : Option N} {v : Value} (h : VRel β (.sl b o l cap) v) (e : β' b' = β b) : VRel β' (.sl b' o l cap) v := by
  cases h with
  | sl _ _ _ _ a cp h1 h2 h3 =>
    refine .sl b' o l cap a cp h1 h2 ?_
    rcases h3 with h3 | ⟨L, g1, g2⟩
    · exact .inl h3
    · exact .inr ⟨L, e.trans g1, g2⟩
theorem FRel.var {nv nt : Nat} {F : Fr} {a : Act} {t : Nat} {x : AV} (h : FRel nv nt β F a) (ht : t < nv) (hl : t < F.vars.length) (hx : VRel β x (a.tmps.getD t undef)) : FRel nv nt β { F with vars := F.vars.set t x } a := by
  refine ⟨fun s => ?_, h.size, h.defers⟩
  by_cases e : s = t
  · subst e
    have hb : Nat.blt s nv = true := by simpa using ht
    simp only [Fr.get, hb, lget_eq, List.getElem?_set_self hl]
    exact hx
  · have := h.val s
    simp only [Fr.get] at this ⊢
    cases hb : Nat.blt s nv with
    | false => rw [hb] at this; exact this
    | true =>
      rw [hb] at this
      simp only [lget_eq] at this ⊢
      rw [List.getElem?_set_ne (Ne.symm e)]
      exact this
end Go.Eng
/- The two loops over rows that are kept, told; contracts that are shown otherwise than by one run. -/
namespace Go.Eng
set_option linter.unusedSectionVars false
set_option linter.unusedSimpArgs false
set_option linter.unusedVariables false
variable [RowAddr]
variable {P : Program} {G : Nat → Option (List AV)} {nv nt : Nat}

theorem Stq.step {n0 n1 : Nat} {β0 β β' : Map} {H0 H H' : List Blk} {w0 w w' : World} (h : Stq n0 β0 H0 w0 β H w) (k : Stq n1 β H w β' H' w') (hn : n0 ≤ n1) : Stq n0 β0 H0 w0 β' H' w' where
  le := Map.le_trans h.le k.le
  len := Nat.le_trans hn k.len
  os := k.os.trans h.os
  tape := k.tape.trans h.tape
  output := k.output.trans h.output
  size := Nat.le_trans h.size k.size
  kept c hc hn := (k.kept c (Nat.lt_of_lt_of_le hc h.size) (fun ho => hn (h.own c hc ho))).trans (h.kept c hc hn)
  own c hc ho := h.own c hc (k.own c (Nat.lt_of_lt_of_le hc h.size) ho)
  old b hb := (k.old b (Nat.lt_of_lt_of_le hb hn)).trans (h.old b hb)
/-- A state that another one says less of: what is needed of it, and no more. -/
theorem weaker {n0 n1 : Nat} {βB β β2 : Map} {HB H H2 : List Blk} {wB w w2 : World} {rs : Option (List Nat)} {p : Fr × List Blk} {F2 : Fr} {a2 : Act}
    (hS : Stq n0 βB HB wB β H w) (hdB : ∀ b L, βB b = some L → b < n0) (hn : n0 ≤ n1) (hlen : n1 ≤ H2.length)
    (r3 : wkF rs p.1 F2 = some p.1) (r4 : wkH n1 [] rs p.2 H2 = some p.2) (q1 : FRel nv nt β2 F2 a2) (q2 : HRel G β2 H2 w2) (q3 : Stp β H w β2 H2 w2) :
    ∃ β3, FRel nv nt β3 p.1 a2 ∧ HRel G β3 p.2 w2 ∧ Stq n0 βB HB wB β3 p.2 w2 ∧ (∀ c, Own β3 p.2 c → Own β2 H2 c) ∧ (∀ b, b < n1 → β3 b = β2 b) := by
  obtain ⟨β3, p1, p2, p3, p4, p5⟩ := wk_ok (n0 := n1) (gh := []) (by simp) r4 hlen q2
  exact ⟨β3, wkF_rel p5 r3 q1, p1, (hS.trans q3).wk hdB (fun b hb => p2 b (by omega)) (by omega) p4, p4, p2⟩

/-- The loop that keeps rows. -/
structure KeepL (D : Type) where
  n0 : Nat
  a : Nat
  r : Nat
  st : D → List Value → Fr × List Blk
  mid : D → List Value → Fr × List Blk
  fin : D → List Value → Fr × List Blk
  row : D → Data
  cnt : D → Nat
  next : D → D
  rem : D → Nat
  good : D → Bool
  out : Out
theorem KeepL.told {D : Type} (T : KeepL D) {b : Code} {f : Fr → St → Option (Out × Fr × St)} (hb : RunOk P G nv nt b f) (hout : T.out = .normal → False)
    (hmid : ∀ d l, T.good d = true → (∃ n : N, n.v = (T.row d).len ∧ (T.mid d l).2[T.a]? = some ⟨.kn l [.ref (.sl T.r (.c 0) n none)], .own⟩) ∧ (T.mid d l).2[T.r]? = some ⟨T.row d, .ro⟩ ∧ WordD (T.row d) ∧ 0 < (T.row d).len)
    (hlen : ∀ d l, T.n0 ≤ (T.st d l).2.length ∧ T.n0 ≤ (T.mid d l).2.length)
    (hback : ∀ d l v, ∃ rs, wkF rs (T.st (T.next d) (l ++ [v])).1 (T.mid d l).1 = some (T.st (T.next d) (l ++ [v])).1 ∧ wkH T.n0 [] rs (T.st (T.next d) (l ++ [v])).2 ((T.mid d l).2.set T.a ⟨.kn (l ++ [v]) [], .own⟩) = some (T.st (T.next d) (l ++ [v])).2)
    (hround : ∀ d l k, T.good d = true → l.length = T.cnt d → T.rem d = k + 1 → T.cnt (T.next d) = T.cnt d + 1 ∧ (∃ dec rs cs, ranAs T.n0 rs (T.mid d l) (f (T.st d l).1 ⟨(T.st d l).2, big, dec, []⟩) = some (.normal, T.mid d l, cs) ∧ (∀ x ∈ cs, x = true)) ∧ T.good (T.next d) = true ∧ T.rem (T.next d) = k)
    (hend : ∀ d l, T.good d = true → T.rem d = 0 → ∃ dec rs cs, ranAs T.n0 rs (T.fin d l) (f (T.st d l).1 ⟨(T.st d l).2, big, dec, []⟩) = some (T.out, T.fin d l, cs) ∧ (∀ x ∈ cs, x = true))
    {βB β : Map} {HB : List Blk} {wB w : World} {a : Act} (d : D) (hgood : T.good d = true) (hcnt0 : T.cnt d = 0) (hdB : ∀ b L, βB b = some L → b < T.n0)
    (hF0 : FRel nv nt β (T.st d []).1 a) (hH0 : HRel G β (T.st d []).2 w) (hS0 : Stq T.n0 βB HB wB β (T.st d []).2 w) (Q : Exit → Act → World → Prop)
    (hQ : ∀ a' w' β' l, l.length = T.rem d → FRel nv nt β' (T.fin (iter T.next (T.rem d) d) l).1 a' → HRel G β' (T.fin (iter T.next (T.rem d) d) l).2 w' → Stq T.n0 βB HB wB β' (T.fin (iter T.next (T.rem d) d) l).2 w' →
      Fam β' (T.fin (iter T.next (T.rem d) d) l).2 w' l (fun K => T.row (iter T.next K d)) → Q T.out.ex a' w') : (Code.loop b).wp P Q a w := by
  refine lwp_wp (lwp_loop_n (fun n a' w' => ∃ d' β' l, n = T.rem d' ∧ T.good d' = true ∧ d' = iter T.next l.length d ∧ l.length + n = T.rem d ∧ l.length = T.cnt d' ∧ FRel nv nt β' (T.st d' l).1 a' ∧ HRel G β' (T.st d' l).2 w' ∧
      Stq T.n0 βB HB wB β' (T.st d' l).2 w' ∧ Fam β' (T.st d' l).2 w' l (fun K => T.row (iter T.next K d)))
    (n := T.rem d) ⟨d, β, [], rfl, hgood, rfl, by simp, hcnt0.symm, hF0, hH0, hS0, fun K v h => by simp at h⟩ ?_)
  rintro n a' w' ⟨d', β', l, rfl, hgd, hit, hcnt, hlc, hF', hH', hS', hfam⟩
  cases hr : T.rem d' with
  | zero =>
    obtain ⟨dec, rs, cs, e0, e1⟩ := hend d' l hgd hr
    obtain ⟨F2, S2, r1, r3, r4, r5⟩ := ranAs_inv e0
    obtain ⟨x1, x2⟩ := hb _ _ _ _ _ r1
    refine x2 (fun x hx => e1 x (by rw [← r5]; exact hx)) β' a' w' hF' hH' _ fun a2 w2 β2 q1 q2 q3 => ?_
    have hl2 : T.n0 ≤ S2.H.length := by have := x1.len; have := (hlen d' l).1; simp only at *; omega
    obtain ⟨β3, z1, z2, z3, z4, z5⟩ := weaker hS' hdB (Nat.le_refl _) hl2 r3 r4 q1 q2 q3
    have e : T.fin (iter T.next (T.rem d) d) l = T.fin d' l := by rw [hit, show T.rem d = l.length by omega]
    have hfin := hQ a2 w2 β3 l (by omega) (by rw [e]; exact z1) (by rw [e]; exact z2) (by rw [e]; exact z3) (by rw [e]; exact hfam.keep ((Keeps.of q3).less z4))
    cases ho : T.out with
    | normal => exact absurd ho hout
    | exit i => rw [ho] at hfin; exact hfin
    | ret => rw [ho] at hfin; exact hfin
  | succ k =>
    obtain ⟨g2, ⟨dec, rs, cs, e0, e1⟩, g3, g4⟩ := hround d' l k hgd hlc hr
    obtain ⟨F2, S2, r1, r3, r4, r5⟩ := ranAs_inv e0
    obtain ⟨x1, x2⟩ := hb _ _ _ _ _ r1
    refine x2 (fun x hx => e1 x (by rw [← r5]; exact hx)) β' a' w' hF' hH' _ fun a2 w2 β2 q1 q2 q3 => ?_
    have hl2 : T.n0 ≤ S2.H.length := by have := x1.len; have := (hlen d' l).1; simp only at *; omega
    obtain ⟨β3, z1, z2, z3, z4, z5⟩ := weaker hS' hdB (Nat.le_refl _) hl2 r3 r4 q1 q2 q3
    have hfam3 := hfam.keep ((Keeps.of q3).less z4)
    obtain ⟨⟨nn, mn, m1⟩, m2, m3, m4⟩ := hmid d' l hgd
    obtain ⟨v, s1, s2, s3⟩ := kn_more z2 m1 m2 mn m4 m3
    obtain ⟨rs2, t1, t2⟩ := hback d' l v
    have hl3 : T.n0 ≤ ((T.mid d' l).2.set T.a ⟨.kn (l ++ [v]) [], .own⟩).length := by rw [List.length_set]; exact (hlen d' l).2
    have hS3 : Stq T.n0 βB HB wB β3 ((T.mid d' l).2.set T.a ⟨.kn (l ++ [v]) [], .own⟩) w2 :=
      z3.wk hdB (fun _ _ => rfl) hl3 (fun c hc => (s2 c).1 hc)
    obtain ⟨β4, y1, y2, y3, y4, y5⟩ := weaker hS3 hdB (Nat.le_refl _) hl3 t1 t2 z1 s1 (Stp.refl ..)
    refine ⟨k, Nat.lt_succ_self k, T.next d', β4, l ++ [v], g4.symm, g3, ?_, by simp; omega, by simp; omega, y1, y2, y3, ?_⟩
    · rw [List.length_append, List.length_singleton, iter_succ, ← hit]
    · refine Fam.keep (hfam3.more (v := v) ?_) ⟨Nat.le_refl _, fun _ _ _ => rfl, fun c _ ho => (s2 c).1 (y4 c ho)⟩
      rw [← hit]; exact s3

/-- A block forgotten behind a run. -/
def dropA (a : Nat) (r : Option (Out × Fr × St)) : Option (Out × Fr × St) :=
  match r with
  | none => none
  | some (o, F, S) => some (o, F, { S with H := lset ⟨.gen [], .dead⟩ a S.H })
theorem dropA_inv {a : Nat} {r : Option (Out × Fr × St)} {o : Out} {F : Fr} {S : St} (h : dropA a r = some (o, F, S)) : ∃ S1, r = some (o, F, S1) ∧ S.H = S1.H.set a ⟨.gen [], .dead⟩ ∧ S.cond = S1.cond := by
  unfold dropA at h
  split at h
  · cases h
  · simp only [Option.some.injEq, Prod.mk.injEq] at h
    obtain ⟨rfl, rfl, rfl⟩ := h
    exact ⟨_, rfl, lset_eq _ _ _, rfl⟩
/-- The loop that takes up one of the rows in each round. -/
structure PickL (D : Type) where
  n1 : Nat
  a : Nat
  st : D → Fr × List Blk
  up : D → List Blk
  key : D → Nat
  len : D → Nat
  fam : D → Nat → Data
  fin : D → Fr × List Blk
  next : D → D
  rem : D → Nat
  good : D → Bool
  out : Out
theorem PickL.told {D : Type} (T : PickL D) {b : Code} {f : Fr → St → Option (Out × Fr × St)} (hb : RunOk P G nv nt b f) (hout : T.out = .normal → False) (ha : T.a < T.n1)
    (hst : ∀ d, (∃ x, (T.st d).2[T.a]? = some ⟨x, .dead⟩) ∧ T.n1 ≤ (T.st d).2.length ∧ (T.good d = true → ∃ n : N, n.v = (T.fam d (T.key d)).len ∧ T.up d = (T.st d).2.set T.a ⟨.spot (T.len d) (T.key d) (.sl (T.st d).2.length (.c 0) n none), .ro⟩ ++ [⟨T.fam d (T.key d), .ro⟩]))
    (hround : ∀ d k, T.good d = true → T.rem d = k + 1 → (∃ dec rs cs, ranAs T.n1 rs (T.st (T.next d)) (dropA T.a (f (T.st d).1 ⟨T.up d, big, dec, []⟩)) = some (.normal, T.st (T.next d), cs) ∧ (∀ x ∈ cs, x = true)) ∧ T.key d < T.len d ∧ T.good (T.next d) = true ∧ T.rem (T.next d) = k ∧
      T.fam (T.next d) = T.fam d ∧ T.len (T.next d) = T.len d)
    (hend : ∀ d, T.good d = true → T.rem d = 0 → ∃ dec rs cs, ranAs T.n1 rs (T.fin d) (f (T.st d).1 ⟨(T.st d).2, big, dec, []⟩) = some (T.out, T.fin d, cs) ∧ (∀ x ∈ cs, x = true))
    {n0 : Nat} (hn : n0 ≤ T.n1) {βB β : Map} {HB : List Blk} {wB w : World} {a : Act} (d : D) (hgood : T.good d = true) (hdB : ∀ b L, βB b = some L → b < n0) {l : List Value} (hl : l.length = T.len d)
    (hF0 : FRel nv nt β (T.st d).1 a) (hH0 : HRel G β (T.st d).2 w) (hS0 : Stq n0 βB HB wB β (T.st d).2 w) (hk0 : KeptAt β (T.st d).2 w T.a l) (hf0 : ∀ K, K < l.length → ∀ v, l[K]? = some v → RowAt β (T.st d).2 w v (T.fam d K)) (Q : Exit → Act → World → Prop)
    (hQ : ∀ a' w' β', FRel nv nt β' (T.fin (iter T.next (T.rem d) d)).1 a' → HRel G β' (T.fin (iter T.next (T.rem d) d)).2 w' → Stq n0 βB HB wB β' (T.fin (iter T.next (T.rem d) d)).2 w' → Q T.out.ex a' w') : (Code.loop b).wp P Q a w := by
  refine lwp_wp (lwp_loop_n (fun n a' w' => ∃ d' β', n = T.rem d' ∧ T.good d' = true ∧ iter T.next (T.rem d') d' = iter T.next (T.rem d) d ∧ T.fam d' = T.fam d ∧ T.len d' = T.len d ∧ FRel nv nt β' (T.st d').1 a' ∧ HRel G β' (T.st d').2 w' ∧
      Stq n0 βB HB wB β' (T.st d').2 w' ∧ KeptAt β' (T.st d').2 w' T.a l ∧ Fam β' (T.st d').2 w' l (T.fam d))
    (n := T.rem d) ⟨d, β, rfl, hgood, rfl, rfl, rfl, hF0, hH0, hS0, hk0, fun K v hv => hf0 K (List.getElem?_eq_some_iff.1 hv).1 v hv⟩ ?_)
  rintro n a' w' ⟨d', β', rfl, hgd, hit, hfe, hle, hF', hH', hS', hk', hf'⟩
  obtain ⟨⟨x, hx⟩, hn1, hup0⟩ := hst d'
  obtain ⟨nn, hnn, hup⟩ := hup0 hgd
  cases hr : T.rem d' with
  | zero =>
    obtain ⟨dec, rs, cs, e0, e1⟩ := hend d' hgd hr
    obtain ⟨F2, S2, r1, r3, r4, r5⟩ := ranAs_inv e0
    obtain ⟨x1, x2⟩ := hb _ _ _ _ _ r1
    refine x2 (fun x hx => e1 x (by rw [← r5]; exact hx)) β' a' w' hF' hH' _ fun a2 w2 β2 q1 q2 q3 => ?_
    have hl2 : T.n1 ≤ S2.H.length := by have := x1.len; simp only at *; omega
    obtain ⟨β3, z1, z2, z3, z4, z5⟩ := weaker hS' hdB hn hl2 r3 r4 q1 q2 q3
    have e : T.fin (iter T.next (T.rem d) d) = T.fin d' := by rw [← hit, hr]; rfl
    have hfin := hQ a2 w2 β3 (by rw [e]; exact z1) (by rw [e]; exact z2) (by rw [e]; exact z3)
    cases ho : T.out with
    | normal => exact absurd ho hout
    | exit i => rw [ho] at hfin; exact hfin
    | ret => rw [ho] at hfin; exact hfin
  | succ k =>
    obtain ⟨⟨dec, rs, cs, e0, e1⟩, hkey, g3, g4, g5, g6⟩ := hround d' k hgd hr
    have hkl : T.key d' < l.length := by omega
    obtain ⟨β1, u1, u2⟩ := kn_spot (K := T.key d') (d := T.fam d (T.key d')) (n := nn) (by rw [← hfe]; exact hnn) hH' hx hk' (List.getElem?_eq_getElem hkl) (hf' _ _ (List.getElem?_eq_getElem hkl))
    have eup : T.up d' = (T.st d').2.set T.a ⟨.spot l.length (T.key d') (.sl (T.st d').2.length (.c 0) nn none), .ro⟩ ++ [⟨T.fam d (T.key d'), .ro⟩] := by
      rw [hup, hfe, show T.len d' = l.length by omega]
    rw [← eup] at u1 u2
    obtain ⟨F2, S2, r1', r3, r4, r5⟩ := ranAs_inv e0
    obtain ⟨S1, r1, r6, r7⟩ := dropA_inv r1'
    obtain ⟨x1, x2⟩ := hb _ _ _ _ _ r1
    refine x2 (fun x hx => e1 x (by rw [← r5, r7]; exact hx)) β1 a' w' (hF'.mono u2.le) u1 _ fun a2 w2 β2 q1 q2' q3 => ?_
    have q2 : HRel G β2 S2.H w2 := by rw [r6]; exact q2'.kill T.a _
    have hl2 : T.n1 ≤ S2.H.length := by
      have h1 := x1.len
      have h2 := u2.len
      rw [r6, List.length_set]
      simp only at h1; omega
    have q3' : Stp β' (T.st d').2 w' β2 S2.H w2 := by rw [r6]; exact (u2.trans q3).trans (Stp.kill T.a _)
    obtain ⟨β3, z1, z2, z3, z4, z5⟩ := weaker hS' hdB hn hl2 r3 r4 q1 q2 q3'
    have hke := (Keeps.of q3').less z4
    refine ⟨k, Nat.lt_succ_self k, T.next d', β3, g4.symm, g3, ?_, g5.trans hfe, g6.trans hle, z1, z2, z3, hk'.keep hke ?_, hf'.keep hke⟩
    · rw [← hit, hr, g4]; rfl
    · rw [z5 _ ha, q3'.old _ (by omega)]

/-- Some code run once within a body. -/
theorem RunOk.step {c : Code} {f : Fr → St → Option (Out × Fr × St)} (hb : RunOk P G nv nt c f) {n0 n1 : Nat} {p : Fr × List Blk} {F : Fr} {H : List Blk} {dec cs : List Bool} {rs : Option (List Nat)} {o : Out}
    (hr : ranAs n1 rs p (f F ⟨H, big, dec, []⟩) = some (o, p, cs)) (hcs : ∀ x ∈ cs, x = true) (hn : n0 ≤ n1) (hlen : n1 ≤ H.length)
    {βB β : Map} {HB : List Blk} {wB w : World} {a : Act} (hdB : ∀ b L, βB b = some L → b < n0) (hF : FRel nv nt β F a) (hH : HRel G β H w) (hS : Stq n0 βB HB wB β H w) {Q : Exit → Act → World → Prop}
    (hQ : ∀ a' w' β', FRel nv nt β' p.1 a' → HRel G β' p.2 w' → Stq n0 βB HB wB β' p.2 w' → Keeps β H w β' p.2 w' → (∀ b, b < n1 → β' b = β b) → Q o.ex a' w') : c.wp P Q a w := by
  obtain ⟨F2, S2, r1, r3, r4, r5⟩ := ranAs_inv hr
  obtain ⟨x1, x2⟩ := hb _ _ _ _ _ r1
  refine x2 (fun x hx => hcs x (by rw [← r5]; exact hx)) β a w hF hH _ fun a2 w2 β2 q1 q2 q3 => ?_
  have hl2 : n1 ≤ S2.H.length := by have := x1.len; simp only at *; omega
  obtain ⟨β3, z1, z2, z3, z4, z5⟩ := weaker hS hdB hn hl2 r3 r4 q1 q2 q3
  exact hQ a2 w2 β3 z1 z2 z3 ((Keeps.of q3).less z4) (fun b hb => (z5 b hb).trans (q3.old b (show b < H.length by omega)))
/-! Some code within a function's body. -/
def sub : List Bool → Code → Code
  | [], c => c
  | s :: p, c =>
    match c with
    | .seq a b =>
      match s with
      | false => sub p a
      | true => sub p b
    | .block _ b => sub p b
    | .loop b => sub p b
    | _ => .skip
theorem sub_in : ∀ (p : List Bool) (c : Code), (∀ (dyn : Nat → Bool) (n : Nat), codeOk P nt dyn n c = true → ∃ m, codeOk P nt dyn m (sub p c) = true) ∧ ∀ k, ∀ b ∈ loopsOf k (sub p c), ∃ k', b ∈ loopsOf k' c
  | [], c => ⟨fun dyn n h => ⟨n, h⟩, fun k b h => ⟨k, h⟩⟩
  | s :: p, c => by
    have triv : (∀ (dyn : Nat → Bool) (n : Nat), codeOk P nt dyn n c = true → ∃ m, codeOk P nt dyn m (.skip : Code) = true) ∧ ∀ k, ∀ b ∈ loopsOf k (.skip : Code), ∃ k', b ∈ loopsOf k' c :=
      ⟨fun _ _ _ => ⟨1, rfl⟩, fun k b h => by cases k <;> simp [loopsOf] at h⟩
    cases c with
    | seq x y =>
      cases s with
      | false =>
        obtain ⟨h1, h2⟩ := sub_in p x
        refine ⟨fun dyn n h => ?_, fun k b hb => ?_⟩
        · cases n with
          | zero => simp [codeOk] at h
          | succ n =>
            simp only [codeOk] at h
            split at h
            · rename_i hx; exact h1 dyn n hx
            · cases h
        · obtain ⟨k', hk⟩ := h2 k b hb
          exact ⟨k' + 1, by simp [loopsOf, hk]⟩
      | true =>
        obtain ⟨h1, h2⟩ := sub_in p y
        refine ⟨fun dyn n h => ?_, fun k b hb => ?_⟩
        · cases n with
          | zero => simp [codeOk] at h
          | succ n =>
            simp only [codeOk] at h
            split at h
            · exact h1 dyn n h
            · cases h
        · obtain ⟨k', hk⟩ := h2 k b hb
          exact ⟨k' + 1, by simp [loopsOf, hk]⟩
    | block i x =>
      obtain ⟨h1, h2⟩ := sub_in p x
      refine ⟨fun dyn n h => ?_, fun k b hb => ?_⟩
      · cases n with
        | zero => simp [codeOk] at h
        | succ n => exact h1 dyn n (by simpa only [codeOk] using h)
      · obtain ⟨k', hk⟩ := h2 k b hb
        exact ⟨k' + 1, by simp [loopsOf, hk]⟩
    | loop x =>
      obtain ⟨h1, h2⟩ := sub_in p x
      refine ⟨fun dyn n h => ?_, fun k b hb => ?_⟩
      · cases n with
        | zero => simp [codeOk] at h
        | succ n => exact h1 dyn n (by simpa only [codeOk] using h)
      · obtain ⟨k', hk⟩ := h2 k b hb
        exact ⟨k' + 1, by simp [loopsOf, hk]⟩
    | _ => exact triv
theorem exec_sub {C : Cfg} (hG : C.glob = G) {call : CallF} (hcall : CallOk C.P G call) (hm : MethOk C.P C.meth) (hmix : C.P.follows .mixedOrders = true) (hl : LoopsOk C G) {f : FuncId} (hf : fnOk C f = true) (fuel : Nat) (p : List Bool) :
    RunOk C.P G (C.nv f) (ntmpsIn C.P f) (sub p (bodyIn C.P f)) (exec C fuel (sub p (bodyIn C.P f)) ⟨call, C.nv f, C.keep f, C.dyn f, C.loop f⟩) := by
  unfold fnOk at hf
  unfold ntmpsIn bodyIn
  split at hf
  · cases hf
  rename_i fn hfn
  split at hf
  · cases hf
  rename_i c hc
  split at hf
  · cases hf
  simp only [hfn, hc]
  obtain ⟨h1, h2⟩ := sub_in (P := C.P) (nt := fn.ntmps) p c
  obtain ⟨m, hm'⟩ := h1 _ _ hf
  exact exec_ok (C := C) (G := G) (nt := fn.ntmps) hG (E := ⟨call, C.nv f, C.keep f, C.dyn f, C.loop f⟩) hcall hm hmix fuel m _ hm' (fun k b hb sp hsp => by
    obtain ⟨k', hk⟩ := h2 k b hb
    exact hl f fn c hfn hc k' b hk sp hsp)

/-! A call by what its body is shown to do. -/
def nameIn (P : Program) (f : FuncId) : Bool :=
  match P.funcs[f]? with
  | some fn =>
    match fn.body with
    | some _ => !(fn.name == "runtime.NumGoroutine")
    | none => false
  | none => false
def resIn (P : Program) (f : FuncId) : List ResultVar :=
  match P.funcs[f]? with
  | some fn => fn.results.toList
  | none => []
theorem calls_body {C : Cfg} (hG : C.glob = G) {f : FuncId} (hname : nameIn C.P f = true) {args : List AV} {β : Map} {w : World} {us : List Value} (hargs : LRel β args us) (hsz : args.length ≤ ntmpsIn C.P f)
    {R : Ending → World → Prop}
    (h : ∀ a, FRel (C.nv f) (ntmpsIn C.P f) β ⟨args ++ List.replicate (C.nv f - args.length) .undef, []⟩ a → (bodyIn C.P f).wp C.P (fun e a' w' => e = .ret ∧ ∃ F1 S1 S2 vs β', resultVals C (C.nv f) F1 S1 (resIn C.P f) = some (vs, S2) ∧ S2.ok ∧ FRel (C.nv f) (ntmpsIn C.P f) β' F1 a' ∧ HRel G β' S1.H w' ∧
      ∀ u, VRel β' (resultVal vs) u → R (.returned u) w') a w) :
    (∃ fn, C.P.funcs[f]? = some fn ∧ (fn.name == "runtime.NumGoroutine") = false ∧ fn.body.isSome = true) ∧ Calls C.P f ⟨us⟩ w R := by
  unfold nameIn at hname
  split at hname
  case h_2 => cases hname
  rename_i fn hf
  split at hname
  case h_2 => cases hname
  rename_i c hc
  have e1 : bodyIn C.P f = c := by simp only [bodyIn, hf, hc]
  have e2 : ntmpsIn C.P f = fn.ntmps := by simp only [ntmpsIn, hf]
  have e3 : resIn C.P f = fn.results.toList := by simp only [resIn, hf]
  rw [e2] at hsz
  simp only [e1, e2, e3] at h
  refine ⟨⟨fn, hf, by simpa using hname, by simp [hc]⟩, calls_of_wp hf hc ?_⟩
  have hlen : us.length ≤ fn.ntmps := by rw [← hargs.1]; exact hsz
  refine wp_mono (h { tmps := (⟨us⟩ : Array Value) ++ Array.replicate (fn.ntmps - (⟨us⟩ : Array Value).size) undef, defers := [] } ⟨fun t => ?_, ?_, rfl⟩) fun e a' w' hq => ?_
  · simp only [Fr.get]
    cases hb : Nat.blt t (C.nv f) with
    | false => exact .undef _
    | true =>
      simp only [lget_eq]
      rcases Nat.lt_or_ge t args.length with ht | ht
      · have htu : t < us.length := by rw [← hargs.1]; exact ht
        rw [List.getElem?_append_left ht, List.getElem?_eq_getElem ht]
        simp only
        have e : ((⟨us⟩ : Array Value) ++ Array.replicate (fn.ntmps - (⟨us⟩ : Array Value).size) undef).getD t undef = us[t] := by
          simp [Array.getD_eq_getD_getElem?, Array.getElem?_append, htu]
        rw [e]
        exact hargs.2 t _ _ (List.getElem?_eq_getElem ht) (List.getElem?_eq_getElem htu)
      · rw [List.getElem?_append_right ht]
        split
        · rename_i x hx
          rw [List.getElem?_replicate] at hx
          split at hx
          · injection hx with hx; subst hx; exact .undef _
          · cases hx
        · exact .undef _
  · simp; omega
  · obtain ⟨rfl, F1, S1, S2, vs, β', hr, hok, q1, q2, hR⟩ := hq
    obtain ⟨p1, p2⟩ := resultVals_ok (nt := fn.ntmps) hG _ _ _ _ hr
    obtain ⟨us', r1, r2⟩ := p2 hok β' a' w' q1 q2
    have hrun : (results fn a'.tmps).run C.P w' = .ok (if h : (⟨us'⟩ : Array Value).size = 1 then (⟨us'⟩ : Array Value)[0] else .tuple ⟨us'⟩) w' := by
      rw [results_eq, Array.mapM_eq_mapM_toList (m := Sem)]
      simp [r1]
    exact ⟨q1.defers, _, hrun, hR _ (resultVal_rel r2)⟩
/-- A contract, shown as it stands. -/
theorem Ct.sem {D : Type} (c : Ct D) {f : FuncId} (hread : ∀ a K d, c.read a K = some d → a = c.args d ∧ K = c.heap d)
    (hsem : ∀ d, c.good d = true → ∀ β w vs, LRel β (c.args d) vs → HRel G β (c.heap d) w → (∀ b L, β b = some L → b < (c.heap d).length) →
      (∃ fn, P.funcs[f]? = some fn ∧ (fn.name == "runtime.NumGoroutine") = false ∧ fn.body.isSome = true) ∧
      Calls P f ⟨vs⟩ w fun e w' => ∃ u β', e = .returned u ∧ VRel β' (c.val d) u ∧ HRel G β' (c.out d) w' ∧ Stq (c.heap d).length β (c.heap d) w β' (c.out d) w') : SpecOk P G f c.spec := by
  intro args H dec r hr
  unfold Ct.spec at hr
  split at hr
  · cases hr
  rename_i a ha
  split at hr
  · cases hr
  rename_i K hK
  split at hr
  · cases hr
  rename_i d hd
  split at hr
  · cases hr
  rename_i R hR
  injection hr with hr; subst hr
  obtain ⟨rfl, rfl⟩ := hread a K d hd
  refine ⟨fun i k hk hm => ?_, fun hcond β w vs hargs hH => ?_⟩
  · rcases (mergeH_spec hR).2.2.2 i k hk with ⟨_, h2, _⟩ | ⟨h1, _⟩
    · exact absurd hm h2
    · exact ⟨k, h1, hm⟩
  · obtain ⟨i1, i2, i3⟩ := wk_in (gh := []) (by simp) hH (by rw [List.append_nil]; exact hK)
    have hargs' : LRel β (c.args d) vs := by
      refine wkL_rel (β := β) (rs := none) (fun p x y v hy hx => ?_) ha hargs
      unfold wkV at hy
      split at hy
      · injection hy with hy; subst hy; exact .undef _
      · exact cV_ok hx hy
    have hlen : (c.heap d).length = H.length := (cH_again _ _ _ hK).2
    obtain ⟨hf, hcalls⟩ := hsem d (hcond _ (List.mem_singleton.2 rfl)) β w vs hargs' i1 (fun b L hL => i1.dom b L hL)
    refine ⟨hf, hcalls.mono ?_⟩
    rintro e w' ⟨u, β2, rfl, q1, q2, q3⟩
    rw [hlen] at q3
    obtain ⟨z1, z2⟩ := merge_ok hH i1 i2 q2 q3 hR
    exact ⟨u, β2, rfl, q1, z1, z2⟩
end Go.Eng
