/- Contracts and loops that are told by a pattern: what is handed is weakened to the pattern's shape, and then read. -/
import Derived.Test.YtnonaagcnenbdaaEngD
namespace Go.Eng
set_option linter.unusedSimpArgs false
set_option linter.unusedVariables false

theorem cN_again (p x : N) : cN (cN p x) x = cN p x := by
  cases p <;> cases x <;> rfl
theorem cO_again : ∀ (p x : Option N), cO (cO p x) x = cO p x
  | none, _ => rfl
  | some p, some x => by simp only [cO, cN_again]
  | some p, none => rfl
mutual
theorem cV_refl : ∀ x : AV, cV x x = some x
  | .atom .undef => rfl
  | .atom (.bool (.c _)) => rfl
  | .atom (.bool (.s _)) => rfl
  | .atom (.str _) => rfl
  | .atom .nilp => rfl
  | .atom .nils => rfl
  | .atom .nili => rfl
  | .atom .nilf => rfl
  | .num (.int _ (.c _)) => rfl
  | .num (.int _ (.s _)) => rfl
  | .num (.w8 _) => rfl
  | .num (.w16 _) => rfl
  | .num (.w32 _) => rfl
  | .num (.w64 _) => rfl
  | .ref (.ptr b o) => by cases o <;> rfl
  | .ref (.gp b o) => rfl
  | .ref (.sl b o l none) => by cases o <;> cases l <;> rfl
  | .ref (.sl b o l (some c)) => by cases o <;> cases l <;> cases c <;> rfl
  | .agg xs => by simp only [cV, cL_refl xs]
  | .obj .tup xs => by simp only [cV, cL_refl xs]
  | .obj (.ifc _) xs => by simp only [cV]
  | .obj (.fn _ _) xs => by simp only [cV]
theorem cL_refl : ∀ xs : List AV, cL xs xs = some xs
  | [] => rfl
  | x :: xs => by simp only [cL, cV_refl x, cL_refl xs]
end
theorem cAtom_again {p : Atom} {x y : AV} (h : cAtom p x = some y) : cV y x = some y := by
  cases p with
  | undef =>
    simp only [cAtom, Option.some.injEq] at h; subst h; rfl
  | bool b =>
    cases b with
    | c _ =>
      simp only [cAtom, Option.some.injEq] at h; subst h; exact cV_refl _
    | s _ =>
      simp only [cAtom] at h
      split at h
      · injection h with h; subst h; rfl
      · cases h
  | _ => simp only [cAtom, Option.some.injEq] at h; subst h; exact cV_refl _
theorem cNum_again {p : Num} {x y : AV} (h : cNum p x = some y) : cV y x = some y := by
  cases p with
  | int _ z =>
    cases z with
    | c _ =>
      simp only [cNum, Option.some.injEq] at h; subst h; exact cV_refl _
    | s _ =>
      simp only [cNum] at h
      split at h
      · injection h with h; subst h; rfl
      · cases h
  | w8 _ =>
    simp only [cNum, Option.map_eq_some_iff] at h
    obtain ⟨v, hv, rfl⟩ := h
    simp only [cV, cNum, hv, Option.map_some]
  | w16 _ =>
    simp only [cNum, Option.map_eq_some_iff] at h
    obtain ⟨v, hv, rfl⟩ := h
    simp only [cV, cNum, hv, Option.map_some]
  | w32 _ =>
    simp only [cNum, Option.map_eq_some_iff] at h
    obtain ⟨v, hv, rfl⟩ := h
    simp only [cV, cNum, hv, Option.map_some]
  | w64 _ =>
    simp only [cNum, Option.map_eq_some_iff] at h
    obtain ⟨v, hv, rfl⟩ := h
    simp only [cV, cNum, hv, Option.map_some]
theorem cRef_again {p : Ref} {x y : AV} (h : cRef p x = some y) : cV y x = some y := by
  cases p with
  | ptr b o =>
    simp only [cRef] at h
    split at h
    · injection h with h; subst h
      simp only [cV, cRef, cN_again]
    · cases h
  | gp b o =>
    simp only [cRef, Option.some.injEq] at h; subst h; exact cV_refl _
  | sl b o l c =>
    simp only [cRef] at h
    split at h
    · injection h with h; subst h
      simp only [cV, cRef, cN_again, cO_again]
    · injection h with h; subst h
      simp only [cV, cRef, cN_again]
    · cases h
mutual
theorem cV_again : ∀ (p x y : AV), cV p x = some y → cV y x = some y
  | .atom p, x, y, h => cAtom_again h
  | .num p, x, y, h => cNum_again h
  | .ref p, x, y, h => cRef_again h
  | .agg ps, x, y, h => by
    simp only [cV] at h
    split at h
    · rename_i xs
      split at h
      · rename_i ys hys
        injection h with h; subst h
        simp only [cV, cL_again ps xs ys hys]
      · cases h
    · cases h
  | .obj t ps, x, y, h => by
    cases t with
    | tup =>
      simp only [cV] at h
      split at h
      · rename_i xs
        split at h
        · rename_i ys hys
          injection h with h; subst h
          simp only [cV, cL_again ps xs ys hys]
        · cases h
      · cases h
    | ifc _ => simp only [cV, Option.some.injEq] at h; subst h; exact cV_refl _
    | fn _ _ => simp only [cV, Option.some.injEq] at h; subst h; exact cV_refl _
theorem cL_again : ∀ (ps xs ys : List AV), cL ps xs = some ys → cL ys xs = some ys
  | [], [], ys, h => by simp only [cL, Option.some.injEq] at h; subst h; rfl
  | [], _ :: _, ys, h => by simp only [cL, reduceCtorEq] at h
  | p :: ps, [], ys, h => by simp only [cL, reduceCtorEq] at h
  | p :: ps, x :: xs, ys, h => by
    simp only [cL] at h
    split at h
    · cases h
    · rename_i y hy
      split at h
      · cases h
      · rename_i zs hzs
        injection h with h; subst h
        simp only [cL, cV_again p x y hy, cL_again ps xs zs hzs]
end
theorem cD_again {p d d' : Data} (h : cD p d = some d') : cD d' d = some d' := by
  cases p with
  | gen ps =>
    simp only [cD] at h
    split at h
    · simp only [Option.map_eq_some_iff] at h
      obtain ⟨l, hl, rfl⟩ := h
      simp only [cD, cL_again _ _ _ hl, Option.map_some]
    · cases h
  | b8 _ =>
    simp only [cD, Option.map_eq_some_iff] at h
    obtain ⟨l, hl, rfl⟩ := h
    simp only [cD, hl, Option.map_some]
  | b32 _ =>
    simp only [cD, Option.map_eq_some_iff] at h
    obtain ⟨l, hl, rfl⟩ := h
    simp only [cD, hl, Option.map_some]
  | b64 _ =>
    simp only [cD, Option.map_eq_some_iff] at h
    obtain ⟨l, hl, rfl⟩ := h
    simp only [cD, hl, Option.map_some]
theorem cB_again {p k k' : Blk} (h : cB p k = some k') : cB k' k = some k' := by
  obtain ⟨pd, pm⟩ := p
  obtain ⟨kd, km⟩ := k
  cases pm with
  | dead => simp only [cB, Option.some.injEq] at h; subst h; rfl
  | ro =>
    simp only [cB] at h
    split at h
    · cases h
    · rename_i hm
      split at h
      · rename_i d hd
        injection h with h; subst h
        simp only [cB, cD_again hd]
      · cases h
  | own =>
    simp only [cB] at h
    split at h
    · split at h
      · rename_i d hd
        injection h with h; subst h
        simp only [cB, cD_again hd]
      · cases h
    · cases h
theorem cH_again : ∀ (ps ks ks' : List Blk), cH ps ks = some ks' → cH ks' ks = some ks' ∧ ks'.length = ks.length
  | [], [], ys, h => by simp only [cH, Option.some.injEq] at h; subst h; exact ⟨rfl, rfl⟩
  | [], _ :: _, ys, h => by simp only [cH, reduceCtorEq] at h
  | p :: ps, [], ys, h => by simp only [cH, reduceCtorEq] at h
  | p :: ps, x :: xs, ys, h => by
    simp only [cH] at h
    split at h
    · cases h
    · rename_i y hy
      split at h
      · cases h
      · rename_i zs hzs
        injection h with h; subst h
        obtain ⟨h1, h2⟩ := cH_again ps xs zs hzs
        exact ⟨by simp only [cH, cB_again hy, h1], by simp only [List.length_cons, h2]⟩
theorem wkV_of {y x : AV} (h : cV y x = some y) : wkV none y x = some y := by
  unfold wkV
  split
  · rfl
  · exact h
theorem wkV_again {p x y : AV} (h : wkV none p x = some y) : wkV none y x = some y := by
  unfold wkV at h
  split at h
  · injection h with h; subst h; rfl
  · exact wkV_of (cV_again _ _ _ h)
theorem wkL_again : ∀ (ps xs ys : List AV), wkL none ps xs = some ys → wkL none ys xs = some ys
  | [], [], ys, h => by simp only [wkL, Option.some.injEq] at h; subst h; rfl
  | [], _ :: _, ys, h => by simp only [wkL, reduceCtorEq] at h
  | p :: ps, [], ys, h => by simp only [wkL, reduceCtorEq] at h
  | p :: ps, x :: xs, ys, h => by
    simp only [wkL] at h
    split at h
    · cases h
    · rename_i y hy
      split at h
      · cases h
      · rename_i zs hzs
        injection h with h; subst h
        simp only [wkL, wkV_again hy, wkL_again ps xs zs hzs]
theorem wkT_again (ts : List (Nat × AV)) : ∀ (ps ys : List (Nat × AV)), wkT none ts ps = some ys → wkT none ts ys = some ys
  | [], ys, h => by simp only [wkT, Option.some.injEq] at h; subst h; rfl
  | (t, p) :: ps, ys, h => by
    simp only [wkT] at h
    split at h
    · cases h
    · rename_i y hy
      split at h
      · cases h
      · rename_i zs hzs
        injection h with h; subst h
        simp only [wkT, wkV_again hy, wkT_again ts ps zs hzs]
theorem wkF_again {p F F' : Fr} (h : wkF none p F = some F') : wkF none F' F = some F' := by
  unfold wkF at h
  split at h
  · cases h
  · rename_i vs hvs
    split at h
    · cases h
    · rename_i ts hts
      injection h with h; subst h
      simp only [wkF, wkL_again _ _ _ hvs, wkT_again _ _ _ hts]

/-! Rows of words that stand as cells. -/
def sw8 (v : AV) : Option (BitVec 8) :=
  match v with
  | .num (.w8 x) => some x
  | _ => none
/-- So many words in a row, as cells. -/
def c8v (v : Vec 8) (n : Nat) : List AV := (List.range n).map fun i => .num (.w8 (v.l.getD i 0#8))
def rd8 (n : Nat) (xs : List AV) : Option (Vec 8) :=
  match mapOpt sw8 xs with
  | some l =>
    match Nat.beq l.length n with
    | true => some (Vec.of l)
    | false => none
  | none => none
theorem sw8_eq : ∀ {xs : List AV} {l : List (BitVec 8)}, mapOpt sw8 xs = some l → xs = l.map fun x => .num (.w8 x)
  | [], l, h => by simp [mapOpt] at h; subst h; rfl
  | x :: xs, l, h => by
    simp only [mapOpt] at h
    split at h
    · cases h
    · rename_i y hy
      split at h
      · cases h
      · rename_i ys hys
        injection h with h; subst h
        rw [sw8_eq hys]
        unfold sw8 at hy
        split at hy
        · injection hy with hy; subst hy; rfl
        · cases hy
theorem rd8_eq {n : Nat} {xs : List AV} {v : Vec 8} (h : rd8 n xs = some v) : xs = c8v v n ∧ v.n = n := by
  unfold rd8 at h
  split at h
  · rename_i l hl
    split at h
    · rename_i hn
      injection h with h; subst h
      have hn : l.length = n := by simpa using hn
      refine ⟨?_, hn⟩
      rw [sw8_eq hl]
      subst hn
      unfold c8v
      refine List.ext_getElem? fun i => ?_
      rw [List.getElem?_map, List.getElem?_map]
      rcases Nat.lt_or_ge i l.length with hi | hi
      · simp [hi, Vec.of]
      · simp [hi]
    · cases h
  · cases h
def sw32 (v : AV) : Option (BitVec 32) :=
  match v with
  | .num (.w32 x) => some x
  | _ => none
/-- So many words in a row, as cells. -/
def c32v (v : Vec 32) (n : Nat) : List AV := (List.range n).map fun i => .num (.w32 (v.l.getD i 0#32))
def rd32 (n : Nat) (xs : List AV) : Option (Vec 32) :=
  match mapOpt sw32 xs with
  | some l =>
    match Nat.beq l.length n with
    | true => some (Vec.of l)
    | false => none
  | none => none
theorem sw32_eq : ∀ {xs : List AV} {l : List (BitVec 32)}, mapOpt sw32 xs = some l → xs = l.map fun x => .num (.w32 x)
  | [], l, h => by simp [mapOpt] at h; subst h; rfl
  | x :: xs, l, h => by
    simp only [mapOpt] at h
    split at h
    · cases h
    · rename_i y hy
      split at h
      · cases h
      · rename_i ys hys
        injection h with h; subst h
        rw [sw32_eq hys]
        unfold sw32 at hy
        split at hy
        · injection hy with hy; subst hy; rfl
        · cases hy
theorem rd32_eq {n : Nat} {xs : List AV} {v : Vec 32} (h : rd32 n xs = some v) : xs = c32v v n ∧ v.n = n := by
  unfold rd32 at h
  split at h
  · rename_i l hl
    split at h
    · rename_i hn
      injection h with h; subst h
      have hn : l.length = n := by simpa using hn
      refine ⟨?_, hn⟩
      rw [sw32_eq hl]
      subst hn
      unfold c32v
      refine List.ext_getElem? fun i => ?_
      rw [List.getElem?_map, List.getElem?_map]
      rcases Nat.lt_or_ge i l.length with hi | hi
      · simp [hi, Vec.of]
      · simp [hi]
    · cases h
  · cases h
def sw64 (v : AV) : Option (BitVec 64) :=
  match v with
  | .num (.w64 x) => some x
  | _ => none
/-- So many words in a row, as cells. -/
def c64v (v : Vec 64) (n : Nat) : List AV := (List.range n).map fun i => .num (.w64 (v.l.getD i 0#64))
def rd64 (n : Nat) (xs : List AV) : Option (Vec 64) :=
  match mapOpt sw64 xs with
  | some l =>
    match Nat.beq l.length n with
    | true => some (Vec.of l)
    | false => none
  | none => none
theorem sw64_eq : ∀ {xs : List AV} {l : List (BitVec 64)}, mapOpt sw64 xs = some l → xs = l.map fun x => .num (.w64 x)
  | [], l, h => by simp [mapOpt] at h; subst h; rfl
  | x :: xs, l, h => by
    simp only [mapOpt] at h
    split at h
    · cases h
    · rename_i y hy
      split at h
      · cases h
      · rename_i ys hys
        injection h with h; subst h
        rw [sw64_eq hys]
        unfold sw64 at hy
        split at hy
        · injection hy with hy; subst hy; rfl
        · cases hy
theorem rd64_eq {n : Nat} {xs : List AV} {v : Vec 64} (h : rd64 n xs = some v) : xs = c64v v n ∧ v.n = n := by
  unfold rd64 at h
  split at h
  · rename_i l hl
    split at h
    · rename_i hn
      injection h with h; subst h
      have hn : l.length = n := by simpa using hn
      refine ⟨?_, hn⟩
      rw [sw64_eq hl]
      subst hn
      unfold c64v
      refine List.ext_getElem? fun i => ?_
      rw [List.getElem?_map, List.getElem?_map]
      rcases Nat.lt_or_ge i l.length with hi | hi
      · simp [hi, Vec.of]
      · simp [hi]
    · cases h
  · cases h
/-- A contract by a pattern. -/
structure Ct (D : Type) where
  pat : List AV
  patH : List Blk
  read : List AV → List Blk → Option D
  args : D → List AV
  heap : D → List Blk
  out : D → List Blk
  val : D → AV
  good : D → Bool
def Ct.spec {D : Type} (c : Ct D) : Spec := fun args H dec =>
  match wkL none c.pat args with
  | none => none
  | some a =>
    match cH c.patH H with
    | none => none
    | some K =>
      match c.read a K with
      | none => none
      | some d =>
        match mergeH H (c.heap d) (c.out d) with
        | none => none
        | some R => some ⟨c.val d, R, dec, [c.good d]⟩
theorem Ct.ok {D : Type} (c : Ct D) {P : Program} {G : Nat → Option (List AV)} {f : FuncId} {call : CallF} (hc : CallOk P G call)
    (hread : ∀ a K d, c.read a K = some d → a = c.args d ∧ K = c.heap d)
    (hrun : ∀ d, c.good d = true → ∃ dec rs cs, endsAs (c.heap d).length rs (c.out d) (c.val d) (call f (c.args d) ⟨c.heap d, big, dec, []⟩) = some (c.out d, c.val d, cs) ∧ ∀ x ∈ cs, x = true) :
    SpecOk P G f c.spec := by
  refine SpecOk.ends hc (fun args H dec r hr hcond => ?_) (fun args H dec r hr i k hk hm => ?_)
  · unfold Ct.spec at hr
    split at hr
    · cases hr
    rename_i a ha
    split at hr
    · cases hr
    rename_i K hK
    split at hr
    · cases hr
    rename_i d hd
    split at hr
    · cases hr
    rename_i R hR
    injection hr with hr; subst hr
    obtain ⟨rfl, rfl⟩ := hread a K d hd
    obtain ⟨dec', rs, cs, h1, h2⟩ := hrun d (hcond _ (List.mem_singleton.2 rfl))
    refine ⟨c.pat, c.patH, c.args d, c.heap d, dec', rs, c.out d, cs, ha, hK, ?_, h2, hR⟩
    rw [← (cH_again _ _ _ hK).2]
    exact h1
  · unfold Ct.spec at hr
    split at hr
    · cases hr
    split at hr
    · cases hr
    split at hr
    · cases hr
    rename_i d hd
    split at hr
    · cases hr
    rename_i R hR
    injection hr with hr; subst hr
    rcases (mergeH_spec hR).2.2.2 i k hk with ⟨_, h2, _⟩ | ⟨h1, _⟩
    · exact absurd hm h2
    · exact ⟨k, h1, hm⟩

/-- A loop by a pattern. -/
structure LoopP (D : Type) where
  pat : Fr
  patH : List Blk
  read : Fr → List Blk → Option D
  gh : List Blk
  st : D → Fr × List Blk
  next : D → D
  rem : D → Nat
  good : D → Bool
  out : Out
  fin : D → Fr × List Blk
def LoopP.T {D : Type} (L : LoopP D) : LoopT D where
  parse F H :=
    match wkF none L.pat F with
    | none => none
    | some F' =>
      match cH L.patH (H ++ L.gh) with
      | none => none
      | some H' => L.read F' H'
  gh := L.gh
  st := L.st
  next := L.next
  rem := L.rem
  good := L.good
  out := L.out
  fin := L.fin
theorem LoopP.ran {D : Type} (L : LoopP D) {P : Program} {G : Nat → Option (List AV)} {nv nt : Nat} {b : Code} {f : Fr → St → Option (Out × Fr × St)} (hb : RunOk P G nv nt b f)
    (hg : ∀ k ∈ L.gh, k.data.len = 0) (hout : L.out = .normal → False)
    (hread : ∀ F H d, L.read F H = some d → (F, H) = L.st d)
    (hround : ∀ d k, L.good d = true → L.rem d = k + 1 → (∃ dec rs cs, ranAs ((L.st d).2.length - L.gh.length) rs (L.st (L.next d)) (f (L.st d).1 ⟨(L.st d).2, big, dec, []⟩) = some (.normal, L.st (L.next d), cs) ∧ (∀ x ∈ cs, x = true)) ∧
      L.good (L.next d) = true ∧ L.rem (L.next d) = k ∧ (L.st (L.next d)).2.length = (L.st d).2.length)
    (hend : ∀ d, L.good d = true → L.rem d = 0 → ∃ dec rs cs, ranAs ((L.st d).2.length - L.gh.length) rs (L.fin d) (f (L.st d).1 ⟨(L.st d).2, big, dec, []⟩) = some (L.out, L.fin d, cs) ∧ (∀ x ∈ cs, x = true)) :
    LoopOk P G nv nt b L.T.told := by
  refine loop_ranL L.T hb hg hout (fun F H d h => ?_) hround hend
  have h : (match wkF none L.pat F with
    | none => none
    | some F' =>
      match cH L.patH (H ++ L.gh) with
      | none => none
      | some H' => L.read F' H') = some d := h
  split at h
  · cases h
  rename_i F' hF
  split at h
  · cases h
  rename_i H' hH
  have e := hread F' H' d h
  show wkF none (L.st d).1 F = some (L.st d).1 ∧ cH (L.st d).2 (H ++ L.gh) = some (L.st d).2
  rw [← e]
  exact ⟨wkF_again hF, (cH_again _ _ _ hH).1⟩
end Go.Eng
