/- An interpreter of the model's code over abstract values, proved sound, part 3. No condition. -/
import Derived.Test.YtacdmigmccfcfaaDoorEngB
import Derived.Laws.Sem
/- What operations leave as it is, all of them. -/
namespace Go.Eng
set_option linter.unusedSectionVars false
variable [RowAddr]
set_option linter.unusedSimpArgs false
set_option linter.unusedVariables false

/-- Nothing that was owed is forgotten; what lies below the lowest block written is the same; what is gone stays so; nothing becomes read only. -/
structure Ext (S S' : St) : Prop where
  ok : S'.ok → S.ok
  low : S'.low ≤ S.low
  len : S.H.length ≤ S'.H.length
  same : ∀ b, b < S.H.length → b < S'.low → lget b S'.H = lget b S.H
  dead : ∀ b k, lget b S.H = some k → k.mode = .dead → lget b S'.H = some k
  ro : ∀ b k, lget b S'.H = some k → k.mode = .ro → lget b S.H = some k
theorem lget_lt {α : Type} {b : Nat} {l : List α} {k : α} (h : lget b l = some k) : b < l.length := by
  rw [lget_eq] at h
  rcases Nat.lt_or_ge b l.length with h' | h'
  · exact h'
  · rw [List.getElem?_eq_none h'] at h; cases h
theorem Ext.refl (S : St) : Ext S S := ⟨id, Nat.le_refl _, Nat.le_refl _, fun _ _ _ => rfl, fun _ _ h _ => h, fun _ _ h _ => h⟩
theorem Ext.trans {a b c : St} (h : Ext a b) (k : Ext b c) : Ext a c :=
  ⟨fun o => h.ok (k.ok o), Nat.le_trans k.low h.low, Nat.le_trans h.len k.len, fun x hx hl => (k.same x (Nat.lt_of_lt_of_le hx h.len) hl).trans (h.same x hx (Nat.lt_of_lt_of_le hl k.low)),
    fun x y hx hy => k.dead x y (h.dead x y hx hy) hy, fun x y hx hy => h.ro x y (k.ro x y hx hy) hy⟩
theorem Pure.ext {S S' : St} (h : Pure S S') : Ext S S' :=
  ⟨h.ok, Nat.le_of_eq h.low, by rw [h.H]; exact Nat.le_refl _, fun b _ _ => by rw [h.H], fun b k hk _ => by rw [h.H]; exact hk, fun b k hk _ => by rw [← h.H]; exact hk⟩
theorem lget_lset {α : Type} (v : α) (b x : Nat) (l : List α) : lget x (lset v b l) = if b = x ∧ b < l.length then some v else lget x l := by
  rw [lget_eq, lget_eq, lset_eq, List.getElem?_set]
  by_cases e : b = x
  · subst e
    by_cases h : b < l.length
    · simp [h]
    · simp [h]
  · simp [e]
theorem lget_push {α : Type} (v : α) (x : Nat) (l : List α) : lget x (l ++ [v]) = if x = l.length then some v else lget x l := by
  rw [lget_eq, lget_eq]
  rcases Nat.lt_trichotomy x l.length with h | h | h
  · rw [List.getElem?_append_left h]; simp [show x ≠ l.length by omega]
  · subst h; simp
  · rw [List.getElem?_append_right (by omega), List.getElem?_eq_none (by simp; omega), if_neg (by omega), List.getElem?_eq_none (by omega)]
theorem ext_write {S S' : St} {b : Nat} {d : Data} (h : S.write b d = some S') : Ext S S' := by
  unfold St.write at h
  split at h
  · rename_i d0 m hb
    split at h
    · simp only [Option.some.injEq] at h; subst h
      refine ⟨fun o => o, Nat.min_le_left _ _, by simp [lset_eq], fun x hx hl => ?_, fun x k hx hk => ?_, fun x k hx hk => ?_⟩
      · have : x < b := Nat.lt_of_lt_of_le hl (Nat.min_le_right _ _)
        rw [lget_lset, if_neg (by omega)]
      · rw [lget_lset]
        split
        · rename_i e; obtain ⟨rfl, _⟩ := e; rw [hb] at hx; injection hx with hx; subst hx; cases hk
        · exact hx
      · rw [lget_lset] at hx
        split at hx
        · injection hx with hx; subst hx; cases hk
        · exact hx
    · cases h
  · cases h
theorem ext_kill (S : St) (b : Nat) (hb : ∀ k, lget b S.H = some k → k.mode ≠ .dead) : Ext S (S.kill b) := by
  refine ⟨fun o => o, Nat.min_le_left _ _, by simp [St.kill, lset_eq], fun x hx hl => ?_, fun x k hx hk => ?_, fun x k hx hk => ?_⟩
  · have : x < b := Nat.lt_of_lt_of_le hl (Nat.min_le_right _ _)
    simp only [St.kill]
    rw [lget_lset, if_neg (by omega)]
  · simp only [St.kill]
    rw [lget_lset]
    split
    · rename_i e; obtain ⟨rfl, _⟩ := e; exact absurd hk (hb k hx)
    · exact hx
  · simp only [St.kill] at hx
    rw [lget_lset] at hx
    split at hx
    · injection hx with hx; subst hx; cases hk
    · exact hx
theorem ext_new (S : St) (d : Data) : Ext S (S.new d).2 := by
  have e : ∀ x, lget x (S.new d).2.H = if x = S.H.length then some ⟨d, .own⟩ else lget x S.H := fun x => lget_push _ x S.H
  refine ⟨fun o => o, Nat.le_refl _, by simp [St.new], fun x hx _ => ?_, fun x k hx hk => ?_, fun x k hx hk => ?_⟩
  · rw [e, if_neg (by omega)]
  · have := lget_lt hx
    rw [e, if_neg (by omega)]; exact hx
  · rw [e] at hx
    split at hx
    · injection hx with hx; subst hx; cases hk
    · exact hx

/-- What does not look at the heap leaves it as it is. -/
theorem pure_of_re {α : Type} {f : St → Option (α × St)} {S S' : St} {x : α}
    (hf : ∀ (T : St) cs, T.H = S.H → T.low = S.low → f (T.re S.H S.low cs) = (f T).map (reP S.H S.low cs)) (h : f S = some (x, S')) : Pure S S' := by
  have h1 := hf ⟨S.H, S.low, S.dec, []⟩ S.cond rfl rfl
  have h2 : (⟨S.H, S.low, S.dec, []⟩ : St).re S.H S.low S.cond = S := rfl
  rw [h2, h] at h1
  cases h3 : f ⟨S.H, S.low, S.dec, []⟩ with
  | none => rw [h3] at h1; cases h1
  | some p =>
    rw [h3] at h1
    simp only [Option.map_some, Option.some.injEq, reP, Prod.mk.injEq] at h1
    obtain ⟨_, rfl⟩ := h1
    exact ⟨rfl, rfl, fun o b hb => o b (by simp [St.re, hb])⟩

/-- Operations that do not look at the heap. -/
def isFlat : Op → Bool
  | .move _ | .assign _ | .pick .. | .build .. | .nilCheck _ | .binOp .. | .unOp .. | .sliceToArrayPointer .. | .makeInterface .. | .makeFunc ..
  | .fieldAddr .. | .field .. | .indexAddr .. | .index .. | .extract .. => true
  | .convert s d _ => !Nat.beq s d
  | .call c =>
    match c.callee with
    | .builtin b =>
      match b with
      | .len | .cap | .min | .max => true
      | _ => false
    | _ => false
  | _ => false
/-- Operations that read one block at most. -/
def isRead : Op → Bool
  | .load .. => true
  | .slice .. => true
  | .convert s d _ => Nat.beq s d
  | _ => false
section
variable {C : Cfg} {call : CallF} {ev : Operand → AV} {H : List Blk} {low : Nat} {cs : List Bool} {S : St}
theorem flat_re {op : Op} (h : isFlat op = true) : opE C call ev op (S.re H low cs) = (opE C call ev op S).map (reP H low cs) := by
  cases op <;> simp only [isFlat, Bool.false_eq_true] at h <;> (try dsimp only [opE, opF])
  all_goals first
    | rfl
    | exact pickE_re ..
    | exact nilCheckE_re ..
    | exact binOpE_re ..
    | exact convE_re _ _ _ _ (fun e => by rw [e] at h; cases h)
    | exact arrayPtrOp_re ..
    | exact ifaceE_re ..
    | exact val_re ..
    | exact indexAddrOp_re ..
    | exact indexOp_re ..
    | exact extractE_re ..
    | skip
  rename_i c
  obtain ⟨callee, args, ats⟩ := c
  cases callee <;> simp only [Bool.false_eq_true] at h
  rename_i b
  cases b <;> simp only [Bool.false_eq_true] at h <;> simp only [callE, isBuiltin, callBE, builtinE]
  · exact val_re ..
  · exact val_re ..
  · split <;> first | exact val_re .. | rfl
  · split <;> first | exact val_re .. | rfl
theorem read_eq {b : Nat} (h : lget b H = lget b S.H) : (S.re H low cs).read b = S.read b := by
  unfold St.read; rw [show (S.re H low cs).H = H from rfl, h]
theorem readCell_re (G : Nat → Option (List AV)) (a : AV) (h : ∀ b, blkOf a = some b → lget b H = lget b S.H) : readCell G a (S.re H low cs) = (readCell G a S).map (reP H low cs) := by
  unfold readCell
  cases a with
  | ref r =>
    cases r with
    | ptr b o =>
      dsimp only
      rw [read_eq (h b rfl)]
      cases S.read b with
      | none => rfl
      | some d => exact get_re d o
    | gp g o =>
      dsimp only
      cases G g with
      | none => rfl
      | some l => exact get_re _ o
    | _ => rfl
  | _ => rfl
theorem readCells_re (G : Nat → Option (List AV)) (a : AV) (n : Nat) (h : ∀ b, blkOf a = some b → lget b H = lget b S.H) : readCells G a n (S.re H low cs) = (readCells G a n S).map (reP H low cs) := by
  unfold readCells
  cases a with
  | ref r =>
    cases r with
    | ptr b o =>
      dsimp only
      rw [read_eq (h b rfl)]
      cases S.read b with
      | none => rfl
      | some d => exact cells_re d n o
    | gp g o =>
      cases o with
      | c o =>
        dsimp only
        cases n with
        | zero => rfl
        | succ n =>
          cases G g with
          | none => rfl
          | some l => simp only [Option.map_map]; rfl
      | s _ => rfl
    | _ => rfl
  | _ => rfl
theorem loadOp_re (P : Program) (G : Nat → Option (List AV)) (t : TypeId) (a : AV) (h : ∀ b, blkOf a = some b → lget b H = lget b S.H) : loadOp P G t a (S.re H low cs) = (loadOp P G t a S).map (reP H low cs) := by
  unfold loadOp
  cases isAggT P t with
  | none => rfl
  | some b =>
    cases b with
    | true =>
      dsimp only
      cases sizeT P t with
      | none => rfl
      | some n =>
        dsimp only
        rw [readCells_re G a n h]
        cases readCells G a n S <;> rfl
    | false => exact readCell_re G a h
theorem sliceArr_re (n s b : Nat) (o : N) (lo hi mx : Option AV) (h : lget b H = lget b S.H) : sliceArr n s b o lo hi mx (S.re H low cs) = (sliceArr n s b o lo hi mx S).map (reP H low cs) := by
  unfold sliceArr
  cases bound lo (.c 0) with
  | none => rfl
  | some l =>
    dsimp only
    cases bound hi (.c n) with
    | none => rfl
    | some h' =>
      cases mx with
      | some _ => rfl
      | none =>
        dsimp only
        rw [read_eq h]
        cases S.read b with
        | none => rfl
        | some d =>
          simp only [claim_re]
          cases ((o.add (.c (n * s))).le d.lenN).claim S with
          | none => rfl
          | some S1 =>
            simp only [Option.map_some, claim_re]
            cases (ordered l h' (.c n)).claim S1 <;> rfl
theorem sliceOp_re (P : Program) (t : TypeId) (x : AV) (lo hi mx : Option AV) (h : isArr P t = true → ∀ b, blkOf x = some b → lget b H = lget b S.H) : sliceOp P t x lo hi mx (S.re H low cs) = (sliceOp P t x lo hi mx S).map (reP H low cs) := by
  unfold sliceOp
  cases hu : P.underlying t with
  | none => rfl
  | some d =>
    cases d with
    | array n e =>
      cases x with
      | ref r =>
        cases r with
        | ptr b o =>
          dsimp only
          cases sizeT P e with
          | none => rfl
          | some s =>
            cases s with
            | zero => rfl
            | succ s => exact sliceArr_re _ _ b o lo hi mx (h (by simp [isArr, hu]) b rfl)
        | _ => rfl
      | _ => rfl
    | slice e =>
      cases x with
      | ref r =>
        cases r with
        | sl b o l c =>
          dsimp only
          cases sizeT P e with
          | none => rfl
          | some s =>
            rcases s with _ | _ | s
            · rfl
            · exact sliceSl_re ..
            · rfl
        | _ => rfl
      | atom a =>
        cases a with
        | nils =>
          dsimp only
          cases mx with
          | some _ => rfl
          | none =>
            cases sizeT P e with
            | none => rfl
            | some _ =>
              dsimp only
              cases bound lo (.c 0) with
              | none => rfl
              | some l =>
                dsimp only
                cases bound hi (.c 0) with
                | none => rfl
                | some h' =>
                  simp only [claim_re]
                  cases (ordered l h' (.c 0)).claim S <;> rfl
        | _ => rfl
      | _ => rfl
    | _ => rfl
theorem read_re {op : Op} (h : isRead op = true) (hr : ∀ b, readOf C.P ev op = some b → lget b H = lget b S.H) : opE C call ev op (S.re H low cs) = (opE C call ev op S).map (reP H low cs) := by
  cases op <;> simp only [isRead, Bool.false_eq_true] at h
  case convert s d x => exact convE_re _ _ _ _ (fun e b hb => hr b (by simp only [readOf, e]; exact hb))
  · exact loadOp_re _ _ _ _ hr
  · exact sliceOp_re _ _ _ _ _ _ fun ha b hb => hr b (by simp only [readOf, ha]; exact hb)
end
end Go.Eng
/- What operations leave as it is: those that write; and that they look at their operands alone. -/
namespace Go.Eng
set_option linter.unusedSectionVars false
variable [RowAddr]
set_option linter.unusedSimpArgs false
set_option linter.unusedVariables false
section
variable {C : Cfg} {call : CallF} {ev : Operand → AV} {S S' : St}
theorem storeOp_ext {P : Program} {t : TypeId} {a v : AV} (h : storeOp P t a v S = some S') : Ext S S' := by
  unfold storeOp at h
  repeat' (split at h)
  all_goals first
    | (cases h; done)
    | (rename_i hd; exact (Data.over_spec hd).1.ext.trans (ext_write h))
    | (rename_i hd; exact (Data.set_spec hd).1.ext.trans (ext_write h))
theorem dataOf_pure {x : AV} {n : N} {d : Data} (h : dataOf x n S = some (d, S')) : Pure S S' := by
  unfold dataOf at h
  repeat' (split at h)
  all_goals first
    | (cases h; done)
    | exact (Data.sub_spec h).1
    | (simp only [Option.some.injEq, Prod.mk.injEq] at h; obtain ⟨_, rfl⟩ := h; exact Pure.refl _)
theorem appendSl_ext {b : Nat} {o l : N} {cap : Option N} {n : N} {xs : Data} {x : AV} (h : appendSl b o l cap n xs S = some (x, S')) : Ext S S' := by
  unfold appendSl at h
  repeat' (split at h)
  all_goals (try (cases h; done))
  all_goals (simp only [Option.some.injEq, Prod.mk.injEq] at h; obtain ⟨_, rfl⟩ := h)
  · exact (Data.over_spec ‹Data.over _ _ _ _ = some _›).1.ext.trans (ext_write ‹St.write _ _ _ = some _›)
  · exact (Data.sub_spec ‹Data.sub _ _ _ _ = some _›).1.ext.trans (ext_new _ _)
  · have hp := (B.claim_spec ‹B.claim _ _ = some _›).1
    have hq := ‹lget b S.H = some _›
    exact (hp.ext.trans (ext_kill _ _ fun k hk => by rw [hp.H, hq] at hk; injection hk with hk; subst hk; simp)).trans (ext_new _ _)
theorem appendOp_ext {P : Program} {ts : List TypeId} {as : List AV} {x : AV} (h : appendOp P ts as S = some (x, S')) : Ext S S' := by
  unfold appendOp at h
  repeat' (split at h)
  all_goals (try (cases h; done))
  · simp only [Option.some.injEq, Prod.mk.injEq] at h; obtain ⟨_, rfl⟩ := h
    exact (dataOf_pure ‹dataOf _ _ _ = some _›).ext
  · simp only [Option.some.injEq, Prod.mk.injEq] at h; obtain ⟨_, rfl⟩ := h
    exact ((dataOf_pure ‹dataOf _ _ _ = some _›).trans (B.claim_spec ‹B.claim _ _ = some _›).1).ext.trans (ext_new _ _)
  · exact ((dataOf_pure ‹dataOf _ _ _ = some _›).trans (B.claim_spec ‹B.claim _ _ = some _›).1).ext.trans (appendSl_ext h)
theorem appendRow_ext {x : AV} {s bytes : Nat} {cs : List AV} {r : AV} (h : appendRow x s bytes cs S = some (r, S')) : Ext S S' := by
  unfold appendRow at h
  repeat' (split at h)
  all_goals (try (cases h; done))
  · simp only [Option.some.injEq, Prod.mk.injEq] at h; obtain ⟨_, rfl⟩ := h
    exact (B.claim_spec ‹B.claim _ _ = some _›).1.ext.trans (ext_new _ _)
  · simp only [Option.some.injEq, Prod.mk.injEq] at h; obtain ⟨_, rfl⟩ := h
    have c1 := (B.claim_spec ‹B.claim (N.eq _ _) _ = some _›).1
    have c2 := (B.claim_spec ‹B.claim (N.fits _) _ = some _›).1
    have hk := ‹lget _ _ = some _›
    exact (c1.trans c2).ext.trans ((ext_kill _ _ (by
      rw [(c1.trans c2).H]
      intro k hkk
      rw [hk] at hkk
      injection hkk with hkk
      subst hkk
      intro h; cases h)).trans (ext_new _ _))
theorem appendE_ext {P : Program} {ts : List TypeId} {as : List AV} {x : AV} (h : appendE P ts as S = some (x, S')) : Ext S S' := by
  unfold appendE at h
  split at h
  · rename_i r hr
    injection h with h; subst h
    exact appendOp_ext hr
  · unfold appendBig at h
    repeat' (split at h)
    all_goals (try (cases h; done))
    exact appendRow_ext h
theorem copyOp_ext {P : Program} {ts : List TypeId} {as : List AV} {x : AV} (h : copyOp P ts as S = some (x, S')) : Ext S S' := by
  unfold copyOp at h
  repeat' (split at h)
  all_goals (try (cases h; done))
  all_goals (simp only [Option.some.injEq, Prod.mk.injEq] at h; obtain ⟨_, rfl⟩ := h)
  · exact (((dataOf_pure ‹dataOf _ _ _ = some _›).trans (Data.over_spec ‹Data.over _ _ _ _ = some _›).1).ext).trans (ext_write ‹St.write _ _ _ = some _›)
  · exact (dataOf_pure ‹dataOf _ _ _ = some _›).ext
theorem makeSliceOp_ext {P : Program} {t : TypeId} {l c x : AV} (h : makeSliceOp P t l c S = some (x, S')) : Ext S S' := by
  unfold makeSliceOp at h
  repeat' (split at h)
  all_goals (try (cases h; done))
  simp only [Option.some.injEq, Prod.mk.injEq] at h; obtain ⟨_, rfl⟩ := h
  have h1 := B.claim_spec ‹B.claim (N.fits _) _ = some _›
  have h2 := B.claim_spec ‹B.claim (ordered _ _ _) _ = some _›
  exact (h2.1.trans h1.1).ext.trans (ext_new _ _)
theorem buildSliceOp_ext {P : Program} {t : TypeId} {n : Nat} {ps : List (Nat × AV)} {x : AV} (h : buildSliceOp P t n ps S = some (x, S')) : Ext S S' := by
  unfold buildSliceOp at h
  repeat' (split at h)
  all_goals (try (cases h; done))
  simp only [Option.some.injEq, Prod.mk.injEq] at h; obtain ⟨_, rfl⟩ := h
  exact ext_new _ _
theorem allocE_ext {t : TypeId} {x : AV} (h : allocE C t S = some (x, S')) : Ext S S' := by
  unfold allocE at h
  split at h
  · simp only [Option.some.injEq, Prod.mk.injEq] at h; obtain ⟨_, rfl⟩ := h
    exact ext_new _ _
  · cases h
theorem boxE_ext {v x : AV} (h : boxE v S = some (x, S')) : Ext S S' := by
  unfold boxE at h
  split at h
  · simp only [Option.some.injEq, Prod.mk.injEq] at h; obtain ⟨_, rfl⟩ := h
    exact ext_new _ _
  · cases h
/-- A way of calling that forgets nothing. -/
def CallExt (call : CallF) : Prop := ∀ f args S v S', call f args S = some (v, S') → Ext S S'
theorem opE_ext (hcall : CallExt call) {op : Op} {x : AV} (h : opE C call ev op S = some (x, S')) : Ext S S' := by
  cases hf : isFlat op with
  | true => exact (pure_of_re (f := opE C call ev op) (fun T cs _ _ => flat_re hf) h).ext
  | false =>
    cases hr : isRead op with
    | true => exact (pure_of_re (f := opE C call ev op) (fun T cs e _ => read_re hr (fun b _ => by rw [e])) h).ext
    | false =>
      cases op <;> simp only [isFlat, isRead, reduceCtorEq] at hf hr <;> dsimp only [opE, opF] at h <;> (try (cases h; done))
      case convert => rw [hr] at hf; cases hf
      case alloc => exact allocE_ext h
      case box => exact boxE_ext h
      case buildSlice => exact buildSliceOp_ext h
      case makeSlice => exact makeSliceOp_ext h
      case store t a v =>
        unfold storeE at h
        split at h
        · rename_i h1
          simp only [Option.some.injEq, Prod.mk.injEq] at h; obtain ⟨_, rfl⟩ := h
          exact storeOp_ext h1
        · cases h
      case call c =>
        unfold callE at h
        split at h
        · unfold callBE at h
          split at h
          · rename_i b hb
            cases b <;> simp only [hb, reduceCtorEq] at hf <;> simp only [builtinE] at h <;> first
              | (cases h; done)
              | exact appendE_ext h
              | exact copyOp_ext h
          · cases h
        · split at h
          · exact hcall _ _ _ _ _ h
          · cases h
theorem kinds (op : Op) : isFlat op = true ∨ isRead op = true ∨ isFloat op = true ∨ isEff op = true ∨ ∀ (C : Cfg) call ev S, opE C call ev op S = none := by
  cases op <;> simp [isFlat, isRead, isFloat, isEff, opE, opF]
  case convert s d x =>
    cases e : Nat.beq s d with
    | false => exact .inl rfl
    | true => exact .inr (.inl (Nat.eq_of_beq_eq_true e))
  rename_i c
  obtain ⟨callee, args, ats⟩ := c
  cases callee <;> simp
  rename_i b
  cases b <;> simp
end

/-! Operands alone. -/
section
variable {C : Cfg} {call : CallF} {ev ev' : Operand → AV}
theorem evL_congr : ∀ {l : List Operand}, (∀ x ∈ l, ev x = ev' x) → evL ev l = evL ev' l
  | [], _ => rfl
  | x :: l, h => by simp [evL, h x (List.mem_cons_self ..), evL_congr (l := l) fun y hy => h y (List.mem_cons_of_mem _ hy)]
theorem evP_congr : ∀ {l : List (Nat × Operand)}, (∀ p ∈ l, ev p.2 = ev' p.2) → evP ev l = evP ev' l
  | [], _ => rfl
  | (i, x) :: l, h => by
    have := h (i, x) (List.mem_cons_self ..)
    simp only at this
    simp [evP, this, evP_congr (l := l) fun y hy => h y (List.mem_cons_of_mem _ hy)]
theorem evO_congr {o : Option Operand} (h : ∀ x ∈ o, ev x = ev' x) : evO ev o = evO ev' o := by
  cases o with
  | none => rfl
  | some x => simp [evO, h x rfl]
theorem callee_congr {c : Call} (h : ∀ x ∈ c.operands, ev x = ev' x) : callee C ev c = callee C ev' c := by
  have ha : evL ev c.args.toList = evL ev' c.args.toList := evL_congr fun x hx => h x (by simp [Call.operands, Array.mem_def.2 hx])
  unfold callee
  rw [ha]
  cases hc : c.callee with
  | value f => have : ev f = ev' f := h f (by simp [Call.operands, hc]); simp only [this]
  | invoke r m => have : ev r = ev' r := h r (by simp [Call.operands, hc]); simp only [this]
  | builtin b => rfl
theorem opE_congr {op : Op} (h : ∀ x ∈ op.operands, ev x = ev' x) (S : St) : opE C call ev op S = opE C call ev' op S := by
  cases op <;> simp only [Op.operands] at h <;> dsimp only [opE, opF]
  case call c =>
    unfold callE callBE
    rw [callee_congr h]
    have ha : evL ev c.args.toList = evL ev' c.args.toList := evL_congr fun x hx => h x (by simp [Call.operands, Array.mem_def.2 hx])
    rw [ha]
  case build t ps => rw [evP_congr fun p hp => h p.2 (by simp; exact ⟨p.1, Array.mem_toList_iff.1 hp⟩)]
  case buildSlice t n ps => rw [evP_congr fun p hp => h p.2 (by simp; exact ⟨p.1, Array.mem_toList_iff.1 hp⟩)]
  case makeFunc fn first captured =>
    rw [evL_congr (l := first.toList) fun x hx => h x (by simp [Array.mem_def.2 hx]), evL_congr (l := captured.toList) fun x hx => h x (by simp [Array.mem_def.2 hx])]
  case slice t x lo hi mx =>
    have h1 : ev x = ev' x := h x (by simp)
    have h2 : evO ev lo = evO ev' lo := evO_congr fun y hy => h y (by simp [Option.mem_def.1 hy])
    have h3 : evO ev hi = evO ev' hi := evO_congr fun y hy => h y (by simp [Option.mem_def.1 hy])
    have h4 : evO ev mx = evO ev' mx := evO_congr fun y hy => h y (by simp [Option.mem_def.1 hy])
    rw [h1, h2, h3, h4]
  all_goals (first | rfl | (simp_all; done))
theorem readOf_congr {P : Program} {op : Op} (h : ∀ x ∈ op.operands, ev x = ev' x) : readOf P ev op = readOf P ev' op := by
  cases op <;> simp only [Op.operands] at h <;> dsimp only [readOf]
  case load t a => rw [h a (by simp)]
  case slice t a lo hi mx => rw [h a (by simp)]
  case convert s d x => rw [h x (by simp)]
end
end Go.Eng
/- Frames, calls, and operations one behind the other. -/
namespace Go.Eng
set_option linter.unusedSectionVars false
variable [RowAddr]
set_option linter.unusedSimpArgs false
set_option linter.unusedVariables false

/-- A frame of the model and an abstract one. -/
structure FRel (nv nt : Nat) (β : Map) (F : Fr) (a : Act) : Prop where
  val : ∀ t, VRel β (F.get nv t) (a.tmps.getD t undef)
  size : a.tmps.size = nt
  defers : a.defers = []
section
variable {nv nt : Nat} {β β' : Map} {F : Fr} {a : Act}
theorem FRel.mono (h : FRel nv nt β F a) (hβ : Map.le β β') : FRel nv nt β' F a := ⟨fun t => (h.val t).mono hβ, h.size, h.defers⟩
theorem FRel.ev (h : FRel nv nt β F a) (x : Operand) : VRel β (F.ev nv x) (a.eval x) := by
  cases x with
  | tmp t => exact h.val t
  | const v => exact absV_rel β v
  | global g => have := VRel.gp (β := β) (2 * g) (.c 0); rw [show gAt (2 * g) (N.c 0).v = at' g 0 from gAt_var g 0] at this; exact this
  | func f => exact .fn (.func f) 0 [] [] [] rfl rfl (fun i x v hx => by simp at hx)
theorem Fr.get_put_ne (nv : Nat) (F : Fr) {d t : Nat} (v : AV) (h : t ≠ d) : (F.put nv (some d) v).get nv t = F.get nv t := by
  cases hd : Nat.blt d nv with
  | true =>
    cases ht : Nat.blt t nv with
    | true => simp only [Fr.put, hd, Fr.get, ht, lget_eq, lset_eq, List.getElem?_set_ne (Ne.symm h)]
    | false => simp only [Fr.put, hd, Fr.get, ht]
  | false =>
    cases ht : Nat.blt t nv with
    | true => simp only [Fr.put, hd, Fr.get, ht]
    | false =>
      simp only [Fr.put, hd, Fr.get, ht, assoc]
      cases hb : Nat.beq d t with
      | true => exact absurd (by simpa using hb : d = t).symm h
      | false => rfl
theorem Fr.get_put_self (nv : Nat) (F : Fr) (d : Nat) (v : AV) : (F.put nv (some d) v).get nv d = v ∨ (F.put nv (some d) v).get nv d = .undef := by
  cases hd : Nat.blt d nv with
  | true =>
    simp only [Fr.put, hd, Fr.get, lget_eq, lset_eq]
    rcases Nat.lt_or_ge d F.vars.length with h | h
    · left; simp [h]
    · right; simp [h]
  | false =>
    simp only [Fr.put, hd, Fr.get, assoc]
    left
    have : Nat.beq d d = true := by simp
    simp only [this]
theorem FRel.put (h : FRel nv nt β F a) {d : Option Nat} (hd : ∀ x, d = some x → x < nt) {x : AV} {v : Value} (hv : VRel β x v) : FRel nv nt β (F.put nv d x) (a.put d v) := by
  cases d with
  | none => exact h
  | some d =>
    have hlt := hd d rfl
    refine ⟨fun t => ?_, by simp [Act.put, h.size], h.defers⟩
    have hget : (a.put (some d) v).tmps.getD t undef = if t = d then v else a.tmps.getD t undef := by
      simp only [Act.put, Array.getD_eq_getD_getElem?, Array.getElem?_setIfInBounds]
      by_cases e : t = d
      · subst e; simp [h.size, hlt]
      · simp [Ne.symm e, e]
    rw [hget]
    by_cases e : t = d
    · subst e
      rw [if_pos rfl]
      rcases Fr.get_put_self nv F t x with e | e
      · rw [e]; exact hv
      · rw [e]; exact .undef _
    · rw [if_neg e, Fr.get_put_ne nv F x e]; exact h.val t
theorem FRel.forget (h : FRel nv nt β F a) {F' : Fr} (hf : ∀ t, F'.get nv t = F.get nv t ∨ F'.get nv t = .undef) : FRel nv nt β F' a :=
  ⟨fun t => by rcases hf t with e | e; rw [e]; exact h.val t; rw [e]; exact .undef _, h.size, h.defers⟩
theorem keepOnly_get (ks : List Nat) (t : Nat) : ∀ l : List (Nat × AV), assoc t (keepOnly ks l) = assoc t l ∨ assoc t (keepOnly ks l) = .undef := by
  intro l
  induction l with
  | nil => exact .inl rfl
  | cons p l ih =>
    obtain ⟨k, v⟩ := p
    simp only [keepOnly]
    cases hk : elemN k ks with
    | true =>
      simp only [assoc]
      cases hb : Nat.beq k t with
      | true => exact .inl rfl
      | false => exact ih
    | false =>
      simp only [assoc]
      cases hb : Nat.beq k t with
      | true =>
        -- the name is not kept: it reads as nothing
        right
        have e : k = t := by simpa using hb
        subst e
        clear ih
        induction l with
        | nil => rfl
        | cons q l ih =>
          obtain ⟨k', v'⟩ := q
          simp only [keepOnly]
          cases hk' : elemN k' ks with
          | false => exact ih
          | true =>
            simp only [assoc]
            cases hb' : Nat.beq k' k with
            | true =>
              have e : k' = k := by simpa using hb'
              subst e; rw [hk] at hk'; cases hk'
            | false => exact ih
      | false => exact ih
theorem FRel.keep (h : FRel nv nt β F a) (ks : List Nat) : FRel nv nt β { F with tmps := keepOnly ks F.tmps } a := by
  refine h.forget fun t => ?_
  simp only [Fr.get]
  cases Nat.blt t nv with
  | true => exact .inl rfl
  | false => exact keepOnly_get ks t F.tmps
end

section
variable {P : Program} {G : Nat → Option (List AV)}
/-- A way of calling functions that does what it says. -/
def CallOk (P : Program) (G : Nat → Option (List AV)) (call : CallF) : Prop := ∀ f args S v S', call f args S = some (v, S') → Ext S S' ∧ (S'.ok → ∀ β w vs, LRel β args vs → HRel G β S.H w →
  (∃ fn, P.funcs[f]? = some fn ∧ (fn.name == "runtime.NumGoroutine") = false ∧ fn.body.isSome = true) ∧
  Calls P f ⟨vs⟩ w fun e w' => ∃ u β', e = .returned u ∧ VRel β' v u ∧ HRel G β' S'.H w' ∧ Stp β S.H w β' S'.H w')
/-- Methods are found as told. -/
def MethOk (P : Program) (meth : Nat → String → Option FuncId) : Prop := ∀ t m f, meth t m = some f → ∀ v w, (method (P.types.size + Made.depth) t v m).run P w = .ok (f, v) w

theorem run_callFunc {f : FuncId} {fn : Func} (hf : P.funcs[f]? = some fn) (hn : (fn.name == "runtime.NumGoroutine") = false) (hb : fn.body.isSome = true) (args : Array Value) (w : World) :
    (callFunc f args).run P w = .ok (.enter f args) w := by
  obtain ⟨c, hc⟩ := Option.isSome_iff_exists.1 hb
  have hn' : ¬ fn.name = "runtime.NumGoroutine" := by simpa using hn
  simp [callFunc, hf, hn', hc]

variable {C : Cfg}
/-- A call, as the operation makes it. -/
theorem callE_spec (hG : C.glob = G) {call : CallF} (hcall : CallOk C.P G call) (hm : MethOk C.P C.meth) {β : Map} {w : World} {c : Call} {o : Oper} (ho : o.op = .call c) (hb : isBuiltin c.callee = false) {ev : Operand → AV} {ρ : Operand → Value} {x : AV} {S S' : St}
    (h : callE C c call ev S = some (x, S')) (hev : ∀ x, VRel β (ev x) (ρ x)) (hH : HRel G β S.H w) : (S'.ok → S.ok) ∧ (S'.ok → ∃ f args, (execOp ρ o).run C.P w = .ok (.enter f args) w ∧
      Calls C.P f args w fun e w' => ∃ u β', e = .returned u ∧ VRel β' x u ∧ HRel G β' S'.H w' ∧ Stp β S.H w β' S'.H w') := by
  unfold callE at h
  rw [hb] at h
  simp only at h
  split at h
  case h_2 => cases h
  rename_i f args hc
  obtain ⟨h1, h2⟩ := hcall _ _ _ _ _ h
  refine ⟨h1.ok, fun ok => ?_⟩
  have hl := evL_rel hev c.args.toList
  have e : c.args.map ρ = ⟨c.args.toList.map ρ⟩ := by apply Array.ext'; simp
  unfold callee at hc
  split at hc
  · rename_i fo hcal
    split at hc
    case h_2 => cases hc
    rename_i f' n xs hfo
    simp only [Option.some.injEq, Prod.mk.injEq] at hc
    obtain ⟨rfl, rfl⟩ := hc
    have hf := hev fo
    rw [hfo] at hf
    generalize hρ : ρ fo = vf at hf
    cases hf
    rename_i first captured hn hlen hrel
    have hfc : LRel β xs (first ++ captured) := ⟨hlen, hrel⟩
    have ht : LRel β (xs.take n) first := by
      have := hfc.take n; rw [← hn, List.take_left] at this; rw [hn] at this; exact this
    have hd : LRel β (xs.drop n) captured := by
      have := hfc.drop n; rw [← hn, List.drop_left] at this; rw [hn] at this; exact this
    obtain ⟨⟨fn, hfn, hname, hbody⟩, hcalls⟩ := h2 ok β w _ ((ht.append hl).append hd) hH
    refine ⟨f', ⟨first ++ c.args.toList.map ρ ++ captured⟩, ?_, hcalls⟩
    have e2 : ((⟨first ++ c.args.toList.map ρ ++ captured⟩ : Array Value)) = (⟨first⟩ ++ ⟨c.args.toList.map ρ⟩) ++ ⟨captured⟩ := by apply Array.ext'; simp
    rw [e2]
    simp [execOp, ho, resolve, hcal, hρ, Deferred.ofValue, invoke, e, run_callFunc hfn hname hbody]
  · rename_i r m hcal
    split at hc
    case h_2 => cases hc
    rename_i t v hr
    split at hc
    case h_2 => cases hc
    rename_i f' hmf
    simp only [Option.some.injEq, Prod.mk.injEq] at hc
    obtain ⟨rfl, rfl⟩ := hc
    have hf := hev r
    rw [hr] at hf
    generalize hρ : ρ r = vf at hf
    cases hf
    rename_i u hu
    obtain ⟨⟨fn, hfn, hname, hbody⟩, hcalls⟩ := h2 ok β w _ (LRel.cons hu hl) hH
    refine ⟨f', ⟨u :: c.args.toList.map ρ⟩, ?_, hcalls⟩
    have e2 : (⟨u :: c.args.toList.map ρ⟩ : Array Value) = #[u] ++ ⟨c.args.toList.map ρ⟩ := by apply Array.ext'; simp
    have e3 : ∀ q : Array Value, (#[Value.iface t u] ++ q).extract 1 (#[Value.iface t u] ++ q).size = q := by
      intro q; apply Array.ext'; simp
    rw [e2]
    simp [execOp, ho, resolve, hcal, hρ, invoke, e, callMethod, hm t m f' hmf, run_callFunc hfn hname hbody]
    exact List.take_of_length_le (by simp)
  · cases hc

/-- One operation, in its place among others: what it does is what the interpreter says; so what follows may go on from there. -/
theorem opE_wp (hG : C.glob = G) {call : CallF} (hcall : CallOk C.P G call) (hm : MethOk C.P C.meth) {β : Map} {w : World} {a : Act} {o : Oper} {ev : Operand → AV} {x : AV} {S S' : St} (h : opE C call ev o.op S = some (x, S'))
    (hev : ∀ x, VRel β (ev x) (a.eval x)) (hH : HRel G β S.H w) (hd : a.defers = []) {next : Act → World → Prop} {Q : Exit → Act → World → Prop} :
    (S'.ok → S.ok) ∧ (S'.ok → (∀ v w' β', VRel β' x v → HRel G β' S'.H w' → Stp β S.H w β' S'.H w' → next (a.put o.dst v) w') → o.wp C.P a w next Q) := by
  unfold opE at h
  split at h
  · rename_i f hf
    obtain ⟨h1, h2⟩ := plain_spec hG (ρ := a.eval) (o := o) hf h hev hH
    refine ⟨h1, fun ok hn => ?_⟩
    obtain ⟨r, v, w', β', e1, e2, e3, e4, e5⟩ := h2 ok
    unfold Oper.wp
    rw [e1]
    rcases e2 with rfl | ⟨rfl, rfl⟩
    · exact hn v w' β' e3 e4 e5
    · exact hn _ w' β' e3 e4 e5
  · rename_i c hc
    have ho : o.op = .call c := by
      cases hop : o.op <;> rw [hop] at hc <;> simp only [opF, reduceCtorEq, OpF.call.injEq] at hc
      rw [hc]
    cases hb : isBuiltin c.callee with
    | true =>
      unfold callE at h
      rw [hb] at h
      obtain ⟨h1, h2⟩ := builtin_spec (ρ := a.eval) ho h hev hH
      refine ⟨h1, fun ok hn => ?_⟩
      obtain ⟨r, v, w', β', e1, e2, e3, e4, e5⟩ := h2 ok
      unfold Oper.wp
      rw [e1]
      rcases e2 with rfl | ⟨rfl, rfl⟩
      · exact hn v w' β' e3 e4 e5
      · exact hn _ w' β' e3 e4 e5
    | false =>
      obtain ⟨h1, h2⟩ := callE_spec hG hcall hm ho hb (ρ := a.eval) h hev hH
      refine ⟨h1, fun ok hn => ?_⟩
      obtain ⟨f, args, e1, e2⟩ := h2 ok
      unfold Oper.wp
      rw [e1]
      refine e2.mono ?_
      rintro e w' ⟨u, β', rfl, g1, g2, g3⟩
      exact hn u w' β' g1 g2 g3

theorem VRel.tup0_inv {β : Map} {v : Value} (h : VRel β (.obj .tup []) v) : v = .tuple #[] := by
  cases h with
  | tup xs vs hl _ =>
    cases vs with
    | nil => rfl
    | cons _ _ => simp at hl
theorem VRel.tup0 (β : Map) : VRel β (.obj .tup []) Go.undef := .tup [] [] rfl (fun i x v h _ => by simp at h)
/-- A guard is met, or it is not, as the interpreter says. -/
theorem guard_spec {nv nt : Nat} {β : Map} {F : Fr} {a : Act} (hF : FRel nv nt β F a) {ops : Array Oper} {o : Oper} {S S' : St} {b : Bool} (h : guardOk ops.toList (F.ev nv) o.guard S = some (b, S')) :
    Pure S S' ∧ (S'.ok → Region.wanted o (yielded ops a.tmps) = b) := by
  unfold guardOk at h
  split at h
  · rename_i hg
    simp only [Option.some.injEq, Prod.mk.injEq] at h
    obtain ⟨rfl, rfl⟩ := h
    exact ⟨Pure.refl _, fun _ => by simp [Region.wanted, hg]⟩
  · rename_i j want hg
    rw [lget_eq] at h
    cases hj : ops.toList[j]? with
    | none => simp [hj] at h
    | some o' =>
      simp only [hj] at h
      split at h
      · cases h
      rename_i d hd
      split at h
      case h_3 => cases h
      case h_2 =>
        rename_i hbb
        simp only [Option.some.injEq, Prod.mk.injEq] at h
        obtain ⟨rfl, rfl⟩ := h
        refine ⟨Pure.refl _, fun _ => ?_⟩
        have hval := hF.val d
        have hbb' : F.get nv d = .obj .tup [] := hbb
        rw [hbb'] at hval
        have e := hval.tup0_inv
        have hj' : ops[j]? = some o' := by simpa using hj
        have hy : yielded ops a.tmps j = none := by
          rcases Nat.lt_or_ge d a.tmps.size with hlt | hlt
          · have e2 : a.tmps[d]? = some (.tuple #[]) := by
              simp only [Array.getD_eq_getD_getElem?, Array.getElem?_eq_getElem hlt, Option.getD_some] at e
              rw [Array.getElem?_eq_getElem hlt, e]
            simp [yielded, hj', hd, e2]
          · simp [yielded, hj', hd, Array.getElem?_eq_none hlt]
        simp [Region.wanted, hg, hy]
      rename_i bb hbb
      split at h
      case h_2 => cases h
      rename_i t S1 ht
      simp only [Option.some.injEq, Prod.mk.injEq] at h
      obtain ⟨rfl, rfl⟩ := h
      obtain ⟨hp, hv⟩ := B.test_spec ht
      refine ⟨hp, fun ok => ?_⟩
      have hval := hF.val d
      have hbb' : F.get nv d = .atom (.bool bb) := hbb
      rw [hbb'] at hval
      have e := hval.bool_inv
      have hlt : d < a.tmps.size := by
        rcases Nat.lt_or_ge d a.tmps.size with h | h
        · exact h
        · simp [Array.getD_eq_getD_getElem?, Array.getElem?_eq_none h, undef] at e
      have e2 : a.tmps[d]? = some (.bool bb.v) := by
        simp only [Array.getD_eq_getD_getElem?, Array.getElem?_eq_getElem hlt, Option.getD_some] at e
        rw [Array.getElem?_eq_getElem hlt, e]
      have hj' : ops[j]? = some o' := by simpa using hj
      have hy : yielded ops a.tmps j = some bb.v := by
        simp [yielded, hj', hd, e2]
      simp [Region.wanted, hg, hy, hv ok]

/-- All slots that operations write are there. -/
def DstOk (nt : Nat) (ops : List Oper) : Prop := ∀ o ∈ ops, ∀ d, o.dst = some d → d < nt

theorem guard_pure {ops : List Oper} {ev : Operand → AV} {g : Option (Nat × Bool)} {S S' : St} {b : Bool} (h : guardOk ops ev g S = some (b, S')) : Pure S S' := by
  unfold guardOk at h
  repeat' (split at h)
  all_goals (try (cases h; done))
  · simp only [Option.some.injEq, Prod.mk.injEq] at h; obtain ⟨_, rfl⟩ := h; exact Pure.refl _
  · simp only [Option.some.injEq, Prod.mk.injEq] at h; obtain ⟨_, rfl⟩ := h
    exact (B.test_spec ‹B.test _ _ = some _›).1
  · simp only [Option.some.injEq, Prod.mk.injEq] at h; obtain ⟨_, rfl⟩ := h; exact Pure.refl _
theorem runOps_ext {call : CallF} (hcall : CallExt call) {nv : Nat} {ops : List Oper} : ∀ (r : List Oper) (F F' : Fr) (S S' : St), runOps C call nv ops r F S = some (F', S') → Ext S S' := by
  intro r
  induction r with
  | nil =>
    intro F F' S S' h
    simp only [runOps, Option.some.injEq, Prod.mk.injEq] at h
    obtain ⟨_, rfl⟩ := h; exact Ext.refl _
  | cons o r ih =>
    intro F F' S S' h
    simp only [runOps] at h
    split at h
    · cases h
    · rename_i S1 hg; exact (guard_pure hg).ext.trans (ih _ _ _ _ h)
    · rename_i S1 hg
      split at h
      · cases h
      rename_i x S2 hop
      exact ((guard_pure hg).ext.trans (opE_ext hcall hop)).trans (ih _ _ _ _ h)
theorem CallOk.ext {call : CallF} (h : CallOk C.P G call) : CallExt call := fun f args S v S' hc => (h f args S v S' hc).1
/-- Operations, in the order of the text. -/
theorem runOps_wp (hG : C.glob = G) {call : CallF} (hcall : CallOk C.P G call) (hm : MethOk C.P C.meth) {nv nt : Nat} {ops : Array Oper} (hd : DstOk nt ops.toList) {Q : Exit → Act → World → Prop} :
    ∀ (r : List Oper) (i : Nat) (F F' : Fr) (S S' : St) (β : Map) (a : Act) (w : World), ops.toList.drop i = r → runOps C call nv ops.toList r F S = some (F', S') → S'.ok → FRel nv nt β F a → HRel G β S.H w →
      (∀ a' w' β', FRel nv nt β' F' a' → HRel G β' S'.H w' → Stp β S.H w β' S'.H w' → Q .normal a' w') → wpOps C.P ops Q (List.range' i r.length) a w := by
  intro r
  induction r with
  | nil =>
    intro i F F' S S' β a w hr h ok hF hH hQ
    simp only [runOps, Option.some.injEq, Prod.mk.injEq] at h
    obtain ⟨rfl, rfl⟩ := h
    exact hQ a w β hF hH (Stp.refl ..)
  | cons o r ih =>
    intro i F F' S S' β a w hr h ok hF hH hQ
    have hoi : ops[i]? = some o := by
      have : (ops.toList.drop i)[0]? = some o := by rw [hr]; rfl
      simpa using this
    have hr' : ops.toList.drop (i + 1) = r := by
      have := congrArg (List.drop 1) hr
      rw [List.drop_drop] at this; simpa [Nat.add_comm] using this
    have hdo : ∀ x, o.dst = some x → x < nt := fun x hx => hd o (List.mem_of_mem_drop (by rw [hr]; exact List.mem_cons_self ..)) x hx
    simp only [runOps] at h
    rw [List.length_cons, List.range'_succ, wpOps, hoi]
    simp only
    split at h
    · cases h
    · rename_i S1 hg
      obtain ⟨hp, hv⟩ := guard_spec hF hg
      have ok1 := (runOps_ext hcall.ext r _ _ _ _ h).ok ok
      rw [hv ok1]
      simp only [Bool.false_eq_true, if_false]
      refine ih (i + 1) _ _ _ _ β _ w hr' h ok (hF.put hdo (.tup0 _)) (by rw [hp.H]; exact hH) ?_
      intro a' w' β' g1 g2 g3
      rw [hp.H] at g3
      exact hQ a' w' β' g1 g2 g3
    · rename_i S1 hg
      obtain ⟨hp, hv⟩ := guard_spec hF hg
      split at h
      · cases h
      rename_i x S2 hop
      have ok2 := (runOps_ext hcall.ext r _ _ _ _ h).ok ok
      have hH1 : HRel G β S1.H w := by rw [hp.H]; exact hH
      obtain ⟨m1, m2⟩ := opE_wp hG hcall hm (o := o) (a := a) (Q := Q) (next := wpOps C.P ops Q (List.range' (i + 1) r.length)) hop (fun x => hF.ev x) hH1 hF.defers
      rw [hv (m1 ok2)]
      simp only [if_true]
      left
      refine m2 ok2 fun v w' β' g1 g2 g3 => ?_
      refine ih (i + 1) _ _ _ _ β' _ w' hr' h ok ((hF.mono g3.le).put hdo g1) g2 ?_
      intro a' w'' β'' k1 k2 k3
      rw [hp.H] at g3
      exact hQ a' w'' β'' k1 k2 (g3.trans k3)
end
end Go.Eng
/- Regions of open order: what is told ahead of any order, and the check. -/
namespace Go.Eng
set_option linter.unusedSectionVars false
variable [RowAddr]
open Region
set_option linter.unusedSimpArgs false
set_option linter.unusedVariables false

/-! What comes before what. -/
/-- A set of operations that holds what its members wait for. -/
def Closed (ops : Array Oper) (D : Nat → Prop) : Prop := ∀ i o, ops[i]? = some o → D i → ∀ e ∈ o.after, binds .any e = true → D e.on
def bef (ops : Array Oper) (i k : Nat) : Prop := ((before ops).getD i 0).testBit k = true
theorem foldl_testBit {α : Type} (f : α → Option Nat) (k : Nat) : ∀ (l : List α) (s : Nat), (l.foldl (fun s e => match f e with | some m => s ||| m | none => s) s).testBit k = true → s.testBit k = true ∨ ∃ e ∈ l, ∃ m, f e = some m ∧ m.testBit k = true
  | [], s, h => .inl h
  | e :: l, s, h => by
    simp only [List.foldl_cons] at h
    rcases foldl_testBit f k l _ h with h | ⟨e', he, h⟩
    · cases hf : f e with
      | none => simp only [hf] at h; exact .inl h
      | some m =>
        simp only [hf, Nat.testBit_or, Bool.or_eq_true] at h
        rcases h with h | h
        · exact .inl h
        · exact .inr ⟨e, List.mem_cons_self .., m, hf, h⟩
    · exact .inr ⟨e', List.mem_cons_of_mem _ he, h⟩
theorem bef_spec {ops : Array Oper} {D : Nat → Prop} (hD : Closed ops D) : ∀ (i k : Nat) (o : Oper), ops[i]? = some o → bef ops i k → (∀ e ∈ o.after, binds .any e = true → D e.on) → D k := by
  have key : ∀ (r : List Oper) (acc : Array Nat), ops.toList.drop acc.size = r → acc.size ≤ ops.size →
      (∀ i, i < acc.size → ∀ k o, ops[i]? = some o → (acc.getD i 0).testBit k = true → (∀ e ∈ o.after, binds .any e = true → D e.on) → D k) →
      ∀ i k o, ops[i]? = some o → ((r.foldl (fun acc o => acc.push (o.after.foldl (fun s e => if binds .any e then s ||| 2 ^ e.on ||| acc.getD e.on 0 else s) 0)) acc).getD i 0).testBit k = true →
        (∀ e ∈ o.after, binds .any e = true → D e.on) → D k := by
    intro r
    induction r with
    | nil =>
      intro acc hr hle hI i k o ho hb he
      simp only [List.foldl_nil] at hb
      rcases Nat.lt_or_ge i acc.size with h | h
      · exact hI i h k o ho hb he
      · simp [Array.getD_eq_getD_getElem?, Array.getElem?_eq_none h] at hb
    | cons o r ih =>
      intro acc hr hle hI i k o' ho hb he
      have hlt : acc.size < ops.size := by
        rcases Nat.lt_or_ge acc.size ops.size with h | h
        · exact h
        · rw [List.drop_of_length_le (by simpa using h)] at hr; cases hr
      have hoi : ops[acc.size]? = some o := by
        have : (ops.toList.drop acc.size)[0]? = some o := by rw [hr]; rfl
        simpa using this
      simp only [List.foldl_cons] at hb
      refine ih _ (by rw [Array.size_push, ← List.drop_drop, hr]; rfl) (by rw [Array.size_push]; omega) ?_ i k o' ho hb he
      intro i' hi' k' o'' ho'' hb' he'
      rw [Array.size_push] at hi'
      rcases Nat.lt_or_ge i' acc.size with h | h
      · have e : ∀ v, (acc.push v).getD i' 0 = acc.getD i' 0 := by
          intro v
          simp [Array.getD_eq_getD_getElem?, Array.getElem?_push, Nat.ne_of_lt h]
        rw [e] at hb'
        exact hI i' h k' o'' ho'' hb' he'
      · have h' : i' = acc.size := by omega
        subst h'
        rw [hoi] at ho''; injection ho'' with ho''; subst ho''
        have e : ∀ v, (acc.push v).getD acc.size 0 = v := by
          intro v
          simp [Array.getD_eq_getD_getElem?]
        rw [e, ← Array.foldl_toList] at hb'
        have e2 : (fun (s : Nat) (e : Edge) => if binds .any e then s ||| 2 ^ e.on ||| acc.getD e.on 0 else s) = (fun s e => match (if binds .any e then some (2 ^ e.on ||| acc.getD e.on 0) else none : Option Nat) with | some m => s ||| m | none => s) := by
          funext s e
          by_cases h : binds .any e = true
          · simp [h, Nat.or_assoc]
          · simp [h]
        rw [e2] at hb'
        rcases foldl_testBit _ k' _ _ hb' with h0 | ⟨e', hm, m, hf, hk⟩
        · simp at h0
        · split at hf
          case isFalse => cases hf
          rename_i hbind
          injection hf with hf; subst hf
          have hDe := he' e' (Array.mem_def.2 hm) hbind
          rw [Nat.testBit_or, Bool.or_eq_true] at hk
          rcases hk with hk | hk
          · rw [Nat.testBit_two_pow] at hk
            have : e'.on = k' := by simpa using hk
            rw [← this]; exact hDe
          · rcases Nat.lt_or_ge e'.on acc.size with h2 | h2
            · have hlt2 : e'.on < ops.size := by omega
              exact hI e'.on h2 k' ops[e'.on] (Array.getElem?_eq_getElem hlt2) hk (fun e he hb => hD e'.on _ (Array.getElem?_eq_getElem hlt2) hDe e he hb)
            · simp [Array.getD_eq_getD_getElem?, Array.getElem?_eq_none h2] at hk
  intro i k o ho hb he
  refine key ops.toList #[] (by simp) (by simp) (fun i h => by simp at h) i k o ho ?_ he
  unfold bef before at hb
  rw [← Array.foldl_toList] at hb
  exact hb
theorem befOf_eq (ops : Array Oper) (i k : Nat) : (befOf ops i).testBit k = true ↔ bef ops i k := by
  unfold befOf bef; rw [CheckFast.beforeF_eq]

/-! The check, once for each region. -/
/-- Operations that read one block, by their text. -/
def readsP (P : Program) (op : Op) : Bool :=
  match op with
  | .load .. => true
  | .slice t _ _ _ _ => isArr P t
  | .convert s d _ => Nat.beq s d
  | _ => false
def dstIn (d : Option Nat) (l : List Nat) : Bool :=
  match d with
  | some d => elemN d l
  | none => false
def dstEq (d e : Option Nat) : Bool :=
  match d with
  | some d =>
    match e with
    | some e => Nat.beq d e
    | none => false
  | none => false
/-- Two operations, the first ahead of the second in the text, that may come in either order. -/
def pairW (P : Program) (dyn : Bool) (a : Oper) (la : List Nat) (b : Oper) (lb : List Nat) : Bool :=
  !(dstIn a.dst lb) && !(dstIn b.dst la) && !(dstEq a.dst b.dst) &&
  !(isEff a.op && isEff b.op) && !(isFloat a.op && (isEff b.op || readsP P b.op)) &&
  (dyn || (!(readsP P a.op && isEff b.op) && !(isEff a.op && readsP P b.op)))
def rowOk (P : Program) (dyn : Bool) (b : Oper) (lb : List Nat) (bb : Nat) : List (Oper × List Nat) → Nat → Bool
  | [], _ => true
  | (a, la) :: r, k =>
    match bb.testBit k with
    | true => rowOk P dyn b lb bb r (k + 1)
    | false =>
      match pairW P dyn a la b lb with
      | true => rowOk P dyn b lb bb r (k + 1)
      | false => false
def rowsOk (P : Program) (dyn : Bool) : List (Oper × List Nat) → List Nat → List (Oper × List Nat) → Bool
  | [], _, _ => true
  | _ :: _, [], _ => false
  | (b, lb) :: r, bb :: bs, prev =>
    match rowOk P dyn b lb bb prev 0 with
    | true => rowsOk P dyn r bs (prev ++ [(b, lb)])
    | false => false
def edgesOk : List Oper → Nat → Bool
  | [], _ => true
  | o :: r, i =>
    match o.after.toList.all fun e => !binds .any e || Nat.blt e.on i with
    | true => edgesOk r (i + 1)
    | false => false
def dstsOk (nt : Nat) : List Oper → Bool
  | [] => true
  | o :: r =>
    match o.dst with
    | some d =>
      match Nat.blt d nt with
      | true => dstsOk nt r
      | false => false
    | none => dstsOk nt r
def looksL (ops : Array Oper) : List Oper → List (Oper × List Nat)
  | [] => []
  | o :: r => (o, Oper.looksAt ops o) :: looksL ops r
def regOk (P : Program) (nt : Nat) (dyn : Bool) (ops : Array Oper) (draw : Bool) : Bool :=
  match dstsOk nt ops.toList with
  | false => false
  | true =>
    match draw with
    | false => true
    | true =>
      match edgesOk ops.toList 0 with
      | false => false
      | true => rowsOk P dyn (looksL ops ops.toList) (CheckFast.beforeF ops).toList []

theorem dstsOk_spec {nt : Nat} : ∀ {l : List Oper}, dstsOk nt l = true → DstOk nt l
  | [], _ => fun o ho => by cases ho
  | o :: r, h => by
    simp only [dstsOk] at h
    intro o' ho' d hd
    rcases List.mem_cons.1 ho' with rfl | ho'
    · rw [hd] at h
      simp only at h
      cases hb : Nat.blt d nt with
      | false => simp [hb] at h
      | true => simpa using hb
    · cases hod : o.dst with
      | none => rw [hod] at h; exact dstsOk_spec h o' ho' d hd
      | some d' =>
        rw [hod] at h
        simp only at h
        cases hb : Nat.blt d' nt with
        | false => simp [hb] at h
        | true => simp only [hb] at h; exact dstsOk_spec h o' ho' d hd
theorem edgesOk_spec : ∀ {l : List Oper} {i : Nat}, edgesOk l i = true → ∀ (j : Nat) o, l[j]? = some o → ∀ e ∈ o.after, binds .any e = true → e.on < i + j
  | [], _, _ => fun j o ho => by simp at ho
  | o :: r, i, h => by
    simp only [edgesOk] at h
    split at h
    · rename_i ha
      intro j o' ho' e he hb
      cases j with
      | zero =>
        simp at ho'; subst ho'
        have := List.all_eq_true.1 ha e (Array.mem_toList_iff.2 he)
        simp [hb] at this; omega
      | succ j =>
        have := edgesOk_spec h j o' (by simpa using ho') e he hb
        omega
    · cases h
theorem rowOk_spec {P : Program} {dyn : Bool} {b : Oper} {lb : List Nat} {bb : Nat} : ∀ {l : List (Oper × List Nat)} {i : Nat}, rowOk P dyn b lb bb l i = true →
    ∀ (k : Nat) p, l[k]? = some p → bb.testBit (i + k) = true ∨ pairW P dyn p.1 p.2 b lb = true
  | [], _, _ => fun k p hp => by simp at hp
  | (a, la) :: r, i, h => by
    intro k p hp
    simp only [rowOk] at h
    cases k with
    | zero =>
      simp at hp; subst hp
      split at h
      · exact .inl (by assumption)
      · split at h
        · exact .inr (by assumption)
        · cases h
    | succ k =>
      have e : i + (k + 1) = (i + 1) + k := by omega
      rw [e]
      split at h
      · exact rowOk_spec h k p (by simpa using hp)
      · split at h
        · exact rowOk_spec h k p (by simpa using hp)
        · cases h
theorem rowsOk_spec {P : Program} {dyn : Bool} : ∀ {l : List (Oper × List Nat)} {bs : List Nat} {prev : List (Oper × List Nat)}, rowsOk P dyn l bs prev = true →
    ∀ (j : Nat) p, l[j]? = some p → ∃ bb, bs[j]? = some bb ∧ ∀ (k : Nat) q, (prev ++ l.take j)[k]? = some q → bb.testBit k = true ∨ pairW P dyn q.1 q.2 p.1 p.2 = true
  | [], _, _, _ => fun j p hp => by simp at hp
  | _ :: _, [], _, h => by simp [rowsOk] at h
  | (b, lb) :: r, bb :: bs, prev, h => by
    intro j p hp
    simp only [rowsOk] at h
    split at h
    case h_2 => cases h
    rename_i hr
    cases j with
    | zero =>
      simp at hp; subst hp
      refine ⟨bb, rfl, fun k q hq => ?_⟩
      have := rowOk_spec hr k q (by simpa using hq)
      simpa using this
    | succ j =>
      obtain ⟨bb', h1, h2⟩ := rowsOk_spec h j p (by simpa using hp)
      refine ⟨bb', by simpa using h1, fun k q hq => h2 k q ?_⟩
      simpa using hq
theorem looksL_get (ops : Array Oper) : ∀ (l : List Oper) (i : Nat), (looksL ops l)[i]? = (l[i]?).map fun o => (o, Oper.looksAt ops o)
  | [], i => by simp [looksL]
  | o :: r, 0 => by simp [looksL]
  | o :: r, i + 1 => by simp [looksL, looksL_get ops r i]
/-- Two operations of a region that passed: they come in the order of the text, or all that stands in the check. -/
theorem regOk_pair {P : Program} {nt : Nat} {dyn : Bool} {ops : Array Oper} (h : regOk P nt dyn ops true = true) {k j : Nat} {a b : Oper} (hkj : k < j) (ha : ops[k]? = some a) (hb : ops[j]? = some b) :
    bef ops j k ∨ pairW P dyn a (Oper.looksAt ops a) b (Oper.looksAt ops b) = true := by
  unfold regOk at h
  split at h
  · cases h
  simp only at h
  split at h
  · cases h
  have hb' : (looksL ops ops.toList)[j]? = some (b, Oper.looksAt ops b) := by rw [looksL_get]; simp [hb]
  obtain ⟨bb, h1, h2⟩ := rowsOk_spec h j _ hb'
  have := h2 k (a, Oper.looksAt ops a) (by
    rw [List.nil_append, List.getElem?_take, if_pos hkj, looksL_get]; simp [ha])
  refine this.imp (fun hh => ?_) id
  have e : (before ops).getD j 0 = bb := by
    rw [← CheckFast.beforeF_eq]
    simp only [Array.getElem?_toList] at h1
    simp [Array.getD_eq_getD_getElem?, h1]
  unfold bef; rw [e]; exact hh
theorem regOk_dst {P : Program} {nt : Nat} {dyn : Bool} {ops : Array Oper} {draw : Bool} (h : regOk P nt dyn ops draw = true) : DstOk nt ops.toList := by
  unfold regOk at h
  split at h
  · cases h
  · exact dstsOk_spec (by assumption)
theorem regOk_edges {P : Program} {nt : Nat} {dyn : Bool} {ops : Array Oper} (h : regOk P nt dyn ops true = true) : ∀ (j : Nat) o, ops[j]? = some o → ∀ e ∈ o.after, binds .any e = true → e.on < j := by
  unfold regOk at h
  split at h
  · cases h
  simp only at h
  split at h
  · cases h
  rename_i he
  intro j o ho e hm hb
  have := edgesOk_spec he j o (by simpa using ho) e hm hb
  omega
end Go.Eng
/- Regions of open order: heaps seen in part, blocks whose names are set aside. -/
namespace Go.Eng
set_option linter.unusedSectionVars false
variable [RowAddr]
open Region
set_option linter.unusedSimpArgs false
set_option linter.unusedVariables false

/-! The last change of a thing among those made. -/
section
open Classical
noncomputable def last (D Ch : Nat → Prop) : Nat → Nat
  | 0 => 0
  | n + 1 => if D n ∧ Ch n then n + 1 else last D Ch n
variable {α : Type} {x : Nat → α} {D Ch : Nat → Prop}
theorem last_agree {i n : Nat} (hx : ∀ k, k < n → ¬ Ch k → x (k + 1) = x k) (hin : i ≤ n) (h : ∀ k, k < n → Ch k → (D k ↔ k < i)) : x (last D Ch n) = x i := by
  have key : ∀ m, m ≤ n → x (last D Ch m) = x (min m i) := by
    intro m
    induction m with
    | zero => intro _; simp [last]
    | succ m ih =>
      intro hm
      simp only [last]
      split
      · rename_i hc
        have := (h m (by omega) hc.2).1 hc.1
        rw [Nat.min_eq_left (by omega)]
      · rename_i hc
        rw [ih (by omega)]
        rcases Nat.lt_or_ge m i with hmi | hmi
        · rw [Nat.min_eq_left (by omega), Nat.min_eq_left (by omega)]
          refine (hx m (by omega) fun hch => hc ⟨(h m (by omega) hch).2 hmi, hch⟩).symm
        · rw [Nat.min_eq_right (by omega), Nat.min_eq_right (by omega)]
  rw [key n (Nat.le_refl _), Nat.min_eq_right hin]
theorem last_new {i n : Nat} (hi : i < n) (hc : Ch i) (h : ∀ k, i < k → k < n → Ch k → ¬ D k) : last (fun k => D k ∨ k = i) Ch n = i + 1 := by
  have key : ∀ m, i < m → m ≤ n → last (fun k => D k ∨ k = i) Ch m = i + 1 := by
    intro m
    induction m with
    | zero => intro h; omega
    | succ m ih =>
      intro h1 h2
      simp only [last]
      rcases Nat.lt_or_ge i m with hm | hm
      · rw [if_neg, ih hm (by omega)]
        rintro ⟨h3, h4⟩
        rcases h3 with h3 | h3
        · exact h m hm (by omega) h4 h3
        · omega
      · have : m = i := by omega
        subst this
        rw [if_pos ⟨.inr rfl, hc⟩]
  exact key n hi (Nat.le_refl _)
theorem last_same {i n : Nat} (hc : ¬ Ch i) : last (fun k => D k ∨ k = i) Ch n = last D Ch n := by
  induction n with
  | zero => rfl
  | succ n ih =>
    simp only [last, ih]
    by_cases h : D n ∧ Ch n
    · rw [if_pos h, if_pos ⟨.inl h.1, h.2⟩]
    · rw [if_neg h, if_neg]
      rintro ⟨h1 | h1, h2⟩
      · exact h ⟨h1, h2⟩
      · subst h1; exact hc h2
end

section
variable {G : Nat → Option (List AV)} {β β' : Map} {w w' : World} {H Hc H' H2 : List Blk}
/-- A heap of which some blocks are not looked at. -/
theorem HRel.view (hH : HRel G β H w) (hl : Hc.length = H.length) (hsub : ∀ (b : Nat) k, Hc[b]? = some k → k.mode.alive → H[b]? = some k) : HRel G β Hc w :=
  ⟨fun b k hk ha => hH.blk b k (hsub b k hk ha) ha, fun b b' k k' L L' hne hk hk' ho ha => hH.dis b b' k k' L L' hne (hsub b k hk (own_alive ho)) (hsub b' k' hk' ha) ho ha,
    fun b L h => by rw [hl]; exact hH.dom b L h, hH.glob, fun b k L hk ho => hH.apart b k L (hsub b k hk (own_alive ho)) ho⟩
/-- What was not looked at is there still. -/
theorem HRel.revive (hH : HRel G β H w) (hl : Hc.length = H.length) (hsub : ∀ (b : Nat) k, Hc[b]? = some k → k.mode.alive → H[b]? = some k)
    (h' : HRel G β' H' w') (hs : Stp β Hc w β' H' w') (A : Nat → Prop) (hl2 : H2.length = H'.length)
    (hA : ∀ b, A b → H2[b]? = H[b]? ∧ (∀ k', Hc[b]? = some k' → k'.mode = .dead) ∧ ∀ k, H[b]? = some k → k.mode.alive → k.mode = .own ∧ ∃ L, β b = some L) (hN : ∀ b, ¬ A b → H2[b]? = H'[b]?)
    (hro : ∀ (b : Nat) k, H'[b]? = some k → k.mode = .ro → Hc[b]? = some k) : HRel G β' H2 w' ∧ Stp β H w β' H2 w' := by
  have hlt : ∀ b k, H[b]? = some k → b < Hc.length := by
    intro b k hk
    rw [hl]
    rcases Nat.lt_or_ge b H.length with h | h
    · exact h
    · rw [List.getElem?_eq_none h] at hk; cases hk
  have hltc : ∀ b k, Hc[b]? = some k → b < Hc.length := by
    intro b k hk
    rcases Nat.lt_or_ge b Hc.length with h | h
    · exact h
    · rw [List.getElem?_eq_none h] at hk; cases hk
  have hno : ∀ b k L, H[b]? = some k → k.mode = .own → β b = some L → (∀ k', Hc[b]? = some k' → k'.mode = .dead) → ¬ Own β Hc L.c := by
    rintro b k L hk ho hL hd ⟨b2, k2, L2, hk2, ho2, hL2, hc⟩
    have hne : b ≠ b2 := by
      intro e; subst e
      have := hd k2 hk2; rw [ho2] at this; cases this
    exact hH.dis b b2 k k2 L L2 hne hk (hsub b2 k2 hk2 (own_alive ho2)) ho (own_alive ho2) hL hL2 hc.symm
  have hlc : ∀ b k L, H[b]? = some k → k.mode = .own → β b = some L → L.c < w.heap.size := fun b k L hk ho hL => hH.lt hk (own_alive ho) hL
  have hb : ∀ b k, H2[b]? = some k → k.mode.alive → (A b ∧ H[b]? = some k ∧ k.mode = .own ∧ (∃ L, β b = some L) ∧ ∀ k', Hc[b]? = some k' → k'.mode = .dead) ∨ (¬ A b ∧ H'[b]? = some k) := by
    intro b k hk ha
    by_cases h : A b
    · obtain ⟨a1, a2, a3⟩ := hA b h
      rw [a1] at hk
      obtain ⟨a4, a5⟩ := a3 k hk ha
      exact .inl ⟨h, hk, a4, a5, a2⟩
    · rw [hN b h] at hk; exact .inr ⟨h, hk⟩
  refine ⟨⟨?_, ?_, ?_, h'.glob, ?_⟩, ⟨hs.le, by rw [hl2, ← hl]; exact hs.len, hs.os, hs.tape, hs.output, hs.size, ?_, ?_, fun b hb => hs.old b (by rw [hl]; exact hb)⟩⟩
  · intro b k hk ha
    rcases hb b k hk ha with ⟨_, hk, ho, ⟨L, hL⟩, hd⟩ | ⟨_, hk⟩
    · rcases hH.blk b k hk ha with ⟨L', hL', hbr⟩ | ⟨_, hn⟩
      · rw [hL] at hL'; injection hL' with e; subst e
        exact .inl ⟨L, hs.le b L hL, hbr.mono hs.le hs.size (hs.kept _ (hlc b k L hk ho hL) (hno b k L hk ho hL hd))⟩
      · rw [hL] at hn; cases hn
    · exact h'.blk b k hk ha
  · -- apart from each other
    have key : ∀ b b' k k' L L', b ≠ b' → H[b]? = some k → k.mode = .own → β b = some L → (∀ k', Hc[b]? = some k' → k'.mode = .dead) → H'[b']? = some k' → k'.mode.alive → β' b' = some L' → L.c ≠ L'.c := by
      intro b b' k k' L L' hne hk ho hL hd hk' ha hL' e
      cases hm : k'.mode with
      | own =>
        exact hno b k L hk ho hL hd (hs.own _ (hlc b k L hk ho hL) ⟨b', k', L', hk', hm, hL', e.symm⟩)
      | ro =>
        have h1 := hro b' k' hk' hm
        have h2 := hsub b' k' h1 ha
        rw [hs.old b' (hltc b' k' h1)] at hL'
        exact hH.dis b b' k k' L L' hne hk h2 ho ha hL hL' e
      | dead => exact ha hm
    intro b b' k k' L L' hne hk hk' ho ha hL hL'
    rcases hb b k hk (own_alive ho) with ⟨_, hk, ho1, ⟨L1, hL1⟩, hd⟩ | ⟨_, hk⟩
    · have e1 : L1 = L := by rw [hs.le b L1 hL1] at hL; injection hL
      subst e1
      rcases hb b' k' hk' ha with ⟨_, hk', ho2, ⟨L2, hL2⟩, hd'⟩ | ⟨_, hk'⟩
      · have e2 : L2 = L' := by rw [hs.le b' L2 hL2] at hL'; injection hL'
        subst e2
        exact hH.dis b b' k k' _ _ hne hk hk' ho ha hL1 hL2
      · exact key b b' k k' _ _ hne hk ho1 hL1 hd hk' ha hL'
    · rcases hb b' k' hk' ha with ⟨_, hk', ho2, ⟨L2, hL2⟩, hd'⟩ | ⟨_, hk'⟩
      · have e2 : L2 = L' := by rw [hs.le b' L2 hL2] at hL'; injection hL'
        subst e2
        exact (key b' b k' k _ _ (Ne.symm hne) hk' ho2 hL2 hd' hk (own_alive ho) hL).symm
      · exact h'.dis b b' k k' L L' hne hk hk' ho ha hL hL'
  · intro b L h; rw [hl2]; exact h'.dom b L h
  · intro b k L hk ho hL
    rcases hb b k hk (own_alive ho) with ⟨_, hk, _, ⟨L1, hL1⟩, _⟩ | ⟨_, hk⟩
    · have e1 : L1 = L := by rw [hs.le b L1 hL1] at hL; injection hL
      subst e1
      exact hH.apart b k _ hk ho hL1
    · exact h'.apart b k L hk ho hL
  · intro c hc hn
    refine hs.kept c hc fun ⟨b, k, L, hk, ho, hL, hLc⟩ => hn ⟨b, k, L, hsub b k hk (own_alive ho), ho, hL, hLc⟩
  · intro c hc ⟨b, k, L, hk, ho, hL, hLc⟩
    rcases hb b k hk (own_alive ho) with ⟨_, hk, _, ⟨L1, hL1⟩, _⟩ | ⟨_, hk⟩
    · have e1 : L1 = L := by rw [hs.le b L1 hL1] at hL; injection hL
      subst e1
      exact ⟨b, k, _, hk, ho, hL1, hLc⟩
    · obtain ⟨b2, k2, L2, hk2, ho2, hL2, hc2⟩ := hs.own c hc ⟨b, k, L, hk, ho, hL, hLc⟩
      exact ⟨b2, k2, L2, hsub b2 k2 hk2 (own_alive ho2), ho2, hL2, hc2⟩

/-- A new block under a name that was set aside. -/
theorem HRel.newAt (hH : HRel G β H w) {b : Nat} {k0 : Blk} (hb : H[b]? = some k0) (hn : β b = none) (d : Data) (vs : List Value) (t : TypeId) (hd : d.len ≤ vs.length) (hr : LRel β d.list (vs.take d.len)) :
    HRel G (β.put b ⟨w.heap.size, 0, vs.length⟩) (H.set b ⟨d, .own⟩) (w.alloc (.cells ⟨vs⟩ t)) ∧
    (∀ c, c < w.heap.size → (w.alloc (.cells ⟨vs⟩ t)).heap[c]? = w.heap[c]?) ∧ (∀ c, c < w.heap.size → Own (β.put b ⟨w.heap.size, 0, vs.length⟩) (H.set b ⟨d, .own⟩) c → Own β H c) := by
  have hblt : b < H.length := by
    rcases Nat.lt_or_ge b H.length with h | h
    · exact h
    · simp [List.getElem?_eq_none h] at hb
  have hle := Map.put_le (L := ⟨w.heap.size, 0, vs.length⟩) hn
  have hold : ∀ c, c < w.heap.size → (w.alloc (.cells ⟨vs⟩ t)).heap[c]? = w.heap[c]? := fun c hc => RowKit.Below.heap_alloc w _ c hc
  have hnew : (w.alloc (.cells ⟨vs⟩ t)).heap[w.heap.size]? = some (.cells ⟨vs⟩ t (0, 0)) := by
    show (w.heap.push _)[w.heap.size]? = _
    simp
  have hsz : (w.alloc (.cells ⟨vs⟩ t)).heap.size = w.heap.size + 1 := by
    show (w.heap.push _).size = _
    simp
  have hget : ∀ (x : Nat) k, (H.set b ⟨d, .own⟩)[x]? = some k → (x ≠ b ∧ H[x]? = some k) ∨ (x = b ∧ k = ⟨d, .own⟩) := by
    intro x k hk
    by_cases e : x = b
    · subst e; rw [List.getElem?_set_self hblt] at hk; injection hk with hk; exact .inr ⟨rfl, hk.symm⟩
    · rw [List.getElem?_set_ne (Ne.symm e)] at hk; exact .inl ⟨e, hk⟩
  refine ⟨⟨?_, ?_, ?_, ?_, ?_⟩, hold, ?_⟩
  · intro x k hk ha
    rcases hget x k hk with ⟨h, hk⟩ | ⟨rfl, rfl⟩
    · rcases hH.blk x k hk ha with ⟨L, hL, hbr⟩ | ⟨h2, h3⟩
      · exact .inl ⟨L, hle x L hL, hbr.mono hle (by omega) (hold _ (hbr.lt ha))⟩
      · exact .inr ⟨h2, by rw [Map.put_ne h]; exact h3⟩
    · exact .inl ⟨_, Map.put_same .., rfl, vs, t, (0, 0), hnew, .inl rfl, rfl, hd, hr.mono hle⟩
  · intro x y k k' L L' hne hk hk' ho ha hL hL'
    rcases hget x k hk with ⟨h, hk1⟩ | ⟨e1, e2⟩
    · rw [Map.put_ne h] at hL
      rcases hget y k' hk' with ⟨h', hk1'⟩ | ⟨e1', e2'⟩
      · rw [Map.put_ne h'] at hL'
        exact hH.dis x y k k' L L' hne hk1 hk1' ho ha hL hL'
      · rw [e1', Map.put_same] at hL'; injection hL' with e; subst e
        have := hH.lt hk1 (own_alive ho) hL
        simp only; omega
    · rw [e1, Map.put_same] at hL; injection hL with e; subst e
      rcases hget y k' hk' with ⟨h', hk1'⟩ | ⟨e1', e2'⟩
      · rw [Map.put_ne h'] at hL'
        have := hH.lt hk1' ha hL'
        simp only; omega
      · exact absurd (e1.trans e1'.symm) hne
  · intro x L hL
    rw [List.length_set]
    by_cases e : x = b
    · omega
    · rw [Map.put_ne e] at hL; exact hH.dom x L hL
  · intro g l hg
    obtain ⟨h1, h2⟩ := hH.glob g l hg
    refine ⟨by omega, fun i x hx => ?_⟩
    obtain ⟨v, hv, hv'⟩ := h2 i x hx
    obtain ⟨b0, hb0⟩ := gAt_eq g
    exact ⟨v, by rw [hb0] at hv ⊢; rw [World.cell?_of_block (w := w) (a := at' (gIx g) (b0 + i)) (hold _ h1)]; exact hv, hv'⟩
  · intro x k L hk ho hL
    rcases hget x k hk with ⟨h, hk⟩ | ⟨rfl, rfl⟩
    · rw [Map.put_ne h] at hL; exact hH.apart x k L hk ho hL
    · rw [Map.put_same] at hL; injection hL with e; subst e
      intro g l hg
      have := (hH.glob _ l hg).1
      simp only; omega
  · intro c hc ⟨x, k, L, hk, ho, hL, hLc⟩
    rcases hget x k hk with ⟨h, hk⟩ | ⟨rfl, rfl⟩
    · rw [Map.put_ne h] at hL; exact ⟨x, k, L, hk, ho, hL, hLc⟩
    · rw [Map.put_same] at hL; injection hL with e; subst e; simp only at hLc; omega
end

/-! Allocations under such names. -/
section
variable {C : Cfg} {β : Map} {w : World}
theorem floatE_spec {o : Oper} {ev : Operand → AV} {ρ : Operand → Value} {nm : Nat} {x : AV} {S S' : St} (h : floatE C ev o.op nm S = some (x, S')) (hev : ∀ x, VRel β (ev x) (ρ x)) :
    ∃ d S1, Pure S S1 ∧ S'.H = lset ⟨d, .own⟩ nm S.H ∧ S'.cond = S1.cond ∧ S'.low = S.low ∧ S'.dec = S1.dec ∧
      (S1.ok → ∃ (vs : List Value) (t : TypeId) (v : World → Value), LRel β d.list vs ∧ (∀ w : World, (execOp ρ o).run C.P w = .ok (.value (v w)) (w.alloc (.cells ⟨vs⟩ t))) ∧
        ∀ (w : World) (β' : Map), β' nm = some ⟨w.heap.size, 0, vs.length⟩ → VRel β' x (v w)) := by
  unfold floatE at h
  split at h
  · rename_i e ho
    split at h
    case h_2 => cases h
    rename_i z hz
    simp only [Option.some.injEq, Prod.mk.injEq] at h
    obtain ⟨rfl, rfl⟩ := h
    obtain ⟨i, z', hi, hz', hl, e1, e2⟩ := zeroRow_spec hz β
    refine ⟨.gen z, S, Pure.refl _, rfl, rfl, rfl, rfl, fun _ => ⟨z'.cells.toList, e, fun w => .pointer (some (at' w.heap.size 0)), ?_, fun w => ?_, fun w β' hb => ?_⟩⟩
    · exact hl
    · obtain ⟨dst, op, ty, pos, after, guard⟩ := o
      simp only at ho
      subst ho
      simp [execOp, Instr.alloc, zeroValue, typeInfo, hi, hz', newVar, newRow, at']
    · exact .ptr _ (.c 0) _ hb
  · rename_i t l c ho
    split at h
    case h_2 => cases h
    rename_i y S1 hm
    split at h
    case h_2 => cases h
    rename_i b' o' n cap k hk
    simp only [Option.some.injEq, Prod.mk.injEq] at h
    obtain ⟨rfl, rfl⟩ := h
    obtain ⟨S2, d, n', cp, hp, rfl, hx, hh⟩ := makeSliceOp_run hm (hev l) (hev c)
    have hH2 : S2.H = [] := hp.H
    simp only [AV.sl, AV.ref.injEq, Ref.sl.injEq] at hx
    obtain ⟨_, rfl, rfl, rfl⟩ := hx
    have hkd : k = ⟨d, .own⟩ := by
      simp only [St.new, hH2, List.nil_append, List.cons.injEq] at hk
      exact hk.1.symm
    subst hkd
    refine ⟨d, { S with dec := S2.dec, cond := S2.cond }, ⟨rfl, rfl, fun o => hp.ok o⟩, rfl, rfl, hp.low, rfl, fun ok => ?_⟩
    obtain ⟨vs, e, h1, h2, h3, h4⟩ := hh ok
    refine ⟨vs, e, fun w => .slice (some (at' w.heap.size 0)) n.v cp.v, h1 β, fun w => ?_, fun w β' hb => ?_⟩
    · obtain ⟨dst, op, ty, pos, after, guard⟩ := o
      simp only at ho
      subst ho
      simp only [execOp]
      simp [h2 w]
    · exact .sl _ (.c 0) n (some cp) (some (at' w.heap.size 0)) cp.v h3 (fun C hC => by injection hC with hC; subst hC; rfl)
        (.inr ⟨_, hb, rfl, by show (0 : Nat) + cp.v ≤ vs.length; omega⟩)
  · rename_i t n ps ho
    split at h
    case h_2 => cases h
    rename_i y S1 hm
    split at h
    case h_2 => cases h
    rename_i b' o' m cap k hk
    simp only [Option.some.injEq, Prod.mk.injEq] at h
    obtain ⟨rfl, rfl⟩ := h
    obtain ⟨r, rs, e, rfl, hx, g2, g3, g4⟩ := buildSliceOp_run (P := C.P) hm (evP_rel hev ps.toList)
    simp only [AV.ref.injEq, Ref.sl.injEq] at hx
    obtain ⟨_, rfl, rfl, rfl⟩ := hx
    have hkd : k = ⟨.gen r, .own⟩ := by
      simp only [St.new, List.nil_append, List.cons.injEq] at hk
      exact hk.1.symm
    subst hkd
    refine ⟨.gen r, S, Pure.refl _, rfl, rfl, rfl, rfl, fun _ => ⟨rs.toList, e, fun w => .slice (some (at' w.heap.size 0)) n n, g2, fun w => ?_, fun w β' hb => ?_⟩⟩
    · obtain ⟨dst, op, ty, pos, after, guard⟩ := o
      simp only at ho
      subst ho
      have g4 := g4 w
      have e1 : ps.map (fun (x : Nat × Operand) => (x.1, ρ x.2)) = ⟨ps.toList.map fun p => (p.1, ρ p.2)⟩ := by apply Array.ext'; simp
      simp only [execOp]
      rw [e1]
      simp [g4]
    · exact .sl _ (.c 0) (.c n) (some (.c n)) (some (at' w.heap.size 0)) n (Nat.le_refl _) (fun C hC => by injection hC with hC; subst hC; rfl)
        (.inr ⟨_, hb, rfl, by show (0 : Nat) + n ≤ rs.toList.length; omega⟩)
  · cases h
end
end Go.Eng
/- Regions of open order: the run in the order of the text. -/
namespace Go.Eng
set_option linter.unusedSectionVars false
variable [RowAddr]
open Region
set_option linter.unusedSimpArgs false
set_option linter.unusedVariables false

section
variable {C : Cfg} {call : CallF} {nv : Nat} {dyn : Bool} {ops : List Oper}
theorem lowB_H (S : St) : (lowB dyn S).H = S.H := by cases dyn <;> rfl
theorem lowB_ok (S : St) : (lowB dyn S).ok ↔ S.ok := by cases dyn <;> exact Iff.rfl
theorem lowA_H (S S' : St) : (lowA dyn S S').H = S'.H := by cases dyn <;> rfl
theorem lowA_ok (S S' : St) : (lowA dyn S S').ok ↔ S'.ok := by cases dyn <;> exact Iff.rfl
theorem stepW_inv {nm : Nat} {o : Oper} {F F' : Fr} {S S' : St} {e : Option Ev} (h : stepW C call nv dyn ops nm o F S = some (F', S', e)) :
    ∃ b S1, guardOk ops (F.ev nv) o.guard S = some (b, S1) ∧ Pure S S1 ∧
      ((b = false ∧ F' = F.put nv o.dst (.obj .tup []) ∧ S' = S1) ∨
       (b = true ∧ isFloat o.op = true ∧ ∃ v, floatE C (F.ev nv) o.op nm S1 = some (v, S') ∧ F' = F.put nv o.dst v) ∨
       (b = true ∧ isFloat o.op = false ∧ ∃ v S2, opE C call (F.ev nv) o.op (lowB dyn S1) = some (v, S2) ∧ S' = lowA dyn S1 S2 ∧ F' = F.put nv o.dst v ∧ e = evOf C.P dyn (F.ev nv) o.op S1 S2)) := by
  unfold stepW at h
  split at h
  · cases h
  · rename_i S1 hg
    simp only [Option.some.injEq, Prod.mk.injEq] at h
    obtain ⟨rfl, rfl, rfl⟩ := h
    exact ⟨false, S1, hg, guard_pure hg, .inl ⟨rfl, rfl, rfl⟩⟩
  · rename_i S1 hg
    split at h
    · rename_i hf
      split at h
      · cases h
      rename_i v S2 hv
      simp only [Option.some.injEq, Prod.mk.injEq] at h
      obtain ⟨rfl, rfl, rfl⟩ := h
      exact ⟨true, S1, hg, guard_pure hg, .inr (.inl ⟨rfl, hf, v, hv, rfl⟩)⟩
    · rename_i hf
      split at h
      · cases h
      rename_i v S2 hv
      simp only [Option.some.injEq, Prod.mk.injEq] at h
      obtain ⟨rfl, rfl, rfl⟩ := h
      exact ⟨true, S1, hg, guard_pure hg, .inr (.inr ⟨rfl, hf, v, S2, hv, rfl, rfl, rfl⟩)⟩
theorem floatE_H {ev : Operand → AV} {op : Op} {nm : Nat} {x : AV} {S S' : St} (h : floatE C ev op nm S = some (x, S')) : (∃ k, k.mode = .own ∧ S'.H = lset k nm S.H) ∧ (S'.ok → S.ok) := by
  unfold floatE at h
  split at h
  · split at h
    · simp only [Option.some.injEq, Prod.mk.injEq] at h
      obtain ⟨_, rfl⟩ := h
      exact ⟨⟨_, rfl, rfl⟩, id⟩
    · cases h
  · split at h
    case h_2 => cases h
    rename_i y S1 hm
    split at h
    case h_2 => cases h
    rename_i b' o' n cap k hk
    simp only [Option.some.injEq, Prod.mk.injEq] at h
    obtain ⟨_, rfl⟩ := h
    have hx := makeSliceOp_ext hm
    refine ⟨⟨k, ?_, rfl⟩, hx.ok⟩
    unfold makeSliceOp at hm
    repeat' (split at hm)
    all_goals (try (cases hm; done))
    simp only [Option.some.injEq, Prod.mk.injEq] at hm; obtain ⟨_, rfl⟩ := hm
    have h1 := B.claim_spec ‹B.claim (N.fits _) _ = some _›
    have h2 := B.claim_spec ‹B.claim (ordered _ _ _) _ = some _›
    have hH := (h2.1.trans h1.1).H
    simp only [St.new, hH, List.nil_append, List.cons.injEq] at hk
    rw [← hk.1]
  · split at h
    case h_2 => cases h
    rename_i y S1 hm
    split at h
    case h_2 => cases h
    rename_i b' o' n cap k hk
    simp only [Option.some.injEq, Prod.mk.injEq] at h
    obtain ⟨_, rfl⟩ := h
    have hx := buildSliceOp_ext hm
    refine ⟨⟨k, ?_, rfl⟩, hx.ok⟩
    unfold buildSliceOp at hm
    repeat' (split at hm)
    all_goals (try (cases hm; done))
    simp only [Option.some.injEq, Prod.mk.injEq] at hm; obtain ⟨_, rfl⟩ := hm
    simp only [St.new, List.nil_append, List.cons.injEq] at hk
    rw [← hk.1]
  · cases h

/-- The run in the order of the text, step by step. -/
theorem runW_trace : ∀ (r : List Oper) (i nm : Nat) (F F' : Fr) (S S' : St) (es : List (Nat × Ev)), runW C call nv dyn ops r i nm F S = some (F', S', es) →
    ∃ (tr : Nat → Fr × St) (evs : Nat → Option Ev), tr 0 = (F, S) ∧ tr r.length = (F', S') ∧
      (∀ (k : Nat) o, r[k]? = some o → stepW C call nv dyn ops (nm + floats (r.take k)) o (tr k).1 (tr k).2 = some ((tr (k + 1)).1, (tr (k + 1)).2, evs k)) ∧
      (∀ (k : Nat) e, k < r.length → evs k = some e → (i + k, e) ∈ es) ∧
      ∀ bef, clashes bef es = false → ∀ (k k' : Nat) e e', k < k' → k' < r.length → evs k = some e → evs k' = some e' → clash1 bef (i + k) e (i + k') e' = false := by
  intro r
  induction r with
  | nil =>
    intro i nm F F' S S' es h
    simp only [runW, Option.some.injEq, Prod.mk.injEq] at h
    obtain ⟨rfl, rfl, rfl⟩ := h
    exact ⟨fun _ => (F, S), fun _ => none, rfl, rfl, fun k o ho => by simp at ho, fun k e hk => by simp at hk, fun bef _ k k' e e' _ hk => by simp at hk⟩
  | cons o r ih =>
    intro i nm F F' S S' es h
    simp only [runW] at h
    split at h
    · cases h
    rename_i F1 S1 e1 hs
    split at h
    · cases h
    rename_i F2 S2 es2 hr
    simp only [Option.some.injEq, Prod.mk.injEq] at h
    obtain ⟨rfl, rfl, rfl⟩ := h
    obtain ⟨tr, evs, h0, hn, hst, hev, hcl⟩ := ih _ _ _ _ _ _ _ hr
    refine ⟨fun k => match k with | 0 => (F, S) | k + 1 => tr k, fun k => match k with | 0 => e1 | k + 1 => evs k, rfl, by simpa using hn, ?_, ?_, ?_⟩
    · intro k o' ho
      cases k with
      | zero =>
        simp at ho; subst ho
        simp only [List.take_zero, floats, Nat.add_zero, h0]
        exact hs
      | succ k =>
        have := hst k o' (by simpa using ho)
        have e : nm + floats ((o :: r).take (k + 1)) = nextNm o nm + floats (r.take k) := by
          simp only [List.take_succ_cons, floats, nextNm]
          cases isFloat o.op <;> simp <;> omega
        rw [e]; exact this
    · intro k e hk he
      cases k with
      | zero =>
        simp only at he
        rw [he]; simp [consEv]
      | succ k =>
        have := hev k e (by simpa using hk) he
        have e2 : i + (k + 1) = i + 1 + k := by omega
        rw [e2]
        cases e1 <;> simp [consEv, this]
    · intro bef hc k k' e e' hkk hk' he he'
      have hc2 : clashes bef es2 = false := by
        cases e1 with
        | none => exact hc
        | some e1 =>
          simp only [consEv, clashes] at hc
          split at hc
          · cases hc
          · exact hc
      cases k' with
      | zero => omega
      | succ k' =>
        have ek' : i + (k' + 1) = i + 1 + k' := by omega
        cases k with
        | succ k =>
          have ek : i + (k + 1) = i + 1 + k := by omega
          rw [ek, ek']
          exact hcl bef hc2 k k' e e' (by omega) (by simpa using hk') he he'
        | zero =>
          simp only at he
          subst he
          simp only [consEv, clashes] at hc
          split at hc
          · cases hc
          rename_i hcc
          have hm := hev k' e' (by simpa using hk') he'
          rw [ek']
          have key : ∀ (l : List (Nat × Ev)), clash bef i e l = false → ∀ p ∈ l, clash1 bef i e p.1 p.2 = false := by
            intro l
            induction l with
            | nil => intro _ p hp; cases hp
            | cons q l ih =>
              obtain ⟨j, e2⟩ := q
              intro hq p hp
              simp only [clash] at hq
              split at hq
              · cases hq
              rename_i h1
              rcases List.mem_cons.1 hp with rfl | hp
              · exact h1
              · exact ih hq p hp
          exact key es2 hcc _ hm
end

/-! The text's own run, looked at as a whole. -/
structure Tr (C : Cfg) (call : CallF) (nv : Nat) (nt : Nat) (dyn : Bool) (ops : Array Oper) (base : Nat) (tr : Nat → Fr × St) (evs : Nat → Option Ev) : Prop where
  reg : regOk C.P nt dyn ops true = true
  ext : CallExt call
  step : ∀ (k : Nat) o, ops[k]? = some o → stepW C call nv dyn ops.toList (base + floats (ops.toList.take k)) o (tr k).1 (tr k).2 = some ((tr (k + 1)).1, (tr (k + 1)).2, evs k)
  evs : ∀ (k k' : Nat) e e', k < k' → k' < ops.size → evs k = some e → evs k' = some e' → clash1 (befOf ops) k e k' e' = false
  pad : ∀ b, base ≤ b → b < base + floats ops.toList → lget b (tr 0).2.H = some ⟨.gen [], .dead⟩
  len : (tr 0).2.H.length = base + floats ops.toList
namespace Tr
variable {C : Cfg} {call : CallF} {nv nt : Nat} {dyn : Bool} {ops : Array Oper} {base : Nat} {tr : Nat → Fr × St} {evs : Nat → Option Ev}
def nm (ops : Array Oper) (base k : Nat) : Nat := base + floats (ops.toList.take k)
theorem floats_append (a b : List Oper) : floats (a ++ b) = floats a + floats b := by
  induction a with
  | nil => simp [floats]
  | cons o a ih => simp only [List.cons_append, floats]; cases isFloat o.op <;> simp [ih] <;> omega
theorem nm_lt {k j : Nat} {o : Oper} (hk : ops[k]? = some o) (hf : isFloat o.op = true) (h : k < j) : nm ops base k < nm ops base j := by
  have hk' : ops.toList[k]? = some o := by simpa using hk
  have e : ops.toList.take j = ops.toList.take (k + 1) ++ (ops.toList.take j).drop (k + 1) := by
    have := (List.take_append_drop (k + 1) (ops.toList.take j)).symm
    rw [List.take_take, Nat.min_eq_left (by omega)] at this
    exact this
  have e2 : ops.toList.take (k + 1) = ops.toList.take k ++ [o] := by
    rw [List.take_add_one]; simp [hk']
  unfold nm
  rw [e, floats_append, e2, floats_append]
  simp only [floats, hf]; omega
theorem nm_bound {k : Nat} {o : Oper} (hk : ops[k]? = some o) (hf : isFloat o.op = true) : nm ops base k < base + floats ops.toList := by
  have := nm_lt (base := base) hk hf (j := ops.size + k + 1) (by omega)
  unfold nm at this ⊢
  rw [List.take_of_length_le (i := ops.size + k + 1) (by simp; omega)] at this
  exact this
theorem nm_ge (k : Nat) : base ≤ nm ops base k := by unfold nm; omega
theorem nm_inj {k j : Nat} {o o' : Oper} (hk : ops[k]? = some o) (hf : isFloat o.op = true) (hj : ops[j]? = some o') (hf' : isFloat o'.op = true) (h : nm ops base k = nm ops base j) : k = j := by
  rcases Nat.lt_trichotomy k j with h1 | h1 | h1
  · have := nm_lt (base := base) hk hf h1; omega
  · exact h1
  · have := nm_lt (base := base) hj hf' h1; omega

variable (T : Tr C call nv nt dyn ops base tr evs)
include T
/-- What one step of the text's run does to the heap, by its kind. -/
theorem step_kinds {k : Nat} {o : Oper} (ho : ops[k]? = some o) :
    ((tr (k + 1)).2.ok → (tr k).2.ok) ∧
    ((tr (k + 1)).2.H = (tr k).2.H ∨
     (isFloat o.op = true ∧ ∃ b, b.mode = .own ∧ (tr (k + 1)).2.H = lset b (nm ops base k) (tr k).2.H) ∨
     (isFloat o.op = false ∧ isEff o.op = true ∧ ∃ v S1 S2, Pure (tr k).2 S1 ∧ opE C call ((tr k).1.ev nv) o.op (lowB dyn S1) = some (v, S2) ∧ (tr (k + 1)).2.H = S2.H ∧ Ext (lowB dyn S1) S2 ∧ evs k = evOf C.P dyn ((tr k).1.ev nv) o.op S1 S2)) := by
  obtain ⟨b, S1, hg, hp, h | h | h⟩ := stepW_inv (T.step k o ho)
  · obtain ⟨_, _, h⟩ := h
    rw [h]
    exact ⟨hp.ok, .inl hp.H⟩
  · obtain ⟨_, hf, v, hv, _⟩ := h
    obtain ⟨⟨kk, h1, h2⟩, h3⟩ := floatE_H hv
    exact ⟨fun o => hp.ok (h3 o), .inr (.inl ⟨hf, kk, h1, by rw [h2, hp.H]; rfl⟩)⟩
  · obtain ⟨_, hf, v, S2, hv, hS, _, he⟩ := h
    have hx := opE_ext T.ext hv
    refine ⟨fun o => hp.ok ((lowB_ok S1).1 (hx.ok ((lowA_ok S1 S2).1 (by rw [← hS]; exact o)))), ?_⟩
    rcases kinds o.op with hk | hk | hk | hk | hk
    · left
      have := (pure_of_re (f := opE C call ((tr k).1.ev nv) o.op) (fun T cs _ _ => flat_re hk) hv).H
      rw [hS, lowA_H, this, lowB_H, hp.H]
    · left
      have := (pure_of_re (f := opE C call ((tr k).1.ev nv) o.op) (fun T cs e _ => read_re hk (fun b _ => by rw [e])) hv).H
      rw [hS, lowA_H, this, lowB_H, hp.H]
    · rw [hf] at hk; cases hk
    · exact .inr (.inr ⟨hf, hk, v, S1, S2, hp, hv, by rw [hS, lowA_H], hx, he⟩)
    · rw [hk] at hv; cases hv
theorem len_le {k j : Nat} (h : k ≤ j) (hj : j ≤ ops.size) : (tr k).2.H.length ≤ (tr j).2.H.length := by
  induction j with
  | zero => have : k = 0 := by omega
            subst this; exact Nat.le_refl _
  | succ j ih =>
    rcases Nat.lt_or_ge k (j + 1) with h1 | h1
    · refine Nat.le_trans (ih (by omega) (by omega)) ?_
      have hlt : j < ops.size := by omega
      obtain ⟨_, h | ⟨_, b, _, h⟩ | ⟨_, _, v, S1, S2, hp, _, h, hx, _⟩⟩ := T.step_kinds (Array.getElem?_eq_getElem hlt)
      · rw [h]; exact Nat.le_refl _
      · rw [h, lset_eq, List.length_set]; exact Nat.le_refl _
      · rw [h]; have := hx.len; rw [lowB_H, hp.H] at this; exact this
    · have : k = j + 1 := by omega
      subst this; exact Nat.le_refl _
theorem ok_le {k j : Nat} (h : k ≤ j) (hj : j ≤ ops.size) (ok : (tr j).2.ok) : (tr k).2.ok := by
  induction j with
  | zero => have : k = 0 := by omega
            subst this; exact ok
  | succ j ih =>
    rcases Nat.lt_or_ge k (j + 1) with h1 | h1
    · have hlt : j < ops.size := by omega
      exact ih (by omega) (by omega) ((T.step_kinds (Array.getElem?_eq_getElem hlt)).1 ok)
    · have : k = j + 1 := by omega
      subst this; exact ok
/-- A name that is set aside is nothing till its turn. -/
theorem early {j : Nat} {o : Oper} (hj : ops[j]? = some o) (hf : isFloat o.op = true) : ∀ k, k ≤ j → lget (nm ops base j) (tr k).2.H = some ⟨.gen [], .dead⟩ := by
  have hjs : j < ops.size := (Array.getElem?_eq_some_iff.1 hj).1
  intro k
  induction k with
  | zero => intro _; exact T.pad _ (nm_ge j) (nm_bound hj hf)
  | succ k ih =>
    intro hk
    have h0 := ih (by omega)
    have hlt : k < ops.size := by omega
    obtain ⟨_, h | ⟨hfk, b, _, h⟩ | ⟨_, _, v, S1, S2, hp, _, h, hx, _⟩⟩ := T.step_kinds (Array.getElem?_eq_getElem hlt)
    · rw [h]; exact h0
    · rw [h, lget_lset, if_neg]
      · exact h0
      · intro ⟨e, _⟩
        have := nm_inj (Array.getElem?_eq_getElem hlt) hfk hj hf e
        omega
    · rw [h]; exact hx.dead _ _ (by rw [lowB_H, hp.H]; exact h0) rfl
/-- It is never read only. -/
theorem owned {j : Nat} {o : Oper} (hj : ops[j]? = some o) (hf : isFloat o.op = true) : ∀ k, k ≤ ops.size → ∀ kk, lget (nm ops base j) (tr k).2.H = some kk → kk.mode ≠ .ro := by
  intro k
  induction k with
  | zero =>
    intro _ kk hkk
    rw [T.pad _ (nm_ge j) (nm_bound hj hf)] at hkk
    injection hkk with hkk; subst hkk; simp
  | succ k ih =>
    intro hk kk hkk hm
    have hlt : k < ops.size := by omega
    obtain ⟨_, h | ⟨hfk, b, hb, h⟩ | ⟨_, _, v, S1, S2, hp, _, h, hx, _⟩⟩ := T.step_kinds (Array.getElem?_eq_getElem hlt)
    · rw [h] at hkk; exact ih (by omega) kk hkk hm
    · rw [h, lget_lset] at hkk
      split at hkk
      · injection hkk with hkk; subst hkk; rw [hb] at hm; cases hm
      · exact ih (by omega) kk hkk hm
    · rw [h] at hkk
      have := hx.ro _ _ hkk hm
      rw [lowB_H, hp.H] at this
      exact ih (by omega) kk this hm
/-- What step changes what block. -/
def Ch (tr : Nat → Fr × St) (b k : Nat) : Prop := lget b (tr (k + 1)).2.H ≠ lget b (tr k).2.H
theorem ch_kind {b k : Nat} {o : Oper} (ho : ops[k]? = some o) (h : Ch tr b k) : isEff o.op = true ∨ (isFloat o.op = true ∧ b = nm ops base k) := by
  obtain ⟨_, h1 | ⟨hf, kk, _, h1⟩ | ⟨_, he, _⟩⟩ := T.step_kinds ho
  · exact absurd (by rw [h1]) h
  · right
    refine ⟨hf, ?_⟩
    unfold Ch at h
    rw [h1, lget_lset] at h
    split at h
    · rename_i e; exact e.1.symm
    · exact absurd rfl h
  · exact .inl he
omit T in
theorem float_not_eff {op : Op} (h : isFloat op = true) : isEff op = false := by cases op <;> simp_all [isFloat, isEff]
/-- Two that change one block come in the order of the text. -/
theorem ch_ordered {b k k' : Nat} {o o' : Oper} (hkk : k < k') (ho : ops[k]? = some o) (ho' : ops[k']? = some o') (h : Ch tr b k) (h' : Ch tr b k') : bef ops k' k := by
  rcases regOk_pair T.reg hkk ho ho' with h1 | h1
  · exact h1
  exfalso
  simp only [pairW, Bool.and_eq_true, Bool.not_eq_true', Bool.and_eq_false_iff, Bool.or_eq_false_iff, Bool.or_eq_true] at h1
  obtain ⟨⟨⟨_, h3⟩, h4⟩, _⟩ := h1
  rcases T.ch_kind ho h with a | ⟨a, rfl⟩ <;> rcases T.ch_kind ho' h' with c | ⟨c, e⟩
  · rcases h3 with h3 | h3 <;> simp_all
  · subst e
    have e1 := T.early ho' c k (by omega)
    have e2 := T.early ho' c (k + 1) (by omega)
    exact h (by rw [e1, e2])
  · rcases h4 with h4 | h4
    · simp_all
    · simp_all
  · have := nm_lt (base := base) ho a hkk; omega
end Tr
end Go.Eng
/- Regions of open order: any order does what the order of the text does. -/
namespace Go.Eng
set_option linter.unusedSectionVars false
variable [RowAddr]
open Region
set_option linter.unusedSimpArgs false
set_option linter.unusedVariables false

theorem elemN_iff (t : Nat) : ∀ l : List Nat, elemN t l = true ↔ t ∈ l
  | [] => by simp [elemN]
  | x :: r => by
    simp only [elemN]
    cases h : Nat.beq x t with
    | true => have : x = t := by simpa using h
              simp [this]
    | false =>
      have : x ≠ t := by intro e; subst e; simp at h
      simp only [List.mem_cons, elemN_iff t r]
      constructor
      · exact .inr
      · rintro (e | h)
        · exact absurd e.symm this
        · exact h

/-- A read that succeeds finds its block alive. -/
theorem read_alive {C : Cfg} {call : CallF} {ev : Operand → AV} {op : Op} {b : Nat} {S S' : St} {x : AV} (hr : readOf C.P ev op = some b) (h : opE C call ev op S = some (x, S')) :
    ∃ k, lget b S.H = some k ∧ k.mode ≠ .dead := by
  have key : ∀ d, S.read b = some d → ∃ k, lget b S.H = some k ∧ k.mode ≠ .dead := by
    intro d hd
    unfold St.read at hd
    split at hd
    · rename_i d' m hb
      refine ⟨_, hb, ?_⟩
      intro e
      simp only at e
      subst e
      cases hd
    · cases hd
  have hblk : ∀ v, blkOf v = some b → ∃ o, v = .ref (.ptr b o) := by
    intro v hv
    unfold blkOf at hv
    split at hv
    · injection hv with hv; subst hv; exact ⟨_, rfl⟩
    · cases hv
  cases op <;> simp only [readOf, reduceCtorEq] at hr
  case convert s d x =>
    split at hr
    case h_2 => cases hr
    rename_i hb
    obtain ⟨o, l, c, hv⟩ : ∃ o l c, ev x = .ref (.sl b o l c) := by
      unfold slOf at hr
      split at hr
      · injection hr with hr; subst hr; exact ⟨_, _, _, by assumption⟩
      · cases hr
    simp only [opE, opF, convE, hv] at h
    split at h
    · cases h
    split at h
    · simp [convNum] at h
    · unfold convSl at h
      rw [hb] at h
      simp only at h
      split at h
      · cases l with
        | s z => cases h
        | c n =>
          cases n with
          | zero => cases h
          | succ n =>
            simp only at h
            split at h
            · rename_i hl
              exact ⟨_, hl, by intro e; cases e⟩
            · cases h
      · cases h
    · cases h
  case load t a =>
    obtain ⟨o, ha⟩ := hblk _ hr
    simp only [opE, opF, ha, loadOp] at h
    split at h
    · cases h
    · split at h
      · split at h
        · rename_i l hl
          simp only [readCells] at hl
          split at hl
          · exact key _ (by assumption)
          · cases hl
        · cases h
      · cases h
    · simp only [readCell] at h
      split at h
      · exact key _ (by assumption)
      · cases h
  case slice t a lo hi mx =>
    split at hr
    case h_2 => cases hr
    rename_i harr
    obtain ⟨o, ha⟩ := hblk _ hr
    simp only [opE, opF, ha, sliceOp] at h
    unfold isArr at harr
    split at harr
    case h_2 => cases harr
    rename_i n e hu
    simp only [hu] at h
    split at h
    · cases h
    · unfold sliceArr at h
      repeat' (split at h)
      all_goals first
        | (cases h; done)
        | exact key _ (by assumption)
    · cases h
/-- A store changes one block. -/
theorem store_same {C : Cfg} {call : CallF} {ev : Operand → AV} {op : Op} {c : Nat} {S S' : St} {x : AV} (hs : storeBlk ev op = some c) (h : opE C call ev op S = some (x, S')) : ∀ b, b ≠ c → lget b S'.H = lget b S.H := by
  intro b hb
  cases op <;> simp only [storeBlk, reduceCtorEq] at hs
  rename_i t a v
  have ha : ∃ o, ev a = .ref (.ptr c o) := by
    unfold blkOf at hs
    split at hs
    · rename_i o he; injection hs with hs; subst hs; exact ⟨_, he⟩
    · cases hs
  obtain ⟨o, ha⟩ := ha
  dsimp only [opE, opF] at h
  unfold storeE at h
  split at h
  case h_2 => cases h
  rename_i S1 h1
  simp only [Option.some.injEq, Prod.mk.injEq] at h
  obtain ⟨_, rfl⟩ := h
  rw [ha] at h1
  have key : ∀ {T T' : St} {d : Data}, Pure S T → T.write c d = some T' → lget b T'.H = lget b S.H := by
    intro T T' d hp hw
    obtain ⟨d0, _, h2, _⟩ := St.write_spec hw
    rw [h2, lget_eq, lget_eq, List.getElem?_set_ne (Ne.symm hb), hp.H]
  simp only [storeOp] at h1
  repeat' (split at h1)
  all_goals first
    | (cases h1; done)
    | exact key (Data.over_spec ‹Data.over _ _ _ _ = some _›).1 h1
    | exact key (Data.set_spec ‹Data.set _ _ _ _ = some _›).1 h1
theorem readsP_of {P : Program} {ev : Operand → AV} {op : Op} {b : Nat} (h : readOf P ev op = some b) : readsP P op = true := by
  cases op <;> simp only [readOf, reduceCtorEq] at h
  case load => rfl
  case slice =>
    split at h
    · assumption
    · cases h
  case convert =>
    split at h
    · assumption
    · cases h
theorem isRead_of {op : Op} {P : Program} {ev : Operand → AV} {b : Nat} (h : readOf P ev op = some b) : isRead op = true := by
  cases op <;> simp only [readOf, reduceCtorEq] at h
  case load => rfl
  case slice => rfl
  case convert =>
    split at h
    · assumption
    · cases h
theorem read_not_eff {op : Op} (h : isRead op = true) : isEff op = false ∧ isFloat op = false := by cases op <;> simp_all [isRead, isEff, isFloat]

theorem guardOk_congr {ops : Array Oper} {o : Oper} {ev ev' : Operand → AV} (h : ∀ t ∈ Oper.looksAt ops o, ev (.tmp t) = ev' (.tmp t)) (S : St) : guardOk ops.toList ev o.guard S = guardOk ops.toList ev' o.guard S := by
  unfold guardOk
  cases hg : o.guard with
  | none => rfl
  | some gw =>
    obtain ⟨j, want⟩ := gw
    simp only [lget_eq]
    cases hj : ops.toList[j]? with
    | none => rfl
    | some o' =>
      simp only
      cases hd : o'.dst with
      | none => rfl
      | some d =>
        simp only
        rw [h d (by
          have : ops[j]? = some o' := by simpa using hj
          simp [Oper.looksAt, hg, this, hd])]
theorem guard_spec' {β : Map} {a : Act} {ev : Operand → AV} (hev : ∀ x, VRel β (ev x) (a.eval x)) {ops : Array Oper} {o : Oper} {S S' : St} {b : Bool} (h : guardOk ops.toList ev o.guard S = some (b, S')) :
    S'.ok → Region.wanted o (yielded ops a.tmps) = b := by
  unfold guardOk at h
  split at h
  · rename_i hg
    simp only [Option.some.injEq, Prod.mk.injEq] at h
    obtain ⟨rfl, rfl⟩ := h
    exact fun _ => by simp [Region.wanted, hg]
  · rename_i j want hg
    rw [lget_eq] at h
    cases hj : ops.toList[j]? with
    | none => simp [hj] at h
    | some o' =>
      simp only [hj] at h
      split at h
      · cases h
      rename_i d hd
      split at h
      case h_3 => cases h
      case h_2 =>
        rename_i hbb
        simp only [Option.some.injEq, Prod.mk.injEq] at h
        obtain ⟨rfl, rfl⟩ := h
        refine fun _ => ?_
        have hval := hev (.tmp d)
        rw [hbb] at hval
        have e := hval.tup0_inv
        simp only [Act.eval] at e
        have hj' : ops[j]? = some o' := by simpa using hj
        have hy : yielded ops a.tmps j = none := by
          rcases Nat.lt_or_ge d a.tmps.size with hlt | hlt
          · have e2 : a.tmps[d]? = some (.tuple #[]) := by
              simp only [Array.getD_eq_getD_getElem?, Array.getElem?_eq_getElem hlt, Option.getD_some] at e
              rw [Array.getElem?_eq_getElem hlt, e]
            simp [yielded, hj', hd, e2]
          · simp [yielded, hj', hd, Array.getElem?_eq_none hlt]
        simp [Region.wanted, hg, hy]
      rename_i bb hbb
      split at h
      case h_2 => cases h
      rename_i t S1 ht
      simp only [Option.some.injEq, Prod.mk.injEq] at h
      obtain ⟨rfl, rfl⟩ := h
      obtain ⟨hp, hv⟩ := B.test_spec ht
      refine fun ok => ?_
      have hval := hev (.tmp d)
      rw [hbb] at hval
      have e := hval.bool_inv
      simp only [Act.eval] at e
      have hlt : d < a.tmps.size := by
        rcases Nat.lt_or_ge d a.tmps.size with h | h
        · exact h
        · simp [Array.getD_eq_getD_getElem?, Array.getElem?_eq_none h, undef] at e
      have e2 : a.tmps[d]? = some (.bool bb.v) := by
        simp only [Array.getD_eq_getD_getElem?, Array.getElem?_eq_getElem hlt, Option.getD_some] at e
        rw [Array.getElem?_eq_getElem hlt, e]
      have hj' : ops[j]? = some o' := by simpa using hj
      have hy : yielded ops a.tmps j = some bb.v := by
        simp [yielded, hj', hd, e2]
      simp [Region.wanted, hg, hy, hv ok]

namespace Tr
variable {C : Cfg} {call : CallF} {nv nt : Nat} {dyn : Bool} {ops : Array Oper} {base : Nat} {tr : Nat → Fr × St} {evs : Nat → Option Ev}
/-- What operation writes what slot. -/
def ChF (ops : Array Oper) (t k : Nat) : Prop := ∃ o, ops[k]? = some o ∧ o.dst = some t
/-- What a thing's changes and an operation stand to each other: each comes before, or after. -/
def Ord (ops : Array Oper) (i : Nat) (Ch : Nat → Prop) : Prop := ∀ k, k < ops.size → Ch k → k ≠ i → (k < i → bef ops i k) ∧ (i < k → bef ops k i)
/-- Set of operations done, and one that is ready. -/
structure Ready (ops : Array Oper) (D : Nat → Prop) (i : Nat) (o : Oper) : Prop where
  cl : Closed ops D
  not : ¬ D i
  get : ops[i]? = some o
  pre : ∀ e ∈ o.after, binds .any e = true → D e.on
theorem Ready.later {D : Nat → Prop} {i : Nat} {o : Oper} (R : Ready ops D i o) {k : Nat} (hk : k < ops.size) (h : bef ops k i) : ¬ D k := fun hD =>
  R.not (bef_spec R.cl k i _ (Array.getElem?_eq_getElem hk) h fun e he hb => R.cl k _ (Array.getElem?_eq_getElem hk) hD e he hb)
theorem Ready.iff {D : Nat → Prop} {i : Nat} {o : Oper} (R : Ready ops D i o) {Ch : Nat → Prop} (h : Ord ops i Ch) : ∀ k, k < ops.size → Ch k → (D k ↔ k < i) := by
  intro k hk hc
  rcases Nat.lt_trichotomy k i with h1 | h1 | h1
  · exact ⟨fun _ => h1, fun _ => bef_spec R.cl i k o R.get ((h k hk hc (by omega)).1 h1) R.pre⟩
  · subst h1; exact ⟨fun hD => absurd hD R.not, fun h => absurd h (Nat.lt_irrefl _)⟩
  · exact ⟨fun hD => absurd hD (R.later hk ((h k hk hc (by omega)).2 h1)), fun h => by omega⟩
theorem Ready.closed {D : Nat → Prop} {i : Nat} {o : Oper} (R : Ready ops D i o) : Closed ops (fun k => D k ∨ k = i) := by
  intro k o' ho hk e he hb
  rcases hk with hk | rfl
  · exact .inl (R.cl k o' ho hk e he hb)
  · rw [R.get] at ho; injection ho with ho; subst ho; exact .inl (R.pre e he hb)

variable (T : Tr C call nv nt dyn ops base tr evs)
include T
theorem pair_names {k j : Nat} {a b : Oper} (hkj : k < j) (ha : ops[k]? = some a) (hb : ops[j]? = some b) :
    bef ops j k ∨ ((∀ t, a.dst = some t → t ∉ Oper.looksAt ops b) ∧ (∀ t, b.dst = some t → t ∉ Oper.looksAt ops a) ∧ ∀ t, a.dst = some t → b.dst ≠ some t) := by
  refine (regOk_pair T.reg hkj ha hb).imp id fun h1 => ?_
  simp only [pairW, Bool.and_eq_true, Bool.not_eq_true'] at h1
  obtain ⟨⟨⟨⟨⟨h1, h2⟩, h3⟩, _⟩, _⟩, _⟩ := h1
  refine ⟨fun t ht hm => ?_, fun t ht hm => ?_, fun t ht ht' => ?_⟩
  · rw [ht] at h1; simp only [dstIn] at h1
    rw [(elemN_iff _ _).2 hm] at h1; cases h1
  · rw [ht] at h2; simp only [dstIn] at h2
    rw [(elemN_iff _ _).2 hm] at h2; cases h2
  · rw [ht, ht'] at h3; simp [dstEq] at h3
/-- The slots that an operation looks at. -/
theorem ord_looks {i : Nat} {o : Oper} (hi : ops[i]? = some o) {t : Nat} (ht : t ∈ Oper.looksAt ops o) : Ord ops i (ChF ops t) := by
  intro k hk ⟨o', ho', hd⟩ hne
  refine ⟨fun h => ?_, fun h => ?_⟩
  · rcases T.pair_names h ho' hi with h1 | ⟨h1, _⟩
    · exact h1
    · exact absurd ht (h1 t hd)
  · rcases T.pair_names h hi ho' with h1 | ⟨_, h1, _⟩
    · exact h1
    · exact absurd ht (h1 t hd)
theorem ord_dst {i : Nat} {o : Oper} (hi : ops[i]? = some o) {t : Nat} (ht : o.dst = some t) : Ord ops i (ChF ops t) := by
  intro k hk ⟨o', ho', hd⟩ hne
  refine ⟨fun h => ?_, fun h => ?_⟩
  · rcases T.pair_names h ho' hi with h1 | ⟨_, _, h1⟩
    · exact h1
    · exact absurd ht (h1 t hd)
  · rcases T.pair_names h hi ho' with h1 | ⟨_, _, h1⟩
    · exact h1
    · exact absurd hd (h1 t ht)
theorem frame_same {t k : Nat} (hk : ¬ ChF ops t k) (hlt : k < ops.size) : (tr (k + 1)).1.get nv t = (tr k).1.get nv t := by
  have ho := Array.getElem?_eq_getElem hlt
  have key : ∀ v, ((tr k).1.put nv ops[k].dst v).get nv t = (tr k).1.get nv t := by
    intro v
    cases hd : ops[k].dst with
    | none => rfl
    | some d => exact Fr.get_put_ne nv _ v (fun e => hk ⟨ops[k], ho, by rw [hd, e]⟩)
  obtain ⟨b, S1, hg, hp, h | h | h⟩ := stepW_inv (T.step k _ ho)
  · rw [h.2.1]; exact key _
  · obtain ⟨_, _, v, _, h⟩ := h; rw [h]; exact key _
  · obtain ⟨_, _, v, S2, _, _, h, _⟩ := h; rw [h]; exact key _
/-- What reads one block, and what changes it. -/
theorem ord_read {i : Nat} {o : Oper} (hi : ops[i]? = some o) {S1 S2 : St} {v : AV} {b : Nat} (hp : Pure (tr i).2 S1) (hr : readOf C.P ((tr i).1.ev nv) o.op = some b)
    (hop : opE C call ((tr i).1.ev nv) o.op (lowB dyn S1) = some (v, S2)) (he : evs i = evOf C.P dyn ((tr i).1.ev nv) o.op S1 S2) : Ord ops i (Ch tr b) := by
  have hlt := (Array.getElem?_eq_some_iff.1 hi).1
  have hrd := readsP_of hr
  obtain ⟨hne, hnf⟩ := read_not_eff (isRead_of hr)
  intro k hk hc hki
  have hok := Array.getElem?_eq_getElem hk
  -- what the clash check says of a write and this read
  have hclash : dyn = true → isEff ops[k].op = true → ∃ e, evs k = some e ∧ hits b e = true ∧ ∀ c, e ≠ .load c := by
    intro hd heff
    obtain ⟨_, h1 | ⟨hf, _⟩ | ⟨_, _, v', T1, T2, hp', ho', h1, hx, he'⟩⟩ := T.step_kinds hok
    · exact absurd (by rw [h1]) hc
    · rw [float_not_eff hf] at heff; cases heff
    · cases hsb : storeBlk ((tr k).1.ev nv) ops[k].op with
      | some c =>
        refine ⟨.one c, by rw [he']; simp [evOf, hd, heff, hsb], ?_, fun _ h => by cases h⟩
        have := store_same hsb ho'
        by_cases e : c = b
        · simp [hits, e]
        · exact absurd (by rw [h1, this b (Ne.symm e), lowB_H, hp'.H]) hc
      | none =>
        refine ⟨.eff (Nat.min T2.low T1.H.length), by rw [he']; simp [evOf, hd, heff, hsb], ?_, fun _ h => by cases h⟩
        simp only [hits]
        refine Nat.ble_eq_true_of_le (Nat.le_of_not_lt fun hl => hc ?_)
        have hl1 : b < T2.low := Nat.lt_of_lt_of_le hl (Nat.min_le_left _ _)
        have hl2 : b < T1.H.length := Nat.lt_of_lt_of_le hl (Nat.min_le_right _ _)
        have := hx.same b (by rw [lowB_H]; exact hl2) hl1
        rw [lowB_H, hp'.H] at this
        rw [h1]; exact this
  have hei : dyn = true → evs i = some (.load b) := by
    intro hd; rw [he]; simp [evOf, hd, hne, hr]
  refine ⟨fun h => ?_, fun h => ?_⟩
  · rcases regOk_pair T.reg h hok hi with h1 | h1
    · exact h1
    · simp only [pairW, Bool.and_eq_true, Bool.not_eq_true', Bool.and_eq_false_iff, Bool.or_eq_false_iff, Bool.or_eq_true] at h1
      obtain ⟨⟨⟨_, h3⟩, h4⟩, h5⟩ := h1
      rcases T.ch_kind hok hc with a | ⟨a, _⟩
      · rcases h5 with h5 | ⟨_, h5⟩
        · obtain ⟨e, h6, h7, h8⟩ := hclash h5 a
          have := T.evs k i _ _ h hlt h6 (hei h5)
          refine (befOf_eq ops i k).1 ?_
          cases e with
          | load c => exact absurd rfl (h8 c)
          | eff l => simpa [clash1, h7] using this
          | one c => simpa [clash1, h7] using this
        · rcases h5 with h5 | h5
          · rw [a] at h5; cases h5
          · rw [hrd] at h5; cases h5
      · rcases h4 with h4 | ⟨_, h4⟩
        · rw [a] at h4; cases h4
        · rw [hrd] at h4; cases h4
  · rcases regOk_pair T.reg h hi hok with h1 | h1
    · exact h1
    · simp only [pairW, Bool.and_eq_true, Bool.not_eq_true', Bool.and_eq_false_iff, Bool.or_eq_false_iff, Bool.or_eq_true] at h1
      obtain ⟨_, h5⟩ := h1
      rcases T.ch_kind hok hc with a | ⟨a, e⟩
      · rcases h5 with h5 | ⟨h5, _⟩
        · obtain ⟨e, h6, h7, h8⟩ := hclash h5 a
          have := T.evs i k _ _ h hk (hei h5) h6
          refine (befOf_eq ops k i).1 ?_
          simpa [clash1, h7] using this
        · rcases h5 with h5 | h5
          · rw [hrd] at h5; cases h5
          · rw [a] at h5; cases h5
      · exfalso
        subst e
        obtain ⟨kk, h1, h2⟩ := read_alive hr hop
        rw [lowB_H, hp.H, T.early hok a i (by omega)] at h1
        injection h1 with h1; subst h1; exact h2 rfl
/-- A write, and what changes a block that it may look at. -/
theorem ord_eff {i : Nat} {o : Oper} (hi : ops[i]? = some o) (he : isEff o.op = true) {b : Nat} (hb : ∀ k o', i < k → ops[k]? = some o' → isFloat o'.op = true → b ≠ nm ops base k) : Ord ops i (Ch tr b) := by
  intro k hk hc hki
  have hok := Array.getElem?_eq_getElem hk
  refine ⟨fun h => ?_, fun h => ?_⟩
  · rcases regOk_pair T.reg h hok hi with h1 | h1
    · exact h1
    · exfalso
      simp only [pairW, Bool.and_eq_true, Bool.not_eq_true', Bool.and_eq_false_iff, Bool.or_eq_false_iff, Bool.or_eq_true] at h1
      obtain ⟨⟨⟨_, h3⟩, h4⟩, h5⟩ := h1
      rcases T.ch_kind hok hc with a | ⟨a, _⟩ <;> simp_all
  · rcases regOk_pair T.reg h hi hok with h1 | h1
    · exact h1
    · exfalso
      simp only [pairW, Bool.and_eq_true, Bool.not_eq_true', Bool.and_eq_false_iff, Bool.or_eq_false_iff, Bool.or_eq_true] at h1
      obtain ⟨⟨⟨_, h3⟩, h4⟩, h5⟩ := h1
      rcases T.ch_kind hok hc with a | ⟨a, e⟩
      · simp_all
      · exact hb k _ h hok a e
end Tr
end Go.Eng
/- Regions of open order: the invariant, and each step. -/
namespace Go.Eng
set_option linter.unusedSectionVars false
variable [RowAddr]
open Region
set_option linter.unusedSimpArgs false
set_option linter.unusedVariables false

theorem list_ext {α : Type} {l l' : List α} (h : ∀ b : Nat, lget b l = lget b l') : l = l' := List.ext_getElem? fun b => by rw [← lget_eq, ← lget_eq]; exact h b
theorem len_of_some {α : Type} {l l' : List α} (h : ∀ b : Nat, (lget b l).isSome = (lget b l').isSome) : l.length = l'.length := by
  have key : ∀ (a c : List α), (∀ b : Nat, (lget b a).isSome = true → (lget b c).isSome = true) → a.length ≤ c.length := by
    intro a c hac
    rcases Nat.lt_or_ge c.length a.length with h | h
    · have := hac c.length (by rw [lget_eq]; simp [h])
      rw [lget_eq, List.getElem?_eq_none (Nat.le_refl _)] at this; cases this
    · exact h
  exact Nat.le_antisymm (key _ _ fun b hb => by rw [← h b]; exact hb) (key _ _ fun b hb => by rw [h b]; exact hb)
theorem lget_some_of_lt {α : Type} {l : List α} {b : Nat} (h : b < l.length) : ∃ k, lget b l = some k := ⟨l[b], by rw [lget_eq]; simp [h]⟩

namespace Tr
variable {C : Cfg} {call : CallF} {nv nt : Nat} {dyn : Bool} {ops : Array Oper} {base : Nat} {tr : Nat → Fr × St} {evs : Nat → Option Ev}
variable {G : Nat → Option (List AV)}
/-- How things stand when a set of operations is done. -/
structure Inv (C : Cfg) (nv nt : Nat) (ops : Array Oper) (base : Nat) (tr : Nat → Fr × St) (G : Nat → Option (List AV)) (β0 : Map) (H0 : List Blk) (w0 : World) (D : Nat → Prop) (β : Map) (a : Act) (w : World) (H : List Blk) : Prop where
  cl : Closed ops D
  fr : ∀ t, VRel β ((tr (last D (ChF ops t) ops.size)).1.get nv t) (a.tmps.getD t undef)
  size : a.tmps.size = nt
  defers : a.defers = []
  hp : ∀ b, lget b H = lget b (tr (last D (Ch tr b) ops.size)).2.H
  rel : HRel G β H w
  fl : ∀ (k : Nat) o, ops[k]? = some o → isFloat o.op = true → ¬ D k → β (nm ops base k) = none
  fo : ∀ (k : Nat) o, ops[k]? = some o → isFloat o.op = true → ∀ kk, lget (nm ops base k) H = some kk → kk.mode.alive → ∃ L, β (nm ops base k) = some L
  stp : Stp β0 H0 w0 β H w
theorem last_le {D Ch : Nat → Prop} (n : Nat) : last D Ch n ≤ n := by
  induction n with
  | zero => exact Nat.le_refl _
  | succ n ih => simp only [last]; split <;> omega
/-- What the operands are, with these done. -/
noncomputable def evD (nv : Nat) (ops : Array Oper) (tr : Nat → Fr × St) (D : Nat → Prop) (x : Operand) : AV :=
  match x with
  | .tmp t => (tr (last D (ChF ops t) ops.size)).1.get nv t
  | x => Fr.ev nv (tr 0).1 x
variable {β0 β : Map} {H0 H : List Blk} {w0 w : World} {D : Nat → Prop} {a : Act}
theorem Inv.ev (I : Inv C nv nt ops base tr G β0 H0 w0 D β a w H) (x : Operand) : VRel β (evD nv ops tr D x) (a.eval x) := by
  cases x with
  | tmp t => exact I.fr t
  | const v => exact absV_rel β v
  | global g => have := VRel.gp (β := β) (2 * g) (.c 0); rw [show gAt (2 * g) (N.c 0).v = at' g 0 from gAt_var g 0] at this; exact this
  | func f => exact .fn (.func f) 0 [] [] [] rfl rfl (fun i x v hx => by simp at hx)

variable (T : Tr C call nv nt dyn ops base tr evs)
include T
theorem evD_eq {i : Nat} {o : Oper} (R : Ready ops D i o) {t : Nat} (ht : t ∈ Oper.looksAt ops o) : evD nv ops tr D (.tmp t) = (tr i).1.get nv t := by
  have hlt := (Array.getElem?_eq_some_iff.1 R.get).1
  show (tr (last D (ChF ops t) ops.size)).1.get nv t = _
  exact last_agree (x := fun k => (tr k).1.get nv t) (fun k hk hc => T.frame_same hc hk) (Nat.le_of_lt hlt) (R.iff (T.ord_looks R.get ht))
theorem evD_op {i : Nat} {o : Oper} (R : Ready ops D i o) : ∀ x ∈ o.op.operands, evD nv ops tr D x = (tr i).1.ev nv x := by
  intro x hx
  cases x with
  | tmp t => exact T.evD_eq R (by
      unfold Oper.looksAt
      refine List.mem_append_left _ (List.mem_filterMap.2 ⟨.tmp t, by simpa using hx, rfl⟩))
  | _ => rfl
theorem guard_eq {i : Nat} {o : Oper} (R : Ready ops D i o) (S : St) : guardOk ops.toList (evD nv ops tr D) o.guard S = guardOk ops.toList ((tr i).1.ev nv) o.guard S :=
  guardOk_congr (fun t ht => T.evD_eq R ht) S
omit T in
/-- A block all whose changes come before or after. -/
theorem heap_eq {i : Nat} {o : Oper} (T : Tr C call nv nt dyn ops base tr evs) (R : Ready ops D i o) {b : Nat} (h : Ord ops i (Ch tr b)) : lget b (tr (last D (Ch tr b) ops.size)).2.H = lget b (tr i).2.H := by
  have hlt := (Array.getElem?_eq_some_iff.1 R.get).1
  exact last_agree (x := fun k => lget b (tr k).2.H) (fun k _ hk => Classical.not_not.1 hk) (Nat.le_of_lt hlt) (R.iff h)
/-- The frame, with one more done. -/
theorem frame_new {β' : Map} {i : Nat} {o : Oper} (R : Ready ops D i o) (hfr : ∀ t, VRel β' ((tr (last D (ChF ops t) ops.size)).1.get nv t) (a.tmps.getD t undef)) (hsz : a.tmps.size = nt)
    {x : AV} {v : Value} (hF : (tr (i + 1)).1 = (tr i).1.put nv o.dst x) (hv : VRel β' x v) :
    ∀ t, VRel β' ((tr (last (fun k => D k ∨ k = i) (ChF ops t) ops.size)).1.get nv t) ((a.put o.dst v).tmps.getD t undef) := by
  have hlt := (Array.getElem?_eq_some_iff.1 R.get).1
  intro t
  by_cases hd : o.dst = some t
  · have hch : ChF ops t i := ⟨o, R.get, hd⟩
    rw [last_new hlt hch (fun k h1 h2 hc => R.later h2 ((T.ord_dst R.get hd k h2 hc (by omega)).2 h1)), hF, hd]
    have htn : t < nt := regOk_dst T.reg o (by have := R.get; exact List.mem_of_getElem? (i := i) (by simpa using this)) t hd
    have e : (a.put (some t) v).tmps.getD t undef = v := by
      simp [Act.put, Array.getD_eq_getD_getElem?, hsz, htn]
    rw [e]
    rcases Fr.get_put_self nv (tr i).1 t x with e | e
    · rw [e]; exact hv
    · rw [e]; exact .undef _
  · have hch : ¬ ChF ops t i := by
      rintro ⟨o', ho', hd'⟩
      rw [R.get] at ho'; injection ho' with ho'; subst ho'; exact hd hd'
    rw [last_same hch]
    have e : (a.put o.dst v).tmps.getD t undef = a.tmps.getD t undef := by
      cases hd' : o.dst with
      | none => rfl
      | some d =>
        have hne : d ≠ t := fun e => hd (by rw [hd', e])
        simp [Act.put, Array.getD_eq_getD_getElem?, Array.getElem?_setIfInBounds_ne hne]
    rw [e]; exact hfr t
omit T in
theorem heap_new {H' : List Blk} {i : Nat} {o : Oper} (T : Tr C call nv nt dyn ops base tr evs) (R : Ready ops D i o) (hp : ∀ b, lget b H = lget b (tr (last D (Ch tr b) ops.size)).2.H)
    (h1 : ∀ b, Ch tr b i → lget b H' = lget b (tr (i + 1)).2.H) (h2 : ∀ b, ¬ Ch tr b i → lget b H' = lget b H) :
    ∀ b, lget b H' = lget b (tr (last (fun k => D k ∨ k = i) (Ch tr b) ops.size)).2.H := by
  have hlt := (Array.getElem?_eq_some_iff.1 R.get).1
  intro b
  by_cases hc : Ch tr b i
  · rw [last_new hlt hc (fun k g1 g2 g3 => R.later g2 (T.ch_ordered g1 R.get (Array.getElem?_eq_getElem g2) hc g3))]
    exact h1 b hc
  · rw [last_same hc, h2 b hc]; exact hp b

/-- One more is done, whichever is ready. -/
theorem step_any (hG : C.glob = G) (hcall : CallOk C.P G call) (hm : MethOk C.P C.meth) (hok : (tr ops.size).2.ok) (hbase : H0.length = base) {i : Nat} {o : Oper} (R : Ready ops D i o)
    (I : Inv C nv nt ops base tr G β0 H0 w0 D β a w H) {Q : Exit → Act → World → Prop} {K : Act → World → Prop}
    (hK : ∀ β' a' w' H', Inv C nv nt ops base tr G β0 H0 w0 (fun k => D k ∨ k = i) β' a' w' H' → K a' w') : wpOp C.P ops Q i K a w := by
  have hlt := (Array.getElem?_eq_some_iff.1 R.get).1
  have ok1 : (tr (i + 1)).2.ok := T.ok_le (by omega) (Nat.le_refl _) hok
  unfold wpOp
  rw [R.get]
  simp only
  have hstep := stepW_inv (T.step i o R.get)
  obtain ⟨b, S1, hg, hp1, hcase⟩ := hstep
  have hgD : guardOk ops.toList (evD nv ops tr D) o.guard (tr i).2 = some (b, S1) := by rw [T.guard_eq R]; exact hg
  -- a step that leaves the heap as it is
  have quiet : ∀ (x : AV) (v : Value) β' w', (tr (i + 1)).1 = (tr i).1.put nv o.dst x → (tr (i + 1)).2.H = (tr i).2.H → isFloat o.op = false ∨ b = false → VRel β' x v → HRel G β' H w' → Stp β H w β' H w' → K (a.put o.dst v) w' := by
    intro x v β' w' hF hH hfl hv hr hs
    have hno : ∀ b, ¬ Ch tr b i := fun b hc => hc (by rw [hH])
    refine hK β' _ w' H ⟨R.closed, T.frame_new R (fun t => (I.fr t).mono hs.le) I.size hF hv, ?_, ?_, heap_new T R I.hp (fun b hc => absurd hc (hno b)) (fun b _ => rfl), hr, ?_, ?_, I.stp.trans hs⟩
    · cases hd : o.dst <;> simp [Act.put, I.size]
    · cases hd : o.dst <;> simp [Act.put, I.defers]
    · intro k o' ho' hf hn
      have h1 := I.fl k o' ho' hf (fun h => hn (.inl h))
      have h2 : nm ops base k < H.length := by
        have h3 : ∃ kk, lget (nm ops base k) H = some kk := by
          rw [I.hp]
          refine lget_some_of_lt (Nat.lt_of_lt_of_le ?_ (T.len_le (Nat.zero_le _) (last_le _)))
          rw [T.len]; exact nm_bound ho' hf
        obtain ⟨kk, h3⟩ := h3
        exact lget_lt h3
      rw [hs.old _ h2]; exact h1
    · intro k o' ho' hf kk hkk ha
      obtain ⟨L, hL⟩ := I.fo k o' ho' hf kk hkk ha
      exact ⟨L, hs.le _ _ hL⟩
  rcases hcase with ⟨rfl, hF, hS⟩ | ⟨rfl, hfl, v, hfE, hF⟩ | ⟨rfl, hfl, v, S2, hop, hS, hF, he⟩
  · -- not wanted
    rw [guard_spec' I.ev hgD (by rw [hS] at ok1; exact ok1)]
    simp only [Bool.false_eq_true, if_false]
    exact quiet (.obj .tup []) undef β w hF (by rw [hS]; exact hp1.H) (.inr rfl) (.tup0 _) I.rel (Stp.refl ..)
  · -- a block under a name that was set aside
    have hev : evD nv ops tr D = evD nv ops tr D := rfl
    have hfE' : floatE C (evD nv ops tr D) o.op (base + floats (ops.toList.take i)) S1 = some (v, (tr (i + 1)).2) := by
      rw [← hfE]
      have hop' := T.evD_op R
      revert hop' hfl
      cases o.op <;> intro hfl hop' <;> simp only [isFloat, Bool.false_eq_true] at hfl <;> simp only [floatE]
      · rename_i t n ps
        rw [evP_congr (l := ps.toList) fun p hp => hop' p.2 (by simp only [Op.operands]; simp; exact ⟨p.1, by simpa using hp⟩)]
      · rename_i t l c
        rw [hop' l (by simp [Op.operands]), hop' c (by simp [Op.operands])]
    obtain ⟨d, S3, hp3, hH3, hc3, _, _, hspec⟩ := floatE_spec hfE' I.ev
    have ok3 : S3.ok := by
      intro x hx; exact ok1 x (by rw [hc3]; exact hx)
    obtain ⟨vs, t, vv, hvs, hrun, hrel⟩ := hspec ok3
    rw [guard_spec' I.ev hgD (hp3.ok ok3)]
    simp only [if_true]
    left
    unfold Oper.wp
    rw [hrun w]
    simp only [Oper.upon]
    have hnD := R.not
    have hβn := I.fl i o R.get hfl hnD
    have hdead : lget (nm ops base i) (tr i).2.H = some ⟨.gen [], .dead⟩ := T.early R.get hfl i (Nat.le_refl _)
    have hsome : ∃ kk, lget (nm ops base i) H = some kk := by
      rw [I.hp]
      refine lget_some_of_lt (Nat.lt_of_lt_of_le ?_ (T.len_le (Nat.zero_le _) (last_le _)))
      rw [T.len]; exact nm_bound R.get hfl
    obtain ⟨kk, hkk⟩ := hsome
    have hkk' : H[nm ops base i]? = some kk := by rw [← lget_eq]; exact hkk
    have hdl : d.len = vs.length := by rw [← Data.list_len]; exact hvs.1
    obtain ⟨g1, g2, g3⟩ := I.rel.newAt hkk' hβn d vs t (by omega) (by rw [hdl, List.take_length]; exact hvs)
    have hle : Map.le β (β.put (nm ops base i) ⟨w.heap.size, 0, vs.length⟩) := Map.put_le hβn
    have hHi : (tr (i + 1)).2.H = lset ⟨d, .own⟩ (nm ops base i) (tr i).2.H := by rw [hH3, hp1.H]; rfl
    have hnmlt : nm ops base i < (tr i).2.H.length := lget_lt hdead
    have hsz : (w.alloc (.cells ⟨vs⟩ t)).heap.size = w.heap.size + 1 := by
      show (w.heap.push _).size = _
      simp
    refine hK _ _ _ _ ⟨R.closed, T.frame_new R (fun t => (I.fr t).mono hle) I.size hF (hrel w _ (Map.put_same ..)), ?_, ?_, ?_, g1, ?_, ?_, ?_⟩
    · cases hd : o.dst <;> simp [Act.put, I.size]
    · cases hd : o.dst <;> simp [Act.put, I.defers]
    · refine heap_new T R I.hp (fun b hc => ?_) (fun b hc => ?_)
      · have hb : b = nm ops base i := by
          rcases T.ch_kind R.get hc with h | ⟨_, h⟩
          · rw [float_not_eff hfl] at h; cases h
          · exact h
        subst hb
        rw [hHi, ← lset_eq, lget_lset, lget_lset, if_pos ⟨rfl, lget_lt hkk⟩, if_pos ⟨rfl, hnmlt⟩]
      · have hb : b ≠ nm ops base i := by
          intro e; subst e
          apply hc
          show lget _ _ ≠ lget _ _
          rw [hHi, lget_lset, if_pos ⟨rfl, hnmlt⟩, hdead]
          simp
        rw [← lset_eq, lget_lset, if_neg fun h => hb h.1.symm]
    · intro k o' ho' hf hn
      rw [Map.put_ne]
      · exact I.fl k o' ho' hf (fun h => hn (.inl h))
      · intro e; exact hn (.inr (nm_inj (base := base) ho' hf R.get hfl e))
    · intro k o' ho' hf kk' hkk' ha
      by_cases e : nm ops base k = nm ops base i
      · rw [e]; exact ⟨_, Map.put_same ..⟩
      · rw [Map.put_ne e]
        refine I.fo k o' ho' hf kk' ?_ ha
        rw [← lset_eq, lget_lset, if_neg fun h => e h.1.symm] at hkk'
        exact hkk'
    · have hs := I.stp
      refine ⟨Map.le_trans hs.le hle, by rw [List.length_set]; exact hs.len, hs.os, hs.tape, hs.output, Nat.le_trans hs.size (by omega), fun c hc hn => ?_, fun c hc ho => ?_, fun b hb => ?_⟩
      · rw [g2 c (Nat.lt_of_lt_of_le hc hs.size)]; exact hs.kept c hc hn
      · exact hs.own c hc (g3 c (Nat.lt_of_lt_of_le hc hs.size) ho)
      · rw [Map.put_ne]
        · exact hs.old b hb
        · have := nm_ge (ops := ops) (base := base) i; omega
  · -- all others
    have okS2 : S2.ok := by rw [hS] at ok1; exact (lowA_ok S1 S2).1 ok1
    have okS1 : S1.ok := (lowB_ok S1).1 ((opE_ext T.ext hop).ok okS2)
    rw [guard_spec' I.ev hgD okS1]
    simp only [if_true]
    left
    have hopD : opE C call (evD nv ops tr D) o.op (lowB dyn S1) = some (v, S2) := by rw [opE_congr (T.evD_op R)]; exact hop
    -- one that looks at no more than it may
    have calm : ∀ (hre : opE C call (evD nv ops tr D) o.op ((lowB dyn S1).re H (lowB dyn S1).low []) = (opE C call (evD nv ops tr D) o.op (lowB dyn S1)).map (reP H (lowB dyn S1).low []))
        (hH2 : S2.H = S1.H), o.wp C.P a w K Q := by
      intro hre hH2
      rw [hopD] at hre
      have okr : (S2.re H (lowB dyn S1).low []).ok := by intro x hx; exact okS2 x (by simpa [St.re] using hx)
      refine (opE_wp hG hcall hm (o := o) (a := a) (S := (lowB dyn S1).re H (lowB dyn S1).low []) (S' := S2.re H (lowB dyn S1).low []) (x := v) hre I.ev I.rel I.defers).2 okr fun vv w' β' q1 q2 q3 => ?_
      exact quiet v vv β' w' hF (by rw [hS, lowA_H, hH2, hp1.H]) (.inl hfl) q1 q2 q3
    rcases kinds o.op with hk | hk | hk | hk | hk
    · refine calm (flat_re hk) ?_
      have := (pure_of_re (f := opE C call ((tr i).1.ev nv) o.op) (fun T cs _ _ => flat_re hk) hop).H
      rw [this, lowB_H]
    · refine calm (read_re hk fun b hb => ?_) ?_
      · rw [readOf_congr (T.evD_op R)] at hb
        rw [I.hp, T.heap_eq R (T.ord_read R.get hp1 hb hop he), lowB_H, hp1.H]
      · have := (pure_of_re (f := opE C call ((tr i).1.ev nv) o.op) (fun T cs e _ => read_re hk (fun b _ => by rw [e])) hop).H
        rw [this, lowB_H]
    · rw [hfl] at hk; cases hk
    · -- a write, or a call
      have hHc : (lowB dyn S1).H = (tr i).2.H := by rw [lowB_H, hp1.H]
      have hHn : S2.H = (tr (i + 1)).2.H := by rw [hS, lowA_H]
      let A : Nat → Prop := fun b => ∃ k o', i < k ∧ ops[k]? = some o' ∧ isFloat o'.op = true ∧ b = nm ops base k
      have hA0 : ∀ b, A b → lget b (tr i).2.H = some ⟨.gen [], .dead⟩ ∧ lget b (tr (i + 1)).2.H = some ⟨.gen [], .dead⟩ := by
        rintro b ⟨k, o', h1, h2, h3, rfl⟩
        exact ⟨T.early h2 h3 i (by omega), T.early h2 h3 (i + 1) (by omega)⟩
      have hAs : ∀ b, A b → ∃ kk, lget b H = some kk := by
        rintro b ⟨k, o', h1, h2, h3, rfl⟩
        rw [I.hp]
        refine lget_some_of_lt (Nat.lt_of_lt_of_le ?_ (T.len_le (Nat.zero_le _) (last_le _)))
        rw [T.len]; exact nm_bound h2 h3
      have hnA : ∀ b, ¬ A b → lget b H = lget b (tr i).2.H := by
        intro b hb
        rw [I.hp]
        exact T.heap_eq R (T.ord_eff R.get hk fun k o' h1 h2 h3 h4 => hb ⟨k, o', h1, h2, h3, h4⟩)
      have hlen : (tr i).2.H.length = H.length := by
        refine len_of_some fun b => ?_
        by_cases hb : A b
        · obtain ⟨kk, h⟩ := hAs b hb
          rw [(hA0 b hb).1, h]; rfl
        · rw [hnA b hb]
      have hsub : ∀ (b : Nat) k, (tr i).2.H[b]? = some k → k.mode.alive → H[b]? = some k := by
        intro b k hk ha
        by_cases hb : A b
        · rw [← lget_eq, (hA0 b hb).1] at hk; injection hk with hk; subst hk; exact absurd rfl ha
        · rw [← lget_eq, hnA b hb, lget_eq]; exact hk
      have hview : HRel G β (lowB dyn S1).H w := by rw [hHc]; exact I.rel.view hlen hsub
      refine (opE_wp hG hcall hm (o := o) (a := a) hopD I.ev hview I.defers).2 okS2 fun vv w' β' q1 q2 q3 => ?_
      rw [hHn] at q2 q3
      rw [hHc] at q3
      have hxe : Ext (lowB dyn S1) S2 := opE_ext T.ext hop
      classical
      let H2 : List Blk := (List.range (tr (i + 1)).2.H.length).map fun b => if A b then blkAt H b else blkAt (tr (i + 1)).2.H b
      have hlen2 : H2.length = (tr (i + 1)).2.H.length := by simp [H2]
      have hH2 : ∀ b, lget b H2 = if A b then lget b H else lget b (tr (i + 1)).2.H := by
        intro b
        rcases Nat.lt_or_ge b (tr (i + 1)).2.H.length with hb | hb
        · have : lget b H2 = some (if A b then blkAt H b else blkAt (tr (i + 1)).2.H b) := by
            rw [lget_eq]; simp [H2, hb]
          rw [this]
          split
          · rename_i hA
            obtain ⟨kk, h⟩ := hAs b hA
            simp [blkAt, h]
          · obtain ⟨kk, h⟩ := lget_some_of_lt hb
            simp [blkAt, h]
        · have h1 : lget b H2 = none := by rw [lget_eq]; exact List.getElem?_eq_none (by rw [hlen2]; exact hb)
          rw [h1]
          split
          · rename_i hA
            have := lget_lt (hA0 b hA).2
            omega
          · rw [lget_eq, List.getElem?_eq_none hb]
      have hno : ∀ b, A b → ¬ Ch tr b i := by
        intro b hb hc
        exact hc (by rw [(hA0 b hb).1, (hA0 b hb).2])
      obtain ⟨r1, r2⟩ := HRel.revive (H2 := H2) I.rel hlen hsub q2 q3 A hlen2
        (fun b hb => ⟨by rw [← lget_eq, ← lget_eq, hH2, if_pos hb], fun k' hk' => by rw [← lget_eq, (hA0 b hb).1] at hk'; injection hk' with hk'; subst hk'; rfl, fun k hk ha => by
          obtain ⟨k0, o', h1, h2, h3, rfl⟩ := hb
          rw [← lget_eq] at hk
          refine ⟨?_, I.fo k0 o' h2 h3 k hk ha⟩
          rw [I.hp] at hk
          have := T.owned h2 h3 _ (last_le _) k hk
          cases hm : k.mode with
          | own => rfl
          | ro => exact absurd hm this
          | dead => exact absurd hm ha⟩)
        (fun b hb => by rw [← lget_eq, ← lget_eq, hH2, if_neg hb])
        (fun b k hk hr => by
          rw [← lget_eq] at hk ⊢
          have := hxe.ro b k (by rw [hHn]; exact hk) hr
          rw [hHc] at this; exact this)
      refine hK β' _ w' H2 ⟨R.closed, T.frame_new R (fun t => (I.fr t).mono q3.le) I.size hF q1, ?_, ?_, ?_, r1, ?_, ?_, I.stp.trans r2⟩
      · cases hd : o.dst <;> simp [Act.put, I.size]
      · cases hd : o.dst <;> simp [Act.put, I.defers]
      · refine heap_new T R I.hp (fun b hc => ?_) (fun b hc => ?_)
        · rw [hH2, if_neg fun hb => hno b hb hc]
        · rw [hH2]
          split
          · rfl
          · rename_i hb
            rw [hnA b hb]
            exact Classical.not_not.1 hc
      · intro k o' ho' hf hn
        have h1 := I.fl k o' ho' hf (fun h => hn (.inl h))
        have h2 : nm ops base k < H.length := by
          obtain ⟨kk, h3⟩ : ∃ kk, lget (nm ops base k) H = some kk := by
            rw [I.hp]
            refine lget_some_of_lt (Nat.lt_of_lt_of_le ?_ (T.len_le (Nat.zero_le _) (last_le _)))
            rw [T.len]; exact nm_bound ho' hf
          exact lget_lt h3
        rw [r2.old _ h2]; exact h1
      · intro k o' ho' hf kk hkk ha
        by_cases hD : D k
        · -- it was there, and is
          have hwas : ∃ L, β (nm ops base k) = some L := by
            rw [hH2] at hkk
            by_cases hb : A (nm ops base k)
            · rw [if_pos hb] at hkk
              exact I.fo k o' ho' hf kk hkk ha
            · rw [if_neg hb] at hkk
              -- alive behind the step, so it was alive ahead of it
              obtain ⟨k1, hk1⟩ : ∃ k1, lget (nm ops base k) (tr i).2.H = some k1 := by
                refine lget_some_of_lt (Nat.lt_of_lt_of_le ?_ (T.len_le (Nat.zero_le _) (Nat.le_of_lt hlt)))
                rw [T.len]; exact nm_bound ho' hf
              have hk1a : k1.mode.alive := by
                intro hm
                have := hxe.dead _ _ (by rw [hHc]; exact hk1) hm
                rw [hHn, hkk] at this
                injection this with this; subst this; exact ha hm
              exact I.fo k o' ho' hf k1 (by rw [hnA _ hb]; exact hk1) hk1a
          obtain ⟨L, hL⟩ := hwas
          exact ⟨L, q3.le _ _ hL⟩
        · -- it is not there yet
          exfalso
          have hki : k ≠ i := by
            intro e; subst e; rw [R.get] at ho'; injection ho' with ho'; subst ho'; rw [hf] at hfl; cases hfl
          have hn : ¬ (D k ∨ k = i) := fun h => h.elim hD hki
          have e1 : lget (nm ops base k) H2 = lget (nm ops base k) (tr (last (fun k => D k ∨ k = i) (Ch tr (nm ops base k)) ops.size)).2.H :=
            heap_new T R I.hp (fun b hc => by rw [hH2, if_neg fun hb => hno b hb hc]) (fun b hc => by
              rw [hH2]
              split
              · rfl
              · rename_i hb
                rw [hnA b hb]
                exact Classical.not_not.1 hc) _
          have hklt := (Array.getElem?_eq_some_iff.1 ho').1
          -- no change of it is among those done
          have key : ∀ n, n ≤ ops.size → last (fun k => D k ∨ k = i) (Ch tr (nm ops base k)) n ≤ k := by
            intro n
            induction n with
            | zero => intro _; simp [last]
            | succ n ih =>
              intro hn'
              simp only [last]
              split
              · rename_i hc
                rcases Nat.lt_trichotomy n k with h | h | h
                · omega
                · subst h; exact absurd hc.1 hn
                · exfalso
                  -- the change at k itself comes first
                  have hck : Ch tr (nm ops base k) k := by
                    intro heq
                    -- else the block were dead for ever
                    have hdead : ∀ j, k ≤ j → j ≤ ops.size → lget (nm ops base k) (tr j).2.H = some ⟨.gen [], .dead⟩ := by
                      intro j
                      induction j with
                      | zero => intro h1 _; have : k = 0 := by omega
                                subst this; exact T.early ho' hf 0 (Nat.le_refl _)
                      | succ j ihj =>
                        intro h1 h2
                        rcases Nat.lt_or_ge k (j + 1) with h3 | h3
                        · by_cases hjk : j = k
                          · subst hjk; rw [heq]; exact T.early ho' hf j (Nat.le_refl _)
                          · have hjlt : j < ops.size := by omega
                            obtain ⟨_, h | ⟨hfk, b, _, h⟩ | ⟨_, _, v, S1', S2', hp', _, h, hx, _⟩⟩ := T.step_kinds (Array.getElem?_eq_getElem hjlt)
                            · rw [h]; exact ihj (by omega) (by omega)
                            · rw [h, lget_lset, if_neg]
                              · exact ihj (by omega) (by omega)
                              · intro ⟨e, _⟩
                                have := nm_inj (Array.getElem?_eq_getElem hjlt) hfk ho' hf e
                                omega
                            · rw [h]; exact hx.dead _ _ (by rw [lowB_H, hp'.H]; exact ihj (by omega) (by omega)) rfl
                        · have : k = j + 1 := by omega
                          subst this; exact T.early ho' hf _ (Nat.le_refl _)
                    exact hc.2 (by rw [hdead n (by omega) (by omega), hdead (n + 1) (by omega) (by omega)])
                  have hb := T.ch_ordered h ho' (Array.getElem?_eq_getElem (by omega)) hck hc.2
                  have hcl := R.closed
                  have hnl : n < ops.size := by omega
                  exact hn (bef_spec hcl n k _ (Array.getElem?_eq_getElem hnl) hb fun e he hb' => hcl n _ (Array.getElem?_eq_getElem hnl) hc.1 e he hb')
              · exact ih (by omega)
          rw [e1, T.early ho' hf _ (key _ (Nat.le_refl _))] at hkk
          injection hkk with hkk; subst hkk; exact ha rfl
    · rw [hk] at hop; cases hop
end Tr
end Go.Eng
/- Regions of open order, as a whole. -/
namespace Go.Eng
set_option linter.unusedSectionVars false
variable [RowAddr]
open Region
set_option linter.unusedSimpArgs false
set_option linter.unusedVariables false

theorem pads_get : ∀ (n b : Nat), lget b (pads n) = if b < n then some ⟨.gen [], .dead⟩ else none
  | 0, b => by simp [pads, lget]
  | n + 1, 0 => by simp [pads, lget]
  | n + 1, b + 1 => by simp [pads, lget, pads_get n b]
theorem pads_len : ∀ n, (pads n).length = n
  | 0 => rfl
  | n + 1 => by simp [pads, pads_len n]
theorem padSt_H (S : St) (n : Nat) : (padSt S n).H = S.H ++ pads n := by cases n <;> simp [padSt, pads]
theorem padSt_ok (S : St) (n : Nat) : (padSt S n).ok ↔ S.ok := by cases n <;> exact Iff.rfl
theorem padSt_low (S : St) (n : Nat) : (padSt S n).low = S.low := by cases n <;> rfl
theorem pad_get (H : List Blk) (n b : Nat) : lget b (H ++ pads n) = if b < H.length then lget b H else if b < H.length + n then some ⟨.gen [], .dead⟩ else none := by
  rw [lget_eq, lget_eq]
  by_cases h : b < H.length
  · rw [List.getElem?_append_left h, if_pos h]
  · rw [List.getElem?_append_right (by omega), if_neg h, ← lget_eq, pads_get]
    by_cases h2 : b < H.length + n
    · rw [if_pos h2, if_pos (by omega)]
    · rw [if_neg h2, if_neg (by omega)]
section
variable {G : Nat → Option (List AV)} {β : Map} {w : World}
theorem HRel.pad {H : List Blk} (hH : HRel G β H w) (n : Nat) : HRel G β (H ++ pads n) w ∧ Stp β H w β (H ++ pads n) w := by
  have hget : ∀ (b : Nat) k, (H ++ pads n)[b]? = some k → k.mode.alive → H[b]? = some k := by
    intro b k hk ha
    rw [← lget_eq, pad_get] at hk
    split at hk
    · rw [← lget_eq]; exact hk
    · split at hk
      · injection hk with hk; subst hk; exact absurd rfl ha
      · cases hk
  refine ⟨⟨fun b k hk ha => hH.blk b k (hget b k hk ha) ha, fun b b' k k' L L' hne hk hk' ho ha => hH.dis b b' k k' L L' hne (hget b k hk (own_alive ho)) (hget b' k' hk' ha) ho ha,
    fun b L h => by have := hH.dom b L h; simp; omega, hH.glob, fun b k L hk ho => hH.apart b k L (hget b k hk (own_alive ho)) ho⟩,
    ⟨Map.le_refl β, by simp, rfl, rfl, rfl, Nat.le_refl _, fun _ _ _ => rfl, fun c hc ⟨b, k, L, hk, ho, hL, hLc⟩ => ⟨b, k, L, hget b k hk (own_alive ho), ho, hL, hLc⟩, fun _ _ => rfl⟩⟩
theorem count_set : ∀ (l : List Bool) (i : Nat), l[i]? = some false → (l.set i true).count false + 1 = l.count false
  | [], i, h => by simp at h
  | x :: l, 0, h => by simp at h; subst h; simp
  | x :: l, i + 1, h => by
    have := count_set l i (by simpa using h)
    simp only [List.set_cons_succ, List.count_cons]; omega
theorem count_zero {l : List Bool} (h : l.count false = 0) (i : Nat) (hi : i < l.length) : l[i]? = some true := by
  have hn : false ∉ l := List.count_eq_zero.1 h
  have : l[i] ∈ l := List.getElem_mem hi
  rw [List.getElem?_eq_getElem hi]
  cases hl : l[i] with
  | true => rfl
  | false => rw [hl] at this; exact absurd this hn
variable {C : Cfg} {call : CallF} {nv nt : Nat}
/-- Any order does what the order of the text does. -/
theorem any_order (hG : C.glob = G) (hcall : CallOk C.P G call) (hm : MethOk C.P C.meth) {dyn : Bool} {ops : Array Oper} {base : Nat} {tr : Nat → Fr × St} {evs : Nat → Option Ev}
    (T : Tr C call nv nt dyn ops base tr evs) (hok : (tr ops.size).2.ok) {β0 : Map} {H0 : List Blk} {w0 : World} (hbase : H0.length = base) {Q : Exit → Act → World → Prop}
    (hQ : ∀ a' w' β', FRel nv nt β' (tr ops.size).1 a' → HRel G β' (tr ops.size).2.H w' → Stp β0 H0 w0 β' (tr ops.size).2.H w' → Q .normal a' w') :
    ∀ (fuel : Nat) (listed : Array Bool) (β : Map) (a : Act) (w : World) (H : List Blk), listed.size = ops.size → listed.toList.count false ≤ fuel →
      Tr.Inv C nv nt ops base tr G β0 H0 w0 (fun k => listed.getD k false = true) β a w H → wpAny C.P .any ops Q fuel listed a w := by
  have hall : ∀ (listed : Array Bool) (β : Map) (a : Act) (w : World) (H : List Blk), listed.size = ops.size →
      Tr.Inv C nv nt ops base tr G β0 H0 w0 (fun k => listed.getD k false = true) β a w H → Region.ready .any ops listed = [] → Q .normal a w := by
    intro listed β a w H hsz I hr
    -- all are listed: the first that is not would be ready
    have hl : ∀ k, k < ops.size → listed.getD k false = true := by
      intro k
      induction k using Nat.strongRecOn with
      | _ k ih =>
        intro hk
        cases hc : listed.getD k false with
        | true => rfl
        | false =>
          exfalso
          have hm : k ∈ Region.ready .any ops listed := by
            rw [mem_ready]
            refine ⟨?_, ops[k], Array.getElem?_eq_getElem hk, fun e he hb => ?_⟩
            · have hkl : k < listed.size := by omega
              simp only [Array.getD_eq_getD_getElem?, Array.getElem?_eq_getElem hkl, Option.getD_some] at hc ⊢
              exact hc
            · have := regOk_edges T.reg k _ (Array.getElem?_eq_getElem hk) e he hb
              exact ih e.on this (by omega)
          rw [hr] at hm; cases hm
    have e1 : ∀ {α : Type} (x : Nat → α) (Ch : Nat → Prop), (∀ k, k < ops.size → ¬ Ch k → x (k + 1) = x k) → x (last (fun k => listed.getD k false = true) Ch ops.size) = x ops.size :=
      fun x Ch hx => last_agree hx (Nat.le_refl _) fun k hk _ => ⟨fun _ => hk, fun _ => hl k hk⟩
    have hH : H = (tr ops.size).2.H := list_ext fun b => by
      rw [I.hp]; exact e1 (fun k => lget b (tr k).2.H) _ fun k _ hk => Classical.not_not.1 hk
    subst hH
    refine hQ a w β ⟨fun t => ?_, I.size, I.defers⟩ I.rel I.stp
    have := I.fr t
    rw [e1 (fun k => (tr k).1.get nv t) (Tr.ChF ops t) fun k hk hc => T.frame_same hc hk] at this
    exact this
  intro fuel
  induction fuel with
  | zero =>
    intro listed β a w H hsz hc I
    have hr : Region.ready .any ops listed = [] := by
      rw [List.eq_nil_iff_forall_not_mem]
      intro j hj
      obtain ⟨h0, o, ho, _⟩ := mem_ready.1 hj
      have hjl : j < listed.size := by rw [hsz]; exact (Array.getElem?_eq_some_iff.1 ho).1
      have := count_zero (l := listed.toList) (by omega) j (by simpa using hjl)
      simp only [Array.getD_eq_getD_getElem?, Array.getElem?_eq_getElem hjl, Option.getD_some] at h0
      simp [hjl, h0] at this
    exact ⟨hr, hall listed β a w H hsz I hr⟩
  | succ fuel ih =>
    intro listed β a w H hsz hc I
    refine ⟨hall listed β a w H hsz I, fun i hi => ?_⟩
    obtain ⟨h0, o, ho, hpre⟩ := mem_ready.1 hi
    have hil : i < listed.size := by rw [hsz]; exact (Array.getElem?_eq_some_iff.1 ho).1
    have h0' : listed[i]? = some false := by
      simp only [Array.getD_eq_getD_getElem?, Array.getElem?_eq_getElem hil, Option.getD_some] at h0
      rw [Array.getElem?_eq_getElem hil, h0]
    have R : Tr.Ready ops (fun k => listed.getD k false = true) i o :=
      ⟨I.cl, by simp [Array.getD_eq_getD_getElem?, h0'], ho, fun e he hb => hpre e he hb⟩
    refine T.step_any hG hcall hm hok hbase R I fun β' a' w' H' I' => ?_
    refine ih _ β' a' w' H' (by simp [hsz]) ?_ ?_
    · have := count_set listed.toList i (by simpa using h0')
      simp only [Array.toList_setIfInBounds]; omega
    · have e : (fun k => (listed.setIfInBounds i true).getD k false = true) = fun k => listed.getD k false = true ∨ k = i := by
        funext k
        by_cases hk : i = k
        · subst hk; simp [Array.getD_eq_getD_getElem?, hil]
        · simp [Array.getD_eq_getD_getElem?, Array.getElem?_setIfInBounds_ne hk, Ne.symm hk]
      rw [e]; exact I'

/-- A region, whether its order is open or not. -/
theorem region_wp (hG : C.glob = G) (hcall : CallOk C.P G call) (hm : MethOk C.P C.meth) (hmix : C.P.follows .mixedOrders = true) {id : Nat} {ops : Array Oper} {draw : Bool} {E : Env} (hE : E.call = call) (hnv : E.nv = nv)
    (hreg : regOk C.P nt (E.dyn id) ops draw = true) {F F' : Fr} {S S' : St} {o : Out} (h : regionE C id ops.toList (befOf ops) draw E F S = some (o, F', S')) (ok : S'.ok) {a : Act} (hF : FRel nv nt β F a) (hH : HRel G β S.H w)
    {Q : Exit → Act → World → Prop} (hQ : ∀ a' w' β', FRel nv nt β' F' a' → HRel G β' S'.H w' → Stp β S.H w β' S'.H w' → Q .normal a' w') : o = .normal ∧ (Code.region id ops draw).wp C.P Q a w := by
  subst hE hnv
  unfold regionE at h
  cases draw with
  | false =>
    simp only at h
    split at h
    case h_2 => cases h
    rename_i F1 S1 hr
    simp only [Option.some.injEq, Prod.mk.injEq] at h
    obtain ⟨rfl, rfl, rfl⟩ := h
    refine ⟨rfl, ?_⟩
    refine wp_region ?_
    have := runOps_wp hG hcall hm (nv := E.nv) (ops := ops) (regOk_dst hreg) (Q := Q) ops.toList 0 F F1 S S1 β a w (by simp) hr ok hF hH (fun a' w' β' q1 q2 q3 => hQ a' w' β' (q1.keep _) q2 q3)
    rw [List.range_eq_range']
    simpa using this
  | true =>
    simp only at h
    split at h
    case h_2 => cases h
    rename_i F1 S1 es hr
    split at h
    · cases h
    rename_i hcl
    simp only [Option.some.injEq, Prod.mk.injEq] at h
    obtain ⟨rfl, rfl, rfl⟩ := h
    refine ⟨rfl, ?_⟩
    obtain ⟨tr, evs, h0, hn, hst, _, hev⟩ := runW_trace ops.toList 0 S.H.length F F1 (padSt S (floats ops.toList)) S1 es hr
    have hn' : tr ops.size = (F1, S1) := by simpa using hn
    have T : Tr C E.call E.nv nt (E.dyn id) ops S.H.length tr evs := {
      reg := hreg
      ext := hcall.ext
      step := fun k o ho => hst k o (by simpa using ho)
      evs := fun k k' e e' h1 h2 h3 h4 => by
        have := hev _ hcl k k' e e' h1 (by simpa using h2) h3 h4
        simpa using this
      pad := fun b h1 h2 => by
        rw [h0]
        show lget b (padSt S _).H = _
        rw [padSt_H, pad_get, if_neg (by omega), if_pos h2]
      len := by
        rw [h0]
        show (padSt S _).H.length = _
        rw [padSt_H, List.length_append, pads_len] }
    refine wp_region_any hmix ?_
    obtain ⟨p1, p2⟩ := (hH.drew).pad (floats ops.toList)
    have hs0 := (Stp.drew β S.H w).trans p2
    have hlast : ∀ Ch n, last (fun k => (Array.replicate ops.size false).getD k false = true) Ch n = 0 := by
      intro Ch n
      induction n with
      | zero => rfl
      | succ n ih =>
        simp only [last]
        rw [if_neg, ih]
        rintro ⟨h1, _⟩
        simp only [Array.getD_eq_getD_getElem?] at h1
        rw [Array.getElem?_replicate] at h1
        split at h1 <;> simp at h1
    have hnot : ∀ k, ¬ ((Array.replicate ops.size false).getD k false = true) := by
      intro k h1
      simp only [Array.getD_eq_getD_getElem?] at h1
      rw [Array.getElem?_replicate] at h1
      split at h1 <;> simp at h1
    refine any_order hG hcall hm T (by rw [hn']; exact ok) rfl (β0 := β) (H0 := S.H) (w0 := w) (fun a' w' β' q1 q2 q3 => ?_) ops.size _ β a w.drew (S.H ++ pads (floats ops.toList)) (by simp) ?_ ?_
    · rw [hn'] at q1 q2 q3
      exact hQ a' w' β' (q1.keep _) q2 q3
    · have := List.count_le_length (l := (Array.replicate ops.size false).toList) (a := false)
      simp
    · refine ⟨fun i o ho hi => absurd hi (hnot i), fun t => ?_, hF.size, hF.defers, fun b => ?_, p1, fun k o ho hf _ => ?_, fun k o ho hf kk hkk ha => ?_, hs0⟩
      · rw [hlast, h0]; exact hF.val t
      · rw [hlast, h0, ← padSt_H]
      · cases hb : β (Tr.nm ops S.H.length k) with
        | none => rfl
        | some L => have := hH.dom _ L hb; have := Tr.nm_ge (ops := ops) (base := S.H.length) k; omega
      · exfalso
        rw [pad_get, if_neg (by have := Tr.nm_ge (ops := ops) (base := S.H.length) k; omega), if_pos (Tr.nm_bound ho hf)] at hkk
        injection hkk with hkk; subst hkk; exact ha rfl
end
end Go.Eng
/- Code runs as the interpreter says. -/
namespace Go.Eng
set_option linter.unusedSectionVars false
variable [RowAddr]
open Region
set_option linter.unusedSimpArgs false
set_option linter.unusedVariables false

/-! What a region of open order leaves as it is. -/
structure ExtB (B : Nat) (S S' : St) : Prop where
  ok : S'.ok → S.ok
  low : S'.low ≤ S.low
  len : S.H.length ≤ S'.H.length
  same : ∀ b, b < B → b < S'.low → lget b S'.H = lget b S.H
  dead : ∀ b k, b < B → lget b S.H = some k → k.mode = .dead → lget b S'.H = some k
  ro : ∀ b k, lget b S'.H = some k → k.mode = .ro → lget b S.H = some k
theorem ExtB.trans {B : Nat} {a b c : St} (h : ExtB B a b) (k : ExtB B b c) : ExtB B a c :=
  ⟨fun o => h.ok (k.ok o), Nat.le_trans k.low h.low, Nat.le_trans h.len k.len, fun x hx hl => (k.same x hx hl).trans (h.same x hx (Nat.lt_of_lt_of_le hl k.low)),
    fun x y hb hx hy => k.dead x y hb (h.dead x y hb hx hy) hy, fun x y hx hy => h.ro x y (k.ro x y hx hy) hy⟩
theorem Ext.toB {B : Nat} {S S' : St} (h : Ext S S') (hB : B ≤ S.H.length) : ExtB B S S' :=
  ⟨h.ok, h.low, h.len, fun b hb hl => h.same b (by omega) hl, fun b k _ => h.dead b k, h.ro⟩
section
variable {C : Cfg} {call : CallF} {nv : Nat} {dyn : Bool} {ops : List Oper}
theorem stepW_ext (hc : CallExt call) {nm B : Nat} {o : Oper} {F F' : Fr} {S S' : St} {e : Option Ev} (h : stepW C call nv dyn ops nm o F S = some (F', S', e)) (hB : B ≤ S.H.length) (hn : B ≤ nm) : ExtB B S S' := by
  obtain ⟨b, S1, hg, hp, h | h | h⟩ := stepW_inv h
  · obtain ⟨_, _, h⟩ := h
    rw [h]; exact hp.ext.toB hB
  · obtain ⟨_, hf, v, hv, _⟩ := h
    obtain ⟨⟨k, hk, h1⟩, h2⟩ := floatE_H hv
    have hlow : S'.low = S1.low := by
      unfold floatE at hv
      split at hv
      · split at hv
        · simp only [Option.some.injEq, Prod.mk.injEq] at hv; obtain ⟨_, rfl⟩ := hv; rfl
        · cases hv
      · split at hv
        case h_2 => cases hv
        rename_i y S2 hm
        split at hv
        case h_2 => cases hv
        simp only [Option.some.injEq, Prod.mk.injEq] at hv; obtain ⟨_, rfl⟩ := hv
        unfold makeSliceOp at hm
        repeat' (split at hm)
        all_goals (try (cases hm; done))
        simp only [Option.some.injEq, Prod.mk.injEq] at hm; obtain ⟨_, rfl⟩ := hm
        have h1 := Go.Eng.B.claim_spec ‹Go.Eng.B.claim (N.fits _) _ = some _›
        have h2 := Go.Eng.B.claim_spec ‹Go.Eng.B.claim (ordered _ _ _) _ = some _›
        exact (h2.1.trans h1.1).low
      · split at hv
        case h_2 => cases hv
        rename_i y S2 hm
        split at hv
        case h_2 => cases hv
        simp only [Option.some.injEq, Prod.mk.injEq] at hv; obtain ⟨_, rfl⟩ := hv
        unfold buildSliceOp at hm
        repeat' (split at hm)
        all_goals (try (cases hm; done))
        simp only [Option.some.injEq, Prod.mk.injEq] at hm; obtain ⟨_, rfl⟩ := hm
        rfl
      · cases hv
    refine (hp.ext.toB hB).trans ⟨h2, by rw [hlow]; exact Nat.le_refl _, by rw [h1, lset_eq, List.length_set]; exact Nat.le_refl _, fun b hb _ => ?_, fun b kk hb hkk hm => ?_, fun b kk hkk hm => ?_⟩
    · rw [h1, lget_lset, if_neg (by omega)]
    · rw [h1, lget_lset, if_neg (by omega)]; exact hkk
    · rw [h1, lget_lset] at hkk
      split at hkk
      · injection hkk with hkk; subst hkk; rw [hk] at hm; cases hm
      · exact hkk
  · obtain ⟨_, hf, v, S2, hv, hS, _, _⟩ := h
    have hx := opE_ext hc hv
    refine (hp.ext.toB hB).trans ?_
    have hB1 : B ≤ S1.H.length := by rw [hp.H]; exact hB
    subst hS
    refine ⟨fun o => (lowB_ok S1).1 (hx.ok ((lowA_ok S1 S2).1 o)), ?_, by rw [lowA_H]; have := hx.len; rw [lowB_H] at this; exact this, fun b hb hl => ?_, fun b k hb hk hm => ?_, fun b k hk hm => ?_⟩
    · cases dyn with
      | true => exact Nat.min_le_left _ _
      | false => exact hx.low
    · rw [lowA_H]
      have hl2 : b < S2.low := by
        cases dyn with
        | true => exact Nat.lt_of_lt_of_le hl (Nat.min_le_right _ _)
        | false => exact hl
      have := hx.same b (by rw [lowB_H]; omega) hl2
      rw [lowB_H] at this; exact this
    · rw [lowA_H]; exact hx.dead b k (by rw [lowB_H]; exact hk) hm
    · rw [lowA_H] at hk
      have := hx.ro b k hk hm
      rw [lowB_H] at this; exact this
theorem runW_ext (hc : CallExt call) {B : Nat} : ∀ (r : List Oper) (i nm : Nat) (F F' : Fr) (S S' : St) (es : List (Nat × Ev)), runW C call nv dyn ops r i nm F S = some (F', S', es) → B ≤ S.H.length → B ≤ nm → ExtB B S S' := by
  intro r
  induction r with
  | nil =>
    intro i nm F F' S S' es h hB hn
    simp only [runW, Option.some.injEq, Prod.mk.injEq] at h
    obtain ⟨_, rfl, _⟩ := h; exact (Ext.refl _).toB hB
  | cons o r ih =>
    intro i nm F F' S S' es h hB hn
    simp only [runW] at h
    split at h
    · cases h
    rename_i F1 S1 e1 hs
    split at h
    · cases h
    rename_i F2 S2 es2 hr
    simp only [Option.some.injEq, Prod.mk.injEq] at h
    obtain ⟨rfl, rfl, rfl⟩ := h
    have h1 := stepW_ext hc hs hB hn
    refine h1.trans (ih _ _ _ _ _ _ _ hr (Nat.le_trans hB h1.len) ?_)
    unfold nextNm; cases isFloat o.op <;> simp <;> omega
end
theorem regionE_ext {C : Cfg} {E : Env} (hc : CallExt E.call) {id : Nat} {ops : List Oper} {bef : Nat → Nat} {draw : Bool} {F F' : Fr} {S S' : St} {o : Out} (h : regionE C id ops bef draw E F S = some (o, F', S')) : Ext S S' := by
  unfold regionE at h
  cases draw with
  | false =>
    simp only at h
    split at h
    case h_2 => cases h
    rename_i F1 S1 hr
    simp only [Option.some.injEq, Prod.mk.injEq] at h
    obtain ⟨rfl, rfl, rfl⟩ := h
    exact runOps_ext hc _ _ _ _ _ hr
  | true =>
    simp only at h
    split at h
    case h_2 => cases h
    rename_i F1 S1 es hr
    split at h
    · cases h
    simp only [Option.some.injEq, Prod.mk.injEq] at h
    obtain ⟨rfl, rfl, rfl⟩ := h
    have hx := runW_ext hc (B := S.H.length) _ _ _ _ _ _ _ _ hr (by rw [padSt_H]; simp) (Nat.le_refl _)
    refine ⟨fun o => (padSt_ok S _).1 (hx.ok o), by have := hx.low; rw [padSt_low] at this; exact this, ?_, fun b hb hl => ?_, fun b k hk hm => ?_, fun b k hk hm => ?_⟩
    · have := hx.len; rw [padSt_H, List.length_append] at this; omega
    · rw [hx.same b hb hl, padSt_H, pad_get, if_pos hb]
    · have hb := lget_lt hk
      exact hx.dead b k hb (by rw [padSt_H, pad_get, if_pos hb]; exact hk) hm
    · have := hx.ro b k hk hm
      rw [padSt_H, pad_get] at this
      split at this
      · exact this
      · split at this
        · injection this with this; subst this; cases hm
        · cases this

/-! Code. -/
def Out.ex : Out → Exit
  | .normal => .normal
  | .exit id => .exit id
  | .ret => .ret
section
variable {G : Nat → Option (List AV)}
/-- What a run over code promises. -/
def RunOk (P : Program) (G : Nat → Option (List AV)) (nv nt : Nat) (c : Code) (f : Fr → St → Option (Out × Fr × St)) : Prop :=
  ∀ F S o F' S', f F S = some (o, F', S') → Ext S S' ∧ (S'.ok → ∀ β a w, FRel nv nt β F a → HRel G β S.H w → ∀ Q : Exit → Act → World → Prop,
    (∀ a' w' β', FRel nv nt β' F' a' → HRel G β' S'.H w' → Stp β S.H w β' S'.H w' → Q o.ex a' w') → c.wp P Q a w)
def codeOk (P : Program) (nt : Nat) (dyn : Nat → Bool) : Nat → Code → Bool
  | 0, _ => false
  | n + 1, c =>
    match c with
    | .region id ops draw => regOk P nt (dyn id) ops draw
    | .seq a b =>
      match codeOk P nt dyn n a with
      | true => codeOk P nt dyn n b
      | false => false
    | .cond _ a b =>
      match codeOk P nt dyn n a with
      | true => codeOk P nt dyn n b
      | false => false
    | .block _ b => codeOk P nt dyn n b
    | .loop b => codeOk P nt dyn n b
    | _ => true
/-- All loops of some code. -/
def loopsOf : Nat → Code → List Code
  | 0, _ => []
  | n + 1, c =>
    match c with
    | .seq a b => loopsOf n a ++ loopsOf n b
    | .cond _ a b => loopsOf n a ++ loopsOf n b
    | .block _ b => loopsOf n b
    | .loop b => b :: loopsOf n b
    | _ => []
/-- A loop that is entered. -/
def lwp (P : Program) (c : Code) (Q : Exit → Act → World → Prop) (a : Act) (w : World) : Prop :=
  ∀ (b : Frame) (k : List Item) (cs : List Frame),
    ∃ e a' w', Q e a' w' ∧ Arrives P (lone (b.at a (.code c :: .inLoop c :: k)) cs w) b k cs e a' w'
theorem lwp_wp {P : Program} {Q : Exit → Act → World → Prop} {c : Code} {a : Act} {w : World} (h : lwp P c Q a w) : (Code.loop c).wp P Q a w := by
  intro b k cs
  obtain ⟨e, a', w', hq, harr⟩ := h b k cs
  exact ⟨e, a', w', hq, .of_steps (.one step_loop) harr⟩
theorem lwp_once {P : Program} {Q : Exit → Act → World → Prop} {c : Code} {a : Act} {w : World} (h : c.wp P (Exit.then (lwp P c Q) Q) a w) : lwp P c Q a w := by
  intro b k cs
  obtain ⟨e, a₁, w₁, hq, harr⟩ := h b (.inLoop c :: k) cs
  cases e with
  | normal =>
    obtain ⟨e₂, a₂, w₂, hq₂, harr₂⟩ := hq b k cs
    exact ⟨e₂, a₂, w₂, hq₂, .of_steps (Steps.trans harr (.one step_inLoop)) harr₂⟩
  | exit id => exact ⟨_, a₁, w₁, hq, .pass (x := .inLoop c) rfl (fun _ _ => .inl (by simp)) harr⟩
  | goto l => exact ⟨_, a₁, w₁, hq, .pass (x := .inLoop c) rfl (fun _ _ => .inl (by simp)) harr⟩
  | ret => exact ⟨_, a₁, w₁, hq, .pass (x := .inLoop c) rfl (fun _ _ => .inl (by simp)) harr⟩
  | panic ch => exact ⟨_, a₁, w₁, hq, .pass (x := .inLoop c) rfl (fun _ _ => .inl (by simp)) harr⟩
  | outgrown => exact ⟨_, a₁, w₁, hq, .pass (x := .inLoop c) rfl (fun _ _ => .inl (by simp)) harr⟩
/-- A loop, round by round. -/
theorem lwp_loop_n {P : Program} {Q : Exit → Act → World → Prop} {c : Code} (I : Nat → Act → World → Prop) {n : Nat} {a : Act} {w : World} (h₀ : I n a w)
    (round : ∀ n a w, I n a w → c.wp P (Exit.then (fun a' w' => ∃ m, m < n ∧ I m a' w') Q) a w) : lwp P c Q a w := by
  intro b k cs
  have key : ∀ n a w, I n a w →
      ∃ e a' w', Q e a' w' ∧ Arrives P (lone (b.at a (.code c :: .inLoop c :: k)) cs w) b k cs e a' w' := by
    intro n
    induction n using Nat.strongRecOn with
    | _ n ih =>
      intro a w hI
      obtain ⟨e, a₁, w₁, hq, harr⟩ := round n a w hI b (.inLoop c :: k) cs
      cases e with
      | normal =>
        obtain ⟨m, hlt, hI₁⟩ := hq
        obtain ⟨e₂, a₂, w₂, hq₂, harr₂⟩ := ih m hlt a₁ w₁ hI₁
        exact ⟨e₂, a₂, w₂, hq₂, .of_steps (Steps.trans harr (.one step_inLoop)) harr₂⟩
      | exit id => exact ⟨_, a₁, w₁, hq, .pass (x := .inLoop c) rfl (fun _ _ => .inl (by simp)) harr⟩
      | goto l => exact ⟨_, a₁, w₁, hq, .pass (x := .inLoop c) rfl (fun _ _ => .inl (by simp)) harr⟩
      | ret => exact ⟨_, a₁, w₁, hq, .pass (x := .inLoop c) rfl (fun _ _ => .inl (by simp)) harr⟩
      | panic ch => exact ⟨_, a₁, w₁, hq, .pass (x := .inLoop c) rfl (fun _ _ => .inl (by simp)) harr⟩
      | outgrown => exact ⟨_, a₁, w₁, hq, .pass (x := .inLoop c) rfl (fun _ _ => .inl (by simp)) harr⟩
  exact key n a w h₀
theorem wp_loop_n {P : Program} {Q : Exit → Act → World → Prop} {c : Code} (I : Nat → Act → World → Prop) {n : Nat} {a : Act} {w : World} (h₀ : I n a w)
    (round : ∀ n a w, I n a w → c.wp P (Exit.then (fun a' w' => ∃ m, m < n ∧ I m a' w') Q) a w) : (Code.loop c).wp P Q a w := lwp_wp (lwp_loop_n I h₀ round)
/-- A loop that is run well. -/
def LoopOk (P : Program) (G : Nat → Option (List AV)) (nv nt : Nat) (c : Code) (f : Fr → St → Option (Out × Fr × St)) : Prop :=
  ∀ F S o F' S', f F S = some (o, F', S') → Ext S S' ∧ (S'.ok → ∀ β a w, FRel nv nt β F a → HRel G β S.H w → ∀ Q : Exit → Act → World → Prop,
    (∀ a' w' β', FRel nv nt β' F' a' → HRel G β' S'.H w' → Stp β S.H w β' S'.H w' → Q o.ex a' w') → lwp P c Q a w)
theorem LoopOk.run {P : Program} {G : Nat → Option (List AV)} {nv nt : Nat} {c : Code} {f : Fr → St → Option (Out × Fr × St)} (h : LoopOk P G nv nt c f) : RunOk P G nv nt (.loop c) f := by
  intro F S o F' S' hf
  obtain ⟨h1, h2⟩ := h F S o F' S' hf
  exact ⟨h1, fun ok β a w hF hH Q hQ => lwp_wp (h2 ok β a w hF hH Q hQ)⟩
/-- The first round by a run, the others told. -/
def peel (f g : Fr → St → Option (Out × Fr × St)) (F : Fr) (S : St) : Option (Out × Fr × St) :=
  match f F S with
  | none => none
  | some (o, F, S) =>
    match o with
    | .normal => g F S
    | o => some (o, F, S)
theorem LoopOk.peel {P : Program} {G : Nat → Option (List AV)} {nv nt : Nat} {c : Code} {f g : Fr → St → Option (Out × Fr × St)} (hb : RunOk P G nv nt c f) (hg : LoopOk P G nv nt c g) : LoopOk P G nv nt c (peel f g) := by
  intro F S o F' S' h
  unfold Eng.peel at h
  split at h
  · cases h
  rename_i o1 F1 S1 h1
  obtain ⟨x1, x2⟩ := hb _ _ _ _ _ h1
  cases o1 with
  | normal =>
    simp only at h
    obtain ⟨y1, y2⟩ := hg _ _ _ _ _ h
    refine ⟨x1.trans y1, fun ok β a w hF hH Q hQ => lwp_once ?_⟩
    refine x2 (y1.ok ok) β a w hF hH _ fun a' w' β' q1 q2 q3 => ?_
    exact y2 ok β' a' w' q1 q2 Q fun a'' w'' β'' r1 r2 r3 => hQ a'' w'' β'' r1 r2 (q3.trans r3)
  | exit i =>
    simp only [Option.some.injEq, Prod.mk.injEq] at h
    obtain ⟨rfl, rfl, rfl⟩ := h
    exact ⟨x1, fun ok β a w hF hH Q hQ => lwp_once (x2 ok β a w hF hH _ fun a' w' β' q1 q2 q3 => hQ a' w' β' q1 q2 q3)⟩
  | ret =>
    simp only [Option.some.injEq, Prod.mk.injEq] at h
    obtain ⟨rfl, rfl, rfl⟩ := h
    exact ⟨x1, fun ok β a w hF hH Q hQ => lwp_once (x2 ok β a w hF hH _ fun a' w' β' q1 q2 q3 => hQ a' w' β' q1 q2 q3)⟩
/-- One way of telling it, or another. -/
def either (f g : Fr → St → Option (Out × Fr × St)) (F : Fr) (S : St) : Option (Out × Fr × St) :=
  match f F S with
  | some r => some r
  | none => g F S
theorem LoopOk.either {P : Program} {G : Nat → Option (List AV)} {nv nt : Nat} {c : Code} {f g : Fr → St → Option (Out × Fr × St)} (hf : LoopOk P G nv nt c f) (hg : LoopOk P G nv nt c g) : LoopOk P G nv nt c (either f g) := by
  intro F S o F' S' h
  unfold Eng.either at h
  split at h
  · rename_i r hr
    injection h with h; subst h
    exact hf _ _ _ _ _ hr
  · exact hg _ _ _ _ _ h
variable {C : Cfg} {nt : Nat}
theorem exec_eq (n : Nat) (c : Code) (E : Env) (F : Fr) (S : St) : (match execF C n c with | ⟨f⟩ => f E F S) = exec C n c E F S := rfl
/-- A loop that is unrolled. -/
theorem loop_ok {E : Env} {x : Code} (hno : (firstRid x).bind E.lo = none) : ∀ (n : Nat), (∀ m, m < n → RunOk C.P G E.nv nt x (exec C m x E)) →
    ∀ F S o F' S', exec C n (.loop x) E F S = some (o, F', S') → Ext S S' ∧ (S'.ok → ∀ β a w, FRel E.nv nt β F a → HRel G β S.H w → ∀ Q : Exit → Act → World → Prop,
      (∀ a' w' β', FRel E.nv nt β' F' a' → HRel G β' S'.H w' → Stp β S.H w β' S'.H w' → Q o.ex a' w') → lwp C.P x Q a w) := by
  intro n
  induction n with
  | zero => intro _ F S o F' S' h; simp [exec, execF] at h
  | succ n ih =>
    intro hb F S o F' S' h
    simp only [exec, execF, loopE, exec_eq, hno] at h
    split at h
    · cases h
    rename_i o1 F1 S1 h1
    obtain ⟨x1, x2⟩ := hb n (Nat.lt_succ_self n) _ _ _ _ _ h1
    cases o1 with
    | normal =>
      simp only at h
      obtain ⟨y1, y2⟩ := ih (fun m hm => hb m (Nat.lt_succ_of_lt hm)) _ _ _ _ _ h
      refine ⟨x1.trans y1, fun ok β a w hF hH Q hQ => lwp_once ?_⟩
      refine x2 (y1.ok ok) β a w hF hH _ fun a' w' β' q1 q2 q3 => ?_
      exact y2 ok β' a' w' q1 q2 Q fun a'' w'' β'' r1 r2 r3 => hQ a'' w'' β'' r1 r2 (q3.trans r3)
    | exit i =>
      simp only [Option.some.injEq, Prod.mk.injEq] at h
      obtain ⟨rfl, rfl, rfl⟩ := h
      exact ⟨x1, fun ok β a w hF hH Q hQ => lwp_once (x2 ok β a w hF hH _ fun a' w' β' q1 q2 q3 => hQ a' w' β' q1 q2 q3)⟩
    | ret =>
      simp only [Option.some.injEq, Prod.mk.injEq] at h
      obtain ⟨rfl, rfl, rfl⟩ := h
      exact ⟨x1, fun ok β a w hF hH Q hQ => lwp_once (x2 ok β a w hF hH _ fun a' w' β' q1 q2 q3 => hQ a' w' β' q1 q2 q3)⟩
theorem exec_ok (hG : C.glob = G) {E : Env} (hcall : CallOk C.P G E.call) (hm : MethOk C.P C.meth) (hmix : C.P.follows .mixedOrders = true) :
    ∀ (n m : Nat) (c : Code), codeOk C.P nt E.dyn m c = true → (∀ k, ∀ b ∈ loopsOf k c, ∀ sp, (firstRid b).bind E.lo = some sp → RunOk C.P G E.nv nt (.loop b) sp) → RunOk C.P G E.nv nt c (exec C n c E) := by
  intro n
  induction n using Nat.strongRecOn with
  | _ n' ihs =>
    intro m c hc hl F S o F' S' h
    cases n' with
    | zero => simp [exec, execF] at h
    | succ n =>
    have ih := ihs n (Nat.lt_succ_self n)
    cases m with
    | zero => simp [codeOk] at hc
    | succ m =>
    cases c with
    | skip =>
      simp only [exec, execF, Option.some.injEq, Prod.mk.injEq] at h
      obtain ⟨rfl, rfl, rfl⟩ := h
      exact ⟨Ext.refl _, fun ok β a w hF hH Q hQ => wp_skip (hQ a w β hF hH (Stp.refl ..))⟩
    | exit id =>
      simp only [exec, execF, Option.some.injEq, Prod.mk.injEq] at h
      obtain ⟨rfl, rfl, rfl⟩ := h
      exact ⟨Ext.refl _, fun ok β a w hF hH Q hQ => wp_exit (hQ a w β hF hH (Stp.refl ..))⟩
    | ret =>
      simp only [exec, execF, Option.some.injEq, Prod.mk.injEq] at h
      obtain ⟨rfl, rfl, rfl⟩ := h
      exact ⟨Ext.refl _, fun ok β a w hF hH Q hQ => wp_ret (hQ a w β hF hH (Stp.refl ..))⟩
    | region id ops draw =>
      simp only [exec, execF] at h
      simp only [codeOk] at hc
      refine ⟨regionE_ext hcall.ext h, fun ok β a w hF hH Q hQ => ?_⟩
      obtain ⟨rfl, _⟩ := region_wp hG hcall hm hmix rfl rfl hc h ok hF hH (Q := fun _ _ _ => True) (fun _ _ _ _ _ _ => trivial)
      exact (region_wp hG hcall hm hmix rfl rfl hc h ok hF hH (Q := Q) hQ).2
    | seq x y =>
      simp only [exec, execF, seqE, exec_eq] at h
      simp only [codeOk] at hc
      split at hc
      case h_2 => cases hc
      rename_i hcx
      have ihx := ih m x hcx (fun k b hb sp hsp => hl (k + 1) b (by simp [loopsOf, hb]) sp hsp)
      have ihy := ih m y hc (fun k b hb sp hsp => hl (k + 1) b (by simp [loopsOf, hb]) sp hsp)
      split at h
      · cases h
      rename_i o1 F1 S1 h1
      obtain ⟨x1, x2⟩ := ihx _ _ _ _ _ h1
      cases o1 with
      | normal =>
        simp only at h
        obtain ⟨y1, y2⟩ := ihy _ _ _ _ _ h
        refine ⟨x1.trans y1, fun ok β a w hF hH Q hQ => wp_seq ?_⟩
        refine x2 (y1.ok ok) β a w hF hH _ fun a' w' β' q1 q2 q3 => ?_
        exact y2 ok β' a' w' q1 q2 Q fun a'' w'' β'' r1 r2 r3 => hQ a'' w'' β'' r1 r2 (q3.trans r3)
      | exit i =>
        simp only [Option.some.injEq, Prod.mk.injEq] at h
        obtain ⟨rfl, rfl, rfl⟩ := h
        refine ⟨x1, fun ok β a w hF hH Q hQ => wp_seq ?_⟩
        exact x2 ok β a w hF hH _ fun a' w' β' q1 q2 q3 => hQ a' w' β' q1 q2 q3
      | ret =>
        simp only [Option.some.injEq, Prod.mk.injEq] at h
        obtain ⟨rfl, rfl, rfl⟩ := h
        refine ⟨x1, fun ok β a w hF hH Q hQ => wp_seq ?_⟩
        exact x2 ok β a w hF hH _ fun a' w' β' q1 q2 q3 => hQ a' w' β' q1 q2 q3
    | cond t x y =>
      simp only [exec, execF, condE, exec_eq] at h
      simp only [codeOk] at hc
      split at hc
      case h_2 => cases hc
      rename_i hcx
      have ihx := ih m x hcx (fun k b hb sp hsp => hl (k + 1) b (by simp [loopsOf, hb]) sp hsp)
      have ihy := ih m y hc (fun k b hb sp hsp => hl (k + 1) b (by simp [loopsOf, hb]) sp hsp)
      split at h
      case h_2 => cases h
      rename_i bb hbb
      have hval : ∀ β a, FRel E.nv nt β F a → a.eval t = .bool bb.v := by
        intro β a hF
        have := hF.ev t
        rw [hbb] at this
        exact this.bool_inv
      split at h
      · rename_i S1 ht
        obtain ⟨hp, hv⟩ := B.test_spec ht
        obtain ⟨x1, x2⟩ := ihx _ _ _ _ _ h
        refine ⟨hp.ext.trans x1, fun ok β a w hF hH Q hQ => ?_⟩
        refine wp_cond_true (by rw [hval β a hF, hv (x1.ok ok)]) ?_
        refine x2 ok β a w hF (by rw [hp.H]; exact hH) Q fun a' w' β' q1 q2 q3 => hQ a' w' β' q1 q2 (by rw [hp.H] at q3; exact q3)
      · rename_i S1 ht
        obtain ⟨hp, hv⟩ := B.test_spec ht
        obtain ⟨x1, x2⟩ := ihy _ _ _ _ _ h
        refine ⟨hp.ext.trans x1, fun ok β a w hF hH Q hQ => ?_⟩
        refine wp_cond_false (by rw [hval β a hF, hv (x1.ok ok)]) ?_
        refine x2 ok β a w hF (by rw [hp.H]; exact hH) Q fun a' w' β' q1 q2 q3 => hQ a' w' β' q1 q2 (by rw [hp.H] at q3; exact q3)
      · cases h
    | block id x =>
      simp only [exec, execF, blockE, exec_eq] at h
      simp only [codeOk] at hc
      have ihx := ih m x hc (fun k b hb sp hsp => hl (k + 1) b (by simp [loopsOf, hb]) sp hsp)
      split at h
      · cases h
      rename_i o1 F1 S1 h1
      obtain ⟨x1, x2⟩ := ihx _ _ _ _ _ h1
      cases o1 with
      | exit i =>
        simp only at h
        split at h
        · rename_i hb
          have hi : i = id := by simpa using hb
          simp only [Option.some.injEq, Prod.mk.injEq] at h
          obtain ⟨rfl, rfl, rfl⟩ := h
          refine ⟨x1, fun ok β a w hF hH Q hQ => wp_block (x2 ok β a w hF hH _ fun a' w' β' q1 q2 q3 => ?_)⟩
          show Exit.inBlock id Q (.exit i) a' w'
          simp only [Exit.inBlock, hi, if_true]
          exact hQ a' w' β' q1 q2 q3
        · rename_i hb
          have hi : i ≠ id := by intro e; subst e; simp at hb
          simp only [Option.some.injEq, Prod.mk.injEq] at h
          obtain ⟨rfl, rfl, rfl⟩ := h
          refine ⟨x1, fun ok β a w hF hH Q hQ => wp_block (x2 ok β a w hF hH _ fun a' w' β' q1 q2 q3 => ?_)⟩
          show Exit.inBlock id Q (.exit i) a' w'
          simp only [Exit.inBlock, hi, if_false]
          exact hQ a' w' β' q1 q2 q3
      | normal =>
        simp only [Option.some.injEq, Prod.mk.injEq] at h
        obtain ⟨rfl, rfl, rfl⟩ := h
        exact ⟨x1, fun ok β a w hF hH Q hQ => wp_block (x2 ok β a w hF hH _ fun a' w' β' q1 q2 q3 => hQ a' w' β' q1 q2 q3)⟩
      | ret =>
        simp only [Option.some.injEq, Prod.mk.injEq] at h
        obtain ⟨rfl, rfl, rfl⟩ := h
        exact ⟨x1, fun ok β a w hF hH Q hQ => wp_block (x2 ok β a w hF hH _ fun a' w' β' q1 q2 q3 => hQ a' w' β' q1 q2 q3)⟩
    | loop x =>
      cases hsp : (firstRid x).bind E.lo with
      | some sp =>
        simp only [exec, execF, loopE, hsp] at h
        exact hl 1 x (by simp [loopsOf]) sp hsp F S o F' S' h
      | none =>
        have hcx : codeOk C.P nt E.dyn m x = true := by simpa only [codeOk] using hc
        obtain ⟨y1, y2⟩ := loop_ok (G := G) (nt := nt) hsp (n + 1) (fun k hk => ihs k hk m x hcx (fun j b hb sp hsp => hl (j + 1) b (by simp [loopsOf, hb]) sp hsp)) F S o F' S' h
        exact ⟨y1, fun ok β a w hF hH Q hQ => lwp_wp (y2 ok β a w hF hH Q hQ)⟩
    | _ => simp [exec, execF] at h
end
end Go.Eng
/- Calls by a function's own body. -/
namespace Go.Eng
set_option linter.unusedSectionVars false
variable [RowAddr]
open Region
set_option linter.unusedSimpArgs false
set_option linter.unusedVariables false
section
variable {P : Program} {G : Nat → Option (List AV)} {β : Map} {w : World}
theorem loadOp_cell {t : TypeId} {a x : AV} {va : Value} {S S' : St} (h : loadOp P G t a S = some (x, S')) (ha : VRel β a va) (hH : HRel G β S.H w) :
    S'.ok → ∃ p v, va = .pointer (some p) ∧ (loadVar t p).run P w = .ok v w ∧ VRel β x v := by
  unfold loadOp at h
  cases hg : isAggT P t with
  | none => simp [hg] at h
  | some b =>
    cases b with
    | true =>
      simp only [hg] at h
      cases hs : sizeT P t with
      | none => simp [hs] at h
      | some n =>
        simp only [hs] at h
        cases hr : readCells G a n S with
        | none => simp [hr] at h
        | some r =>
          obtain ⟨l, S2⟩ := r
          simp only [hr, Option.some.injEq, Prod.mk.injEq] at h
          obtain ⟨rfl, rfl⟩ := h
          intro ok
          obtain ⟨p, vs, rfl, hl, hlen, hc⟩ := (readCells_spec hH ha hr).2 ok
          have hvl : vs.length = n := by rw [← hl.1, hlen]
          have := run_loadCells_list (P := P) w p vs hc
          rw [hvl] at this
          exact ⟨p, .agg ⟨vs⟩, rfl, by simp [loadVar, isAggT_spec hg w, sizeT_spec hs w, this], VRel.aggL hl⟩
    | false =>
      simp only [hg] at h
      obtain ⟨hp, hx⟩ := readCell_spec hH ha h
      intro ok
      obtain ⟨p, v, rfl, hc, hv⟩ := hx ok
      exact ⟨p, v, rfl, by simp [loadVar, isAggT_spec hg w, load, Sem.run, hc], hv⟩
theorem loadOp_pure {t : TypeId} {a x : AV} {S S' : St} (h : loadOp P G t a S = some (x, S')) : Pure S S' :=
  pure_of_re (f := loadOp P G t a) (fun T cs e _ => loadOp_re P G t a (fun b _ => by rw [e])) h
/-- One result. -/
def resultOf (tmps : Array Value) : ResultVar → Sem Value
  | .tmp t => pure (tmps.getD t undef)
  | .cell a t => do loadVar t (← asAddr (tmps.getD a undef))
theorem results_eq (fn : Func) (tmps : Array Value) : results fn tmps = (fn.results.mapM (resultOf tmps) >>= fun vs => pure (if h : vs.size = 1 then vs[0] else .tuple vs)) := by
  unfold results
  congr 1
end
section
variable {C : Cfg} {G : Nat → Option (List AV)}
theorem resultVals_ok (hG : C.glob = G) {nv nt : Nat} {F : Fr} : ∀ (rs : List ResultVar) (S S' : St) (vs : List AV), resultVals C nv F S rs = some (vs, S') →
    Pure S S' ∧ (S'.ok → ∀ β a w, FRel nv nt β F a → HRel G β S.H w → ∃ us, (rs.mapM (resultOf a.tmps)).run C.P w = .ok us w ∧ LRel β vs us) := by
  intro rs
  induction rs with
  | nil =>
    intro S S' vs h
    simp only [resultVals, Option.some.injEq, Prod.mk.injEq] at h
    obtain ⟨rfl, rfl⟩ := h
    exact ⟨Pure.refl _, fun _ β a w _ _ => ⟨[], by simp [Sem.run, pure], LRel.nil β⟩⟩
  | cons r rs ih =>
    intro S S' vs h
    simp only [resultVals] at h
    cases r with
    | tmp t =>
      dsimp only at h
      split at h
      · cases h
      rename_i us S2 hr
      simp only [Option.some.injEq, Prod.mk.injEq] at h
      obtain ⟨rfl, rfl⟩ := h
      obtain ⟨hp, hq⟩ := ih _ _ _ hr
      refine ⟨hp, fun ok β a w hF hH => ?_⟩
      obtain ⟨us', h1, h2⟩ := hq ok β a w hF hH
      exact ⟨_ :: us', by simp [List.mapM_cons, resultOf, h1], LRel.cons (hF.val t) h2⟩
    | cell ad t =>
      dsimp only at h
      split at h
      · cases h
      rename_i v S1 hv
      split at h
      · cases h
      rename_i us S2 hr
      simp only [Option.some.injEq, Prod.mk.injEq] at h
      obtain ⟨rfl, rfl⟩ := h
      obtain ⟨hp, hq⟩ := ih _ _ _ hr
      have hp1 := loadOp_pure hv
      refine ⟨hp1.trans hp, fun ok β a w hF hH => ?_⟩
      obtain ⟨us', h1, h2⟩ := hq ok β a w hF (by rw [hp1.H]; exact hH)
      rw [hG] at hv
      obtain ⟨p, u, e1, e2, e3⟩ := loadOp_cell hv (hF.val ad) hH (hp.ok ok)
      exact ⟨u :: us', by simp [List.mapM_cons, resultOf, e1, asAddr, e2, h1], LRel.cons e3 h2⟩
theorem resultVal_rel {β : Map} {vs : List AV} {us : List Value} (h : LRel β vs us) : VRel β (resultVal vs) (if h : (⟨us⟩ : Array Value).size = 1 then (⟨us⟩ : Array Value)[0] else .tuple ⟨us⟩) := by
  have hl := h.1
  unfold resultVal
  split
  · rename_i v
    obtain ⟨u, us', rfl, h1, h2⟩ := h.cons_inv
    have := h2.nil_inv; subst this
    simpa using h1
  · rename_i hn
    have : ¬ us.length = 1 := by
      intro e
      rw [e] at hl
      match vs, hl with
      | [v], _ => exact hn v rfl
    rw [dif_neg (by simpa using this)]
    exact VRel.tupL h
/-- The check of a function. -/
def fnOk (C : Cfg) (f : FuncId) : Bool :=
  match C.P.funcs[f]? with
  | none => false
  | some fn =>
    match fn.body with
    | none => false
    | some c =>
      match fn.name == "runtime.NumGoroutine" with
      | true => false
      | false => codeOk C.P fn.ntmps (C.dyn f) 100000 c
/-- All loops that are told are told well. -/
def LoopsOk (C : Cfg) (G : Nat → Option (List AV)) : Prop := ∀ f fn c, C.P.funcs[f]? = some fn → fn.body = some c → ∀ k, ∀ b ∈ loopsOf k c, ∀ sp, (firstRid b).bind (C.loop f) = some sp → RunOk C.P G (C.nv f) fn.ntmps (.loop b) sp
theorem callBody_ok (hG : C.glob = G) {call : CallF} (hcall : CallOk C.P G call) (hm : MethOk C.P C.meth) (hmix : C.P.follows .mixedOrders = true) (hfn : ∀ f, C.scope f = true → fnOk C f = true) (hl : LoopsOk C G) (fuel : Nat) :
    CallOk C.P G (callBody C fuel call) := by
  intro f args S v S' h
  unfold callBody at h
  split at h
  · cases h
  rename_i fn hf
  split at h
  · cases h
  rename_i c hc
  split at h
  · cases h
  rename_i hs
  simp only [Bool.and_eq_true] at hs
  obtain ⟨hsc, hsz⟩ := hs
  have hok := hfn f hsc
  unfold fnOk at hok
  simp only [hf, hc] at hok
  split at hok
  · cases hok
  rename_i hname
  have hexec := exec_ok (C := C) (G := G) (nt := fn.ntmps) hG (E := ⟨call, C.nv f, C.keep f, C.dyn f, C.loop f⟩) hcall hm hmix fuel 100000 c hok (fun k b hb sp hsp => hl f fn c hf hc k b hb sp hsp)
  have fin : ∀ (o : Out) F1 S1, (o = .normal ∨ o = .ret) → exec C fuel c ⟨call, C.nv f, C.keep f, C.dyn f, C.loop f⟩ ⟨args ++ List.replicate (C.nv f - args.length) .undef, []⟩ S = some (o, F1, S1) →
      (match resultVals C (C.nv f) F1 S1 fn.results.toList with | some (vs, S) => some (resultVal vs, S) | none => none) = some (v, S') →
      Ext S S' ∧ (S'.ok → ∀ β w vs, LRel β args vs → HRel G β S.H w → (∃ fn, C.P.funcs[f]? = some fn ∧ (fn.name == "runtime.NumGoroutine") = false ∧ fn.body.isSome = true) ∧
        Calls C.P f ⟨vs⟩ w fun e w' => ∃ u β', e = .returned u ∧ VRel β' v u ∧ HRel G β' S'.H w' ∧ Stp β S.H w β' S'.H w') := by
    intro o F1 S1 ho h1 h2
    obtain ⟨x1, x2⟩ := hexec _ _ _ _ _ h1
    split at h2
    case h_2 => cases h2
    rename_i vs S2 hr
    simp only [Option.some.injEq, Prod.mk.injEq] at h2
    obtain ⟨rfl, rfl⟩ := h2
    obtain ⟨p1, p2⟩ := resultVals_ok (nt := fn.ntmps) hG _ _ _ _ hr
    refine ⟨x1.trans p1.ext, fun ok β w us hargs hH => ⟨⟨fn, hf, hname, by simp [hc]⟩, calls_of_wp hf hc ?_⟩⟩
    have hlen : us.length ≤ fn.ntmps := by rw [← hargs.1]; simpa using hsz
    refine x2 (p1.ok ok) β _ w ⟨fun t => ?_, ?_, rfl⟩ hH _ fun a' w' β' q1 q2 q3 => ?_
    · simp only [Fr.get]
      cases hb : Nat.blt t (C.nv f) with
      | false => exact .undef _
      | true =>
        simp only [lget_eq]
        rcases Nat.lt_or_ge t args.length with ht | ht
        · have htu : t < us.length := by rw [← hargs.1]; exact ht
          rw [List.getElem?_append_left ht, List.getElem?_eq_getElem ht]
          simp only
          have e : ((⟨us⟩ : Array Value) ++ Array.replicate (fn.ntmps - (⟨us⟩ : Array Value).size) undef).getD t undef = us[t] := by
            simp [Array.getD_eq_getD_getElem?, Array.getElem?_append, htu]
          rw [e]
          exact hargs.2 t _ _ (List.getElem?_eq_getElem ht) (List.getElem?_eq_getElem htu)
        · rw [List.getElem?_append_right ht]
          split
          · rename_i x hx
            rw [List.getElem?_replicate] at hx
            split at hx
            · injection hx with hx; subst hx; exact .undef _
            · cases hx
          · exact .undef _
    · simp; omega
    · obtain ⟨us', r1, r2⟩ := p2 ok β' a' w' q1 q2
      have hrun : (results fn a'.tmps).run C.P w' = .ok (if h : (⟨us'⟩ : Array Value).size = 1 then (⟨us'⟩ : Array Value)[0] else .tuple ⟨us'⟩) w' := by
        rw [results_eq, Array.mapM_eq_mapM_toList (m := Sem)]
        simp [r1]
      have hfin : bodyPost C.P fn (fun e w' => ∃ u β', e = .returned u ∧ VRel β' (resultVal vs) u ∧ HRel G β' S2.H w' ∧ Stp β S.H w β' S2.H w') .normal a' w' :=
        ⟨q1.defers, _, hrun, _, β', rfl, resultVal_rel r2, by rw [p1.H]; exact q2, by rw [p1.H]; exact q3⟩
      rcases ho with rfl | rfl
      · exact hfin
      · exact hfin
  split at h
  · rename_i F1 S1 h1
    exact fin .normal F1 S1 (.inl rfl) h1 h
  · rename_i F1 S1 h1
    exact fin .ret F1 S1 (.inr rfl) h1 h
  · cases h
end
end Go.Eng
/- Calls, function by function. -/
namespace Go.Eng
set_option linter.unusedSectionVars false
variable [RowAddr]
set_option linter.unusedSimpArgs false
set_option linter.unusedVariables false
section
variable {C : Cfg} {G : Nat → Option (List AV)}
/-- Contracts that are told are told well. -/
def SpecsOk (C : Cfg) (G : Nat → Option (List AV)) : Prop := ∀ f sp, C.spec f = some sp → ∀ args S v S', callSpec sp args S = some (v, S') → Ext S S' ∧ (S'.ok → ∀ β w vs, LRel β args vs → HRel G β S.H w →
  (∃ fn, C.P.funcs[f]? = some fn ∧ (fn.name == "runtime.NumGoroutine") = false ∧ fn.body.isSome = true) ∧
  Calls C.P f ⟨vs⟩ w fun e w' => ∃ u β', e = .returned u ∧ VRel β' v u ∧ HRel G β' S'.H w' ∧ Stp β S.H w β' S'.H w')
theorem acall_ok (hG : C.glob = G) (hm : MethOk C.P C.meth) (hmix : C.P.follows .mixedOrders = true) (hfn : ∀ f, C.scope f = true → fnOk C f = true) (hl : LoopsOk C G) (hs : SpecsOk C G) (fuel : Nat) :
    ∀ d, CallOk C.P G (acall C d fuel) := by
  intro d
  induction d with
  | zero => intro f args S v S' h; simp [acall] at h
  | succ d ih =>
    intro f args S v S' h
    simp only [acall] at h
    split at h
    · rename_i sp hsp
      exact hs f sp hsp args S v S' h
    · exact callBody_ok hG ih hm hmix hfn hl fuel f args S v S' h
/-- No contract, no oracle. -/
theorem SpecsOk.none (h : ∀ f, C.spec f = none) : SpecsOk C G := fun f sp hsp => by rw [h] at hsp; cases hsp
theorem LoopsOk.none (h : ∀ f r, C.loop f r = none) : LoopsOk C G := fun f fn c _ _ k b _ sp hsp => by
  cases hr : firstRid b with
  | none => rw [hr] at hsp; cases hsp
  | some r => rw [hr] at hsp; simp [h] at hsp
end
end Go.Eng
/- Names turned to others. -/
namespace Go.Eng
set_option linter.unusedSectionVars false
variable [RowAddr]
set_option linter.unusedSimpArgs false
set_option linter.unusedVariables false

theorem idxGo_spec {b : Nat} : ∀ {rs : List Nat} {i k : Nat}, idxGo b rs i = some k → i ≤ k ∧ rs[k - i]? = some b
  | [], _, _, h => by simp [idxGo] at h
  | x :: r, i, k, h => by
    simp only [idxGo] at h
    split at h
    · rename_i hb
      have hxb : x = b := by simpa using hb
      injection h with h; subst h; subst hxb
      simp
    · obtain ⟨h1, h2⟩ := idxGo_spec h
      refine ⟨by omega, ?_⟩
      have : k - i = (k - (i + 1)) + 1 := by omega
      rw [this]; simpa using h2
theorem idx_spec {b : Nat} {rs : List Nat} {k : Nat} (h : idxGo b rs 0 = some k) : rs[k]? = some b := by
  have := (idxGo_spec h).2; simpa using this
theorem nodupB_spec : ∀ {l : List Nat}, nodupB l = true → l.Nodup
  | [], _ => List.nodup_nil
  | x :: r, h => by
    simp only [nodupB] at h
    split at h
    · cases h
    · rename_i he
      rw [List.nodup_cons]
      refine ⟨fun hm => ?_, nodupB_spec h⟩
      rw [(elemN_iff x r).2 hm] at he; cases he
theorem renL_map (f : Nat → Nat) : ∀ l : List AV, renL f l = l.map (renV f)
  | [] => by simp [renL]
  | v :: r => by simp [renL, renL_map f r]
theorem toL_get {rs : List Nat} : ∀ {l l' : List AV}, toL rs l = some l' → l'.length = l.length ∧ ∀ (i : Nat) x x', l[i]? = some x → l'[i]? = some x' → toV rs x = some x'
  | [], l', h => by simp [toL] at h; subst h; exact ⟨rfl, fun i x x' hx => by simp at hx⟩
  | v :: r, l', h => by
    simp only [toL] at h
    split at h
    · rename_i v' hv
      split at h
      · rename_i r' hr
        injection h with h; subst h
        obtain ⟨h1, h2⟩ := toL_get hr
        refine ⟨by simp [h1], fun i x x' hx hx' => ?_⟩
        cases i with
        | zero => simp at hx hx'; subst hx hx'; exact hv
        | succ i => exact h2 i x x' (by simpa using hx) (by simpa using hx')
      · cases h
    · cases h
section
variable {β β1 β' : Map} {rs : List Nat}
/-- The map that the new names have. -/
def inner (β : Map) (rs : List Nat) : Map := fun i => match rs[i]? with | some b => β b | none => none
theorem inner_get {i b : Nat} (h : rs[i]? = some b) : inner β rs i = β b := by simp [inner, h]
theorem toV_rel {x : AV} {v : Value} (hv : VRel β x v) : ∀ {x' : AV}, toV rs x = some x' → VRel (inner β rs) x' v := by
  induction hv with
  | undef v => intro x' h; simp only [toV, Option.some.injEq] at h; subst h; exact .undef v
  | bool b => intro x' h; simp only [toV, Option.some.injEq] at h; subst h; exact .bool b
  | str s => intro x' h; simp only [toV, Option.some.injEq] at h; subst h; exact .str s
  | nilp => intro x' h; simp only [toV, Option.some.injEq] at h; subst h; exact .nilp
  | nils => intro x' h; simp only [toV, Option.some.injEq] at h; subst h; exact .nils
  | nili => intro x' h; simp only [toV, Option.some.injEq] at h; subst h; exact .nili
  | nilf => intro x' h; simp only [toV, Option.some.injEq] at h; subst h; exact .nilf
  | exact u => intro x' h; simp only [toV, Option.some.injEq] at h; subst h; exact .exact u
  | num n => intro x' h; simp only [toV, Option.some.injEq] at h; subst h; exact .num n
  | ptr b o L hb =>
    intro x' h
    simp only [toV, toR] at h
    cases hi : idxGo b rs 0 with
    | none => simp [hi] at h
    | some i =>
      simp only [hi, Option.some.injEq] at h; subst h
      exact .ptr i o L (by rw [inner_get (idx_spec hi)]; exact hb)
  | gp g o =>
    intro x' h
    simp only [toV, toR, Option.some.injEq] at h; subst h; exact .gp g o
  | gs g o l cp hl =>
    intro x' h
    simp only [toV, toR, Option.some.injEq] at h; subst h; exact .gs g o l cp hl
  | sm b l s a cp h1 h3 =>
    intro x' h
    simp only [toV, toR] at h
    cases hi : idxGo b rs 0 with
    | none => simp [hi] at h
    | some i =>
      simp only [hi, Option.some.injEq] at h; subst h
      refine .sm i l s a cp h1 ?_
      rcases h3 with h3 | ⟨L, hL, h3⟩
      · exact .inl h3
      · exact .inr ⟨L, by rw [inner_get (idx_spec hi)]; exact hL, h3⟩
  | sl b o l cap a cp h1 h2 h3 =>
    intro x' h
    simp only [toV, toR] at h
    cases hi : idxGo b rs 0 with
    | none => simp [hi] at h
    | some i =>
      simp only [hi, Option.some.injEq] at h; subst h
      refine .sl i o l cap a cp h1 h2 ?_
      rcases h3 with h3 | ⟨L, hL, h3⟩
      · exact .inl h3
      · exact .inr ⟨L, by rw [inner_get (idx_spec hi)]; exact hL, h3⟩
  | agg xs vs hl h ih =>
    intro x' hx
    simp only [toV] at hx
    split at hx
    · rename_i xs' hxs
      injection hx with hx; subst hx
      obtain ⟨h1, h2⟩ := toL_get hxs
      refine .agg xs' vs (h1.trans hl) fun i y v hy hv => ?_
      have hi : i < xs.length := by
        rcases Nat.lt_or_ge i xs.length with h | h
        · exact h
        · rw [List.getElem?_eq_none (by omega)] at hy; cases hy
      exact ih i _ v (List.getElem?_eq_getElem hi) hv (h2 i _ y (List.getElem?_eq_getElem hi) hy)
    · cases hx
  | tup xs vs hl h ih =>
    intro x' hx
    simp only [toV] at hx
    split at hx
    · rename_i xs' hxs
      injection hx with hx; subst hx
      obtain ⟨h1, h2⟩ := toL_get hxs
      refine .tup xs' vs (h1.trans hl) fun i y v hy hv => ?_
      have hi : i < xs.length := by
        rcases Nat.lt_or_ge i xs.length with h | h
        · exact h
        · rw [List.getElem?_eq_none (by omega)] at hy; cases hy
      exact ih i _ v (List.getElem?_eq_getElem hi) hv (h2 i _ y (List.getElem?_eq_getElem hi) hy)
    · cases hx
  | ifc t x v h ih =>
    intro x' hx
    simp only [toV, toL] at hx
    cases hy : toV rs x with
    | none => simp [hy] at hx
    | some y =>
      simp only [hy, Option.some.injEq] at hx; subst hx
      exact .ifc t y v (ih hy)
  | fn f n xs first captured hn hl h ih =>
    intro x' hx
    simp only [toV] at hx
    split at hx
    · rename_i xs' hxs
      injection hx with hx; subst hx
      obtain ⟨h1, h2⟩ := toL_get hxs
      refine .fn f n xs' first captured hn (h1.trans hl) fun i y v hy hv => ?_
      have hi : i < xs.length := by
        rcases Nat.lt_or_ge i xs.length with h | h
        · exact h
        · rw [List.getElem?_eq_none (by omega)] at hy; cases hy
      exact ih i _ v (List.getElem?_eq_getElem hi) hv (h2 i _ y (List.getElem?_eq_getElem hi) hy)
    · cases hx
theorem toL_rel {xs xs' : List AV} {vs : List Value} (h : LRel β xs vs) (hx : toL rs xs = some xs') : LRel (inner β rs) xs' vs := by
  obtain ⟨h1, h2⟩ := toL_get hx
  refine ⟨h1.trans h.1, fun i y v hy hv => ?_⟩
  have hi : i < xs.length := by
    rcases Nat.lt_or_ge i xs.length with h | h
    · exact h
    · rw [List.getElem?_eq_none (by omega)] at hy; cases hy
  exact toV_rel (h.2 i _ v (List.getElem?_eq_getElem hi) hv) (h2 i _ y (List.getElem?_eq_getElem hi) hy)
theorem renV_rel {f : Nat → Nat} (hf : ∀ i L, β1 i = some L → β' (f i) = some L) {x : AV} {v : Value} (hv : VRel β1 x v) : VRel β' (renV f x) v := by
  induction hv with
  | undef v => exact .undef v
  | bool b => exact .bool b
  | str s => exact .str s
  | nilp => exact .nilp
  | nils => exact .nils
  | nili => exact .nili
  | nilf => exact .nilf
  | exact u => exact .exact u
  | num n => exact .num n
  | ptr b o L hb => exact .ptr (f b) o L (hf b L hb)
  | gp g o => exact .gp g o
  | gs g o l cp hl => exact .gs g o l cp hl
  | sm b l s a cp h1 h3 =>
    refine .sm (f b) l s a cp h1 ?_
    rcases h3 with h3 | ⟨L, hL, h3⟩
    · exact .inl h3
    · exact .inr ⟨L, hf b L hL, h3⟩
  | sl b o l cap a cp h1 h2 h3 =>
    refine .sl (f b) o l cap a cp h1 h2 ?_
    rcases h3 with h3 | ⟨L, hL, h3⟩
    · exact .inl h3
    · exact .inr ⟨L, hf b L hL, h3⟩
  | agg xs vs hl h ih =>
    simp only [renV, renL_map]
    refine .agg _ vs (by simpa using hl) fun i y v hy hv => ?_
    rw [List.getElem?_map, Option.map_eq_some_iff] at hy
    obtain ⟨x, hx, rfl⟩ := hy
    exact ih i x v hx hv
  | tup xs vs hl h ih =>
    simp only [renV, renL_map]
    refine .tup _ vs (by simpa using hl) fun i y v hy hv => ?_
    rw [List.getElem?_map, Option.map_eq_some_iff] at hy
    obtain ⟨x, hx, rfl⟩ := hy
    exact ih i x v hx hv
  | ifc t x v h ih => simp only [renV, renL]; exact .ifc t _ v ih
  | fn g n xs first captured hn hl h ih =>
    simp only [renV, renL_map]
    refine .fn g n _ first captured hn (by simpa using hl) fun i y v hy hv => ?_
    rw [List.getElem?_map, Option.map_eq_some_iff] at hy
    obtain ⟨x, hx, rfl⟩ := hy
    exact ih i x v hx hv
theorem renL_rel {f : Nat → Nat} (hf : ∀ i L, β1 i = some L → β' (f i) = some L) {xs : List AV} {vs : List Value} (h : LRel β1 xs vs) : LRel β' (renL f xs) vs := by
  rw [renL_map]
  refine ⟨by simpa using h.1, fun i y v hy hv => ?_⟩
  rw [List.getElem?_map, Option.map_eq_some_iff] at hy
  obtain ⟨x, hx, rfl⟩ := hy
  exact renV_rel hf (h.2 i x v hx hv)
theorem toL_pre {rs : List Nat} {t t' : List AV} (h : toL rs t = some t') : ∀ l : List Value, toL rs (l.map AV.exact ++ t) = some (l.map AV.exact ++ t')
  | [] => h
  | v :: l => by
    show toL rs (AV.exact v :: (l.map AV.exact ++ t)) = some (AV.exact v :: (l.map AV.exact ++ t'))
    rw [toL, toL_pre h l]; rfl
theorem renL_pre (f : Nat → Nat) (t : List AV) : ∀ l : List Value, renL f (l.map AV.exact ++ t) = l.map AV.exact ++ renL f t
  | [] => rfl
  | v :: l => by
    show renL f (AV.exact v :: (l.map AV.exact ++ t)) = AV.exact v :: (l.map AV.exact ++ renL f t)
    rw [renL, renL_pre f t l]; rfl
/-! Blocks. -/
theorem toD_spec {d d' : Data} (h : toD rs d = some d') : d'.len = d.len ∧ (∀ i x', d'.at i = some x' → ∃ x, d.at i = some x ∧ toV rs x = some x') ∧ (∀ {vs : List Value}, LRel β d.list vs → LRel (inner β rs) d'.list vs) := by
  cases d with
  | gen l =>
    simp only [toD] at h
    split at h
    · rename_i l' hl
      injection h with h; subst h
      obtain ⟨h1, h2⟩ := toL_get hl
      refine ⟨h1, fun i x' hx' => ?_, fun hv => toL_rel hv hl⟩
      have hx' : l'[i]? = some x' := hx'
      have hi : i < l.length := by
        rcases Nat.lt_or_ge i l.length with h | h
        · exact h
        · rw [List.getElem?_eq_none (by omega)] at hx'; cases hx'
      exact ⟨l[i], List.getElem?_eq_getElem hi, h2 i _ x' (List.getElem?_eq_getElem hi) hx'⟩
    · cases h
  | kn u t =>
    simp only [toD] at h
    split at h
    · rename_i t' ht
      injection h with h; subst h
      have hl := toL_pre ht u
      obtain ⟨h1, h2⟩ := toL_get hl
      refine ⟨by simpa [Data.len] using h1, fun i x' hx' => ?_, fun hv => toL_rel hv hl⟩
      have hx' : (u.map AV.exact ++ t')[i]? = some x' := hx'
      have hi : i < (u.map AV.exact ++ t).length := by
        rcases Nat.lt_or_ge i (u.map AV.exact ++ t).length with h | h
        · exact h
        · rw [List.getElem?_eq_none (by omega)] at hx'; cases hx'
      exact ⟨(u.map AV.exact ++ t)[i], List.getElem?_eq_getElem hi, h2 i _ x' (List.getElem?_eq_getElem hi) hx'⟩
    · cases h
  | b8 l =>
    simp only [toD, Option.some.injEq] at h; subst h
    refine ⟨rfl, fun i x' hx' => ⟨x', hx', ?_⟩, fun hv => ⟨hv.1, fun i y v hy hv' => ?_⟩⟩
    · simp only [Data.at, Option.map_eq_some_iff] at hx'
      obtain ⟨y, _, rfl⟩ := hx'; rfl
    · have := hv.2 i y v hy hv'
      simp only [Data.list, List.getElem?_map, Option.map_eq_some_iff] at hy
      obtain ⟨z, _, rfl⟩ := hy
      exact toV_rel (rs := rs) this rfl
  | b32 l =>
    simp only [toD, Option.some.injEq] at h; subst h
    refine ⟨rfl, fun i x' hx' => ⟨x', hx', ?_⟩, fun hv => ⟨hv.1, fun i y v hy hv' => ?_⟩⟩
    · simp only [Data.at, Option.map_eq_some_iff] at hx'
      obtain ⟨y, _, rfl⟩ := hx'; rfl
    · have := hv.2 i y v hy hv'
      simp only [Data.list, List.getElem?_map, Option.map_eq_some_iff] at hy
      obtain ⟨z, _, rfl⟩ := hy
      exact toV_rel (rs := rs) this rfl
  | b64 l =>
    simp only [toD, Option.some.injEq] at h; subst h
    refine ⟨rfl, fun i x' hx' => ⟨x', hx', ?_⟩, fun hv => ⟨hv.1, fun i y v hy hv' => ?_⟩⟩
    · simp only [Data.at, Option.map_eq_some_iff] at hx'
      obtain ⟨y, _, rfl⟩ := hx'; rfl
    · have := hv.2 i y v hy hv'
      simp only [Data.list, List.getElem?_map, Option.map_eq_some_iff] at hy
      obtain ⟨z, _, rfl⟩ := hy
      exact toV_rel (rs := rs) this rfl
  | spot n K x =>
    simp only [toD] at h
    split at h
    case h_2 => cases h
    rename_i x' hx
    injection h with h; subst h
    refine ⟨rfl, fun i y hy => ?_, fun hv => ⟨by simpa [Data.list] using hv.1, fun i y v hy hv' => ?_⟩⟩
    · have hlt : i < n := by
        have := (List.getElem?_eq_some_iff.1 (show ((List.replicate n (AV.atom .undef)).set K x')[i]? = some y from hy)).1
        simpa using this
      by_cases e : i = K
      · subst e
        have hy' : ((List.replicate n (AV.atom .undef)).set i x')[i]? = some y := hy
        simp [hlt] at hy'
        subst hy'
        exact ⟨x, by simp [Data.at, hlt], hx⟩
      · rcases spot_get hy with rfl | ⟨rfl, _⟩
        · exact ⟨.atom .undef, by simp [Data.at, hlt, List.getElem?_set, Ne.symm e], rfl⟩
        · exact absurd rfl e
    · have hlt : i < n := by
        have := (List.getElem?_eq_some_iff.1 (show ((List.replicate n (AV.atom .undef)).set K x')[i]? = some y from hy)).1
        simpa using this
      rcases spot_get hy with rfl | ⟨rfl, rfl⟩
      · exact .undef v
      · exact toV_rel (hv.2 i x v (by simp [Data.list, hlt]) hv') hx
theorem ren_spec {f : Nat → Nat} (hf : ∀ i L, β1 i = some L → β' (f i) = some L) (d : Data) : (d.ren f).len = d.len ∧ ∀ {vs : List Value}, LRel β1 d.list vs → LRel β' (d.ren f).list vs := by
  cases d with
  | gen l => exact ⟨by simp [Data.ren, Data.len, renL_map], fun hv => renL_rel hf hv⟩
  | kn l t =>
    refine ⟨by simp [Data.ren, Data.len, renL_map], fun hv => ?_⟩
    have := renL_rel hf hv
    simp only [Data.list] at this
    rw [renL_pre] at this
    exact this
  | b8 l =>
    refine ⟨rfl, fun hv => ⟨hv.1, fun i y v hy hv' => ?_⟩⟩
    have := hv.2 i y v hy hv'
    simp only [Data.ren, Data.list, List.getElem?_map, Option.map_eq_some_iff] at hy
    obtain ⟨z, _, rfl⟩ := hy
    exact renV_rel hf this
  | b32 l =>
    refine ⟨rfl, fun hv => ⟨hv.1, fun i y v hy hv' => ?_⟩⟩
    have := hv.2 i y v hy hv'
    simp only [Data.ren, Data.list, List.getElem?_map, Option.map_eq_some_iff] at hy
    obtain ⟨z, _, rfl⟩ := hy
    exact renV_rel hf this
  | b64 l =>
    refine ⟨rfl, fun hv => ⟨hv.1, fun i y v hy hv' => ?_⟩⟩
    have := hv.2 i y v hy hv'
    simp only [Data.ren, Data.list, List.getElem?_map, Option.map_eq_some_iff] at hy
    obtain ⟨z, _, rfl⟩ := hy
    exact renV_rel hf this
  | spot n K x =>
    refine ⟨rfl, fun hv => ⟨by simpa [Data.ren, Data.list] using hv.1, fun i y v hy hv' => ?_⟩⟩
    have hlt : i < n := by
      have := (List.getElem?_eq_some_iff.1 (show ((List.replicate n (AV.atom .undef)).set K (renV f x))[i]? = some y from hy)).1
      simpa using this
    rcases spot_get hy with rfl | ⟨rfl, rfl⟩
    · exact .undef v
    · exact renV_rel hf (hv.2 i x v (by simp [Data.list, hlt]) hv')
variable {w : World}
theorem BRel.to {d d' : Data} {m : Mode} {L : Loc} (h : BRel β ⟨d, m⟩ L w) (hd : toD rs d = some d') : BRel (inner β rs) ⟨d', m⟩ L w := by
  obtain ⟨h1, h2, h3⟩ := toD_spec (β := β) hd
  cases m with
  | dead => trivial
  | ro =>
    obtain ⟨g1, g2, g3⟩ := h
    refine ⟨g1, by rw [h1]; exact g2, fun i x' hx' => ?_⟩
    obtain ⟨x, hx, ht⟩ := h2 i x' hx'
    obtain ⟨v, hv, hr⟩ := g3 i x hx
    exact ⟨v, hv, toV_rel hr ht⟩
  | own =>
    obtain ⟨g1, vs, t, fz, g2, gf, g3, g4, g5⟩ := h
    exact ⟨g1, vs, t, fz, g2, gf, g3, by rw [h1]; exact g4, by rw [h1]; exact h3 g5⟩
theorem BRel.ren {f : Nat → Nat} (hf : ∀ i L, β1 i = some L → β' (f i) = some L) {d : Data} {L : Loc} (h : BRel β1 ⟨d, .own⟩ L w) : BRel β' ⟨d.ren f, .own⟩ L w := by
  obtain ⟨h1, h2⟩ := ren_spec hf d
  obtain ⟨g1, vs, t, fz, g2, gf, g3, g4, g5⟩ := h
  exact ⟨g1, vs, t, fz, g2, gf, g3, by rw [h1]; exact g4, by rw [h1]; exact h2 g5⟩
end
end Go.Eng
