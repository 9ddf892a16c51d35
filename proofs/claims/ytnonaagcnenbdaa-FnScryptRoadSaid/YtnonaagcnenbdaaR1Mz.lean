/- The reference's mix: its contract. -/
import Derived.Test.YtnonaagcnenbdaaR1My
namespace Go.Proofs.Ytnonaagcnenbdaa
open Go.Eng
set_option linter.unusedSectionVars false
set_option linter.unusedSimpArgs false
variable [RowAddr]
def en0 (nb : Nat) (N : Int) : Fr := ⟨[.sl 0 (.c 0) (.s nb) none, .int .i64 (.s N), .undef, .undef, .undef, .undef, .undef, .undef, .undef, .undef], []⟩
def en2 (nb : Nat) (N : Int) : Fr := ⟨[.sl 0 (.c 0) (.s nb) none, .int .i64 (.s N), .undef, .undef, .undef, .nils, .undef, .undef, .undef, .undef], []⟩
def en3 (nb : Nat) (N : Int) : Fr := ⟨[.sl 0 (.c 0) (.s nb) none, .int .i64 (.s N), .undef, .undef, .undef, .nils, .int .i64 (.c 0), .undef, .undef, .undef], []⟩
def en4 (nb : Nat) (N : Int) : Fr := ⟨[.sl 2 (.c 0) (.s nb) none, .int .i64 (.s N), .undef, .undef, .undef, .nils, .int .i64 (.c 0), .undef, .undef, .undef], []⟩
def enZ (nb : Nat) : Fr := ⟨[.undef, .undef, .undef, .undef, .sl 1 (.c 0) (.s nb) none, .undef, .undef, .undef, .undef, .undef], []⟩
theorem en_a (b : Vec 8) (nb : Nat) (N : Int) : ranAs 1 none (en0 nb N, [⟨.b8 b, .ro⟩]) (goP specs20 noLoop 20 [false] (en0 nb N) ⟨[⟨.b8 b, .ro⟩], big, [], []⟩) = some (.normal, (en0 nb N, [⟨.b8 b, .ro⟩]), []) := by kernel_rfl
theorem en_b (b : Vec 8) (nb : Nat) (N : Int) : ranAs 1 none (en2 nb N, [⟨.b8 b, .ro⟩]) (goP specs20 noLoop 20 [true, false] (en0 nb N) ⟨[⟨.b8 b, .ro⟩], big, [], []⟩) = some (.normal, (en2 nb N, [⟨.b8 b, .ro⟩]), []) := by kernel_rfl
theorem en_c (b : Vec 8) (nb : Nat) (N : Int) : ranAs 1 none (en3 nb N, [⟨.b8 b, .ro⟩]) (goP specs20 noLoop 20 [true, true, false, false] (en2 nb N) ⟨[⟨.b8 b, .ro⟩], big, [], []⟩) = some (.normal, (en3 nb N, [⟨.b8 b, .ro⟩]), []) := by kernel_rfl
theorem en_z (b v : Vec 8) (F : Nat → Vec 8) (nb k : Nat) (N i : Int) : ranAs 1 (some [0, 2]) (enZ nb, [⟨.b8 b, .ro⟩, ⟨.b8 v, .own⟩]) (goP specs20 noLoop 20 [true, true, true, true] (pkSt ⟨b, v, .own, F, nb, k, N, i⟩).1 ⟨(pkSt ⟨b, v, .own, F, nb, k, N, i⟩).2, big, [], []⟩) = some (.ret, (enZ nb, [⟨.b8 b, .ro⟩, ⟨.b8 v, .own⟩]), []) := by kernel_rfl
theorem body20 : bodyIn Try.prog 20 = .seq (sub [false] (bodyIn Try.prog 20)) (.seq (sub [true, false] (bodyIn Try.prog 20)) (.seq (.seq (sub [true, true, false, false] (bodyIn Try.prog 20)) (.block 0 (.loop (loopIn Try.prog 20 0)))) (.seq (.seq (sub [true, true, true, false, false] (bodyIn Try.prog 20)) (.block 2 (.loop (loopIn Try.prog 20 1)))) (sub [true, true, true, true] (bodyIn Try.prog 20))))) := by kernel_rfl
/-- The states that are kept. -/
def vK (b : Vec 8) (nb K : Nat) : Vec 8 := iter (fun v => bm8 v 0 nb) K b
theorem mk_iter (b : Vec 8) (nb : Nat) (N : Int) : ∀ K : Nat, iter mkNext K ⟨b, b, nb, 0, N, 0⟩ = ⟨b, vK b nb K, nb, K, N, (K : Int)⟩
  | 0 => rfl
  | K + 1 => by
    rw [iter_succ, mk_iter b nb N K]
    show (⟨b, bm8 (vK b nb K) 0 nb, nb, K + 1, N, (K : Int) + 1⟩ : MkD) = _
    rw [show vK b nb (K + 1) = bm8 (vK b nb K) 0 nb from iter_succ _ K b]
    rfl
theorem vK_n (b : Vec 8) (nb : Nat) (h0 : b.n = nb) (h1 : nb % 128 = 0) (h2 : 128 ≤ nb) (h3 : nb ≤ 64000000) : ∀ K : Nat, (vK b nb K).n = nb
  | 0 => h0
  | K + 1 => by
    rw [show vK b nb (K + 1) = bm8 (vK b nb K) 0 nb from iter_succ _ K b]
    exact bm8_n _ 0 nb h1 h2 h3 (by rw [vK_n b nb h0 h1 h2 h3 K]; omega)
def pk0 (b : Vec 8) (nb : Nat) (N : Int) : PkD := ⟨b, vK b nb N.toNat, .ro, vK b nb, nb, N.toNat, N, 0⟩
/-- What the reference's mix makes of bytes. -/
def mixRef (b : Vec 8) (nb : Nat) (N : Int) : Vec 8 := (iter pkNx N.toNat (pk0 b nb N)).v
theorem pk_iter (d : PkD) : ∀ K : Nat, iter pkNx (K + 1) d = ⟨d.b, (iter pkNx (K + 1) d).v, .own, d.F, d.nb, d.k, d.N, d.i + ((K + 1 : Nat) : Int)⟩
  | 0 => rfl
  | K + 1 => by
    have h := pk_iter d K
    rw [iter_succ]
    generalize hX : iter pkNx (K + 1) d = X at h ⊢
    rw [h]
    show (⟨d.b, _, .own, d.F, d.nb, d.k, d.N, d.i + ((K + 1 : Nat) : Int) + 1⟩ : PkD) = ⟨d.b, _, .own, d.F, d.nb, d.k, d.N, d.i + ((K + 1 + 1 : Nat) : Int)⟩
    rw [show d.i + ((K + 1 : Nat) : Int) + 1 = d.i + ((K + 1 + 1 : Nat) : Int) by omega]
    rfl
structure c20D where
  b : Vec 8
  nb : Nat
  N : Int
def c20_rd (a : List AV) (K : List Blk) : Option c20D :=
  match a with
  | [.ref (.sl 0 (.c 0) (.s nb) none), .num (.int .i64 (.s N))] =>
    match K with
    | [⟨.b8 b, .ro⟩] => some ⟨b, nb, N⟩
    | _ => none
  | _ => none
def c20 : Ct c20D where
  pat := [.sl 0 (.c 0) (.s 0) none, .int .i64 (.s 0)]
  patH := [⟨.b8 (Vec.zero 8 0), .ro⟩]
  read := c20_rd
  args := fun d => [.sl 0 (.c 0) (.s d.nb) none, .int .i64 (.s d.N)]
  heap := fun d => [⟨.b8 d.b, .ro⟩]
  out := fun d => [⟨.b8 d.b, .ro⟩, ⟨.b8 (mixRef d.b d.nb d.N), .own⟩]
  val := fun d => .sl 1 (.c 0) (.s d.nb) none
  good := fun d => decide (d.b.n = d.nb ∧ d.nb % 128 = 0 ∧ 128 ≤ d.nb ∧ d.nb ≤ 64000000 ∧ 2 ≤ d.N ∧ d.N ≤ 1000000)
theorem c20_read (a : List AV) (K : List Blk) (d : c20D) (h : c20.read a K = some d) : a = c20.args d ∧ K = c20.heap d := by
  replace h : c20_rd a K = some d := h
  unfold c20_rd at h
  split at h
  · split at h
    · injection h with h; subst h; exact ⟨rfl, rfl⟩
    · cases h
  · cases h
theorem nil_true : ∀ x ∈ ([] : List Bool), x = true := fun x h => by cases h
theorem c20_wp (b : Vec 8) (nb : Nat) (N : Int) (g1 : b.n = nb) (g2 : nb % 128 = 0) (g3 : 128 ≤ nb) (g4 : nb ≤ 64000000) (g5 : 2 ≤ N) (g6 : N ≤ 1000000) {β : Map} {w : World} {a : Act} (hdB : ∀ b L, β b = some L → b < 1)
    (hF : FRel (nv 20) (ntmpsIn Try.prog 20) β (en0 nb N) a) (hH : HRel noGlob β [⟨.b8 b, .ro⟩] w) (Q : Exit → Act → World → Prop)
    (hQ : ∀ a' w' β', FRel (nv 20) (ntmpsIn Try.prog 20) β' (enZ nb) a' → HRel noGlob β' [⟨.b8 b, .ro⟩, ⟨.b8 (mixRef b nb N), .own⟩] w' → Stq 1 β [⟨.b8 b, .ro⟩] w β' [⟨.b8 b, .ro⟩, ⟨.b8 (mixRef b nb N), .own⟩] w' → Q .ret a' w') : (bodyIn Try.prog 20).wp Try.prog Q a w := by
  have P (p : List Bool) := goP_ok specs20_ok (no_loops specs20) 20 p fine20
  have hN : N.toNat ≠ 0 := by omega
  rw [body20]
  refine wp_seq ((P [false]).step (n0 := 1) (en_a b nb N) nil_true (Nat.le_refl _) (Nat.le_refl _) hdB hF hH ((Stp.refl ..).q (Nat.le_refl _)) fun a1 w1 β1 f1 h1 s1 _ _ => ?_)
  refine wp_seq ((P [true, false]).step (n0 := 1) (en_b b nb N) nil_true (Nat.le_refl _) (Nat.le_refl _) hdB f1 h1 s1 fun a2 w2 β2 f2 h2 s2 _ _ => ?_)
  refine wp_seq (wp_seq ((P [true, true, false, false]).step (n0 := 1) (en_c b nb N) nil_true (Nat.le_refl _) (Nat.le_refl _) hdB f2 h2 s2 fun a3 w3 β3 f3 h3 s3 _ _ => wp_block ?_))
  -- the first state, under one more name
  obtain ⟨u1, u2⟩ := h3.ghost (gh := [⟨.kn [] [], .own⟩]) (by intro k hk; rw [List.mem_singleton] at hk; subst hk; rfl)
  obtain ⟨β4, v1, v2, v3, v4⟩ := alias_ok (i := 0) (d := .b8 b) u1 rfl
  obtain ⟨y1, y2⟩ := v1.ghost (gh := [⟨.gen [], .dead⟩]) (by intro k hk; rw [List.mem_singleton] at hk; subst hk; rfl)
  have f4 : FRel (nv 20) (ntmpsIn Try.prog 20) β4 (en4 nb N) a3 :=
    FRel.var (F := en3 nb N) (t := 0) (f3.mono v2.le) (by show 0 < 10; omega) (by show 0 < 10; omega) ((f3.val 0).alias v3)
  have s4 : Stq 1 β [⟨.b8 b, .ro⟩] w β4 [⟨.b8 b, .ro⟩, ⟨.kn [] [], .own⟩, ⟨.b8 b, .ro⟩, ⟨.gen [], .dead⟩] w3 :=
    s3.wk hdB (fun b hb => v2.old b (by show b < 2; omega)) (by show 1 ≤ 4; omega) (fun c hc => u2 c (v4 c (y2 c hc)))
  obtain ⟨β5, f5, h5, s5, _, _⟩ := weaker (p := mkSt ⟨b, b, nb, 0, N, 0⟩ []) (rs := none) s4 hdB (Nat.le_refl _) (by show 1 ≤ 4; omega) (F2 := en4 nb N) rfl rfl f4 y1 (Stp.refl ..)
  refine mk_told ⟨b, b, nb, 0, N, 0⟩ (decide_eq_true ⟨by show (0 : Int) ≤ 0; omega, by show 0 ≤ N; omega, g6, rfl, g1, g2, g3, g4⟩) rfl hdB f5 h5 s5 _ fun a6 w6 β6 l hl f6 h6 s6 hfam => ?_
  have hl : l.length = (N - 0).toNat := hl
  rw [Int.sub_zero] at hl
  have e0 : (MkD.N ⟨b, b, nb, 0, N, 0⟩ - MkD.i ⟨b, b, nb, 0, N, 0⟩).toNat = N.toNat := by show (N - 0).toNat = _; rw [Int.sub_zero]
  rw [e0, mk_iter] at f6 h6 s6 hfam
  have hfam : Fam β6 (mkSt ⟨b, vK b nb N.toNat, nb, N.toNat, N, ((N.toNat : Nat) : Int)⟩ l).2 w6 l (fun K => .b8 (vK b nb K)) := by
    have e : (fun K => Data.b8 (iter mkNext K ⟨b, b, nb, 0, N, 0⟩).v) = fun K => Data.b8 (vK b nb K) := by
      funext K; rw [mk_iter]
    rw [e] at hfam; exact hfam
  show (Exit.inBlock 0 _) (.exit 0) a6 w6
  simp only [Exit.inBlock, if_true]
  refine wp_seq (wp_seq ((P [true, true, true, false, false]).step (n0 := 1) (gl_run b (vK b nb N.toNat) l nb N.toNat N _) nil_true (by omega) (by show 2 ≤ 4; omega) hdB f6 h6 s6 fun a7 w7 β7 f7 h7 s7 k7 _ => wp_block ?_))
  obtain ⟨z1, z2, z3⟩ := kn_kept (a := 1) (l := l) h7 rfl (by omega)
  have s8 : Stq 1 β [⟨.b8 b, .ro⟩] w β7 ((glSt b (vK b nb N.toNat) l nb N.toNat N).2.set 1 ⟨.gen [], .dead⟩) w7 := s7.wk hdB (fun _ _ => rfl) (by show 1 ≤ 4; omega) z3
  have k8 : Keeps β6 (mkSt ⟨b, vK b nb N.toNat, nb, N.toNat, N, ((N.toNat : Nat) : Int)⟩ l).2 w6 β7 ((glSt b (vK b nb N.toNat) l nb N.toNat N).2.set 1 ⟨.gen [], .dead⟩) w7 := k7.less z3
  have hfam8 := hfam.keep k8
  refine pk_told (n0 := 1) (by omega) (pk0 b nb N) ⟨by show (0 : Int) ≤ 0; omega, by show 0 ≤ N; omega, g5, g6, by show ((N.toNat : Nat) : Int) = N; omega, vK_n b nb g1 g2 g3 g4 _, g2, g3, g4, .inr ⟨rfl, rfl⟩, fun K _ => vK_n b nb g1 g2 g3 g4 K⟩ hdB (l := l) hl f7 z1 s8 z2 (fun K _ v hv => hfam8 K v hv) _ fun a9 w9 β9 f9 h9 s9 => ?_
  have e1 : ((pk0 b nb N).N - (pk0 b nb N).i).toNat = (N.toNat - 1) + 1 := by show (N - 0).toNat = _; omega
  have e2 : mixRef b nb N = (iter pkNx ((N.toNat - 1) + 1) (pk0 b nb N)).v := by unfold mixRef; rw [show (N.toNat - 1) + 1 = N.toNat by omega]
  rw [e1, pk_iter, ← e2] at f9 h9 s9
  show (Exit.inBlock 2 _) (.exit 2) a9 w9
  simp only [Exit.inBlock, if_true]
  exact (P [true, true, true, true]).step (n0 := 1) (en_z b (mixRef b nb N) (vK b nb) nb N.toNat N _) nil_true (Nat.le_refl _) (by show 1 ≤ 4; omega) hdB f9 h9 s9 fun a10 w10 β10 f10 h10 s10 _ _ => hQ a10 w10 β10 f10 h10 s10
theorem c20_ok : SpecOk Try.prog noGlob 20 c20.spec := by
  refine c20.sem c20_read fun d hg β w vs hargs hH hdB => ?_
  obtain ⟨b, nb, N⟩ := d
  obtain ⟨g1, g2, g3, g4, g5, g6⟩ := of_decide_eq_true hg
  refine calls_body (C := cfg specs20 noLoop) rfl (f := 20) (by kernel_rfl) hargs (by show 2 ≤ ntmpsIn Try.prog 20; rw [show ntmpsIn Try.prog 20 = 53 by kernel_rfl]; omega) fun a hF => ?_
  refine c20_wp b nb N g1 g2 g3 g4 g5 g6 (fun x L h => hdB x L h) hF hH _ fun a' w' β' f h s => ⟨rfl, enZ nb, ⟨[⟨.b8 b, .ro⟩, ⟨.b8 (mixRef b nb N), .own⟩], big, [], []⟩, ⟨[⟨.b8 b, .ro⟩, ⟨.b8 (mixRef b nb N), .own⟩], big, [], []⟩, [.sl 1 (.c 0) (.s nb) none], β', by kernel_rfl, nil_true, f, h, fun u hu => ⟨u, β', rfl, hu, h, s⟩⟩
end Go.Proofs.Ytnonaagcnenbdaa
