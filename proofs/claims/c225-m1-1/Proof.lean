import JvmDerived
import JvmDerived.Pilot.@@N@@Statement
import JvmDerived.Pilot.@@N@@Code
set_option linter.unusedVariables false
set_option linter.unusedSimpArgs false
namespace Jvm.Pilot.@@N@@
open Jvm Jvm.ClassFile Sem Op Lib Jvm.Free Jvm.Stand Jvm.LawKit Jvm.RoadKit Bundle Jvm.Pilot.@@N@@.Jvm.D
theorem own_pd0 : parseMethodDescriptor "(IJ)V" = some ⟨[.int, .long], none⟩ := by decide +kernel
theorem own_pd1 : parseMethodDescriptor "()J" = some ⟨[], some .long⟩ := by decide +kernel
theorem own_shift (s : Int32) : ∃ k : Nat, k ≤ 30 ∧ ((s &&& (2147483647 : Int32)) % (31 : Int32)) = Int32.ofNat k := by
  have h1 := c_mask s (2147483647 : Int32) 31 (by decide) (by decide)
  have h2 := (c_irem (s &&& (2147483647 : Int32)) (31 : Int32) 31 rfl).1 (by rw [h1]; omega)
  rw [h1] at h2
  refine ⟨((s.toInt % ((2 ^ 31 : Nat) : Int)) % 31).toNat, by omega, ?_⟩
  apply Int32.toInt_inj.mp
  rw [h2, Int32.toInt_ofNat_of_lt (by omega)]; omega
theorem own_pow : ∀ k : Nat, k < 41 → ((1 : Int64) <<< ((Int32.ofNat k).toInt64 &&& 63)).toInt = (((2 ^ k : Nat)) : Int) ∧ (((1 : Int64) <<< ((Int32.ofNat k).toInt64 &&& 63)) - (1 : Int64)).toBitVec.toNat = 2 ^ k - 1 := by decide +kernel
theorem own_pow_pos (k : Nat) : 0 < (((2 ^ k : Nat)) : Int) := by have := Nat.two_pow_pos k; omega
theorem own_pow_le (k n : Nat) (h : k ≤ n) : (((2 ^ k : Nat)) : Int) ≤ (((2 ^ n : Nat)) : Int) := by have := Nat.pow_le_pow_right (n := 2) (by decide) h; omega
theorem own_max (b : Int64) : 0 ≤ (b &&& (9223372036854775807 : Int64)).toInt := by
  have h1 := c_maskL b (9223372036854775807 : Int64) 63 (by decide) (by decide)
  rw [h1]; omega
theorem own_or1 (b : Int64) : 0 < ((b &&& (9223372036854775807 : Int64)) ||| (1 : Int64)).toInt := by
  have h1 := (c_orSL (b &&& (9223372036854775807 : Int64)) (1 : Int64)).1 (own_max b) (by decide)
  have h2 : ((b &&& (9223372036854775807 : Int64)) ||| (1 : Int64)).toInt ≠ 0 := by
    intro h
    have e : ((b &&& (9223372036854775807 : Int64)) ||| (1 : Int64)) = 0 := Int64.toInt_inj.mp h
    have e2 := congrArg (fun z : Int64 => z.toBitVec.getLsbD 0) e
    simp only [Int64.toBitVec_or, BitVec.getLsbD_or] at e2
    have e3 : (1 : Int64).toBitVec.getLsbD 0 = true := by decide
    have e4 : (0 : Int64).toBitVec.getLsbD 0 = false := by decide
    rw [e3, e4, Bool.or_true] at e2
    exact absurd e2 (by decide)
  omega
theorem own_nz {x : Int64} (h : 0 < x.toInt) : x ≠ 0 := fun e => by rw [e] at h; exact absurd h (by decide)
theorem own_lt {x y : Int64} (h : x.toInt < y.toInt) : x < y := Int64.lt_iff_toInt_lt.mpr h
theorem own_nlt {x y : Int64} (h : y.toInt ≤ x.toInt) : ¬ x < y := fun e => by have := Int64.lt_iff_toInt_lt.mp e; omega
theorem own_eqL {x y : Int64} (h : x.toInt = y.toInt) : x = y := Int64.toInt_inj.mp h
theorem own_nlt32 {x y : Int32} (h : y.toInt ≤ x.toInt) : ¬ x < y := fun e => by have := Int32.lt_iff_toInt_lt.mp e; omega

theorem own_sham : ∀ k : Nat, k < 41 → ((((Int32.ofNat k).toInt64.toUInt64 &&& Int64.toUInt64 63).toBitVec % 64#64).toNat = k) := by decide +kernel
theorem own_ushr (x : Int64) (k : Nat) (hk : k < 41) (hx : 0 ≤ x.toInt) : (XT.ushrL x (Int32.ofNat k)).toInt = x.toInt / ((2 ^ k : Nat) : Int) := by
  have h1 : (XT.ushrL x (Int32.ofNat k)).toBitVec.toNat = x.toBitVec.toNat / 2 ^ k := by
    show (x.toBitVec >>> (((Int32.ofNat k).toInt64.toUInt64 &&& Int64.toUInt64 63).toBitVec % 64#64)).toNat = _
    rw [BitVec.ushiftRight_eq', BitVec.toNat_ushiftRight, own_sham k hk, Nat.shiftRight_eq_div_pow]
  have h2 : x.toInt = (x.toBitVec.toNat : Int) := by
    have e : x.toInt = x.toBitVec.toInt := rfl
    rw [e, BitVec.toInt_eq_toNat_cond] at hx ⊢
    split
    · rfl
    · rename_i q; rw [if_neg q] at hx; have := x.toBitVec.isLt; omega
  have h3 : (XT.ushrL x (Int32.ofNat k)).toInt = ((XT.ushrL x (Int32.ofNat k)).toBitVec.toNat : Int) := by
    have e : (XT.ushrL x (Int32.ofNat k)).toInt = (XT.ushrL x (Int32.ofNat k)).toBitVec.toInt := rfl
    have hl : (XT.ushrL x (Int32.ofNat k)).toBitVec.toNat ≤ x.toBitVec.toNat := by rw [h1]; exact Nat.div_le_self _ _
    have hr := x.toInt_lt
    rw [e, BitVec.toInt_eq_toNat_cond, if_pos (by omega)]
  rw [h3, h1, h2]; norm_cast
theorem own_count (k : Nat) (hk : k ≤ 30) (byt c m p size mx : Int64) (hb : 0 < byt.toInt) (hc : c = XT.ushrL (byt - (1 : Int64)) (Int32.ofNat k) + (1 : Int64)) (hm : m = c - (1 : Int64)) (hs : size = (1 : Int64) <<< ((Int32.ofNat k).toInt64 &&& 63)) (hp : p = m <<< ((Int32.ofNat k).toInt64 &&& 63)) (hmx : mx = XT.ushrL (9223372036854775807 : Int64) (Int32.ofNat k)) :
    ¬ c < (1 : Int64) ∧ ¬ mx < m ∧ p < byt ∧ ¬ size < byt - p := by
  obtain ⟨p1, p2⟩ := own_pow k (by omega)
  rw [← hs] at p1 p2
  have b1 := c_lsub byt (1 : Int64)
  have b2 : (1 : Int64).toInt = 1 := by decide
  have b3 := rng64 byt
  have b4 := rng64 (byt - 1)
  rw [b2] at b1
  have b5 : (byt - 1).toInt = byt.toInt - 1 := by omega
  have u1 := own_ushr (byt - 1) k (by omega) (by omega)
  have u2 := own_ushr (9223372036854775807 : Int64) k (by omega) (by decide)
  have e9 : (9223372036854775807 : Int64).toInt = 9223372036854775807 := by decide
  rw [← hmx, e9] at u2
  rw [b5] at u1
  have h3 := own_pow_pos k
  have h4 := own_pow_le k 30 hk
  have h9 : (((2 ^ 30 : Nat)) : Int) = 1073741824 := by decide
  rw [h9] at h4
  have c1 := c_ladd (XT.ushrL (byt - 1) (Int32.ofNat k)) (1 : Int64)
  have c2 := c_lsub c (1 : Int64)
  rw [← hc, b2, u1] at c1
  rw [← hm, b2] at c2
  have r1 := rng64 c
  have r2 := rng64 m
  have hpm : p = m * size := by rw [hp]; exact shlmL hs.symm
  have m1 := c_lmul m size
  rw [← hpm, p1] at m1
  have s1 := c_lsub byt p
  have r3 := rng64 p
  have r4 := rng64 (byt - p)
  have d1 := Int.mul_ediv_add_emod (byt.toInt - 1) ((2 ^ k : Nat) : Int)
  have d2 := Int.emod_nonneg (byt.toInt - 1) (b := ((2 ^ k : Nat) : Int)) (by omega)
  have d3 := Int.emod_lt_of_pos (byt.toInt - 1) h3
  have d4 : (byt.toInt - 1) / ((2 ^ k : Nat) : Int) ≤ (9223372036854775807 : Int) / ((2 ^ k : Nat) : Int) := Int.ediv_le_ediv h3 (by omega)
  have d5 : 0 ≤ (byt.toInt - 1) / ((2 ^ k : Nat) : Int) := Int.ediv_nonneg (by omega) (by omega)
  have d6 : (9223372036854775807 : Int) / ((2 ^ k : Nat) : Int) ≤ 9223372036854775807 := Int.ediv_le_self _ (by omega)
  have d7 : (byt.toInt - 1) / ((2 ^ k : Nat) : Int) ≤ byt.toInt - 1 := Int.ediv_le_self _ (by omega)
  generalize hP : ((2 ^ k : Nat) : Int) = P at *
  generalize hq : (byt.toInt - 1) / P = q at *
  generalize hR : (byt.toInt - 1) % P = R at *
  have ec : c.toInt = q + 1 := by omega
  have em : m.toInt = q := by omega
  rw [em] at m1
  have hpq : q * P = P * q := Int.mul_comm _ _
  rw [hpq] at m1
  generalize hz : P * q = z at *
  have hz0 : 0 ≤ z := by rw [← hz]; exact Int.mul_nonneg (by omega) d5
  have ep : p.toInt = z := by omega
  refine ⟨own_nlt (by rw [ec, b2]; omega), own_nlt (by rw [em, u2]; exact d4), own_lt (by rw [ep]; omega), own_nlt (by rw [p1]; omega)⟩

theorem own_d1_0 : decode prog_4_method_1_code 0 = .ok (.aload_n 0, 1) := by decide +kernel
theorem own_d1_1 : decode prog_4_method_1_code 1 = .ok (.invokespecial 1, 3) := by decide +kernel
theorem own_d1_4 : decode prog_4_method_1_code 4 = .ok (.aload_n 0, 1) := by decide +kernel
theorem own_d1_5 : decode prog_4_method_1_code 5 = .ok (.iload_n 1, 1) := by decide +kernel
theorem own_d1_6 : decode prog_4_method_1_code 6 = .ok (.putfield 7, 3) := by decide +kernel
theorem own_d1_9 : decode prog_4_method_1_code 9 = .ok (.aload_n 0, 1) := by decide +kernel
theorem own_d1_10 : decode prog_4_method_1_code 10 = .ok (.lload_n 2, 1) := by decide +kernel
theorem own_d1_11 : decode prog_4_method_1_code 11 = .ok (.putfield 13, 3) := by decide +kernel
theorem own_d1_14 : decode prog_4_method_1_code 14 = .ok (.return_, 1) := by decide +kernel
theorem own_pn1 : plainName "com/example/dejabloom/dejabloom/ChunkLayout" = true := by first | (simp [plainName, overriddenIn]; done) | decide +kernel
theorem own_ef1 (m : MethodId) (a1 : Addr) (i1 : Int32) (j1 : Int64) : entryFrame m #[(.ref a1), (.int i1), (.long j1)] 4 = mkF m 0 #[.val (.ref a1), .val (.int i1), .val (.long j1), .second] [] := by first | (simp [entryFrame, mkF, argsToLocals, Value.category]; done) | rfl
def own_Q1 (Z : State) (a1 : Addr) (i1 : Int32) (j1 : Int64) (u_shift : Value) (u_bytes : Value) (h0 : Heap) (n0 : Nat) (v : Option Value) (h : Heap) (L : List Loc) : Prop := (v = none) ∧ (Fr n0 L) ∧ (Keep h0 h [a1]) ∧ (Exa Z h a1 "com/example/dejabloom/dejabloom/ChunkLayout") ∧ (Fld Z h a1 "com/example/dejabloom/dejabloom/ChunkLayout" "shift" "I" (.int i1)) ∧ (Fld Z h a1 "com/example/dejabloom/dejabloom/ChunkLayout" "bytes" "J" (.long j1))
set_option maxRecDepth 65536 in
set_option maxHeartbeats 40000000 in
theorem own_rm1 (l : Launch) (Z : State) (a0 : Array Value) (hw : ∀ d ∈ tables_1, d.before a0 Z = true) (ws : List Jvm.Cond) (a1 : Addr) (i1 : Int32) (j1 : Int64) (u_shift : Value) (u_bytes : Value) (h0 : Heap) (n0 : Nat) (Z0 : n0 ≤ h0.size) (P_E_a1 : Exa Z h0 a1 "com/example/dejabloom/dejabloom/ChunkLayout") (P_F_a1_shift : Fld Z h0 a1 "com/example/dejabloom/dejabloom/ChunkLayout" "shift" "I" u_shift) (P_F_a1_bytes : Fld Z h0 a1 "com/example/dejabloom/dejabloom/ChunkLayout" "bytes" "J" u_bytes) (g_a1 : n0 ≤ a1) :
    MetFree l (⟨"com/example/dejabloom/dejabloom/ChunkLayout", "<init>", "(IJ)V"⟩ : MethodName) (head1 (Jvm.Cond.code (⟨"com/example/dejabloom/dejabloom/ChunkLayout", "<init>", "(IJ)V"⟩ : MethodName) prog_4_method_1_code 4 none :: ws) ({ frames := 1, cells := 0, slots := 0, locals := 12 } : Room)) (fun ar_ U_ => ar_ = #[(.ref a1), (.int i1), (.long j1)] ∧ Z.Warmed39 U_.vm ∧ U_.heap = h0) (fun _ _ _ _ _ => True) (fun _ U_ o_ U_' => ∃ v_ L_, o_ = .returned v_ ∧ own_Q1 Z a1 i1 j1 u_shift u_bytes h0 n0 v_ U_'.heap L_ ∧ FrameEnd U_ o_ U_' L_ ({ frames := 1, cells := 0, slots := 0, locals := 12 } : Room).cells ({ frames := 1, cells := 0, slots := 0, locals := 12 } : Room).slots) := by
  refine MetFree.of_bodySF (plainFor_of_name own_pn1) hisR ?_
  intro p e s m args below meth c s₁ Bd hml0 hP hK
  obtain ⟨rfl, hZ, hh⟩ := hP
  have hx := Bd.exec
  have hby := Bd.bytes
  have hml : c.maxLocals = 4 := hml0
  have hown : s.vm.findClass "com/example/dejabloom/dejabloom/ChunkLayout" = some m.cls := findClass_of_methodNamed Bd.named
  have hnm := (name_of_methodNamed Bd.named Bd.method).1
  have X0 : Stand p l e ({ frames := 1, cells := 0, slots := 0, locals := 12 } : Room) s m #[(.ref a1), (.int i1), (.long j1)] below meth c s₁ [] 0 0 := Stand.of_body Bd
  have e0 : s₁.heap = h0 := by rw [← hh, Bd.state]; rfl
  have N0 := Fr.nil n0
  have pre0 : ∀ t, Steps p.tables e below (s₁.setTop (mkF m 0 #[.val (.ref a1), .val (.int i1), .val (.long j1), .second] [])) t → Steps p.tables e below (s₁.setTop (entryFrame m #[(.ref a1), (.int i1), (.long j1)] 4)) t := fun t k => castTop (own_ef1 m a1 i1 j1) k
  obtain ⟨T1, X1, e1, st1⟩ := initO X0 hx hZ hown (hw _ (List.mem_of_getElem? (i := 8) rfl)) (hw _ (List.mem_of_getElem? (i := 9) rfl)) (hw _ (List.mem_of_getElem? (i := 10) rfl)) e0 (g := (mkF m 1 #[.val (.ref a1), .val (.int i1), .val (.long j1), .second] [(.ref a1)])) rfl (by rw [hml]; rfl) rfl (hb hby own_d1_1) (by decide) (W := 0) (by show 2 * 0 + _ ≤ _; exact Nat.le_of_eq rfl) (by decide)
  obtain ⟨T2, h2, X2, e2, W2, st2⟩ := putF X1 hx hZ hown (host := "") (Or.inl (hw _ (List.mem_of_getElem? (i := 11) rfl))) Via.refl e1 P_F_a1_shift P_E_a1 (Or.inr ⟨(hw _ (List.mem_of_getElem? (i := 12) rfl)), rfl, hnm⟩) (hw _ (List.mem_of_getElem? (i := 3) rfl)) (ty := .int) (by decide) rfl rfl (g := (mkF m 6 #[.val (.ref a1), .val (.int i1), .val (.long j1), .second] [(.int i1), (.ref a1)])) rfl rfl (hb hby own_d1_6)
  have Fw2 : Fld Z h2 a1 "com/example/dejabloom/dejabloom/ChunkLayout" "shift" "I" (.int i1) := Fld.same W2 P_F_a1_shift
  have K2 : Keep h0 h2 [a1] := (Keep.refl h0 [a1]).wr W2 (Or.inl (List.mem_of_getElem? (i := 0) rfl))
  have N2 := Fr.snoc X2 N0 g_a1
  have FF_a1_bytes_3 : Fld Z h2 a1 "com/example/dejabloom/dejabloom/ChunkLayout" "bytes" "J" u_bytes := (P_F_a1_bytes.other W2 (Or.inr (slot_ne (Or.inr (hw _ (List.mem_of_getElem? (i := 14) rfl))) (Or.inr (hw _ (List.mem_of_getElem? (i := 12) rfl))) (by decide) (t := .long) (t' := .int) (by decide) (by decide))))
  have FE_a1_4 : Exa Z h2 a1 "com/example/dejabloom/dejabloom/ChunkLayout" := (P_E_a1.wr W2)
  obtain ⟨T5, h5, X5, e5, W5, st5⟩ := putF X2 hx hZ hown (host := "") (Or.inl (hw _ (List.mem_of_getElem? (i := 13) rfl))) Via.refl e2 FF_a1_bytes_3 FE_a1_4 (Or.inr ⟨(hw _ (List.mem_of_getElem? (i := 14) rfl)), rfl, hnm⟩) (hw _ (List.mem_of_getElem? (i := 3) rfl)) (ty := .long) (by decide) rfl rfl (g := (mkF m 11 #[.val (.ref a1), .val (.int i1), .val (.long j1), .second] [(.long j1), (.ref a1)])) rfl rfl (hb hby own_d1_11)
  have Fw5 : Fld Z h5 a1 "com/example/dejabloom/dejabloom/ChunkLayout" "bytes" "J" (.long j1) := Fld.same W5 FF_a1_bytes_3
  have K5 : Keep h0 h5 [a1] := K2.wr W5 (Or.inl (List.mem_of_getElem? (i := 0) rfl))
  have N5 := Fr.snoc X5 N2 g_a1
  obtain ⟨fs, hr, hrun, hended, hW, hsame⟩ := X5.leave (v := none) (fun _ => rfl)
  refine ⟨_, _, pre0 _ ?_, hrun, hended, _, _, rfl, ?_, ⟨_, rfl⟩, hW, hsame.mono (by decide) (by decide)⟩
  · show Steps p.tables e below (s₁.setTop (mkF m 0 #[.val (.ref a1), .val (.int i1), .val (.long j1), .second] [])) _
    refine XS.aloadN X0.here hx rfl (hb hby own_d1_0) rfl rfl ?_
    show Steps p.tables e below (s₁.setTop (mkF m 1 #[.val (.ref a1), .val (.int i1), .val (.long j1), .second] [(.ref a1)])) _
    refine st1 _ ?_
    show Steps p.tables e below (T1.setTop (mkF m 4 #[.val (.ref a1), .val (.int i1), .val (.long j1), .second] [])) _
    refine XS.aloadN X1.here hx rfl (hb hby own_d1_4) rfl rfl ?_
    show Steps p.tables e below (T1.setTop (mkF m 5 #[.val (.ref a1), .val (.int i1), .val (.long j1), .second] [(.ref a1)])) _
    refine XS.iloadN X1.here hx rfl (hb hby own_d1_5) rfl ?_
    show Steps p.tables e below (T1.setTop (mkF m 6 #[.val (.ref a1), .val (.int i1), .val (.long j1), .second] [(.int i1), (.ref a1)])) _
    refine st2 _ ?_
    show Steps p.tables e below (T2.setTop (mkF m 9 #[.val (.ref a1), .val (.int i1), .val (.long j1), .second] [])) _
    refine XS.aloadN X2.here hx rfl (hb hby own_d1_9) rfl rfl ?_
    show Steps p.tables e below (T2.setTop (mkF m 10 #[.val (.ref a1), .val (.int i1), .val (.long j1), .second] [(.ref a1)])) _
    refine XT.lloadN X2.here hx rfl (hb hby own_d1_10) rfl ?_
    show Steps p.tables e below (T2.setTop (mkF m 11 #[.val (.ref a1), .val (.int i1), .val (.long j1), .second] [(.long j1), (.ref a1)])) _
    refine st5 _ ?_
    show Steps p.tables e below (T5.setTop (mkF m 14 #[.val (.ref a1), .val (.int i1), .val (.long j1), .second] [])) _
    exact X5.returnOut hx Bd.returns (hb hby own_d1_14) hr
  · show own_Q1 Z a1 i1 j1 u_shift u_bytes h0 n0 _ T5.heap _
    rw [e5]
    have FE_a1_6 : Exa Z h5 a1 "com/example/dejabloom/dejabloom/ChunkLayout" := (FE_a1_4.wr W5)
    have FF_a1_shift_7 : Fld Z h5 a1 "com/example/dejabloom/dejabloom/ChunkLayout" "shift" "I" (.int i1) := (Fw2.other W5 (Or.inr (slot_ne (Or.inr (hw _ (List.mem_of_getElem? (i := 12) rfl))) (Or.inr (hw _ (List.mem_of_getElem? (i := 14) rfl))) (by decide) (t := .int) (t' := .long) (by decide) (by decide))))
    exact ⟨rfl, N5, K5, FE_a1_6, FF_a1_shift_7, Fw5⟩
theorem own_d3_0 : decode prog_4_method_3_code 0 = .ok (.aload_n 0, 1) := by decide +kernel
theorem own_d3_1 : decode prog_4_method_3_code 1 = .ok (.getfield 13, 3) := by decide +kernel
theorem own_d3_4 : decode prog_4_method_3_code 4 = .ok (.lconst 1, 1) := by decide +kernel
theorem own_d3_5 : decode prog_4_method_3_code 5 = .ok (.lsub, 1) := by decide +kernel
theorem own_d3_6 : decode prog_4_method_3_code 6 = .ok (.aload_n 0, 1) := by decide +kernel
theorem own_d3_7 : decode prog_4_method_3_code 7 = .ok (.getfield 7, 3) := by decide +kernel
theorem own_d3_10 : decode prog_4_method_3_code 10 = .ok (.lushr, 1) := by decide +kernel
theorem own_d3_11 : decode prog_4_method_3_code 11 = .ok (.lconst 1, 1) := by decide +kernel
theorem own_d3_12 : decode prog_4_method_3_code 12 = .ok (.ladd, 1) := by decide +kernel
theorem own_d3_13 : decode prog_4_method_3_code 13 = .ok (.lreturn, 1) := by decide +kernel
theorem own_pn3 : plainName "com/example/dejabloom/dejabloom/ChunkLayout" = true := by first | (simp [plainName, overriddenIn]; done) | decide +kernel
theorem own_ef3 (m : MethodId) (a : Addr) : entryFrame m #[(.ref a)] 1 = mkF m 0 #[.val (.ref a)] [] := by first | (simp [entryFrame, mkF, argsToLocals, Value.category]; done) | rfl
def own_Q3 (Z : State) (a : Addr) (w : Int32) (bb : Int64) (h0 : Heap) (n0 : Nat) (v : Option Value) (h : Heap) (L : List Loc) : Prop := (v = some (.long ((XT.ushrL (bb - (1 : Int64)) w) + (1 : Int64)))) ∧ (Fr n0 L) ∧ (h = h0)
set_option maxRecDepth 65536 in
set_option maxHeartbeats 40000000 in
theorem own_rm3 (l : Launch) (Z : State) (a0 : Array Value) (hw : ∀ d ∈ tables_1, d.before a0 Z = true) (ws : List Jvm.Cond) (a : Addr) (w : Int32) (bb : Int64) (h0 : Heap) (n0 : Nat) (Z0 : n0 ≤ h0.size) (P_E_a : Exa Z h0 a "com/example/dejabloom/dejabloom/ChunkLayout") (P_F_a_shift : Fld Z h0 a "com/example/dejabloom/dejabloom/ChunkLayout" "shift" "I" (.int w)) (P_F_a_bytes : Fld Z h0 a "com/example/dejabloom/dejabloom/ChunkLayout" "bytes" "J" (.long bb)) :
    MetFree l (⟨"com/example/dejabloom/dejabloom/ChunkLayout", "count", "()J"⟩ : MethodName) (head1 (Jvm.Cond.code (⟨"com/example/dejabloom/dejabloom/ChunkLayout", "count", "()J"⟩ : MethodName) prog_4_method_3_code 1 (some .long) :: ws) ({ frames := 0, cells := 0, slots := 0, locals := 0 } : Room)) (fun ar_ U_ => ar_ = #[(.ref a)] ∧ Z.Warmed39 U_.vm ∧ U_.heap = h0) (fun _ _ _ _ _ => True) (fun _ U_ o_ U_' => ∃ v_ L_, o_ = .returned v_ ∧ own_Q3 Z a w bb h0 n0 v_ U_'.heap L_ ∧ FrameEnd U_ o_ U_' L_ ({ frames := 0, cells := 0, slots := 0, locals := 0 } : Room).cells ({ frames := 0, cells := 0, slots := 0, locals := 0 } : Room).slots) := by
  refine MetFree.of_bodySF (plainFor_of_name own_pn3) hisR ?_
  intro p e s m args below meth c s₁ Bd hml0 hP hK
  obtain ⟨rfl, hZ, hh⟩ := hP
  have hx := Bd.exec
  have hby := Bd.bytes
  have hml : c.maxLocals = 1 := hml0
  have hown : s.vm.findClass "com/example/dejabloom/dejabloom/ChunkLayout" = some m.cls := findClass_of_methodNamed Bd.named
  have hnm := (name_of_methodNamed Bd.named Bd.method).1
  have X0 : Stand p l e ({ frames := 0, cells := 0, slots := 0, locals := 0 } : Room) s m #[(.ref a)] below meth c s₁ [] 0 0 := Stand.of_body Bd
  have e0 : s₁.heap = h0 := by rw [← hh, Bd.state]; rfl
  have N0 := Fr.nil n0
  have pre0 : ∀ t, Steps p.tables e below (s₁.setTop (mkF m 0 #[.val (.ref a)] [])) t → Steps p.tables e below (s₁.setTop (entryFrame m #[(.ref a)] 1)) t := fun t k => castTop (own_ef3 m a) k
  obtain ⟨T1, X1, e1, st1⟩ := getF X0 hx hZ hown (host := "") (Or.inl (hw _ (List.mem_of_getElem? (i := 13) rfl))) Via.refl e0 P_F_a_bytes (g := (mkF m 1 #[.val (.ref a)] [(.ref a)])) rfl rfl (hb hby own_d3_1)
  obtain ⟨T2, X2, e2, st2⟩ := getF X1 hx hZ hown (host := "") (Or.inl (hw _ (List.mem_of_getElem? (i := 11) rfl))) Via.refl e1 P_F_a_shift (g := (mkF m 7 #[.val (.ref a)] [(.ref a), (.long (bb - (1 : Int64)))])) rfl rfl (hb hby own_d3_7)
  obtain ⟨fs, hr, hrun, hended, hW, hsame⟩ := X2.leave (v := some (.long ((XT.ushrL (bb - (1 : Int64)) w) + (1 : Int64)))) (fun h => by rw [Bd.returns] at h; cases h)
  refine ⟨_, _, pre0 _ ?_, hrun, hended, _, _, rfl, ?_, ⟨_, rfl⟩, hW, hsame.mono (by decide) (by decide)⟩
  · show Steps p.tables e below (s₁.setTop (mkF m 0 #[.val (.ref a)] [])) _
    refine XS.aloadN X0.here hx rfl (hb hby own_d3_0) rfl rfl ?_
    show Steps p.tables e below (s₁.setTop (mkF m 1 #[.val (.ref a)] [(.ref a)])) _
    refine st1 _ ?_
    show Steps p.tables e below (T1.setTop (mkF m 4 #[.val (.ref a)] [(.long bb)])) _
    refine XT.lconstV X1.here hx rfl (1 : Int64) (hb hby own_d3_4) rfl ?_
    show Steps p.tables e below (T1.setTop (mkF m 5 #[.val (.ref a)] [(.long (1 : Int64)), (.long bb)])) _
    refine XT.lsub X1.here hx rfl (hb hby own_d3_5) rfl ?_
    show Steps p.tables e below (T1.setTop (mkF m 6 #[.val (.ref a)] [(.long (bb - (1 : Int64)))])) _
    refine XS.aloadN X1.here hx rfl (hb hby own_d3_6) rfl rfl ?_
    show Steps p.tables e below (T1.setTop (mkF m 7 #[.val (.ref a)] [(.ref a), (.long (bb - (1 : Int64)))])) _
    refine st2 _ ?_
    show Steps p.tables e below (T2.setTop (mkF m 10 #[.val (.ref a)] [(.int w), (.long (bb - (1 : Int64)))])) _
    refine XT.lushr X2.here hx rfl (hb hby own_d3_10) rfl ?_
    show Steps p.tables e below (T2.setTop (mkF m 11 #[.val (.ref a)] [(.long (XT.ushrL (bb - (1 : Int64)) w))])) _
    refine XT.lconstV X2.here hx rfl (1 : Int64) (hb hby own_d3_11) rfl ?_
    show Steps p.tables e below (T2.setTop (mkF m 12 #[.val (.ref a)] [(.long (1 : Int64)), (.long (XT.ushrL (bb - (1 : Int64)) w))])) _
    refine XT.ladd X2.here hx rfl (hb hby own_d3_12) rfl ?_
    show Steps p.tables e below (T2.setTop (mkF m 13 #[.val (.ref a)] [(.long ((XT.ushrL (bb - (1 : Int64)) w) + (1 : Int64)))])) _
    exact retOut X2 hx (t := .long) Bd.returns rfl (Or.inr (Or.inl ⟨rfl, rfl, _, rfl⟩)) (hb hby own_d3_13) hr
  · show own_Q3 Z a w bb h0 n0 _ T2.heap _
    exact ⟨rfl, N0, e2⟩
theorem own_pn0 : plainName "com/example/dejabloom/dejabloom/ChunkLayoutCountPinLaw" = true := by first | (simp [plainName, overriddenIn]; done) | decide +kernel
theorem own_ef0 (m : MethodId) (s0 : Int32) (jb : Int64) : entryFrame m #[(.int s0), (.long jb)] maxLocals = mkF m 0 #[.val (.int s0), .val (.long jb), .second, .unset, .unset, .unset, .unset, .unset, .unset, .unset, .unset, .unset, .unset] [] := by first | (simp [entryFrame, mkF, argsToLocals, Value.category, maxLocals]; done) | rfl
def own_Q0 (Z : State) (s0 : Int32) (jb : Int64) (h0 : Heap) (n0 : Nat) (v : Option Value) (h : Heap) (L : List Loc) : Prop := (v = some (.int (1 : Int32))) ∧ (Fr n0 L)
set_option maxRecDepth 65536 in
set_option maxHeartbeats 40000000 in
theorem own_rm0 (l : Launch) (Z : State) (a0 : Array Value) (hw : ∀ d ∈ tables_1, d.before a0 Z = true) (ws : List Jvm.Cond) (s0 : Int32) (jb : Int64) (h0 : Heap) (n0 : Nat) (Z0 : n0 ≤ h0.size)  :
    MetFree l x (head1 (Jvm.Cond.code x code maxLocals ret :: ws) room_1) (fun ar_ U_ => ar_ = #[(.int s0), (.long jb)] ∧ Z.Warmed39 U_.vm ∧ U_.heap = h0) (fun _ _ _ _ _ => True) (fun _ U_ o_ U_' => ∃ v_ L_, o_ = .returned v_ ∧ own_Q0 Z s0 jb h0 n0 v_ U_'.heap L_ ∧ FrameEnd U_ o_ U_' L_ room_1.cells room_1.slots) := by
  refine MetFree.of_bodySF (plainFor_of_name own_pn0) hisR ?_
  intro p e s m args below meth c s₁ Bd hml0 hP hK
  obtain ⟨rfl, hZ, hh⟩ := hP
  have hx := Bd.exec
  have hby := Bd.bytes
  have hml : c.maxLocals = 13 := hml0
  have hown : s.vm.findClass "com/example/dejabloom/dejabloom/ChunkLayoutCountPinLaw" = some m.cls := findClass_of_methodNamed Bd.named
  have hnm := (name_of_methodNamed Bd.named Bd.method).1
  have X0 : Stand p l e room_1 s m #[(.int s0), (.long jb)] below meth c s₁ [] 0 0 := Stand.of_body Bd
  have e0 : s₁.heap = h0 := by rw [← hh, Bd.state]; rfl
  have N0 := Fr.nil n0
  have pre0 : ∀ t, Steps p.tables e below (s₁.setTop (mkF m 0 #[.val (.int s0), .val (.long jb), .second, .unset, .unset, .unset, .unset, .unset, .unset, .unset, .unset, .unset, .unset] [])) t → Steps p.tables e below (s₁.setTop (entryFrame m #[(.int s0), (.long jb)] maxLocals)) t := fun t k => castTop (own_ef0 m s0 jb) k
  have pre1 : ∀ t, Steps p.tables e below (s₁.setTop (mkF m 8 #[.val (.int s0), .val (.long jb), .second, .val (.int ((s0 &&& (2147483647 : Int32)) % (31 : Int32))), .unset, .unset, .unset, .unset, .unset, .unset, .unset, .unset, .unset] [])) t → Steps p.tables e below (s₁.setTop (entryFrame m #[(.int s0), (.long jb)] maxLocals)) t := fun t k => pre0 t (by
    show Steps p.tables e below (s₁.setTop (mkF m 0 #[.val (.int s0), .val (.long jb), .second, .unset, .unset, .unset, .unset, .unset, .unset, .unset, .unset, .unset, .unset] [])) _
    refine XS.iloadN X0.here hx rfl (hb hby at_0) rfl ?_
    show Steps p.tables e below (s₁.setTop (mkF m 1 #[.val (.int s0), .val (.long jb), .second, .unset, .unset, .unset, .unset, .unset, .unset, .unset, .unset, .unset, .unset] [(.int s0)])) _
    refine X0.ldcI hx hown (mvT hZ (hw _ (List.mem_of_getElem? (i := 0) rfl))) (g := (mkF m 1 #[.val (.int s0), .val (.long jb), .second, .unset, .unset, .unset, .unset, .unset, .unset, .unset, .unset, .unset, .unset] [(.int s0)])) rfl (hb hby at_1) ?_
    show Steps p.tables e below (s₁.setTop (mkF m 3 #[.val (.int s0), .val (.long jb), .second, .unset, .unset, .unset, .unset, .unset, .unset, .unset, .unset, .unset, .unset] [(.int (2147483647 : Int32)), (.int s0)])) _
    refine XS.iand X0.here hx rfl (hb hby at_3) rfl ?_
    show Steps p.tables e below (s₁.setTop (mkF m 4 #[.val (.int s0), .val (.long jb), .second, .unset, .unset, .unset, .unset, .unset, .unset, .unset, .unset, .unset, .unset] [(.int (s0 &&& (2147483647 : Int32)))])) _
    refine XT.bipushV X0.here hx rfl (31 : Int32) (hb hby at_4) rfl ?_
    show Steps p.tables e below (s₁.setTop (mkF m 6 #[.val (.int s0), .val (.long jb), .second, .unset, .unset, .unset, .unset, .unset, .unset, .unset, .unset, .unset, .unset] [(.int (31 : Int32)), (.int (s0 &&& (2147483647 : Int32)))])) _
    refine iremM X0 hx rfl (hb hby at_6) rfl (by decide) ?_
    show Steps p.tables e below (s₁.setTop (mkF m 7 #[.val (.int s0), .val (.long jb), .second, .unset, .unset, .unset, .unset, .unset, .unset, .unset, .unset, .unset, .unset] [(.int ((s0 &&& (2147483647 : Int32)) % (31 : Int32)))])) _
    refine XS.istoreN X0.here hx rfl (hb hby at_7) rfl (l' := #[.val (.int s0), .val (.long jb), .second, .val (.int ((s0 &&& (2147483647 : Int32)) % (31 : Int32))), .unset, .unset, .unset, .unset, .unset, .unset, .unset, .unset, .unset]) rfl ?_
    exact k)
  obtain ⟨sh, q_sh⟩ : ∃ z : Int32, z = ((s0 &&& (2147483647 : Int32)) % (31 : Int32)) := ⟨_, rfl⟩
  rw [← q_sh] at pre1
  obtain ⟨kk, hkk, hsh⟩ := own_shift s0
  rw [← q_sh] at hsh
  have pre2 : ∀ t, Steps p.tables e below (s₁.setTop (mkF m 15 #[.val (.int s0), .val (.long jb), .second, .val (.int sh), .val (.long (jb &&& (9223372036854775807 : Int64))), .second, .unset, .unset, .unset, .unset, .unset, .unset, .unset] [])) t → Steps p.tables e below (s₁.setTop (entryFrame m #[(.int s0), (.long jb)] maxLocals)) t := fun t k => pre1 t (by
    show Steps p.tables e below (s₁.setTop (mkF m 8 #[.val (.int s0), .val (.long jb), .second, .val (.int sh), .unset, .unset, .unset, .unset, .unset, .unset, .unset, .unset, .unset] [])) _
    refine XT.lloadN X0.here hx rfl (hb hby at_8) rfl ?_
    show Steps p.tables e below (s₁.setTop (mkF m 9 #[.val (.int s0), .val (.long jb), .second, .val (.int sh), .unset, .unset, .unset, .unset, .unset, .unset, .unset, .unset, .unset] [(.long jb)])) _
    refine X0.ldc2J hx hown (mvT hZ (hw _ (List.mem_of_getElem? (i := 1) rfl))) (g := (mkF m 9 #[.val (.int s0), .val (.long jb), .second, .val (.int sh), .unset, .unset, .unset, .unset, .unset, .unset, .unset, .unset, .unset] [(.long jb)])) rfl (hb hby at_9) ?_
    show Steps p.tables e below (s₁.setTop (mkF m 12 #[.val (.int s0), .val (.long jb), .second, .val (.int sh), .unset, .unset, .unset, .unset, .unset, .unset, .unset, .unset, .unset] [(.long (9223372036854775807 : Int64)), (.long jb)])) _
    refine XT.land X0.here hx rfl (hb hby at_12) rfl ?_
    show Steps p.tables e below (s₁.setTop (mkF m 13 #[.val (.int s0), .val (.long jb), .second, .val (.int sh), .unset, .unset, .unset, .unset, .unset, .unset, .unset, .unset, .unset] [(.long (jb &&& (9223372036854775807 : Int64)))])) _
    refine XT.lstore X0.here hx rfl (hb hby at_13) rfl (l' := #[.val (.int s0), .val (.long jb), .second, .val (.int sh), .val (.long (jb &&& (9223372036854775807 : Int64))), .second, .unset, .unset, .unset, .unset, .unset, .unset, .unset]) rfl ?_
    exact k)
  obtain ⟨raw, q_raw⟩ : ∃ z : Int64, z = (jb &&& (9223372036854775807 : Int64)) := ⟨_, rfl⟩
  rw [← q_raw] at pre2
  have pre3 : ∀ t, Steps p.tables e below (s₁.setTop (mkF m 25 #[.val (.int s0), .val (.long jb), .second, .val (.int sh), .val (.long (if raw = (0 : Int64) then (1 : Int64) else raw)), .second, .unset, .unset, .unset, .unset, .unset, .unset, .unset] [])) t → Steps p.tables e below (s₁.setTop (entryFrame m #[(.int s0), (.long jb)] maxLocals)) t := fun t k => pre2 t (by
    show Steps p.tables e below (s₁.setTop (mkF m 15 #[.val (.int s0), .val (.long jb), .second, .val (.int sh), .val (.long raw), .second, .unset, .unset, .unset, .unset, .unset, .unset, .unset] [])) _
    refine XT.lload X0.here hx rfl (hb hby at_15) rfl ?_
    show Steps p.tables e below (s₁.setTop (mkF m 17 #[.val (.int s0), .val (.long jb), .second, .val (.int sh), .val (.long raw), .second, .unset, .unset, .unset, .unset, .unset, .unset, .unset] [(.long raw)])) _
    refine XT.lconstV X0.here hx rfl (0 : Int64) (hb hby at_17) rfl ?_
    show Steps p.tables e below (s₁.setTop (mkF m 18 #[.val (.int s0), .val (.long jb), .second, .val (.int sh), .val (.long raw), .second, .unset, .unset, .unset, .unset, .unset, .unset, .unset] [(.long (0 : Int64)), (.long raw)])) _
    refine XT.lcmp X0.here hx rfl (hb hby at_18) rfl ?_
    by_cases hj19 : raw = (0 : Int64)
    · rw [if_pos hj19] at k
      show Steps p.tables e below (s₁.setTop (mkF m 19 #[.val (.int s0), .val (.long jb), .second, .val (.int sh), .val (.long raw), .second, .unset, .unset, .unset, .unset, .unset, .unset, .unset] [(.int (XT.cmpL raw (0 : Int64)))])) _
      refine XS.ifNo X0.here hx rfl (hb hby at_19) rfl (XT.ll_ne_f hj19) ?_
      show Steps p.tables e below (s₁.setTop (mkF m 22 #[.val (.int s0), .val (.long jb), .second, .val (.int sh), .val (.long raw), .second, .unset, .unset, .unset, .unset, .unset, .unset, .unset] [])) _
      refine XT.lconstV X0.here hx rfl (1 : Int64) (hb hby at_22) rfl ?_
      show Steps p.tables e below (s₁.setTop (mkF m 23 #[.val (.int s0), .val (.long jb), .second, .val (.int sh), .val (.long raw), .second, .unset, .unset, .unset, .unset, .unset, .unset, .unset] [(.long (1 : Int64))])) _
      refine XT.lstore X0.here hx rfl (hb hby at_23) rfl (l' := #[.val (.int s0), .val (.long jb), .second, .val (.int sh), .val (.long (1 : Int64)), .second, .unset, .unset, .unset, .unset, .unset, .unset, .unset]) rfl ?_
      exact k
    · rw [if_neg hj19] at k
      show Steps p.tables e below (s₁.setTop (mkF m 19 #[.val (.int s0), .val (.long jb), .second, .val (.int sh), .val (.long raw), .second, .unset, .unset, .unset, .unset, .unset, .unset, .unset] [(.int (XT.cmpL raw (0 : Int64)))])) _
      refine XS.ifYes X0.here hx rfl (pc0 := 19) (pc' := 25) rfl (hb hby at_19) rfl (XT.ll_ne_t hj19) (by decide) (by decide) ?_
      exact k)
  obtain ⟨byt, q_byt⟩ : ∃ z : Int64, z = (if raw = (0 : Int64) then (1 : Int64) else raw) := ⟨_, rfl⟩
  rw [← q_byt] at pre3
  have hbp : 0 < byt.toInt := by
    have h0 := own_max jb
    rw [← q_raw] at h0
    rw [q_byt]
    by_cases hz : raw = 0
    · rw [if_pos hz]; decide
    · rw [if_neg hz]
      have : raw.toInt ≠ 0 := fun e => hz (Int64.toInt_inj.mp (by rw [e]; rfl))
      omega
  obtain ⟨hc1, hc2, hc3, hc4⟩ := own_count kk hkk byt _ _ _ _ _ hbp rfl rfl rfl rfl rfl
  rw [← hsh] at hc1 hc2 hc3 hc4
  obtain ⟨T4, h4, X4, e4, E4, A4, D4, -, st4⟩ := newO X0 hx hZ hown (hw _ (List.mem_of_getElem? (i := 2) rfl)) (hw _ (List.mem_of_getElem? (i := 3) rfl)) (hw _ (List.mem_of_getElem? (i := 4) rfl)) e0 (g := (mkF m 25 #[.val (.int s0), .val (.long jb), .second, .val (.int sh), .val (.long byt), .second, .unset, .unset, .unset, .unset, .unset, .unset, .unset] [])) rfl (hb hby at_25) (by decide) (by decide)
  obtain ⟨ob4, g4⟩ : ∃ z, z = h0.size := ⟨_, rfl⟩
  rw [← g4] at A4 D4 st4
  have sz4 : n0 ≤ h4.size := Nat.le_trans Z0 E4.1
  have gn_ob4 : n0 ≤ ob4 := Nat.le_trans Z0 (Nat.le_of_eq g4.symm)
  have bo_ob4 : h0.size ≤ ob4 := Nat.le_trans (Keep.refl h0 []).1 (Nat.le_of_eq g4.symm)
  have K4 : Keep h0 h4 [] := (Keep.refl h0 []).ext E4
  have F0_shift_ob4 : Fld Z h4 ob4 "com/example/dejabloom/dejabloom/ChunkLayout" "shift" "I" (.int (0 : Int32)) := D4 (Or.inr (hw _ (List.mem_of_getElem? (i := 12) rfl))) (ty := .int) (by decide)
  have F0_bytes_ob4 : Fld Z h4 ob4 "com/example/dejabloom/dejabloom/ChunkLayout" "bytes" "J" (.long (0 : Int64)) := D4 (Or.inr (hw _ (List.mem_of_getElem? (i := 14) rfl))) (ty := .long) (by decide)
  obtain ⟨_, _, ⟨T5, tL5, tk5, tn5⟩, -, X5, ⟨Lc5, hQ5, tl5, ty5, tz5⟩, st5⟩ := X4.specialBack hx (y := (⟨"com/example/dejabloom/dejabloom/ChunkLayout", "<init>", "(IJ)V"⟩ : MethodName)) rfl hown (mvT hZ (hw _ (List.mem_of_getElem? (i := 5) rfl))) (mvT hZ (hw _ (List.mem_of_getElem? (i := 6) rfl))) (mvT hZ (hw _ (List.mem_of_getElem? (i := 7) rfl))) (by decide) (backOf (W := 1) (own_rm1 l Z a0 hw [] ob4 sh byt ((.int (0 : Int32)) : Value) ((.long (0 : Int64)) : Value) h4 n0 sz4 A4 F0_shift_ob4 F0_bytes_ob4 gn_ob4) hZ (hw _ (List.mem_of_getElem? (i := 7) rfl)) (hw _ (List.mem_of_getElem? (i := 4) rfl)) (by decide) (by decide)) (g := (mkF m 32 #[.val (.int s0), .val (.long jb), .second, .val (.int sh), .val (.long byt), .second, .unset, .unset, .unset, .unset, .unset, .unset, .unset] [(.long byt), (.int sh), (.ref ob4), (.ref ob4)])) rfl (by rw [hml]; rfl) (Steps.refl _) (a := ob4) (argsL := [(.int sh), (.long byt)]) (rest := [(.ref ob4)]) (lenOf own_pd0 rfl) rfl (by show 2 * 0 + _ ≤ _; exact Nat.le_of_eq rfl) (hb hby at_32) (fun _ _ => ⟨rfl, e4, (by decide : 1 + 0 ≤ _), (by decide : 2 + 0 ≤ _)⟩)
  dsimp only [Pt.U, Pt.locs, Pt.cells, Pt.slots] at X5 tl5 ty5 tz5 st5 hQ5
  rw [tl5, ty5, tz5] at X5
  obtain ⟨rfl, Nq5, K5, Fa5_E_a1, Fa5_F_a1_shift, Fa5_F_a1_bytes⟩ := hQ5
  have N5 := Fr.app N0 Nq5
  have sz5 : n0 ≤ T5.heap.size := Nat.le_trans sz4 K5.1
  have KK5 : Keep h0 T5.heap [] := K4.trans K5 (allS (Or.inr bo_ob4) all0)
  obtain ⟨cq6, kq6, q6a, q6b, q6c⟩ := isOf hZ rfl Fa5_E_a1
  obtain ⟨_, _, ⟨T6, tL6, tk6, tn6⟩, -, X6, ⟨Lc6, hQ6, tl6, ty6, tz6⟩, st6⟩ := X5.virtualBack hx (y := (⟨"com/example/dejabloom/dejabloom/ChunkLayout", "count", "()J"⟩ : MethodName)) (z := (⟨"com/example/dejabloom/dejabloom/ChunkLayout", "count", "()J"⟩ : MethodName)) hown (mvT hZ (hw _ (List.mem_of_getElem? (i := 15) rfl))) (mvT hZ (hw _ (List.mem_of_getElem? (i := 16) rfl))) (notFace_of_selects (args := #[]) (mvT hZ (hw _ (List.mem_of_getElem? (i := 18) rfl)))) (mvT hZ (hw _ (List.mem_of_getElem? (i := 18) rfl))) (mvT hZ (hw _ (List.mem_of_getElem? (i := 17) rfl))) (by decide) (backOf (W := 0) (own_rm3 l Z a0 hw [] ob4 sh byt T5.heap n0 sz5 Fa5_E_a1 Fa5_F_a1_shift Fa5_F_a1_bytes) hZ (hw _ (List.mem_of_getElem? (i := 19) rfl)) (hw _ (List.mem_of_getElem? (i := 4) rfl)) (by decide) (by decide)) q6a q6c (g := (mkF m 39 #[.val (.int s0), .val (.long jb), .second, .val (.int sh), .val (.long byt), .second, .val (.ref ob4), .unset, .unset, .unset, .unset, .unset, .unset] [(.ref ob4)])) rfl (by rw [hml]; rfl) (Steps.refl _) (argsL := []) (rest := []) (lenOf own_pd1 rfl) rfl (by show 2 * 0 + _ ≤ _; exact Nat.le_of_eq rfl) (hb hby at_39) (fun _ _ => ⟨rfl, rfl, (by decide : 1 + 0 ≤ _), (by decide : 2 + 0 ≤ _)⟩)
  dsimp only [Pt.U, Pt.locs, Pt.cells, Pt.slots] at X6 tl6 ty6 tz6 st6 hQ6
  rw [tl6, ty6, tz6] at X6
  obtain ⟨rfl, Nq6, K6⟩ := hQ6
  have N6 := Fr.app N5 Nq6
  have pre7 : ∀ t, Steps p.tables e below (T6.setTop (mkF m 44 #[.val (.int s0), .val (.long jb), .second, .val (.int sh), .val (.long byt), .second, .val (.ref ob4), .val (.long ((XT.ushrL (byt - (1 : Int64)) sh) + (1 : Int64))), .second, .unset, .unset, .unset, .unset] [])) t → Steps p.tables e below (s₁.setTop (entryFrame m #[(.int s0), (.long jb)] maxLocals)) t := fun t k => pre3 t (by
    show Steps p.tables e below (s₁.setTop (mkF m 25 #[.val (.int s0), .val (.long jb), .second, .val (.int sh), .val (.long byt), .second, .unset, .unset, .unset, .unset, .unset, .unset, .unset] [])) _
    refine st4 _ ?_
    show Steps p.tables e below (T4.setTop (mkF m 28 #[.val (.int s0), .val (.long jb), .second, .val (.int sh), .val (.long byt), .second, .unset, .unset, .unset, .unset, .unset, .unset, .unset] [(.ref ob4)])) _
    refine XS.dup X4.here hx rfl (hb hby at_28) rfl rfl ?_
    show Steps p.tables e below (T4.setTop (mkF m 29 #[.val (.int s0), .val (.long jb), .second, .val (.int sh), .val (.long byt), .second, .unset, .unset, .unset, .unset, .unset, .unset, .unset] [(.ref ob4), (.ref ob4)])) _
    refine XS.iloadN X4.here hx rfl (hb hby at_29) rfl ?_
    show Steps p.tables e below (T4.setTop (mkF m 30 #[.val (.int s0), .val (.long jb), .second, .val (.int sh), .val (.long byt), .second, .unset, .unset, .unset, .unset, .unset, .unset, .unset] [(.int sh), (.ref ob4), (.ref ob4)])) _
    refine XT.lload X4.here hx rfl (hb hby at_30) rfl ?_
    show Steps p.tables e below (T4.setTop (mkF m 32 #[.val (.int s0), .val (.long jb), .second, .val (.int sh), .val (.long byt), .second, .unset, .unset, .unset, .unset, .unset, .unset, .unset] [(.long byt), (.int sh), (.ref ob4), (.ref ob4)])) _
    refine st5.trans ?_
    show Steps p.tables e below (T5.setTop (mkF m 35 #[.val (.int s0), .val (.long jb), .second, .val (.int sh), .val (.long byt), .second, .unset, .unset, .unset, .unset, .unset, .unset, .unset] [(.ref ob4)])) _
    refine XS.astore X5.here hx rfl (hb hby at_35) rfl rfl (l' := #[.val (.int s0), .val (.long jb), .second, .val (.int sh), .val (.long byt), .second, .val (.ref ob4), .unset, .unset, .unset, .unset, .unset, .unset]) rfl ?_
    show Steps p.tables e below (T5.setTop (mkF m 37 #[.val (.int s0), .val (.long jb), .second, .val (.int sh), .val (.long byt), .second, .val (.ref ob4), .unset, .unset, .unset, .unset, .unset, .unset] [])) _
    refine XS.aload X5.here hx rfl (hb hby at_37) rfl rfl ?_
    show Steps p.tables e below (T5.setTop (mkF m 39 #[.val (.int s0), .val (.long jb), .second, .val (.int sh), .val (.long byt), .second, .val (.ref ob4), .unset, .unset, .unset, .unset, .unset, .unset] [(.ref ob4)])) _
    refine st6.trans ?_
    show Steps p.tables e below (T6.setTop (mkF m 42 #[.val (.int s0), .val (.long jb), .second, .val (.int sh), .val (.long byt), .second, .val (.ref ob4), .unset, .unset, .unset, .unset, .unset, .unset] [(.long ((XT.ushrL (byt - (1 : Int64)) sh) + (1 : Int64)))])) _
    refine XT.lstore X6.here hx rfl (hb hby at_42) rfl (l' := #[.val (.int s0), .val (.long jb), .second, .val (.int sh), .val (.long byt), .second, .val (.ref ob4), .val (.long ((XT.ushrL (byt - (1 : Int64)) sh) + (1 : Int64))), .second, .unset, .unset, .unset, .unset]) rfl ?_
    exact k)
  obtain ⟨cc, q_cc⟩ : ∃ z : Int64, z = ((XT.ushrL (byt - (1 : Int64)) sh) + (1 : Int64)) := ⟨_, rfl⟩
  rw [← q_cc] at pre7
  rw [← q_cc] at hc1 hc2 hc3 hc4
  have pre8 : ∀ t, Steps p.tables e below (T6.setTop (mkF m 59 #[.val (.int s0), .val (.long jb), .second, .val (.int sh), .val (.long byt), .second, .val (.ref ob4), .val (.long cc), .second, .val (.long (cc - (1 : Int64))), .second, .unset, .unset] [])) t → Steps p.tables e below (s₁.setTop (entryFrame m #[(.int s0), (.long jb)] maxLocals)) t := fun t k => pre7 t (by
    show Steps p.tables e below (T6.setTop (mkF m 44 #[.val (.int s0), .val (.long jb), .second, .val (.int sh), .val (.long byt), .second, .val (.ref ob4), .val (.long cc), .second, .unset, .unset, .unset, .unset] [])) _
    refine XT.lload X6.here hx rfl (hb hby at_44) rfl ?_
    show Steps p.tables e below (T6.setTop (mkF m 46 #[.val (.int s0), .val (.long jb), .second, .val (.int sh), .val (.long byt), .second, .val (.ref ob4), .val (.long cc), .second, .unset, .unset, .unset, .unset] [(.long cc)])) _
    refine XT.lconstV X6.here hx rfl (1 : Int64) (hb hby at_46) rfl ?_
    show Steps p.tables e below (T6.setTop (mkF m 47 #[.val (.int s0), .val (.long jb), .second, .val (.int sh), .val (.long byt), .second, .val (.ref ob4), .val (.long cc), .second, .unset, .unset, .unset, .unset] [(.long (1 : Int64)), (.long cc)])) _
    refine XT.lcmp X6.here hx rfl (hb hby at_47) rfl ?_
    show Steps p.tables e below (T6.setTop (mkF m 48 #[.val (.int s0), .val (.long jb), .second, .val (.int sh), .val (.long byt), .second, .val (.ref ob4), .val (.long cc), .second, .unset, .unset, .unset, .unset] [(.int (XT.cmpL cc (1 : Int64)))])) _
    refine XS.ifYes X6.here hx rfl (pc0 := 48) (pc' := 53) rfl (hb hby at_48) rfl (XT.ll_ge_t hc1) (by decide) (by decide) ?_
    show Steps p.tables e below (T6.setTop (mkF m 53 #[.val (.int s0), .val (.long jb), .second, .val (.int sh), .val (.long byt), .second, .val (.ref ob4), .val (.long cc), .second, .unset, .unset, .unset, .unset] [])) _
    refine XT.lload X6.here hx rfl (hb hby at_53) rfl ?_
    show Steps p.tables e below (T6.setTop (mkF m 55 #[.val (.int s0), .val (.long jb), .second, .val (.int sh), .val (.long byt), .second, .val (.ref ob4), .val (.long cc), .second, .unset, .unset, .unset, .unset] [(.long cc)])) _
    refine XT.lconstV X6.here hx rfl (1 : Int64) (hb hby at_55) rfl ?_
    show Steps p.tables e below (T6.setTop (mkF m 56 #[.val (.int s0), .val (.long jb), .second, .val (.int sh), .val (.long byt), .second, .val (.ref ob4), .val (.long cc), .second, .unset, .unset, .unset, .unset] [(.long (1 : Int64)), (.long cc)])) _
    refine XT.lsub X6.here hx rfl (hb hby at_56) rfl ?_
    show Steps p.tables e below (T6.setTop (mkF m 57 #[.val (.int s0), .val (.long jb), .second, .val (.int sh), .val (.long byt), .second, .val (.ref ob4), .val (.long cc), .second, .unset, .unset, .unset, .unset] [(.long (cc - (1 : Int64)))])) _
    refine XT.lstore X6.here hx rfl (hb hby at_57) rfl (l' := #[.val (.int s0), .val (.long jb), .second, .val (.int sh), .val (.long byt), .second, .val (.ref ob4), .val (.long cc), .second, .val (.long (cc - (1 : Int64))), .second, .unset, .unset]) rfl ?_
    exact k)
  obtain ⟨mm, q_mm⟩ : ∃ z : Int64, z = (cc - (1 : Int64)) := ⟨_, rfl⟩
  rw [← q_mm] at pre8
  rw [← q_mm] at hc2 hc3 hc4
  have pre9 : ∀ t, Steps p.tables e below (T6.setTop (mkF m 78 #[.val (.int s0), .val (.long jb), .second, .val (.int sh), .val (.long byt), .second, .val (.ref ob4), .val (.long cc), .second, .val (.long mm), .second, .val (.long (mm <<< (sh.toInt64 &&& 63))), .second] [])) t → Steps p.tables e below (s₁.setTop (entryFrame m #[(.int s0), (.long jb)] maxLocals)) t := fun t k => pre8 t (by
    show Steps p.tables e below (T6.setTop (mkF m 59 #[.val (.int s0), .val (.long jb), .second, .val (.int sh), .val (.long byt), .second, .val (.ref ob4), .val (.long cc), .second, .val (.long mm), .second, .unset, .unset] [])) _
    refine XT.lload X6.here hx rfl (hb hby at_59) rfl ?_
    show Steps p.tables e below (T6.setTop (mkF m 61 #[.val (.int s0), .val (.long jb), .second, .val (.int sh), .val (.long byt), .second, .val (.ref ob4), .val (.long cc), .second, .val (.long mm), .second, .unset, .unset] [(.long mm)])) _
    refine X6.ldc2J hx hown (mvT hZ (hw _ (List.mem_of_getElem? (i := 1) rfl))) (g := (mkF m 61 #[.val (.int s0), .val (.long jb), .second, .val (.int sh), .val (.long byt), .second, .val (.ref ob4), .val (.long cc), .second, .val (.long mm), .second, .unset, .unset] [(.long mm)])) rfl (hb hby at_61) ?_
    show Steps p.tables e below (T6.setTop (mkF m 64 #[.val (.int s0), .val (.long jb), .second, .val (.int sh), .val (.long byt), .second, .val (.ref ob4), .val (.long cc), .second, .val (.long mm), .second, .unset, .unset] [(.long (9223372036854775807 : Int64)), (.long mm)])) _
    refine XS.iloadN X6.here hx rfl (hb hby at_64) rfl ?_
    show Steps p.tables e below (T6.setTop (mkF m 65 #[.val (.int s0), .val (.long jb), .second, .val (.int sh), .val (.long byt), .second, .val (.ref ob4), .val (.long cc), .second, .val (.long mm), .second, .unset, .unset] [(.int sh), (.long (9223372036854775807 : Int64)), (.long mm)])) _
    refine XT.lushr X6.here hx rfl (hb hby at_65) rfl ?_
    show Steps p.tables e below (T6.setTop (mkF m 66 #[.val (.int s0), .val (.long jb), .second, .val (.int sh), .val (.long byt), .second, .val (.ref ob4), .val (.long cc), .second, .val (.long mm), .second, .unset, .unset] [(.long (XT.ushrL (9223372036854775807 : Int64) sh)), (.long mm)])) _
    refine XT.lcmp X6.here hx rfl (hb hby at_66) rfl ?_
    show Steps p.tables e below (T6.setTop (mkF m 67 #[.val (.int s0), .val (.long jb), .second, .val (.int sh), .val (.long byt), .second, .val (.ref ob4), .val (.long cc), .second, .val (.long mm), .second, .unset, .unset] [(.int (XT.cmpL mm (XT.ushrL (9223372036854775807 : Int64) sh)))])) _
    refine XS.ifYes X6.here hx rfl (pc0 := 67) (pc' := 72) rfl (hb hby at_67) rfl (XT.ll_le_t hc2) (by decide) (by decide) ?_
    show Steps p.tables e below (T6.setTop (mkF m 72 #[.val (.int s0), .val (.long jb), .second, .val (.int sh), .val (.long byt), .second, .val (.ref ob4), .val (.long cc), .second, .val (.long mm), .second, .unset, .unset] [])) _
    refine XT.lload X6.here hx rfl (hb hby at_72) rfl ?_
    show Steps p.tables e below (T6.setTop (mkF m 74 #[.val (.int s0), .val (.long jb), .second, .val (.int sh), .val (.long byt), .second, .val (.ref ob4), .val (.long cc), .second, .val (.long mm), .second, .unset, .unset] [(.long mm)])) _
    refine XS.iloadN X6.here hx rfl (hb hby at_74) rfl ?_
    show Steps p.tables e below (T6.setTop (mkF m 75 #[.val (.int s0), .val (.long jb), .second, .val (.int sh), .val (.long byt), .second, .val (.ref ob4), .val (.long cc), .second, .val (.long mm), .second, .unset, .unset] [(.int sh), (.long mm)])) _
    refine XT.lshl X6.here hx rfl (hb hby at_75) rfl ?_
    show Steps p.tables e below (T6.setTop (mkF m 76 #[.val (.int s0), .val (.long jb), .second, .val (.int sh), .val (.long byt), .second, .val (.ref ob4), .val (.long cc), .second, .val (.long mm), .second, .unset, .unset] [(.long (mm <<< (sh.toInt64 &&& 63)))])) _
    refine XT.lstore X6.here hx rfl (hb hby at_76) rfl (l' := #[.val (.int s0), .val (.long jb), .second, .val (.int sh), .val (.long byt), .second, .val (.ref ob4), .val (.long cc), .second, .val (.long mm), .second, .val (.long (mm <<< (sh.toInt64 &&& 63))), .second]) rfl ?_
    exact k)
  obtain ⟨pp, q_pp⟩ : ∃ z : Int64, z = (mm <<< (sh.toInt64 &&& 63)) := ⟨_, rfl⟩
  rw [← q_pp] at pre9
  rw [← q_pp] at hc3 hc4
  obtain ⟨fs, hr, hrun, hended, hW, hsame⟩ := X6.leave (v := some (.int (1 : Int32))) (fun h => by rw [Bd.returns] at h; cases h)
  refine ⟨_, _, pre9 _ ?_, hrun, hended, _, _, rfl, ?_, ⟨_, rfl⟩, hW, hsame.mono (by decide) (by decide)⟩
  · show Steps p.tables e below (T6.setTop (mkF m 78 #[.val (.int s0), .val (.long jb), .second, .val (.int sh), .val (.long byt), .second, .val (.ref ob4), .val (.long cc), .second, .val (.long mm), .second, .val (.long pp), .second] [])) _
    refine XT.lload X6.here hx rfl (hb hby at_78) rfl ?_
    show Steps p.tables e below (T6.setTop (mkF m 80 #[.val (.int s0), .val (.long jb), .second, .val (.int sh), .val (.long byt), .second, .val (.ref ob4), .val (.long cc), .second, .val (.long mm), .second, .val (.long pp), .second] [(.long pp)])) _
    refine XT.lload X6.here hx rfl (hb hby at_80) rfl ?_
    show Steps p.tables e below (T6.setTop (mkF m 82 #[.val (.int s0), .val (.long jb), .second, .val (.int sh), .val (.long byt), .second, .val (.ref ob4), .val (.long cc), .second, .val (.long mm), .second, .val (.long pp), .second] [(.long byt), (.long pp)])) _
    refine XT.lcmp X6.here hx rfl (hb hby at_82) rfl ?_
    show Steps p.tables e below (T6.setTop (mkF m 83 #[.val (.int s0), .val (.long jb), .second, .val (.int sh), .val (.long byt), .second, .val (.ref ob4), .val (.long cc), .second, .val (.long mm), .second, .val (.long pp), .second] [(.int (XT.cmpL pp byt))])) _
    refine XS.ifNo X6.here hx rfl (hb hby at_83) rfl (XT.ll_ge_f hc3) ?_
    show Steps p.tables e below (T6.setTop (mkF m 86 #[.val (.int s0), .val (.long jb), .second, .val (.int sh), .val (.long byt), .second, .val (.ref ob4), .val (.long cc), .second, .val (.long mm), .second, .val (.long pp), .second] [])) _
    refine XT.lload X6.here hx rfl (hb hby at_86) rfl ?_
    show Steps p.tables e below (T6.setTop (mkF m 88 #[.val (.int s0), .val (.long jb), .second, .val (.int sh), .val (.long byt), .second, .val (.ref ob4), .val (.long cc), .second, .val (.long mm), .second, .val (.long pp), .second] [(.long byt)])) _
    refine XT.lload X6.here hx rfl (hb hby at_88) rfl ?_
    show Steps p.tables e below (T6.setTop (mkF m 90 #[.val (.int s0), .val (.long jb), .second, .val (.int sh), .val (.long byt), .second, .val (.ref ob4), .val (.long cc), .second, .val (.long mm), .second, .val (.long pp), .second] [(.long pp), (.long byt)])) _
    refine XT.lsub X6.here hx rfl (hb hby at_90) rfl ?_
    show Steps p.tables e below (T6.setTop (mkF m 91 #[.val (.int s0), .val (.long jb), .second, .val (.int sh), .val (.long byt), .second, .val (.ref ob4), .val (.long cc), .second, .val (.long mm), .second, .val (.long pp), .second] [(.long (byt - pp))])) _
    refine XT.lconstV X6.here hx rfl (1 : Int64) (hb hby at_91) rfl ?_
    show Steps p.tables e below (T6.setTop (mkF m 92 #[.val (.int s0), .val (.long jb), .second, .val (.int sh), .val (.long byt), .second, .val (.ref ob4), .val (.long cc), .second, .val (.long mm), .second, .val (.long pp), .second] [(.long (1 : Int64)), (.long (byt - pp))])) _
    refine XS.iloadN X6.here hx rfl (hb hby at_92) rfl ?_
    show Steps p.tables e below (T6.setTop (mkF m 93 #[.val (.int s0), .val (.long jb), .second, .val (.int sh), .val (.long byt), .second, .val (.ref ob4), .val (.long cc), .second, .val (.long mm), .second, .val (.long pp), .second] [(.int sh), (.long (1 : Int64)), (.long (byt - pp))])) _
    refine XT.lshl X6.here hx rfl (hb hby at_93) rfl ?_
    show Steps p.tables e below (T6.setTop (mkF m 94 #[.val (.int s0), .val (.long jb), .second, .val (.int sh), .val (.long byt), .second, .val (.ref ob4), .val (.long cc), .second, .val (.long mm), .second, .val (.long pp), .second] [(.long ((1 : Int64) <<< (sh.toInt64 &&& 63))), (.long (byt - pp))])) _
    refine XT.lcmp X6.here hx rfl (hb hby at_94) rfl ?_
    show Steps p.tables e below (T6.setTop (mkF m 95 #[.val (.int s0), .val (.long jb), .second, .val (.int sh), .val (.long byt), .second, .val (.ref ob4), .val (.long cc), .second, .val (.long mm), .second, .val (.long pp), .second] [(.int (XT.cmpL (byt - pp) ((1 : Int64) <<< (sh.toInt64 &&& 63))))])) _
    refine XS.ifNo X6.here hx rfl (hb hby at_95) rfl (XT.ll_gt_f hc4) ?_
    show Steps p.tables e below (T6.setTop (mkF m 98 #[.val (.int s0), .val (.long jb), .second, .val (.int sh), .val (.long byt), .second, .val (.ref ob4), .val (.long cc), .second, .val (.long mm), .second, .val (.long pp), .second] [])) _
    refine XT.iconstV X6.here hx rfl (1 : Int32) (hb hby at_98) rfl ?_
    show Steps p.tables e below (T6.setTop (mkF m 99 #[.val (.int s0), .val (.long jb), .second, .val (.int sh), .val (.long byt), .second, .val (.ref ob4), .val (.long cc), .second, .val (.long mm), .second, .val (.long pp), .second] [(.int (1 : Int32))])) _
    refine XS.goto X6.here hx rfl (pc0 := 99) (pc' := 103) rfl (hb hby at_99) (by decide) (by decide) ?_
    show Steps p.tables e below (T6.setTop (mkF m 103 #[.val (.int s0), .val (.long jb), .second, .val (.int sh), .val (.long byt), .second, .val (.ref ob4), .val (.long cc), .second, .val (.long mm), .second, .val (.long pp), .second] [(.int (1 : Int32))])) _
    exact retN X6 hx (t := .boolean) Bd.returns (by simp) (hb hby at_103) hr
  · show own_Q0 Z s0 jb h0 n0 _ T6.heap _
    exact ⟨rfl, N6⟩
set_option maxRecDepth 65536 in
set_option maxHeartbeats 40000000 in
theorem comes_1 {Post : Tables → Env → Array Value → State → Outcome → State → Prop} (hpost : ∀ tb e args s v u, (limb_1_1.after args s (.returned v) u = true ∧ limb_1_2.after args s (.returned v) u = true ∧ True) → FrameEnd s (.returned v) u (Jvm.fieldLocs frame_1_writes args s ++ Jvm.arrayLocs frame_1_arrays args s ++ Jvm.staticLocs frame_1_statics s) 16 128 → Post tb e args s (.returned v) u) :
    ArmFor flags0 classFile x code maxLocals ret World_1 tables_1 room_1 Calls_1 rest_1 Pre_1 Post := by
  intro l hfl _ _ p e ha hc hk s m args below hf hA hF happ hP
  obtain ⟨hcalls, hrest, hpre⟩ := hP
  obtain ⟨-, -, -, hnamed, -, -, -, hat⟩ := (Spec.applies_iff hf).mp happ
  obtain ⟨hg, hn⟩ := and_e (Cond.before_iff.mp (show (Jvm.Cond.and given_1 narrow_1).before args s = true from hpre))
  obtain ⟨gc, gr0⟩ := and_e hg
  obtain ⟨ga0, gr1⟩ := and_e gr0
  obtain ⟨w0, w1, rfl⟩ : ∃ w0 w1 : Value, args = #[w0, w1] := by
    have hs : args.size = 2 := by simpa [Cond.value, given_1] using gc
    obtain ⟨L⟩ := args
    match L, hs with
    | [w0, w1], _ => exact ⟨w0, w1, rfl⟩
  have hw := fun d (hd : d ∈ tables_1) => atoms_spec (ws := Jvm.Cond.code x code maxLocals ret :: tables_1) hat d (List.mem_cons_of_mem _ hd)
  obtain ⟨i0, ei0⟩ := is_v ga0
  obtain rfl : w0 = (.int i0) := Option.some.inj ei0
  obtain ⟨i1, ei1⟩ := isL_v gr1
  obtain rfl : w1 = (.long i1) := Option.some.inj ei1
  obtain ⟨n, o, h1, h2, h3, _, L, rfl, ⟨rfl, N⟩, hq⟩ := own_rm0 l s _ hw tables_1 i0 i1 s.heap s.heap.size (Nat.le_refl _) p e ha hc hk s m _ below hf ((Spec.applies_iff_loose hf).mp happ).1 ⟨rfl, State.Warmed39.refl s, rfl⟩ trivial
  refine ⟨n, _, h1, h2, h3, hpost _ _ _ _ _ _ ⟨Cond.after_iff.mpr rfl, Cond.after_iff.mpr (eq_i res_at (Term.int_eval (1)) rfl), trivial⟩ ⟨hq.1, hq.2.1, (hq.2.2.sift fun y hy => Or.inr (N y hy)).mono (by decide) (by decide)⟩⟩
theorem main_1_1 : Claimed_1_1 := comes_1 fun _ _ _ _ _ _ h hF => ⟨h.1, hF⟩
theorem main_1_2 : Claimed_1_2 := comes_1 fun _ _ _ _ _ _ h hF => ⟨h.2.1, hF⟩
end Jvm.Pilot.@@N@@
namespace Jvm.Pilot.@@N@@
open Jvm Jvm.ClassFile Sem Op Lib Jvm.Free Jvm.Stand Jvm.Pilot.@@N@@.Jvm.D
/-! MADE BY PROGRAM (witnessworld.py) out of the Statement's table words and the real class files: 9 classes; the members and pool entries that the words name. The judged class is class 1, her method 1. -/
namespace start1
open Jvm.ClassFile
def u (s : String) : CpInfo := .utf8 (stringToUtf16 s)
/-- a pool by its gaps: so many unusable entries, then the entry; so many at the end -/
def gap : Nat → List CpInfo → List CpInfo
  | 0, r => r
  | n + 1, r => .unusable :: gap n r
def poolList (es : List (Nat × CpInfo)) (last : Nat) : List CpInfo := es.foldr (fun e r => gap e.1 (e.2 :: r)) (gap last [])
def pool (es : List (Nat × CpInfo)) (last : Nat) : Array CpInfo := ⟨poolList es last⟩
def fileOf (pool : Array CpInfo) (this : Nat) (attrs : Array Attribute := #[]) (ms : Array MethodInfo := #[]) (fl : Nat := 33) (sup : Nat := 0) (ifs : Array Nat := #[]) (fds : Array FieldInfo := #[]) : ClassFile where
  minorVersion := 0
  majorVersion := 65
  constantPool := pool
  accessFlags := fl
  thisClass := this
  superClass := sup
  interfaces := ifs
  fields := fds
  methods := ms
  attributes := attrs
def plain (name : String) (sup : Option ClassId) : Class where
  name := name
  kind := .ordinary
  loader := none
  accessFlags := 33
  super := sup
  interfaces := #[]
  cf := none
  fields := #[]
  methods := #[]
  instanceTypes := #[]
  staticTypes := #[]
  resolved := #[]
  callSites := []
  init := .initialized
  statics := none
  mirror := none

def pool0 : Array CpInfo := pool [(5, u "<init>"), (0, u "()V"), (1, .class_ 10), (1, u "java/lang/Object")] 113

def k0c0 : Code := { maxStack := 0, maxLocals := 1, code := object_method_1_code, exceptionTable := #[], attributes := #[] }
def k0m0 : Method := { name := "<init>", desc := "()V", sig := { parameters := [], returnType := none }, accessFlags := 1, code := some k0c0 }
/-- java/lang/Object -/
def k0 : Class := { plain "java/lang/Object" none with
  accessFlags := 33
  interfaces := #[]
  cf := some (fileOf pool0 8 #[] #[{ accessFlags := 1, nameIndex := 5, descriptorIndex := 6, attributes := #[] }] 33 0 #[] #[])
  fields := #[]
  methods := #[k0m0]
  instanceTypes := #[]
  staticTypes := #[]
  resolved := Array.replicate 124 none
  statics := none }

def pool1 : Array CpInfo := pool [(2, .class_ 4), (1, u "java/lang/Object"), (0, u "<init>"), (0, u "()V"), (0, .integer 2147483647), (2, .long 9223372036854775807), (1, .class_ 13), (0, u "com/example/dejabloom/dejabloom/ChunkLayout"), (0, .methodref 12 15), (0, .nameAndType 5 16), (0, u "(IJ)V"), (0, .methodref 12 18), (0, .nameAndType 19 20), (0, u "count"), (0, u "()J"), (0, .class_ 22), (0, u "com/example/dejabloom/dejabloom/ChunkLayoutCountPinLaw"), (2, u "law"), (0, u "(IJ)Z")] 3

def k1m0 : Method := { name := "<init>", desc := "()V", sig := { parameters := [], returnType := none }, accessFlags := 1, code := none }
def k1c1 : Code := { maxStack := 5, maxLocals := 13, code := code, exceptionTable := #[], attributes := #[] }
def k1m1 : Method := { name := "law", desc := "(IJ)Z", sig := { parameters := [.int, .long], returnType := some .boolean }, accessFlags := 9, code := some k1c1 }
/-- com/example/dejabloom/dejabloom/ChunkLayoutCountPinLaw -/
def k1 : Class := { plain "com/example/dejabloom/dejabloom/ChunkLayoutCountPinLaw" (some 0) with
  accessFlags := 49
  interfaces := #[]
  cf := some (fileOf pool1 21 #[] #[{ accessFlags := 1, nameIndex := 5, descriptorIndex := 6, attributes := #[] }, { accessFlags := 9, nameIndex := 25, descriptorIndex := 26, attributes := #[] }] 49 2 #[] #[])
  fields := #[]
  methods := #[k1m0, k1m1]
  instanceTypes := #[]
  staticTypes := #[]
  resolved := Array.replicate 30 none
  statics := none }

def pool2 : Array CpInfo := pool [(1, .methodref 2 3), (0, .class_ 4), (0, .nameAndType 5 6), (0, u "java/lang/Object"), (0, u "<init>"), (0, u "()V"), (0, .fieldref 8 9), (0, .class_ 10), (0, .nameAndType 11 12), (0, u "com/example/dejabloom/dejabloom/ChunkLayout"), (0, u "shift"), (0, u "I"), (0, .fieldref 8 14), (0, .nameAndType 15 16), (0, u "bytes"), (0, u "J"), (27, .class_ 46), (1, u "com/example/dejabloom/dejabloom/ChunkLayout$Run"), (2, u "(IJ)V"), (2, u "()J"), (0, u "count")] 11

def k2c0 : Code := { maxStack := 3, maxLocals := 4, code := prog_4_method_1_code, exceptionTable := #[], attributes := #[] }
def k2m0 : Method := { name := "<init>", desc := "(IJ)V", sig := { parameters := [.int, .long], returnType := none }, accessFlags := 0, code := some k2c0 }
def k2c1 : Code := { maxStack := 4, maxLocals := 1, code := prog_4_method_3_code, exceptionTable := #[], attributes := #[] }
def k2m1 : Method := { name := "count", desc := "()J", sig := { parameters := [], returnType := some .long }, accessFlags := 0, code := some k2c1 }
/-- com/example/dejabloom/dejabloom/ChunkLayout -/
def k2 : Class := { plain "com/example/dejabloom/dejabloom/ChunkLayout" (some 0) with
  accessFlags := 48
  interfaces := #[]
  cf := some (fileOf pool2 8 #[.nestMembers #[44]] #[{ accessFlags := 0, nameIndex := 5, descriptorIndex := 49, attributes := #[] }, { accessFlags := 0, nameIndex := 53, descriptorIndex := 52, attributes := #[] }] 48 2 #[] #[{ accessFlags := 18, nameIndex := 11, descriptorIndex := 12, attributes := #[] }, { accessFlags := 18, nameIndex := 15, descriptorIndex := 16, attributes := #[] }])
  fields := #[{ name := "shift", type := .int, accessFlags := 18, slot := 0, constantValue := 0 }, { name := "bytes", type := .long, accessFlags := 18, slot := 1, constantValue := 0 }]
  methods := #[k2m0, k2m1]
  instanceTypes := #[.int, .long]
  staticTypes := #[]
  resolved := Array.replicate 65 none
  statics := none }

def pool3 : Array CpInfo := pool [(1, u "java/lang/Cloneable"), (0, .class_ 1), (0, u "java/lang/Object"), (0, .class_ 3)] 3

/-- java/lang/Cloneable -/
def k3 : Class := { plain "java/lang/Cloneable" (some 0) with
  accessFlags := 1537
  interfaces := #[]
  cf := some (fileOf pool3 2 #[] #[] 1537 4 #[] #[])
  fields := #[]
  methods := #[]
  instanceTypes := #[]
  staticTypes := #[]
  resolved := Array.replicate 8 none
  statics := none }

def pool4 : Array CpInfo := pool [(1, u "java/io/Serializable"), (0, .class_ 1), (0, u "java/lang/Object"), (0, .class_ 3)] 3

/-- java/io/Serializable -/
def k4 : Class := { plain "java/io/Serializable" (some 0) with
  accessFlags := 1537
  interfaces := #[]
  cf := some (fileOf pool4 2 #[] #[] 1537 4 #[] #[])
  fields := #[]
  methods := #[]
  instanceTypes := #[]
  staticTypes := #[]
  resolved := Array.replicate 8 none
  statics := none }

/-- the primitive byte -/
def k5 : Class := { plain "byte" none with kind := .primitive 'B', accessFlags := 0x411 }
/-- [B -/
def k6 : Class := { plain "[B" (some 0) with kind := .array 5 .byte, interfaces := #[3, 4], accessFlags := 1041 }

/-- the primitive int -/
def k7 : Class := { plain "int" none with kind := .primitive 'I', accessFlags := 0x411 }
/-- [I -/
def k8 : Class := { plain "[I" (some 0) with kind := .array 7 .int, interfaces := #[3, 4], accessFlags := 1041 }

def heap : Heap := #[]
def classes : Array Class := #[k0, k1, k2, k3, k4, k5, k6, k7, k8]
def interned : List (Array UInt16 × Addr) := []
def slotsUsed : Nat := 0
def theMethod : MethodId := ⟨1, 1⟩
def args0 : Array Value := #[.int 5, .long 5]
def aboutOver (below : List Frame) : State where
  vm := { classes := classes, interned := interned.toArray }
  heap := heap
  slotsUsed := slotsUsed
  threads := #[{ frames := .invoking theMethod args0 :: below }]
def below0 : List Frame := [.native { method := ⟨0, 0⟩, args := #[] }]
def about1 : State := aboutOver below0
def p0 : Program := .bare "" "" ""
def e0 : Env := launch0.env 0 0 0
theorem w_frames : about1.frames = Frame.invoking theMethod args0 :: below0 := rfl
set_option maxRecDepth 65536 in
theorem w_args : argsFit about1.vm theMethod args0 = true := by decide +kernel
set_option maxRecDepth 65536 in
theorem w_heap : heapFits about1 = true := by decide +kernel
set_option maxRecDepth 65536 in
theorem w_runnable : about1.curStatus? = some .runnable := by decide +kernel
set_option maxRecDepth 65536 in
theorem w_alone : about1.alone = true := by decide +kernel
set_option maxRecDepth 65536 in
theorem w_named : about1.methodNamed? x = some theMethod := by decide +kernel
set_option maxRecDepth 65536 in
theorem w_hears : about1.hears theMethod below0 = true := by decide +kernel
set_option maxRecDepth 65536 in
theorem w_ripe : about1.ripe theMethod args0 below0 = true := by decide +kernel
theorem w_running : about1.status = .running := rfl
set_option maxRecDepth 65536 in
theorem w_room : about1.hasRoom e0.platform room_1 = true :=
  launch0.hasRoom_least _ room_1 (by decide +kernel) (by decide +kernel) (by decide +kernel) (by decide +kernel) (by decide +kernel) (by decide +kernel)
theorem allAtoms_all (ts : List Jvm.Cond) (a : Array Jvm.Value) (st : Jvm.State) : (allAtoms ts).before a st = ts.all (fun c => c.before a st) := by
  induction ts with
  | nil => rfl
  | cons c t ih =>
    show (Jvm.Cond.and c (allAtoms t)).before a st = _
    rw [Jvm.Cond.before_and, ih, List.all_cons]
def words1 : List Jvm.Cond := Jvm.Cond.code x code maxLocals ret :: tables_1
/-- a 'code' word, met by the world's own term for the bytes: nothing is compared byte by byte -/
theorem code_word {y : MethodName} {bytes : ByteArray} {mx : Nat} {rt : Option FieldType} {a : Array Value} {s : State} {m : MethodId} {meth : Method} {c : Code} (h1 : s.methodNamed? y = some m) (h2 : s.vm.method? m = some meth) (h3 : meth.code = some c) (h4 : c.code = bytes)
    (h5 : (c.maxLocals == mx && c.exceptionTable.isEmpty && decide (c.maxStack ≤ mostOperands) && decide (meth.sig.returnType = rt) && !meth.locks && decide (parseMethodDescriptor y.desc = some meth.sig)) = true) : (Jvm.Cond.code y bytes mx rt).before a s = true := by
  simp only [Bool.and_eq_true, beq_iff_eq, Bool.not_eq_true', decide_eq_true_eq] at h5
  obtain ⟨⟨⟨⟨⟨g1, g2⟩, g3⟩, g4⟩, g5⟩, g6⟩ := h5
  simp [Cond.before, Cond.holds, Cond.value, h1, h2, h3, h4, g1, g2, g3, g4, g5, g6]
def isCode : Jvm.Cond → Bool
  | .code _ _ _ _ => true
  | _ => false
theorem all_split {L : List Jvm.Cond} {P : Jvm.Cond → Bool} (h1 : L.all (fun c => isCode c || P c) = true) (h2 : ∀ c ∈ L.filter isCode, P c = true) : L.all P = true := by
  refine List.all_eq_true.mpr fun c hc => ?_
  have h := List.all_eq_true.mp h1 c hc
  rcases Bool.eq_false_or_eq_true (isCode c) with hi | hi
  · exact h2 c (List.mem_filter.mpr ⟨hc, hi⟩)
  · simpa [hi] using h
set_option maxRecDepth 65536 in
theorem w_c0 : (Jvm.Cond.code x code maxLocals ret).before args0 about1 = true := code_word (m := ⟨1, 1⟩) (meth := k1m1) (c := k1c1) (by decide +kernel) rfl rfl rfl (by decide +kernel)
set_option maxRecDepth 65536 in
theorem w_c1 : (Jvm.Cond.code ({ cls := "com/example/dejabloom/dejabloom/ChunkLayout", name := "<init>", desc := "(IJ)V" } : Jvm.MethodName) prog_4_method_1_code (4 : Nat) (Option.none : Option Jvm.ClassFile.FieldType)).before args0 about1 = true := code_word (m := ⟨2, 0⟩) (meth := k2m0) (c := k2c0) (by decide +kernel) rfl rfl rfl (by decide +kernel)
set_option maxRecDepth 65536 in
theorem w_c2 : (Jvm.Cond.code ({ cls := "java/lang/Object", name := "<init>", desc := "()V" } : Jvm.MethodName) object_method_1_code (1 : Nat) (Option.none : Option Jvm.ClassFile.FieldType)).before args0 about1 = true := code_word (m := ⟨0, 0⟩) (meth := k0m0) (c := k0c0) (by decide +kernel) rfl rfl rfl (by decide +kernel)
set_option maxRecDepth 65536 in
theorem w_c3 : (Jvm.Cond.code ({ cls := "com/example/dejabloom/dejabloom/ChunkLayout", name := "count", desc := "()J" } : Jvm.MethodName) prog_4_method_3_code (1 : Nat) (Option.some Jvm.ClassFile.FieldType.long)).before args0 about1 = true := code_word (m := ⟨2, 1⟩) (meth := k2m1) (c := k2c1) (by decide +kernel) rfl rfl rfl (by decide +kernel)
def codes1 : List Jvm.Cond := [Jvm.Cond.code x code maxLocals ret, Jvm.Cond.code ({ cls := "com/example/dejabloom/dejabloom/ChunkLayout", name := "<init>", desc := "(IJ)V" } : Jvm.MethodName) prog_4_method_1_code (4 : Nat) (Option.none : Option Jvm.ClassFile.FieldType), Jvm.Cond.code ({ cls := "java/lang/Object", name := "<init>", desc := "()V" } : Jvm.MethodName) object_method_1_code (1 : Nat) (Option.none : Option Jvm.ClassFile.FieldType), Jvm.Cond.code ({ cls := "com/example/dejabloom/dejabloom/ChunkLayout", name := "count", desc := "()J" } : Jvm.MethodName) prog_4_method_3_code (1 : Nat) (Option.some Jvm.ClassFile.FieldType.long)]
set_option maxRecDepth 65536 in
theorem codes_eq : words1.filter isCode = codes1 := rfl
theorem w_codes : ∀ c ∈ words1.filter isCode, c.before args0 about1 = true := by
  rw [codes_eq]
  intro c hc
  simp only [codes1, List.mem_cons, List.not_mem_nil, or_false] at hc
  rcases hc with rfl | rfl | rfl | rfl
  · exact w_c0
  · exact w_c1
  · exact w_c2
  · exact w_c3
set_option maxRecDepth 65536 in
theorem w_t1 : words1.all (fun c => isCode c || c.before args0 about1) = true := by decide +kernel
theorem w_tables : (allAtoms (Jvm.Cond.code x code maxLocals ret :: tables_1)).before args0 about1 = true := by
  rw [allAtoms_all]
  show words1.all (fun c => c.before args0 about1) = true
  refine all_split ?_ w_codes
  rw [w_t1]
set_option maxRecDepth 65536 in
theorem w_case : (Jvm.Cond.and given_1 narrow_1).before args0 about1 = true := by decide +kernel
theorem w_applies : (headSpec (Jvm.Cond.code x code maxLocals ret :: tables_1) room_1).applies x e0.platform about1 = true :=
  (Spec.applies_iff w_frames).mpr ⟨w_running, w_runnable, w_alone, w_named, w_hears, w_ripe, w_room, w_tables⟩
theorem atStart : AtStart classFile x code maxLocals ret World_1 tables_1 room_1 Calls_1 rest_1 Pre_1 launch0 p0 e0 about1 theMethod args0 below0 :=
  ⟨lists_1, trivial, launch0.admits_env _ _ _, launch0.least_env, fairChoices_fair.cas, fairChoices_fair.clock, w_frames, w_args, w_heap, w_applies, trivial, trivial, w_case⟩
end start1
theorem witness_1 : WitnessClaimed_1 := ⟨start1.p0, start1.e0, start1.about1, start1.theMethod, start1.args0, start1.below0, start1.atStart⟩
end Jvm.Pilot.@@N@@
