import JvmDerived
import JvmDerived.Pilot.@@N@@Statement
import JvmDerived.Pilot.@@N@@Code
set_option linter.unusedVariables false
set_option linter.unusedSimpArgs false
namespace Jvm.Pilot.@@N@@
open Jvm Jvm.ClassFile Sem Op Lib Jvm.Free Jvm.Stand Jvm.LawKit Jvm.RoadKit Bundle Jvm.Pilot.@@N@@.Jvm.D
theorem own_pd0 : parseMethodDescriptor "()V" = some ⟨[], none⟩ := by decide +kernel
theorem own_pd1 : parseMethodDescriptor "(I)V" = some ⟨[.int], none⟩ := by decide +kernel
theorem own_pd2 : parseMethodDescriptor "()I" = some ⟨[], some .int⟩ := by decide +kernel
theorem own_and2 (n i : Nat) : n &&& 2 ^ i = if n.testBit i = true then 2 ^ i else 0 := by
  apply Nat.eq_of_testBit_eq; intro j
  rw [Nat.testBit_and, Nat.testBit_two_pow]
  by_cases hij : i = j
  · subst hij; cases h : n.testBit i <;> simp
  · cases h : n.testBit i <;> simp [hij, Nat.testBit_two_pow]
theorem own_bit (b m : Int32) (i : Nat) (hm : m.toBitVec.toNat = 2 ^ i) : (b &&& m = 0) ↔ b.toBitVec.toNat / 2 ^ i % 2 = 0 := by
  have e : (b &&& m).toBitVec.toNat = if b.toBitVec.toNat.testBit i = true then 2 ^ i else 0 := by
    show (b.toBitVec &&& m.toBitVec).toNat = _
    rw [BitVec.toNat_and, hm, own_and2]
  have hp := Nat.two_pow_pos i
  have ht := Nat.testBit_eq_decide_div_mod_eq (x := b.toBitVec.toNat) (i := i)
  have z0 : (0 : Int32).toBitVec.toNat = 0 := by decide
  constructor
  · intro h
    rw [h, z0] at e
    cases hb : b.toBitVec.toNat.testBit i with
    | true => rw [hb, if_pos rfl] at e; omega
    | false => rw [hb] at ht; have := of_decide_eq_false ht.symm; omega
  · intro h
    have hf : b.toBitVec.toNat.testBit i = false := by rw [ht]; exact decide_eq_false (by omega)
    rw [hf, if_neg (by decide)] at e
    apply Int32.toBitVec_inj.mp
    apply BitVec.eq_of_toNat_eq
    rw [e, z0]
theorem own_ush (b : Int32) : ((XT.ushr b (19 : Int32)) &&& (3 : Int32)).toBitVec.toNat = b.toBitVec.toNat / 2 ^ 19 % 4 := by
  show ((b.toBitVec >>> (((19 : Int32) &&& 31).toUInt32.toBitVec % 32#32)) &&& (3 : Int32).toBitVec).toNat = _
  rw [BitVec.toNat_and, BitVec.ushiftRight_eq', BitVec.toNat_ushiftRight, show (((19 : Int32) &&& 31).toUInt32.toBitVec % 32#32).toNat = 19 from by decide, show (3 : Int32).toBitVec.toNat = 2 ^ 2 - 1 from by decide, Nat.and_two_pow_sub_one_eq_mod, Nat.shiftRight_eq_div_pow]
theorem own_is (v w : Int32) : v = w ↔ v.toBitVec.toNat = w.toBitVec.toNat := ⟨fun h => by rw [h], fun h => Int32.toBitVec_inj.mp (BitVec.eq_of_toNat_eq h)⟩
def own_ver (b : Int32) : Int32 := if ((XT.ushr b (19 : Int32)) &&& (3 : Int32)) = (3 : Int32) then (1 : Int32) else if ((XT.ushr b (19 : Int32)) &&& (3 : Int32)) = (2 : Int32) then (2 : Int32) else (25 : Int32)
theorem own_ver25 (b : Int32) (h : b &&& (1048576 : Int32) = 0) : own_ver b = 25 := by
  rw [own_bit b (1048576 : Int32) 20 (by decide)] at h
  have h3 : ¬ ((XT.ushr b (19 : Int32)) &&& (3 : Int32)) = (3 : Int32) := by rw [own_is, own_ush, show (3 : Int32).toBitVec.toNat = 3 from by decide]; omega
  have h2 : ¬ ((XT.ushr b (19 : Int32)) &&& (3 : Int32)) = (2 : Int32) := by rw [own_is, own_ush, show (2 : Int32).toBitVec.toNat = 2 from by decide]; omega
  unfold own_ver; rw [if_neg h3, if_neg h2]
theorem own_ver2 (b : Int32) (h : ¬ b &&& (1048576 : Int32) = 0) (g : b &&& (524288 : Int32) = 0) : own_ver b = 2 := by
  rw [own_bit b (1048576 : Int32) 20 (by decide)] at h
  rw [own_bit b (524288 : Int32) 19 (by decide)] at g
  have h3 : ¬ ((XT.ushr b (19 : Int32)) &&& (3 : Int32)) = (3 : Int32) := by rw [own_is, own_ush, show (3 : Int32).toBitVec.toNat = 3 from by decide]; omega
  have h2 : ((XT.ushr b (19 : Int32)) &&& (3 : Int32)) = (2 : Int32) := by rw [own_is, own_ush, show (2 : Int32).toBitVec.toNat = 2 from by decide]; omega
  unfold own_ver; rw [if_neg h3, if_pos h2]
theorem own_ver1 (b : Int32) (h : ¬ b &&& (1048576 : Int32) = 0) (g : ¬ b &&& (524288 : Int32) = 0) : own_ver b = 1 := by
  rw [own_bit b (1048576 : Int32) 20 (by decide)] at h
  rw [own_bit b (524288 : Int32) 19 (by decide)] at g
  have h3 : ((XT.ushr b (19 : Int32)) &&& (3 : Int32)) = (3 : Int32) := by rw [own_is, own_ush, show (3 : Int32).toBitVec.toNat = 3 from by decide]; omega
  unfold own_ver; rw [if_pos h3]
theorem own_d2_0 : decode jdk_30_method_1_code 0 = .ok (.aload_n 0, 1) := by decide +kernel
theorem own_d2_1 : decode jdk_30_method_1_code 1 = .ok (.invokespecial 1, 3) := by decide +kernel
theorem own_d2_4 : decode jdk_30_method_1_code 4 = .ok (.return_, 1) := by decide +kernel
theorem own_pn2 : plainName "java/lang/Record" = true := by first | (simp [plainName, overriddenIn]; done) | decide +kernel
theorem own_ef2 (m : MethodId) (a : Addr) : entryFrame m #[(.ref a)] 1 = mkF m 0 #[.val (.ref a)] [] := by first | (simp [entryFrame, mkF, argsToLocals, Value.category]; done) | rfl
def own_Q2 (Z : State) (a : Addr) (h0 : Heap) (n0 : Nat) (v : Option Value) (h : Heap) (L : List Loc) : Prop := (v = none) ∧ (Fr n0 L) ∧ (h = h0)
set_option maxRecDepth 65536 in
set_option maxHeartbeats 40000000 in
theorem own_rm2 (l : Launch) (Z : State) (a0 : Array Value) (hw : ∀ d ∈ tables_1, d.before a0 Z = true) (ws : List Jvm.Cond) (a : Addr) (h0 : Heap) (n0 : Nat) (Z0 : n0 ≤ h0.size)  :
    MetFree l (⟨"java/lang/Record", "<init>", "()V"⟩ : MethodName) (head1 (Jvm.Cond.code (⟨"java/lang/Record", "<init>", "()V"⟩ : MethodName) jdk_30_method_1_code 1 none :: ws) ({ frames := 1, cells := 0, slots := 0, locals := 12 } : Room)) (fun ar_ U_ => ar_ = #[(.ref a)] ∧ Z.Warmed39 U_.vm ∧ U_.heap = h0) (fun _ _ _ _ _ => True) (fun _ U_ o_ U_' => ∃ v_ L_, o_ = .returned v_ ∧ own_Q2 Z a h0 n0 v_ U_'.heap L_ ∧ FrameEnd U_ o_ U_' L_ ({ frames := 1, cells := 0, slots := 0, locals := 12 } : Room).cells ({ frames := 1, cells := 0, slots := 0, locals := 12 } : Room).slots) := by
  refine MetFree.of_bodySF (plainFor_of_name own_pn2) hisR ?_
  intro p e s m args below meth c s₁ Bd hml0 hP hK
  obtain ⟨rfl, hZ, hh⟩ := hP
  have hx := Bd.exec
  have hby := Bd.bytes
  have hml : c.maxLocals = 1 := hml0
  have hown : s.vm.findClass "java/lang/Record" = some m.cls := findClass_of_methodNamed Bd.named
  have hnm := (name_of_methodNamed Bd.named Bd.method).1
  have X0 : Stand p l e ({ frames := 1, cells := 0, slots := 0, locals := 12 } : Room) s m #[(.ref a)] below meth c s₁ [] 0 0 := Stand.of_body Bd
  have e0 : s₁.heap = h0 := by rw [← hh, Bd.state]; rfl
  have N0 := Fr.nil n0
  have pre0 : ∀ t, Steps p.tables e below (s₁.setTop (mkF m 0 #[.val (.ref a)] [])) t → Steps p.tables e below (s₁.setTop (entryFrame m #[(.ref a)] 1)) t := fun t k => castTop (own_ef2 m a) k
  obtain ⟨T1, X1, e1, st1⟩ := initO X0 hx hZ hown (hw _ (List.mem_of_getElem? (i := 14) rfl)) (hw _ (List.mem_of_getElem? (i := 15) rfl)) (hw _ (List.mem_of_getElem? (i := 16) rfl)) e0 (g := (mkF m 1 #[.val (.ref a)] [(.ref a)])) rfl (by rw [hml]; rfl) rfl (hb hby own_d2_1) (by decide) (W := 0) (by show 2 * 0 + _ ≤ _; exact Nat.le_of_eq rfl) (by decide)
  obtain ⟨fs, hr, hrun, hended, hW, hsame⟩ := X1.leave (v := none) (fun _ => rfl)
  refine ⟨_, _, pre0 _ ?_, hrun, hended, _, _, rfl, ?_, ⟨_, rfl⟩, hW, hsame.mono (by decide) (by decide)⟩
  · show Steps p.tables e below (s₁.setTop (mkF m 0 #[.val (.ref a)] [])) _
    refine XS.aloadN X0.here hx rfl (hb hby own_d2_0) rfl rfl ?_
    show Steps p.tables e below (s₁.setTop (mkF m 1 #[.val (.ref a)] [(.ref a)])) _
    refine st1 _ ?_
    show Steps p.tables e below (T1.setTop (mkF m 4 #[.val (.ref a)] [])) _
    exact X1.returnOut hx Bd.returns (hb hby own_d2_4) hr
  · show own_Q2 Z a h0 n0 _ T1.heap _
    exact ⟨rfl, N0, e1⟩
theorem own_d1_0 : decode prog_49_method_1_code 0 = .ok (.aload_n 0, 1) := by decide +kernel
theorem own_d1_1 : decode prog_49_method_1_code 1 = .ok (.invokespecial 3, 3) := by decide +kernel
theorem own_d1_4 : decode prog_49_method_1_code 4 = .ok (.aload_n 0, 1) := by decide +kernel
theorem own_d1_5 : decode prog_49_method_1_code 5 = .ok (.iload_n 1, 1) := by decide +kernel
theorem own_d1_6 : decode prog_49_method_1_code 6 = .ok (.putfield 9, 3) := by decide +kernel
theorem own_d1_9 : decode prog_49_method_1_code 9 = .ok (.return_, 1) := by decide +kernel
theorem own_pn1 : plainName "com/example/plainsong/plainsong/Mp3Frames$Header" = true := by first | (simp [plainName, overriddenIn]; done) | decide +kernel
theorem own_ef1 (m : MethodId) (a1 : Addr) (i1 : Int32) : entryFrame m #[(.ref a1), (.int i1)] 2 = mkF m 0 #[.val (.ref a1), .val (.int i1)] [] := by first | (simp [entryFrame, mkF, argsToLocals, Value.category]; done) | rfl
def own_Q1 (Z : State) (a1 : Addr) (i1 : Int32) (u_bits : Value) (h0 : Heap) (n0 : Nat) (v : Option Value) (h : Heap) (L : List Loc) : Prop := (v = none) ∧ (Fr n0 L) ∧ (Keep h0 h [a1]) ∧ (Exa Z h a1 "com/example/plainsong/plainsong/Mp3Frames$Header") ∧ (Fld Z h a1 "com/example/plainsong/plainsong/Mp3Frames$Header" "bits" "I" (.int i1))
set_option maxRecDepth 65536 in
set_option maxHeartbeats 40000000 in
theorem own_rm1 (l : Launch) (Z : State) (a0 : Array Value) (hw : ∀ d ∈ tables_1, d.before a0 Z = true) (ws : List Jvm.Cond) (a1 : Addr) (i1 : Int32) (u_bits : Value) (h0 : Heap) (n0 : Nat) (Z0 : n0 ≤ h0.size) (P_E_a1 : Exa Z h0 a1 "com/example/plainsong/plainsong/Mp3Frames$Header") (P_F_a1_bits : Fld Z h0 a1 "com/example/plainsong/plainsong/Mp3Frames$Header" "bits" "I" u_bits) (g_a1 : n0 ≤ a1) :
    MetFree l (⟨"com/example/plainsong/plainsong/Mp3Frames$Header", "<init>", "(I)V"⟩ : MethodName) (head1 (Jvm.Cond.code (⟨"com/example/plainsong/plainsong/Mp3Frames$Header", "<init>", "(I)V"⟩ : MethodName) prog_49_method_1_code 2 none :: ws) ({ frames := 2, cells := 0, slots := 0, locals := 24 } : Room)) (fun ar_ U_ => ar_ = #[(.ref a1), (.int i1)] ∧ Z.Warmed39 U_.vm ∧ U_.heap = h0) (fun _ _ _ _ _ => True) (fun _ U_ o_ U_' => ∃ v_ L_, o_ = .returned v_ ∧ own_Q1 Z a1 i1 u_bits h0 n0 v_ U_'.heap L_ ∧ FrameEnd U_ o_ U_' L_ ({ frames := 2, cells := 0, slots := 0, locals := 24 } : Room).cells ({ frames := 2, cells := 0, slots := 0, locals := 24 } : Room).slots) := by
  refine MetFree.of_bodySF (plainFor_of_name own_pn1) hisR ?_
  intro p e s m args below meth c s₁ Bd hml0 hP hK
  obtain ⟨rfl, hZ, hh⟩ := hP
  have hx := Bd.exec
  have hby := Bd.bytes
  have hml : c.maxLocals = 2 := hml0
  have hown : s.vm.findClass "com/example/plainsong/plainsong/Mp3Frames$Header" = some m.cls := findClass_of_methodNamed Bd.named
  have hnm := (name_of_methodNamed Bd.named Bd.method).1
  have X0 : Stand p l e ({ frames := 2, cells := 0, slots := 0, locals := 24 } : Room) s m #[(.ref a1), (.int i1)] below meth c s₁ [] 0 0 := Stand.of_body Bd
  have e0 : s₁.heap = h0 := by rw [← hh, Bd.state]; rfl
  have N0 := Fr.nil n0
  have pre0 : ∀ t, Steps p.tables e below (s₁.setTop (mkF m 0 #[.val (.ref a1), .val (.int i1)] [])) t → Steps p.tables e below (s₁.setTop (entryFrame m #[(.ref a1), (.int i1)] 2)) t := fun t k => castTop (own_ef1 m a1 i1) k
  obtain ⟨_, _, ⟨T1, tL1, tk1, tn1⟩, -, X1, ⟨Lc1, hQ1, tl1, ty1, tz1⟩, st1⟩ := X0.specialBack hx (y := (⟨"java/lang/Record", "<init>", "()V"⟩ : MethodName)) rfl hown (mvT hZ (hw _ (List.mem_of_getElem? (i := 9) rfl))) (mvT hZ (hw _ (List.mem_of_getElem? (i := 10) rfl))) (mvT hZ (hw _ (List.mem_of_getElem? (i := 13) rfl))) (by decide) (backOf (W := 0) (own_rm2 l Z a0 hw [] a1 h0 n0 Z0 ) hZ (hw _ (List.mem_of_getElem? (i := 13) rfl)) (hw _ (List.mem_of_getElem? (i := 12) rfl)) (by decide) (by decide)) (g := (mkF m 1 #[.val (.ref a1), .val (.int i1)] [(.ref a1)])) rfl (by rw [hml]; rfl) (Steps.refl _) (a := a1) (argsL := []) (rest := []) (lenOf own_pd0 rfl) rfl (by show 2 * 0 + _ ≤ _; exact Nat.le_of_eq rfl) (hb hby own_d1_1) (fun _ _ => ⟨rfl, e0, (by decide : 0 + 0 ≤ _), (by decide : 0 + 0 ≤ _)⟩)
  dsimp only [Pt.U, Pt.locs, Pt.cells, Pt.slots] at X1 tl1 ty1 tz1 st1 hQ1
  rw [tl1, ty1, tz1] at X1
  obtain ⟨rfl, Nq1, K1⟩ := hQ1
  have N1 := Fr.app N0 Nq1
  obtain ⟨T2, h2, X2, e2, W2, st2⟩ := putF X1 hx hZ hown (host := "") (Or.inl (hw _ (List.mem_of_getElem? (i := 17) rfl))) Via.refl K1 P_F_a1_bits P_E_a1 (Or.inr ⟨(hw _ (List.mem_of_getElem? (i := 18) rfl)), rfl, hnm⟩) (hw _ (List.mem_of_getElem? (i := 4) rfl)) (ty := .int) (by decide) rfl rfl (g := (mkF m 6 #[.val (.ref a1), .val (.int i1)] [(.int i1), (.ref a1)])) rfl rfl (hb hby own_d1_6)
  have Fw2 : Fld Z h2 a1 "com/example/plainsong/plainsong/Mp3Frames$Header" "bits" "I" (.int i1) := Fld.same W2 P_F_a1_bits
  have K2 : Keep h0 h2 [a1] := (Keep.refl h0 [a1]).wr W2 (Or.inl (List.mem_of_getElem? (i := 0) rfl))
  have N2 := Fr.snoc X2 N1 g_a1
  obtain ⟨fs, hr, hrun, hended, hW, hsame⟩ := X2.leave (v := none) (fun _ => rfl)
  refine ⟨_, _, pre0 _ ?_, hrun, hended, _, _, rfl, ?_, ⟨_, rfl⟩, hW, hsame.mono (by decide) (by decide)⟩
  · show Steps p.tables e below (s₁.setTop (mkF m 0 #[.val (.ref a1), .val (.int i1)] [])) _
    refine XS.aloadN X0.here hx rfl (hb hby own_d1_0) rfl rfl ?_
    show Steps p.tables e below (s₁.setTop (mkF m 1 #[.val (.ref a1), .val (.int i1)] [(.ref a1)])) _
    refine st1.trans ?_
    show Steps p.tables e below (T1.setTop (mkF m 4 #[.val (.ref a1), .val (.int i1)] [])) _
    refine XS.aloadN X1.here hx rfl (hb hby own_d1_4) rfl rfl ?_
    show Steps p.tables e below (T1.setTop (mkF m 5 #[.val (.ref a1), .val (.int i1)] [(.ref a1)])) _
    refine XS.iloadN X1.here hx rfl (hb hby own_d1_5) rfl ?_
    show Steps p.tables e below (T1.setTop (mkF m 6 #[.val (.ref a1), .val (.int i1)] [(.int i1), (.ref a1)])) _
    refine st2 _ ?_
    show Steps p.tables e below (T2.setTop (mkF m 9 #[.val (.ref a1), .val (.int i1)] [])) _
    exact X2.returnOut hx Bd.returns (hb hby own_d1_9) hr
  · show own_Q1 Z a1 i1 u_bits h0 n0 _ T2.heap _
    rw [e2]
    have FE_a1_3 : Exa Z h2 a1 "com/example/plainsong/plainsong/Mp3Frames$Header" := (P_E_a1.wr W2)
    exact ⟨rfl, N2, K2, FE_a1_3, Fw2⟩
theorem own_d4_0 : decode prog_49_method_3_code 0 = .ok (.aload_n 0, 1) := by decide +kernel
theorem own_d4_1 : decode prog_49_method_3_code 1 = .ok (.getfield 9, 3) := by decide +kernel
theorem own_d4_4 : decode prog_49_method_3_code 4 = .ok (.bipush 19, 2) := by decide +kernel
theorem own_d4_6 : decode prog_49_method_3_code 6 = .ok (.iushr, 1) := by decide +kernel
theorem own_d4_7 : decode prog_49_method_3_code 7 = .ok (.iconst 3, 1) := by decide +kernel
theorem own_d4_8 : decode prog_49_method_3_code 8 = .ok (.iand, 1) := by decide +kernel
theorem own_d4_9 : decode prog_49_method_3_code 9 = .ok (.istore_n 1, 1) := by decide +kernel
theorem own_d4_10 : decode prog_49_method_3_code 10 = .ok (.iload_n 1, 1) := by decide +kernel
theorem own_d4_11 : decode prog_49_method_3_code 11 = .ok (.iconst 3, 1) := by decide +kernel
theorem own_d4_12 : decode prog_49_method_3_code 12 = .ok (.if_icmp .ne 7, 3) := by decide +kernel
theorem own_d4_15 : decode prog_49_method_3_code 15 = .ok (.iconst 1, 1) := by decide +kernel
theorem own_d4_16 : decode prog_49_method_3_code 16 = .ok (.goto 14, 3) := by decide +kernel
theorem own_d4_19 : decode prog_49_method_3_code 19 = .ok (.iload_n 1, 1) := by decide +kernel
theorem own_d4_20 : decode prog_49_method_3_code 20 = .ok (.iconst 2, 1) := by decide +kernel
theorem own_d4_21 : decode prog_49_method_3_code 21 = .ok (.if_icmp .ne 7, 3) := by decide +kernel
theorem own_d4_24 : decode prog_49_method_3_code 24 = .ok (.iconst 2, 1) := by decide +kernel
theorem own_d4_25 : decode prog_49_method_3_code 25 = .ok (.goto 5, 3) := by decide +kernel
theorem own_d4_28 : decode prog_49_method_3_code 28 = .ok (.bipush 25, 2) := by decide +kernel
theorem own_d4_30 : decode prog_49_method_3_code 30 = .ok (.ireturn, 1) := by decide +kernel
theorem own_pn4 : plainName "com/example/plainsong/plainsong/Mp3Frames$Header" = true := by first | (simp [plainName, overriddenIn]; done) | decide +kernel
theorem own_ef4 (m : MethodId) (a1 : Addr) : entryFrame m #[(.ref a1)] 2 = mkF m 0 #[.val (.ref a1), .unset] [] := by first | (simp [entryFrame, mkF, argsToLocals, Value.category]; done) | rfl
def own_Q4 (Z : State) (a1 : Addr) (w : Int32) (h0 : Heap) (n0 : Nat) (v : Option Value) (h : Heap) (L : List Loc) : Prop := (v = some (.int (own_ver w))) ∧ (Fr n0 L) ∧ (h = h0)
set_option maxRecDepth 65536 in
set_option maxHeartbeats 40000000 in
theorem own_rm4 (l : Launch) (Z : State) (a0 : Array Value) (hw : ∀ d ∈ tables_1, d.before a0 Z = true) (ws : List Jvm.Cond) (a1 : Addr) (w : Int32) (h0 : Heap) (n0 : Nat) (Z0 : n0 ≤ h0.size) (P_E_a1 : Exa Z h0 a1 "com/example/plainsong/plainsong/Mp3Frames$Header") (P_F_a1_bits : Fld Z h0 a1 "com/example/plainsong/plainsong/Mp3Frames$Header" "bits" "I" (.int w)) :
    MetFree l (⟨"com/example/plainsong/plainsong/Mp3Frames$Header", "version", "()I"⟩ : MethodName) (head1 (Jvm.Cond.code (⟨"com/example/plainsong/plainsong/Mp3Frames$Header", "version", "()I"⟩ : MethodName) prog_49_method_3_code 2 (some .int) :: ws) ({ frames := 0, cells := 0, slots := 0, locals := 0 } : Room)) (fun ar_ U_ => ar_ = #[(.ref a1)] ∧ Z.Warmed39 U_.vm ∧ U_.heap = h0) (fun _ _ _ _ _ => True) (fun _ U_ o_ U_' => ∃ v_ L_, o_ = .returned v_ ∧ own_Q4 Z a1 w h0 n0 v_ U_'.heap L_ ∧ FrameEnd U_ o_ U_' L_ ({ frames := 0, cells := 0, slots := 0, locals := 0 } : Room).cells ({ frames := 0, cells := 0, slots := 0, locals := 0 } : Room).slots) := by
  refine MetFree.of_bodySF (plainFor_of_name own_pn4) hisR ?_
  intro p e s m args below meth c s₁ Bd hml0 hP hK
  obtain ⟨rfl, hZ, hh⟩ := hP
  have hx := Bd.exec
  have hby := Bd.bytes
  have hml : c.maxLocals = 2 := hml0
  have hown : s.vm.findClass "com/example/plainsong/plainsong/Mp3Frames$Header" = some m.cls := findClass_of_methodNamed Bd.named
  have hnm := (name_of_methodNamed Bd.named Bd.method).1
  have X0 : Stand p l e ({ frames := 0, cells := 0, slots := 0, locals := 0 } : Room) s m #[(.ref a1)] below meth c s₁ [] 0 0 := Stand.of_body Bd
  have e0 : s₁.heap = h0 := by rw [← hh, Bd.state]; rfl
  have N0 := Fr.nil n0
  have pre0 : ∀ t, Steps p.tables e below (s₁.setTop (mkF m 0 #[.val (.ref a1), .unset] [])) t → Steps p.tables e below (s₁.setTop (entryFrame m #[(.ref a1)] 2)) t := fun t k => castTop (own_ef4 m a1) k
  obtain ⟨T1, X1, e1, st1⟩ := getF X0 hx hZ hown (host := "") (Or.inl (hw _ (List.mem_of_getElem? (i := 17) rfl))) Via.refl e0 P_F_a1_bits (g := (mkF m 1 #[.val (.ref a1), .unset] [(.ref a1)])) rfl rfl (hb hby own_d4_1)
  have pre2 : ∀ t, Steps p.tables e below (T1.setTop (mkF m 12 #[.val (.ref a1), .val (.int ((XT.ushr w (19 : Int32)) &&& (3 : Int32)))] [(.int (3 : Int32)), (.int ((XT.ushr w (19 : Int32)) &&& (3 : Int32)))])) t → Steps p.tables e below (s₁.setTop (entryFrame m #[(.ref a1)] 2)) t := fun t k => pre0 t (by
    show Steps p.tables e below (s₁.setTop (mkF m 0 #[.val (.ref a1), .unset] [])) _
    refine XS.aloadN X0.here hx rfl (hb hby own_d4_0) rfl rfl ?_
    show Steps p.tables e below (s₁.setTop (mkF m 1 #[.val (.ref a1), .unset] [(.ref a1)])) _
    refine st1 _ ?_
    show Steps p.tables e below (T1.setTop (mkF m 4 #[.val (.ref a1), .unset] [(.int w)])) _
    refine XT.bipushV X1.here hx rfl (19 : Int32) (hb hby own_d4_4) rfl ?_
    show Steps p.tables e below (T1.setTop (mkF m 6 #[.val (.ref a1), .unset] [(.int (19 : Int32)), (.int w)])) _
    refine XT.iushr X1.here hx rfl (hb hby own_d4_6) rfl ?_
    show Steps p.tables e below (T1.setTop (mkF m 7 #[.val (.ref a1), .unset] [(.int (XT.ushr w (19 : Int32)))])) _
    refine XT.iconstV X1.here hx rfl (3 : Int32) (hb hby own_d4_7) rfl ?_
    show Steps p.tables e below (T1.setTop (mkF m 8 #[.val (.ref a1), .unset] [(.int (3 : Int32)), (.int (XT.ushr w (19 : Int32)))])) _
    refine XS.iand X1.here hx rfl (hb hby own_d4_8) rfl ?_
    show Steps p.tables e below (T1.setTop (mkF m 9 #[.val (.ref a1), .unset] [(.int ((XT.ushr w (19 : Int32)) &&& (3 : Int32)))])) _
    refine XS.istoreN X1.here hx rfl (hb hby own_d4_9) rfl (l' := #[.val (.ref a1), .val (.int ((XT.ushr w (19 : Int32)) &&& (3 : Int32)))]) rfl ?_
    show Steps p.tables e below (T1.setTop (mkF m 10 #[.val (.ref a1), .val (.int ((XT.ushr w (19 : Int32)) &&& (3 : Int32)))] [])) _
    refine XS.iloadN X1.here hx rfl (hb hby own_d4_10) rfl ?_
    show Steps p.tables e below (T1.setTop (mkF m 11 #[.val (.ref a1), .val (.int ((XT.ushr w (19 : Int32)) &&& (3 : Int32)))] [(.int ((XT.ushr w (19 : Int32)) &&& (3 : Int32)))])) _
    refine XT.iconstV X1.here hx rfl (3 : Int32) (hb hby own_d4_11) rfl ?_
    exact k)
  by_cases h12 : ((XT.ushr w (19 : Int32)) &&& (3 : Int32)) = (3 : Int32)
  · obtain ⟨fs, hr, hrun, hended, hW, hsame⟩ := X1.leave (v := some (.int (1 : Int32))) (fun h => by rw [Bd.returns] at h; cases h)
    refine ⟨_, _, pre2 _ ?_, hrun, hended, _, _, rfl, ?_, ⟨_, rfl⟩, hW, hsame.mono (by decide) (by decide)⟩
    · show Steps p.tables e below (T1.setTop (mkF m 12 #[.val (.ref a1), .val (.int ((XT.ushr w (19 : Int32)) &&& (3 : Int32)))] [(.int (3 : Int32)), (.int ((XT.ushr w (19 : Int32)) &&& (3 : Int32)))])) _
      refine XS.icmpNo X1.here hx rfl (hb hby own_d4_12) rfl (XT.ii_ne_f h12) ?_
      show Steps p.tables e below (T1.setTop (mkF m 15 #[.val (.ref a1), .val (.int ((XT.ushr w (19 : Int32)) &&& (3 : Int32)))] [])) _
      refine XT.iconstV X1.here hx rfl (1 : Int32) (hb hby own_d4_15) rfl ?_
      show Steps p.tables e below (T1.setTop (mkF m 16 #[.val (.ref a1), .val (.int ((XT.ushr w (19 : Int32)) &&& (3 : Int32)))] [(.int (1 : Int32))])) _
      refine XS.goto X1.here hx rfl (pc0 := 16) (pc' := 30) rfl (hb hby own_d4_16) (by decide) (by decide) ?_
      show Steps p.tables e below (T1.setTop (mkF m 30 #[.val (.ref a1), .val (.int ((XT.ushr w (19 : Int32)) &&& (3 : Int32)))] [(.int (1 : Int32))])) _
      exact retOut X1 hx (t := .int) Bd.returns rfl (Or.inl ⟨rfl, Or.inl rfl, _, rfl⟩) (hb hby own_d4_30) hr
    · show own_Q4 Z a1 w h0 n0 _ T1.heap _
      exact ⟨by unfold own_ver; rw [if_pos h12], N0, e1⟩
  · have pre3 : ∀ t, Steps p.tables e below (T1.setTop (mkF m 21 #[.val (.ref a1), .val (.int ((XT.ushr w (19 : Int32)) &&& (3 : Int32)))] [(.int (2 : Int32)), (.int ((XT.ushr w (19 : Int32)) &&& (3 : Int32)))])) t → Steps p.tables e below (s₁.setTop (entryFrame m #[(.ref a1)] 2)) t := fun t k => pre2 t (by
      show Steps p.tables e below (T1.setTop (mkF m 12 #[.val (.ref a1), .val (.int ((XT.ushr w (19 : Int32)) &&& (3 : Int32)))] [(.int (3 : Int32)), (.int ((XT.ushr w (19 : Int32)) &&& (3 : Int32)))])) _
      refine XS.icmpYes X1.here hx rfl (pc0 := 12) (pc' := 19) rfl (hb hby own_d4_12) rfl (XT.ii_ne_t h12) (by decide) (by decide) ?_
      show Steps p.tables e below (T1.setTop (mkF m 19 #[.val (.ref a1), .val (.int ((XT.ushr w (19 : Int32)) &&& (3 : Int32)))] [])) _
      refine XS.iloadN X1.here hx rfl (hb hby own_d4_19) rfl ?_
      show Steps p.tables e below (T1.setTop (mkF m 20 #[.val (.ref a1), .val (.int ((XT.ushr w (19 : Int32)) &&& (3 : Int32)))] [(.int ((XT.ushr w (19 : Int32)) &&& (3 : Int32)))])) _
      refine XT.iconstV X1.here hx rfl (2 : Int32) (hb hby own_d4_20) rfl ?_
      exact k)
    by_cases h21 : ((XT.ushr w (19 : Int32)) &&& (3 : Int32)) = (2 : Int32)
    · obtain ⟨fs, hr, hrun, hended, hW, hsame⟩ := X1.leave (v := some (.int (2 : Int32))) (fun h => by rw [Bd.returns] at h; cases h)
      refine ⟨_, _, pre3 _ ?_, hrun, hended, _, _, rfl, ?_, ⟨_, rfl⟩, hW, hsame.mono (by decide) (by decide)⟩
      · show Steps p.tables e below (T1.setTop (mkF m 21 #[.val (.ref a1), .val (.int ((XT.ushr w (19 : Int32)) &&& (3 : Int32)))] [(.int (2 : Int32)), (.int ((XT.ushr w (19 : Int32)) &&& (3 : Int32)))])) _
        refine XS.icmpNo X1.here hx rfl (hb hby own_d4_21) rfl (XT.ii_ne_f h21) ?_
        show Steps p.tables e below (T1.setTop (mkF m 24 #[.val (.ref a1), .val (.int ((XT.ushr w (19 : Int32)) &&& (3 : Int32)))] [])) _
        refine XT.iconstV X1.here hx rfl (2 : Int32) (hb hby own_d4_24) rfl ?_
        show Steps p.tables e below (T1.setTop (mkF m 25 #[.val (.ref a1), .val (.int ((XT.ushr w (19 : Int32)) &&& (3 : Int32)))] [(.int (2 : Int32))])) _
        refine XS.goto X1.here hx rfl (pc0 := 25) (pc' := 30) rfl (hb hby own_d4_25) (by decide) (by decide) ?_
        show Steps p.tables e below (T1.setTop (mkF m 30 #[.val (.ref a1), .val (.int ((XT.ushr w (19 : Int32)) &&& (3 : Int32)))] [(.int (2 : Int32))])) _
        exact retOut X1 hx (t := .int) Bd.returns rfl (Or.inl ⟨rfl, Or.inl rfl, _, rfl⟩) (hb hby own_d4_30) hr
      · show own_Q4 Z a1 w h0 n0 _ T1.heap _
        exact ⟨by unfold own_ver; rw [if_neg h12, if_pos h21], N0, e1⟩
    · obtain ⟨fs, hr, hrun, hended, hW, hsame⟩ := X1.leave (v := some (.int (25 : Int32))) (fun h => by rw [Bd.returns] at h; cases h)
      refine ⟨_, _, pre3 _ ?_, hrun, hended, _, _, rfl, ?_, ⟨_, rfl⟩, hW, hsame.mono (by decide) (by decide)⟩
      · show Steps p.tables e below (T1.setTop (mkF m 21 #[.val (.ref a1), .val (.int ((XT.ushr w (19 : Int32)) &&& (3 : Int32)))] [(.int (2 : Int32)), (.int ((XT.ushr w (19 : Int32)) &&& (3 : Int32)))])) _
        refine XS.icmpYes X1.here hx rfl (pc0 := 21) (pc' := 28) rfl (hb hby own_d4_21) rfl (XT.ii_ne_t h21) (by decide) (by decide) ?_
        show Steps p.tables e below (T1.setTop (mkF m 28 #[.val (.ref a1), .val (.int ((XT.ushr w (19 : Int32)) &&& (3 : Int32)))] [])) _
        refine XT.bipushV X1.here hx rfl (25 : Int32) (hb hby own_d4_28) rfl ?_
        show Steps p.tables e below (T1.setTop (mkF m 30 #[.val (.ref a1), .val (.int ((XT.ushr w (19 : Int32)) &&& (3 : Int32)))] [(.int (25 : Int32))])) _
        exact retOut X1 hx (t := .int) Bd.returns rfl (Or.inl ⟨rfl, Or.inl rfl, _, rfl⟩) (hb hby own_d4_30) hr
      · show own_Q4 Z a1 w h0 n0 _ T1.heap _
        exact ⟨by unfold own_ver; rw [if_neg h12, if_neg h21], N0, e1⟩
theorem own_pn0 : plainName "com/example/plainsong/plainsong/HeaderVersionPinLaw" = true := by first | (simp [plainName, overriddenIn]; done) | decide +kernel
theorem own_ef0 (m : MethodId) (ix0 : Int32) : entryFrame m #[(.int ix0)] maxLocals = mkF m 0 #[.val (.int ix0), .unset, .unset, .unset, .unset] [] := by first | (simp [entryFrame, mkF, argsToLocals, Value.category, maxLocals]; done) | rfl
def own_Q0 (Z : State) (ix0 : Int32) (h0 : Heap) (n0 : Nat) (v : Option Value) (h : Heap) (L : List Loc) : Prop := (v = some (.int (1 : Int32))) ∧ (Fr n0 L)
set_option maxRecDepth 65536 in
set_option maxHeartbeats 40000000 in
theorem own_rm0 (l : Launch) (Z : State) (a0 : Array Value) (hw : ∀ d ∈ tables_1, d.before a0 Z = true) (ws : List Jvm.Cond) (ix0 : Int32) (h0 : Heap) (n0 : Nat) (Z0 : n0 ≤ h0.size)  :
    MetFree l x (head1 (Jvm.Cond.code x code maxLocals ret :: ws) room_1) (fun ar_ U_ => ar_ = #[(.int ix0)] ∧ Z.Warmed39 U_.vm ∧ U_.heap = h0) (fun _ _ _ _ _ => True) (fun _ U_ o_ U_' => ∃ v_ L_, o_ = .returned v_ ∧ own_Q0 Z ix0 h0 n0 v_ U_'.heap L_ ∧ FrameEnd U_ o_ U_' L_ room_1.cells room_1.slots) := by
  refine MetFree.of_bodySF (plainFor_of_name own_pn0) hisR ?_
  intro p e s m args below meth c s₁ Bd hml0 hP hK
  obtain ⟨rfl, hZ, hh⟩ := hP
  have hx := Bd.exec
  have hby := Bd.bytes
  have hml : c.maxLocals = 5 := hml0
  have hown : s.vm.findClass "com/example/plainsong/plainsong/HeaderVersionPinLaw" = some m.cls := findClass_of_methodNamed Bd.named
  have hnm := (name_of_methodNamed Bd.named Bd.method).1
  have X0 : Stand p l e room_1 s m #[(.int ix0)] below meth c s₁ [] 0 0 := Stand.of_body Bd
  have e0 : s₁.heap = h0 := by rw [← hh, Bd.state]; rfl
  have N0 := Fr.nil n0
  have pre0 : ∀ t, Steps p.tables e below (s₁.setTop (mkF m 0 #[.val (.int ix0), .unset, .unset, .unset, .unset] [])) t → Steps p.tables e below (s₁.setTop (entryFrame m #[(.int ix0)] maxLocals)) t := fun t k => castTop (own_ef0 m ix0) k
  have pre1 : ∀ t, Steps p.tables e below (s₁.setTop (mkF m 16 #[.val (.int ix0), .val (.int (if (ix0 &&& (1572864 : Int32)) = (524288 : Int32) then (ix0 ^^^ (524288 : Int32)) else ix0)), .unset, .unset, .unset] [])) t → Steps p.tables e below (s₁.setTop (entryFrame m #[(.int ix0)] maxLocals)) t := fun t k => pre0 t (by
    show Steps p.tables e below (s₁.setTop (mkF m 0 #[.val (.int ix0), .unset, .unset, .unset, .unset] [])) _
    refine XS.iloadN X0.here hx rfl (hb hby at_0) rfl ?_
    show Steps p.tables e below (s₁.setTop (mkF m 1 #[.val (.int ix0), .unset, .unset, .unset, .unset] [(.int ix0)])) _
    refine XS.istoreN X0.here hx rfl (hb hby at_1) rfl (l' := #[.val (.int ix0), .val (.int ix0), .unset, .unset, .unset]) rfl ?_
    show Steps p.tables e below (s₁.setTop (mkF m 2 #[.val (.int ix0), .val (.int ix0), .unset, .unset, .unset] [])) _
    refine XS.iloadN X0.here hx rfl (hb hby at_2) rfl ?_
    show Steps p.tables e below (s₁.setTop (mkF m 3 #[.val (.int ix0), .val (.int ix0), .unset, .unset, .unset] [(.int ix0)])) _
    refine X0.ldcI hx hown (mvT hZ (hw _ (List.mem_of_getElem? (i := 0) rfl))) (g := (mkF m 3 #[.val (.int ix0), .val (.int ix0), .unset, .unset, .unset] [(.int ix0)])) rfl (hb hby at_3) ?_
    show Steps p.tables e below (s₁.setTop (mkF m 5 #[.val (.int ix0), .val (.int ix0), .unset, .unset, .unset] [(.int (1572864 : Int32)), (.int ix0)])) _
    refine XS.iand X0.here hx rfl (hb hby at_5) rfl ?_
    show Steps p.tables e below (s₁.setTop (mkF m 6 #[.val (.int ix0), .val (.int ix0), .unset, .unset, .unset] [(.int (ix0 &&& (1572864 : Int32)))])) _
    refine X0.ldcI hx hown (mvT hZ (hw _ (List.mem_of_getElem? (i := 1) rfl))) (g := (mkF m 6 #[.val (.int ix0), .val (.int ix0), .unset, .unset, .unset] [(.int (ix0 &&& (1572864 : Int32)))])) rfl (hb hby at_6) ?_
    by_cases hj8 : (ix0 &&& (1572864 : Int32)) = (524288 : Int32)
    · rw [if_pos hj8] at k
      show Steps p.tables e below (s₁.setTop (mkF m 8 #[.val (.int ix0), .val (.int ix0), .unset, .unset, .unset] [(.int (524288 : Int32)), (.int (ix0 &&& (1572864 : Int32)))])) _
      refine XS.icmpNo X0.here hx rfl (hb hby at_8) rfl (XT.ii_ne_f hj8) ?_
      show Steps p.tables e below (s₁.setTop (mkF m 11 #[.val (.int ix0), .val (.int ix0), .unset, .unset, .unset] [])) _
      refine XS.iloadN X0.here hx rfl (hb hby at_11) rfl ?_
      show Steps p.tables e below (s₁.setTop (mkF m 12 #[.val (.int ix0), .val (.int ix0), .unset, .unset, .unset] [(.int ix0)])) _
      refine X0.ldcI hx hown (mvT hZ (hw _ (List.mem_of_getElem? (i := 1) rfl))) (g := (mkF m 12 #[.val (.int ix0), .val (.int ix0), .unset, .unset, .unset] [(.int ix0)])) rfl (hb hby at_12) ?_
      show Steps p.tables e below (s₁.setTop (mkF m 14 #[.val (.int ix0), .val (.int ix0), .unset, .unset, .unset] [(.int (524288 : Int32)), (.int ix0)])) _
      refine XT.ixor X0.here hx rfl (hb hby at_14) rfl ?_
      show Steps p.tables e below (s₁.setTop (mkF m 15 #[.val (.int ix0), .val (.int ix0), .unset, .unset, .unset] [(.int (ix0 ^^^ (524288 : Int32)))])) _
      refine XS.istoreN X0.here hx rfl (hb hby at_15) rfl (l' := #[.val (.int ix0), .val (.int (ix0 ^^^ (524288 : Int32))), .unset, .unset, .unset]) rfl ?_
      exact k
    · rw [if_neg hj8] at k
      show Steps p.tables e below (s₁.setTop (mkF m 8 #[.val (.int ix0), .val (.int ix0), .unset, .unset, .unset] [(.int (524288 : Int32)), (.int (ix0 &&& (1572864 : Int32)))])) _
      refine XS.icmpYes X0.here hx rfl (pc0 := 8) (pc' := 16) rfl (hb hby at_8) rfl (XT.ii_ne_t hj8) (by decide) (by decide) ?_
      exact k)
  obtain ⟨bits, q_bits⟩ : ∃ z : Int32, z = (if (ix0 &&& (1572864 : Int32)) = (524288 : Int32) then (ix0 ^^^ (524288 : Int32)) else ix0) := ⟨_, rfl⟩
  rw [← q_bits] at pre1
  have pre2 : ∀ t, Steps p.tables e below (s₁.setTop (mkF m 20 #[.val (.int ix0), .val (.int bits), .unset, .unset, .unset] [(.int (bits &&& (1048576 : Int32)))])) t → Steps p.tables e below (s₁.setTop (entryFrame m #[(.int ix0)] maxLocals)) t := fun t k => pre1 t (by
    show Steps p.tables e below (s₁.setTop (mkF m 16 #[.val (.int ix0), .val (.int bits), .unset, .unset, .unset] [])) _
    refine XS.iloadN X0.here hx rfl (hb hby at_16) rfl ?_
    show Steps p.tables e below (s₁.setTop (mkF m 17 #[.val (.int ix0), .val (.int bits), .unset, .unset, .unset] [(.int bits)])) _
    refine X0.ldcI hx hown (mvT hZ (hw _ (List.mem_of_getElem? (i := 2) rfl))) (g := (mkF m 17 #[.val (.int ix0), .val (.int bits), .unset, .unset, .unset] [(.int bits)])) rfl (hb hby at_17) ?_
    show Steps p.tables e below (s₁.setTop (mkF m 19 #[.val (.int ix0), .val (.int bits), .unset, .unset, .unset] [(.int (1048576 : Int32)), (.int bits)])) _
    refine XS.iand X0.here hx rfl (hb hby at_19) rfl ?_
    exact k)
  by_cases hhi : (bits &&& (1048576 : Int32)) = 0
  · have pre3 : ∀ t, Steps p.tables e below (s₁.setTop (mkF m 33 #[.val (.int ix0), .val (.int bits), .val (.int (0 : Int32)), .unset, .unset] [(.int (bits &&& (524288 : Int32)))])) t → Steps p.tables e below (s₁.setTop (entryFrame m #[(.int ix0)] maxLocals)) t := fun t k => pre2 t (by
      show Steps p.tables e below (s₁.setTop (mkF m 20 #[.val (.int ix0), .val (.int bits), .unset, .unset, .unset] [(.int (bits &&& (1048576 : Int32)))])) _
      refine XS.ifYes X0.here hx rfl (pc0 := 20) (pc' := 27) rfl (hb hby at_20) rfl (XT.i0_eq_t hhi) (by decide) (by decide) ?_
      show Steps p.tables e below (s₁.setTop (mkF m 27 #[.val (.int ix0), .val (.int bits), .unset, .unset, .unset] [])) _
      refine XT.iconstV X0.here hx rfl (0 : Int32) (hb hby at_27) rfl ?_
      show Steps p.tables e below (s₁.setTop (mkF m 28 #[.val (.int ix0), .val (.int bits), .unset, .unset, .unset] [(.int (0 : Int32))])) _
      refine XS.istoreN X0.here hx rfl (hb hby at_28) rfl (l' := #[.val (.int ix0), .val (.int bits), .val (.int (0 : Int32)), .unset, .unset]) rfl ?_
      show Steps p.tables e below (s₁.setTop (mkF m 29 #[.val (.int ix0), .val (.int bits), .val (.int (0 : Int32)), .unset, .unset] [])) _
      refine XS.iloadN X0.here hx rfl (hb hby at_29) rfl ?_
      show Steps p.tables e below (s₁.setTop (mkF m 30 #[.val (.int ix0), .val (.int bits), .val (.int (0 : Int32)), .unset, .unset] [(.int bits)])) _
      refine X0.ldcI hx hown (mvT hZ (hw _ (List.mem_of_getElem? (i := 1) rfl))) (g := (mkF m 30 #[.val (.int ix0), .val (.int bits), .val (.int (0 : Int32)), .unset, .unset] [(.int bits)])) rfl (hb hby at_30) ?_
      show Steps p.tables e below (s₁.setTop (mkF m 32 #[.val (.int ix0), .val (.int bits), .val (.int (0 : Int32)), .unset, .unset] [(.int (524288 : Int32)), (.int bits)])) _
      refine XS.iand X0.here hx rfl (hb hby at_32) rfl ?_
      exact k)
    by_cases hlo : (bits &&& (524288 : Int32)) = 0
    · obtain ⟨T4, h4, X4, e4, E4, A4, D4, -, st4⟩ := newO X0 hx hZ hown (hw _ (List.mem_of_getElem? (i := 3) rfl)) (hw _ (List.mem_of_getElem? (i := 4) rfl)) (hw _ (List.mem_of_getElem? (i := 5) rfl)) e0 (g := (mkF m 66 #[.val (.int ix0), .val (.int bits), .val (.int (0 : Int32)), .val (.int (0 : Int32)), .val (.int (25 : Int32))] [])) rfl (hb hby at_66) (by decide) (by decide)
      obtain ⟨ob4, g4⟩ : ∃ z, z = h0.size := ⟨_, rfl⟩
      rw [← g4] at A4 D4 st4
      have sz4 : n0 ≤ h4.size := Nat.le_trans Z0 E4.1
      have gn_ob4 : n0 ≤ ob4 := Nat.le_trans Z0 (Nat.le_of_eq g4.symm)
      have bo_ob4 : h0.size ≤ ob4 := Nat.le_trans (Keep.refl h0 []).1 (Nat.le_of_eq g4.symm)
      have K4 : Keep h0 h4 [] := (Keep.refl h0 []).ext E4
      have F0_bits_ob4 : Fld Z h4 ob4 "com/example/plainsong/plainsong/Mp3Frames$Header" "bits" "I" (.int (0 : Int32)) := D4 (Or.inr (hw _ (List.mem_of_getElem? (i := 18) rfl))) (ty := .int) (by decide)
      obtain ⟨_, _, ⟨T5, tL5, tk5, tn5⟩, -, X5, ⟨Lc5, hQ5, tl5, ty5, tz5⟩, st5⟩ := X4.specialBack hx (y := (⟨"com/example/plainsong/plainsong/Mp3Frames$Header", "<init>", "(I)V"⟩ : MethodName)) rfl hown (mvT hZ (hw _ (List.mem_of_getElem? (i := 6) rfl))) (mvT hZ (hw _ (List.mem_of_getElem? (i := 7) rfl))) (mvT hZ (hw _ (List.mem_of_getElem? (i := 8) rfl))) (by decide) (backOf (W := 1) (own_rm1 l Z a0 hw [] ob4 bits ((.int (0 : Int32)) : Value) h4 n0 sz4 A4 F0_bits_ob4 gn_ob4) hZ (hw _ (List.mem_of_getElem? (i := 8) rfl)) (hw _ (List.mem_of_getElem? (i := 5) rfl)) (by decide) (by decide)) (g := (mkF m 71 #[.val (.int ix0), .val (.int bits), .val (.int (0 : Int32)), .val (.int (0 : Int32)), .val (.int (25 : Int32))] [(.int bits), (.ref ob4), (.ref ob4)])) rfl (by rw [hml]; rfl) (Steps.refl _) (a := ob4) (argsL := [(.int bits)]) (rest := [(.ref ob4)]) (lenOf own_pd1 rfl) rfl (by show 2 * 0 + _ ≤ _; exact Nat.le_of_eq rfl) (hb hby at_71) (fun _ _ => ⟨rfl, e4, (by decide : 1 + 0 ≤ _), (by decide : 1 + 0 ≤ _)⟩)
      dsimp only [Pt.U, Pt.locs, Pt.cells, Pt.slots] at X5 tl5 ty5 tz5 st5 hQ5
      rw [tl5, ty5, tz5] at X5
      obtain ⟨rfl, Nq5, K5, Fa5_E_a1, Fa5_F_a1_bits⟩ := hQ5
      have N5 := Fr.app N0 Nq5
      have sz5 : n0 ≤ T5.heap.size := Nat.le_trans sz4 K5.1
      have KK5 : Keep h0 T5.heap [] := K4.trans K5 (allS (Or.inr bo_ob4) all0)
      obtain ⟨cq6, kq6, q6a, q6b, q6c⟩ := isOf hZ rfl Fa5_E_a1
      obtain ⟨_, _, ⟨T6, tL6, tk6, tn6⟩, -, X6, ⟨Lc6, hQ6, tl6, ty6, tz6⟩, st6⟩ := X5.virtualBack hx (y := (⟨"com/example/plainsong/plainsong/Mp3Frames$Header", "version", "()I"⟩ : MethodName)) (z := (⟨"com/example/plainsong/plainsong/Mp3Frames$Header", "version", "()I"⟩ : MethodName)) hown (mvT hZ (hw _ (List.mem_of_getElem? (i := 19) rfl))) (mvT hZ (hw _ (List.mem_of_getElem? (i := 20) rfl))) (notFace_of_selects (args := #[]) (mvT hZ (hw _ (List.mem_of_getElem? (i := 22) rfl)))) (mvT hZ (hw _ (List.mem_of_getElem? (i := 22) rfl))) (mvT hZ (hw _ (List.mem_of_getElem? (i := 21) rfl))) (by decide) (backOf (W := 0) (own_rm4 l Z a0 hw [] ob4 bits T5.heap n0 sz5 Fa5_E_a1 Fa5_F_a1_bits) hZ (hw _ (List.mem_of_getElem? (i := 23) rfl)) (hw _ (List.mem_of_getElem? (i := 5) rfl)) (by decide) (by decide)) q6a q6c (g := (mkF m 74 #[.val (.int ix0), .val (.int bits), .val (.int (0 : Int32)), .val (.int (0 : Int32)), .val (.int (25 : Int32))] [(.ref ob4)])) rfl (by rw [hml]; rfl) (Steps.refl _) (argsL := []) (rest := []) (lenOf own_pd2 rfl) rfl (by show 2 * 0 + _ ≤ _; exact Nat.le_of_eq rfl) (hb hby at_74) (fun _ _ => ⟨rfl, rfl, (by decide : 1 + 0 ≤ _), (by decide : 1 + 0 ≤ _)⟩)
      dsimp only [Pt.U, Pt.locs, Pt.cells, Pt.slots] at X6 tl6 ty6 tz6 st6 hQ6
      rw [tl6, ty6, tz6] at X6
      obtain ⟨rfl, Nq6, K6⟩ := hQ6
      have N6 := Fr.app N5 Nq6
      obtain ⟨fs, hr, hrun, hended, hW, hsame⟩ := X6.leave (v := some (.int (1 : Int32))) (fun h => by rw [Bd.returns] at h; cases h)
      refine ⟨_, _, pre3 _ ?_, hrun, hended, _, _, rfl, ?_, ⟨_, rfl⟩, hW, hsame.mono (by decide) (by decide)⟩
      · show Steps p.tables e below (s₁.setTop (mkF m 33 #[.val (.int ix0), .val (.int bits), .val (.int (0 : Int32)), .unset, .unset] [(.int (bits &&& (524288 : Int32)))])) _
        refine XS.ifYes X0.here hx rfl (pc0 := 33) (pc' := 40) rfl (hb hby at_33) rfl (XT.i0_eq_t hlo) (by decide) (by decide) ?_
        show Steps p.tables e below (s₁.setTop (mkF m 40 #[.val (.int ix0), .val (.int bits), .val (.int (0 : Int32)), .unset, .unset] [])) _
        refine XT.iconstV X0.here hx rfl (0 : Int32) (hb hby at_40) rfl ?_
        show Steps p.tables e below (s₁.setTop (mkF m 41 #[.val (.int ix0), .val (.int bits), .val (.int (0 : Int32)), .unset, .unset] [(.int (0 : Int32))])) _
        refine XS.istoreN X0.here hx rfl (hb hby at_41) rfl (l' := #[.val (.int ix0), .val (.int bits), .val (.int (0 : Int32)), .val (.int (0 : Int32)), .unset]) rfl ?_
        show Steps p.tables e below (s₁.setTop (mkF m 42 #[.val (.int ix0), .val (.int bits), .val (.int (0 : Int32)), .val (.int (0 : Int32)), .unset] [])) _
        refine XS.iloadN X0.here hx rfl (hb hby at_42) rfl ?_
        show Steps p.tables e below (s₁.setTop (mkF m 43 #[.val (.int ix0), .val (.int bits), .val (.int (0 : Int32)), .val (.int (0 : Int32)), .unset] [(.int (0 : Int32))])) _
        refine XS.ifYes X0.here hx rfl (pc0 := 43) (pc' := 62) rfl (hb hby at_43) rfl (XT.i0_eq_t rfl) (by decide) (by decide) ?_
        show Steps p.tables e below (s₁.setTop (mkF m 62 #[.val (.int ix0), .val (.int bits), .val (.int (0 : Int32)), .val (.int (0 : Int32)), .unset] [])) _
        refine XT.bipushV X0.here hx rfl (25 : Int32) (hb hby at_62) rfl ?_
        show Steps p.tables e below (s₁.setTop (mkF m 64 #[.val (.int ix0), .val (.int bits), .val (.int (0 : Int32)), .val (.int (0 : Int32)), .unset] [(.int (25 : Int32))])) _
        refine XS.istore X0.here hx rfl (hb hby at_64) rfl (l' := #[.val (.int ix0), .val (.int bits), .val (.int (0 : Int32)), .val (.int (0 : Int32)), .val (.int (25 : Int32))]) rfl ?_
        show Steps p.tables e below (s₁.setTop (mkF m 66 #[.val (.int ix0), .val (.int bits), .val (.int (0 : Int32)), .val (.int (0 : Int32)), .val (.int (25 : Int32))] [])) _
        refine st4 _ ?_
        show Steps p.tables e below (T4.setTop (mkF m 69 #[.val (.int ix0), .val (.int bits), .val (.int (0 : Int32)), .val (.int (0 : Int32)), .val (.int (25 : Int32))] [(.ref ob4)])) _
        refine XS.dup X4.here hx rfl (hb hby at_69) rfl rfl ?_
        show Steps p.tables e below (T4.setTop (mkF m 70 #[.val (.int ix0), .val (.int bits), .val (.int (0 : Int32)), .val (.int (0 : Int32)), .val (.int (25 : Int32))] [(.ref ob4), (.ref ob4)])) _
        refine XS.iloadN X4.here hx rfl (hb hby at_70) rfl ?_
        show Steps p.tables e below (T4.setTop (mkF m 71 #[.val (.int ix0), .val (.int bits), .val (.int (0 : Int32)), .val (.int (0 : Int32)), .val (.int (25 : Int32))] [(.int bits), (.ref ob4), (.ref ob4)])) _
        refine st5.trans ?_
        show Steps p.tables e below (T5.setTop (mkF m 74 #[.val (.int ix0), .val (.int bits), .val (.int (0 : Int32)), .val (.int (0 : Int32)), .val (.int (25 : Int32))] [(.ref ob4)])) _
        refine st6.trans ?_
        show Steps p.tables e below (T6.setTop (mkF m 77 #[.val (.int ix0), .val (.int bits), .val (.int (0 : Int32)), .val (.int (0 : Int32)), .val (.int (25 : Int32))] [(.int (own_ver bits))])) _
        refine XS.iload X6.here hx rfl (hb hby at_77) rfl ?_
        show Steps p.tables e below (T6.setTop (mkF m 79 #[.val (.int ix0), .val (.int bits), .val (.int (0 : Int32)), .val (.int (0 : Int32)), .val (.int (25 : Int32))] [(.int (25 : Int32)), (.int (own_ver bits))])) _
        refine XS.icmpNo X6.here hx rfl (hb hby at_79) rfl (XT.ii_ne_f (own_ver25 _ hhi)) ?_
        show Steps p.tables e below (T6.setTop (mkF m 82 #[.val (.int ix0), .val (.int bits), .val (.int (0 : Int32)), .val (.int (0 : Int32)), .val (.int (25 : Int32))] [])) _
        refine XT.iconstV X6.here hx rfl (1 : Int32) (hb hby at_82) rfl ?_
        show Steps p.tables e below (T6.setTop (mkF m 83 #[.val (.int ix0), .val (.int bits), .val (.int (0 : Int32)), .val (.int (0 : Int32)), .val (.int (25 : Int32))] [(.int (1 : Int32))])) _
        refine XS.goto X6.here hx rfl (pc0 := 83) (pc' := 87) rfl (hb hby at_83) (by decide) (by decide) ?_
        show Steps p.tables e below (T6.setTop (mkF m 87 #[.val (.int ix0), .val (.int bits), .val (.int (0 : Int32)), .val (.int (0 : Int32)), .val (.int (25 : Int32))] [(.int (1 : Int32))])) _
        exact retN X6 hx (t := .boolean) Bd.returns (by simp) (hb hby at_87) hr
      · show own_Q0 Z ix0 h0 n0 _ T6.heap _
        exact ⟨rfl, N6⟩
    · obtain ⟨T7, h7, X7, e7, E7, A7, D7, -, st7⟩ := newO X0 hx hZ hown (hw _ (List.mem_of_getElem? (i := 3) rfl)) (hw _ (List.mem_of_getElem? (i := 4) rfl)) (hw _ (List.mem_of_getElem? (i := 5) rfl)) e0 (g := (mkF m 66 #[.val (.int ix0), .val (.int bits), .val (.int (0 : Int32)), .val (.int (1 : Int32)), .val (.int (25 : Int32))] [])) rfl (hb hby at_66) (by decide) (by decide)
      obtain ⟨ob7, g7⟩ : ∃ z, z = h0.size := ⟨_, rfl⟩
      rw [← g7] at A7 D7 st7
      have sz7 : n0 ≤ h7.size := Nat.le_trans Z0 E7.1
      have gn_ob7 : n0 ≤ ob7 := Nat.le_trans Z0 (Nat.le_of_eq g7.symm)
      have bo_ob7 : h0.size ≤ ob7 := Nat.le_trans (Keep.refl h0 []).1 (Nat.le_of_eq g7.symm)
      have K7 : Keep h0 h7 [] := (Keep.refl h0 []).ext E7
      have F0_bits_ob7 : Fld Z h7 ob7 "com/example/plainsong/plainsong/Mp3Frames$Header" "bits" "I" (.int (0 : Int32)) := D7 (Or.inr (hw _ (List.mem_of_getElem? (i := 18) rfl))) (ty := .int) (by decide)
      obtain ⟨_, _, ⟨T8, tL8, tk8, tn8⟩, -, X8, ⟨Lc8, hQ8, tl8, ty8, tz8⟩, st8⟩ := X7.specialBack hx (y := (⟨"com/example/plainsong/plainsong/Mp3Frames$Header", "<init>", "(I)V"⟩ : MethodName)) rfl hown (mvT hZ (hw _ (List.mem_of_getElem? (i := 6) rfl))) (mvT hZ (hw _ (List.mem_of_getElem? (i := 7) rfl))) (mvT hZ (hw _ (List.mem_of_getElem? (i := 8) rfl))) (by decide) (backOf (W := 1) (own_rm1 l Z a0 hw [] ob7 bits ((.int (0 : Int32)) : Value) h7 n0 sz7 A7 F0_bits_ob7 gn_ob7) hZ (hw _ (List.mem_of_getElem? (i := 8) rfl)) (hw _ (List.mem_of_getElem? (i := 5) rfl)) (by decide) (by decide)) (g := (mkF m 71 #[.val (.int ix0), .val (.int bits), .val (.int (0 : Int32)), .val (.int (1 : Int32)), .val (.int (25 : Int32))] [(.int bits), (.ref ob7), (.ref ob7)])) rfl (by rw [hml]; rfl) (Steps.refl _) (a := ob7) (argsL := [(.int bits)]) (rest := [(.ref ob7)]) (lenOf own_pd1 rfl) rfl (by show 2 * 0 + _ ≤ _; exact Nat.le_of_eq rfl) (hb hby at_71) (fun _ _ => ⟨rfl, e7, (by decide : 1 + 0 ≤ _), (by decide : 1 + 0 ≤ _)⟩)
      dsimp only [Pt.U, Pt.locs, Pt.cells, Pt.slots] at X8 tl8 ty8 tz8 st8 hQ8
      rw [tl8, ty8, tz8] at X8
      obtain ⟨rfl, Nq8, K8, Fa8_E_a1, Fa8_F_a1_bits⟩ := hQ8
      have N8 := Fr.app N0 Nq8
      have sz8 : n0 ≤ T8.heap.size := Nat.le_trans sz7 K8.1
      have KK8 : Keep h0 T8.heap [] := K7.trans K8 (allS (Or.inr bo_ob7) all0)
      obtain ⟨cq9, kq9, q9a, q9b, q9c⟩ := isOf hZ rfl Fa8_E_a1
      obtain ⟨_, _, ⟨T9, tL9, tk9, tn9⟩, -, X9, ⟨Lc9, hQ9, tl9, ty9, tz9⟩, st9⟩ := X8.virtualBack hx (y := (⟨"com/example/plainsong/plainsong/Mp3Frames$Header", "version", "()I"⟩ : MethodName)) (z := (⟨"com/example/plainsong/plainsong/Mp3Frames$Header", "version", "()I"⟩ : MethodName)) hown (mvT hZ (hw _ (List.mem_of_getElem? (i := 19) rfl))) (mvT hZ (hw _ (List.mem_of_getElem? (i := 20) rfl))) (notFace_of_selects (args := #[]) (mvT hZ (hw _ (List.mem_of_getElem? (i := 22) rfl)))) (mvT hZ (hw _ (List.mem_of_getElem? (i := 22) rfl))) (mvT hZ (hw _ (List.mem_of_getElem? (i := 21) rfl))) (by decide) (backOf (W := 0) (own_rm4 l Z a0 hw [] ob7 bits T8.heap n0 sz8 Fa8_E_a1 Fa8_F_a1_bits) hZ (hw _ (List.mem_of_getElem? (i := 23) rfl)) (hw _ (List.mem_of_getElem? (i := 5) rfl)) (by decide) (by decide)) q9a q9c (g := (mkF m 74 #[.val (.int ix0), .val (.int bits), .val (.int (0 : Int32)), .val (.int (1 : Int32)), .val (.int (25 : Int32))] [(.ref ob7)])) rfl (by rw [hml]; rfl) (Steps.refl _) (argsL := []) (rest := []) (lenOf own_pd2 rfl) rfl (by show 2 * 0 + _ ≤ _; exact Nat.le_of_eq rfl) (hb hby at_74) (fun _ _ => ⟨rfl, rfl, (by decide : 1 + 0 ≤ _), (by decide : 1 + 0 ≤ _)⟩)
      dsimp only [Pt.U, Pt.locs, Pt.cells, Pt.slots] at X9 tl9 ty9 tz9 st9 hQ9
      rw [tl9, ty9, tz9] at X9
      obtain ⟨rfl, Nq9, K9⟩ := hQ9
      have N9 := Fr.app N8 Nq9
      obtain ⟨fs, hr, hrun, hended, hW, hsame⟩ := X9.leave (v := some (.int (1 : Int32))) (fun h => by rw [Bd.returns] at h; cases h)
      refine ⟨_, _, pre3 _ ?_, hrun, hended, _, _, rfl, ?_, ⟨_, rfl⟩, hW, hsame.mono (by decide) (by decide)⟩
      · show Steps p.tables e below (s₁.setTop (mkF m 33 #[.val (.int ix0), .val (.int bits), .val (.int (0 : Int32)), .unset, .unset] [(.int (bits &&& (524288 : Int32)))])) _
        refine XS.ifNo X0.here hx rfl (hb hby at_33) rfl (XT.i0_eq_f hlo) ?_
        show Steps p.tables e below (s₁.setTop (mkF m 36 #[.val (.int ix0), .val (.int bits), .val (.int (0 : Int32)), .unset, .unset] [])) _
        refine XT.iconstV X0.here hx rfl (1 : Int32) (hb hby at_36) rfl ?_
        show Steps p.tables e below (s₁.setTop (mkF m 37 #[.val (.int ix0), .val (.int bits), .val (.int (0 : Int32)), .unset, .unset] [(.int (1 : Int32))])) _
        refine XS.goto X0.here hx rfl (pc0 := 37) (pc' := 41) rfl (hb hby at_37) (by decide) (by decide) ?_
        show Steps p.tables e below (s₁.setTop (mkF m 41 #[.val (.int ix0), .val (.int bits), .val (.int (0 : Int32)), .unset, .unset] [(.int (1 : Int32))])) _
        refine XS.istoreN X0.here hx rfl (hb hby at_41) rfl (l' := #[.val (.int ix0), .val (.int bits), .val (.int (0 : Int32)), .val (.int (1 : Int32)), .unset]) rfl ?_
        show Steps p.tables e below (s₁.setTop (mkF m 42 #[.val (.int ix0), .val (.int bits), .val (.int (0 : Int32)), .val (.int (1 : Int32)), .unset] [])) _
        refine XS.iloadN X0.here hx rfl (hb hby at_42) rfl ?_
        show Steps p.tables e below (s₁.setTop (mkF m 43 #[.val (.int ix0), .val (.int bits), .val (.int (0 : Int32)), .val (.int (1 : Int32)), .unset] [(.int (0 : Int32))])) _
        refine XS.ifYes X0.here hx rfl (pc0 := 43) (pc' := 62) rfl (hb hby at_43) rfl (XT.i0_eq_t rfl) (by decide) (by decide) ?_
        show Steps p.tables e below (s₁.setTop (mkF m 62 #[.val (.int ix0), .val (.int bits), .val (.int (0 : Int32)), .val (.int (1 : Int32)), .unset] [])) _
        refine XT.bipushV X0.here hx rfl (25 : Int32) (hb hby at_62) rfl ?_
        show Steps p.tables e below (s₁.setTop (mkF m 64 #[.val (.int ix0), .val (.int bits), .val (.int (0 : Int32)), .val (.int (1 : Int32)), .unset] [(.int (25 : Int32))])) _
        refine XS.istore X0.here hx rfl (hb hby at_64) rfl (l' := #[.val (.int ix0), .val (.int bits), .val (.int (0 : Int32)), .val (.int (1 : Int32)), .val (.int (25 : Int32))]) rfl ?_
        show Steps p.tables e below (s₁.setTop (mkF m 66 #[.val (.int ix0), .val (.int bits), .val (.int (0 : Int32)), .val (.int (1 : Int32)), .val (.int (25 : Int32))] [])) _
        refine st7 _ ?_
        show Steps p.tables e below (T7.setTop (mkF m 69 #[.val (.int ix0), .val (.int bits), .val (.int (0 : Int32)), .val (.int (1 : Int32)), .val (.int (25 : Int32))] [(.ref ob7)])) _
        refine XS.dup X7.here hx rfl (hb hby at_69) rfl rfl ?_
        show Steps p.tables e below (T7.setTop (mkF m 70 #[.val (.int ix0), .val (.int bits), .val (.int (0 : Int32)), .val (.int (1 : Int32)), .val (.int (25 : Int32))] [(.ref ob7), (.ref ob7)])) _
        refine XS.iloadN X7.here hx rfl (hb hby at_70) rfl ?_
        show Steps p.tables e below (T7.setTop (mkF m 71 #[.val (.int ix0), .val (.int bits), .val (.int (0 : Int32)), .val (.int (1 : Int32)), .val (.int (25 : Int32))] [(.int bits), (.ref ob7), (.ref ob7)])) _
        refine st8.trans ?_
        show Steps p.tables e below (T8.setTop (mkF m 74 #[.val (.int ix0), .val (.int bits), .val (.int (0 : Int32)), .val (.int (1 : Int32)), .val (.int (25 : Int32))] [(.ref ob7)])) _
        refine st9.trans ?_
        show Steps p.tables e below (T9.setTop (mkF m 77 #[.val (.int ix0), .val (.int bits), .val (.int (0 : Int32)), .val (.int (1 : Int32)), .val (.int (25 : Int32))] [(.int (own_ver bits))])) _
        refine XS.iload X9.here hx rfl (hb hby at_77) rfl ?_
        show Steps p.tables e below (T9.setTop (mkF m 79 #[.val (.int ix0), .val (.int bits), .val (.int (0 : Int32)), .val (.int (1 : Int32)), .val (.int (25 : Int32))] [(.int (25 : Int32)), (.int (own_ver bits))])) _
        refine XS.icmpNo X9.here hx rfl (hb hby at_79) rfl (XT.ii_ne_f (own_ver25 _ hhi)) ?_
        show Steps p.tables e below (T9.setTop (mkF m 82 #[.val (.int ix0), .val (.int bits), .val (.int (0 : Int32)), .val (.int (1 : Int32)), .val (.int (25 : Int32))] [])) _
        refine XT.iconstV X9.here hx rfl (1 : Int32) (hb hby at_82) rfl ?_
        show Steps p.tables e below (T9.setTop (mkF m 83 #[.val (.int ix0), .val (.int bits), .val (.int (0 : Int32)), .val (.int (1 : Int32)), .val (.int (25 : Int32))] [(.int (1 : Int32))])) _
        refine XS.goto X9.here hx rfl (pc0 := 83) (pc' := 87) rfl (hb hby at_83) (by decide) (by decide) ?_
        show Steps p.tables e below (T9.setTop (mkF m 87 #[.val (.int ix0), .val (.int bits), .val (.int (0 : Int32)), .val (.int (1 : Int32)), .val (.int (25 : Int32))] [(.int (1 : Int32))])) _
        exact retN X9 hx (t := .boolean) Bd.returns (by simp) (hb hby at_87) hr
      · show own_Q0 Z ix0 h0 n0 _ T9.heap _
        exact ⟨rfl, N9⟩
  · have pre10 : ∀ t, Steps p.tables e below (s₁.setTop (mkF m 33 #[.val (.int ix0), .val (.int bits), .val (.int (1 : Int32)), .unset, .unset] [(.int (bits &&& (524288 : Int32)))])) t → Steps p.tables e below (s₁.setTop (entryFrame m #[(.int ix0)] maxLocals)) t := fun t k => pre2 t (by
      show Steps p.tables e below (s₁.setTop (mkF m 20 #[.val (.int ix0), .val (.int bits), .unset, .unset, .unset] [(.int (bits &&& (1048576 : Int32)))])) _
      refine XS.ifNo X0.here hx rfl (hb hby at_20) rfl (XT.i0_eq_f hhi) ?_
      show Steps p.tables e below (s₁.setTop (mkF m 23 #[.val (.int ix0), .val (.int bits), .unset, .unset, .unset] [])) _
      refine XT.iconstV X0.here hx rfl (1 : Int32) (hb hby at_23) rfl ?_
      show Steps p.tables e below (s₁.setTop (mkF m 24 #[.val (.int ix0), .val (.int bits), .unset, .unset, .unset] [(.int (1 : Int32))])) _
      refine XS.goto X0.here hx rfl (pc0 := 24) (pc' := 28) rfl (hb hby at_24) (by decide) (by decide) ?_
      show Steps p.tables e below (s₁.setTop (mkF m 28 #[.val (.int ix0), .val (.int bits), .unset, .unset, .unset] [(.int (1 : Int32))])) _
      refine XS.istoreN X0.here hx rfl (hb hby at_28) rfl (l' := #[.val (.int ix0), .val (.int bits), .val (.int (1 : Int32)), .unset, .unset]) rfl ?_
      show Steps p.tables e below (s₁.setTop (mkF m 29 #[.val (.int ix0), .val (.int bits), .val (.int (1 : Int32)), .unset, .unset] [])) _
      refine XS.iloadN X0.here hx rfl (hb hby at_29) rfl ?_
      show Steps p.tables e below (s₁.setTop (mkF m 30 #[.val (.int ix0), .val (.int bits), .val (.int (1 : Int32)), .unset, .unset] [(.int bits)])) _
      refine X0.ldcI hx hown (mvT hZ (hw _ (List.mem_of_getElem? (i := 1) rfl))) (g := (mkF m 30 #[.val (.int ix0), .val (.int bits), .val (.int (1 : Int32)), .unset, .unset] [(.int bits)])) rfl (hb hby at_30) ?_
      show Steps p.tables e below (s₁.setTop (mkF m 32 #[.val (.int ix0), .val (.int bits), .val (.int (1 : Int32)), .unset, .unset] [(.int (524288 : Int32)), (.int bits)])) _
      refine XS.iand X0.here hx rfl (hb hby at_32) rfl ?_
      exact k)
    by_cases hlo : (bits &&& (524288 : Int32)) = 0
    · obtain ⟨T11, h11, X11, e11, E11, A11, D11, -, st11⟩ := newO X0 hx hZ hown (hw _ (List.mem_of_getElem? (i := 3) rfl)) (hw _ (List.mem_of_getElem? (i := 4) rfl)) (hw _ (List.mem_of_getElem? (i := 5) rfl)) e0 (g := (mkF m 66 #[.val (.int ix0), .val (.int bits), .val (.int (1 : Int32)), .val (.int (0 : Int32)), .val (.int (2 : Int32))] [])) rfl (hb hby at_66) (by decide) (by decide)
      obtain ⟨ob11, g11⟩ : ∃ z, z = h0.size := ⟨_, rfl⟩
      rw [← g11] at A11 D11 st11
      have sz11 : n0 ≤ h11.size := Nat.le_trans Z0 E11.1
      have gn_ob11 : n0 ≤ ob11 := Nat.le_trans Z0 (Nat.le_of_eq g11.symm)
      have bo_ob11 : h0.size ≤ ob11 := Nat.le_trans (Keep.refl h0 []).1 (Nat.le_of_eq g11.symm)
      have K11 : Keep h0 h11 [] := (Keep.refl h0 []).ext E11
      have F0_bits_ob11 : Fld Z h11 ob11 "com/example/plainsong/plainsong/Mp3Frames$Header" "bits" "I" (.int (0 : Int32)) := D11 (Or.inr (hw _ (List.mem_of_getElem? (i := 18) rfl))) (ty := .int) (by decide)
      obtain ⟨_, _, ⟨T12, tL12, tk12, tn12⟩, -, X12, ⟨Lc12, hQ12, tl12, ty12, tz12⟩, st12⟩ := X11.specialBack hx (y := (⟨"com/example/plainsong/plainsong/Mp3Frames$Header", "<init>", "(I)V"⟩ : MethodName)) rfl hown (mvT hZ (hw _ (List.mem_of_getElem? (i := 6) rfl))) (mvT hZ (hw _ (List.mem_of_getElem? (i := 7) rfl))) (mvT hZ (hw _ (List.mem_of_getElem? (i := 8) rfl))) (by decide) (backOf (W := 1) (own_rm1 l Z a0 hw [] ob11 bits ((.int (0 : Int32)) : Value) h11 n0 sz11 A11 F0_bits_ob11 gn_ob11) hZ (hw _ (List.mem_of_getElem? (i := 8) rfl)) (hw _ (List.mem_of_getElem? (i := 5) rfl)) (by decide) (by decide)) (g := (mkF m 71 #[.val (.int ix0), .val (.int bits), .val (.int (1 : Int32)), .val (.int (0 : Int32)), .val (.int (2 : Int32))] [(.int bits), (.ref ob11), (.ref ob11)])) rfl (by rw [hml]; rfl) (Steps.refl _) (a := ob11) (argsL := [(.int bits)]) (rest := [(.ref ob11)]) (lenOf own_pd1 rfl) rfl (by show 2 * 0 + _ ≤ _; exact Nat.le_of_eq rfl) (hb hby at_71) (fun _ _ => ⟨rfl, e11, (by decide : 1 + 0 ≤ _), (by decide : 1 + 0 ≤ _)⟩)
      dsimp only [Pt.U, Pt.locs, Pt.cells, Pt.slots] at X12 tl12 ty12 tz12 st12 hQ12
      rw [tl12, ty12, tz12] at X12
      obtain ⟨rfl, Nq12, K12, Fa12_E_a1, Fa12_F_a1_bits⟩ := hQ12
      have N12 := Fr.app N0 Nq12
      have sz12 : n0 ≤ T12.heap.size := Nat.le_trans sz11 K12.1
      have KK12 : Keep h0 T12.heap [] := K11.trans K12 (allS (Or.inr bo_ob11) all0)
      obtain ⟨cq13, kq13, q13a, q13b, q13c⟩ := isOf hZ rfl Fa12_E_a1
      obtain ⟨_, _, ⟨T13, tL13, tk13, tn13⟩, -, X13, ⟨Lc13, hQ13, tl13, ty13, tz13⟩, st13⟩ := X12.virtualBack hx (y := (⟨"com/example/plainsong/plainsong/Mp3Frames$Header", "version", "()I"⟩ : MethodName)) (z := (⟨"com/example/plainsong/plainsong/Mp3Frames$Header", "version", "()I"⟩ : MethodName)) hown (mvT hZ (hw _ (List.mem_of_getElem? (i := 19) rfl))) (mvT hZ (hw _ (List.mem_of_getElem? (i := 20) rfl))) (notFace_of_selects (args := #[]) (mvT hZ (hw _ (List.mem_of_getElem? (i := 22) rfl)))) (mvT hZ (hw _ (List.mem_of_getElem? (i := 22) rfl))) (mvT hZ (hw _ (List.mem_of_getElem? (i := 21) rfl))) (by decide) (backOf (W := 0) (own_rm4 l Z a0 hw [] ob11 bits T12.heap n0 sz12 Fa12_E_a1 Fa12_F_a1_bits) hZ (hw _ (List.mem_of_getElem? (i := 23) rfl)) (hw _ (List.mem_of_getElem? (i := 5) rfl)) (by decide) (by decide)) q13a q13c (g := (mkF m 74 #[.val (.int ix0), .val (.int bits), .val (.int (1 : Int32)), .val (.int (0 : Int32)), .val (.int (2 : Int32))] [(.ref ob11)])) rfl (by rw [hml]; rfl) (Steps.refl _) (argsL := []) (rest := []) (lenOf own_pd2 rfl) rfl (by show 2 * 0 + _ ≤ _; exact Nat.le_of_eq rfl) (hb hby at_74) (fun _ _ => ⟨rfl, rfl, (by decide : 1 + 0 ≤ _), (by decide : 1 + 0 ≤ _)⟩)
      dsimp only [Pt.U, Pt.locs, Pt.cells, Pt.slots] at X13 tl13 ty13 tz13 st13 hQ13
      rw [tl13, ty13, tz13] at X13
      obtain ⟨rfl, Nq13, K13⟩ := hQ13
      have N13 := Fr.app N12 Nq13
      obtain ⟨fs, hr, hrun, hended, hW, hsame⟩ := X13.leave (v := some (.int (1 : Int32))) (fun h => by rw [Bd.returns] at h; cases h)
      refine ⟨_, _, pre10 _ ?_, hrun, hended, _, _, rfl, ?_, ⟨_, rfl⟩, hW, hsame.mono (by decide) (by decide)⟩
      · show Steps p.tables e below (s₁.setTop (mkF m 33 #[.val (.int ix0), .val (.int bits), .val (.int (1 : Int32)), .unset, .unset] [(.int (bits &&& (524288 : Int32)))])) _
        refine XS.ifYes X0.here hx rfl (pc0 := 33) (pc' := 40) rfl (hb hby at_33) rfl (XT.i0_eq_t hlo) (by decide) (by decide) ?_
        show Steps p.tables e below (s₁.setTop (mkF m 40 #[.val (.int ix0), .val (.int bits), .val (.int (1 : Int32)), .unset, .unset] [])) _
        refine XT.iconstV X0.here hx rfl (0 : Int32) (hb hby at_40) rfl ?_
        show Steps p.tables e below (s₁.setTop (mkF m 41 #[.val (.int ix0), .val (.int bits), .val (.int (1 : Int32)), .unset, .unset] [(.int (0 : Int32))])) _
        refine XS.istoreN X0.here hx rfl (hb hby at_41) rfl (l' := #[.val (.int ix0), .val (.int bits), .val (.int (1 : Int32)), .val (.int (0 : Int32)), .unset]) rfl ?_
        show Steps p.tables e below (s₁.setTop (mkF m 42 #[.val (.int ix0), .val (.int bits), .val (.int (1 : Int32)), .val (.int (0 : Int32)), .unset] [])) _
        refine XS.iloadN X0.here hx rfl (hb hby at_42) rfl ?_
        show Steps p.tables e below (s₁.setTop (mkF m 43 #[.val (.int ix0), .val (.int bits), .val (.int (1 : Int32)), .val (.int (0 : Int32)), .unset] [(.int (1 : Int32))])) _
        refine XS.ifNo X0.here hx rfl (hb hby at_43) rfl (XT.i0_eq_f (by decide)) ?_
        show Steps p.tables e below (s₁.setTop (mkF m 46 #[.val (.int ix0), .val (.int bits), .val (.int (1 : Int32)), .val (.int (0 : Int32)), .unset] [])) _
        refine XS.iloadN X0.here hx rfl (hb hby at_46) rfl ?_
        show Steps p.tables e below (s₁.setTop (mkF m 47 #[.val (.int ix0), .val (.int bits), .val (.int (1 : Int32)), .val (.int (0 : Int32)), .unset] [(.int (0 : Int32))])) _
        refine XS.ifYes X0.here hx rfl (pc0 := 47) (pc' := 56) rfl (hb hby at_47) rfl (XT.i0_eq_t rfl) (by decide) (by decide) ?_
        show Steps p.tables e below (s₁.setTop (mkF m 56 #[.val (.int ix0), .val (.int bits), .val (.int (1 : Int32)), .val (.int (0 : Int32)), .unset] [])) _
        refine XT.iconstV X0.here hx rfl (2 : Int32) (hb hby at_56) rfl ?_
        show Steps p.tables e below (s₁.setTop (mkF m 57 #[.val (.int ix0), .val (.int bits), .val (.int (1 : Int32)), .val (.int (0 : Int32)), .unset] [(.int (2 : Int32))])) _
        refine XS.istore X0.here hx rfl (hb hby at_57) rfl (l' := #[.val (.int ix0), .val (.int bits), .val (.int (1 : Int32)), .val (.int (0 : Int32)), .val (.int (2 : Int32))]) rfl ?_
        show Steps p.tables e below (s₁.setTop (mkF m 59 #[.val (.int ix0), .val (.int bits), .val (.int (1 : Int32)), .val (.int (0 : Int32)), .val (.int (2 : Int32))] [])) _
        refine XS.goto X0.here hx rfl (pc0 := 59) (pc' := 66) rfl (hb hby at_59) (by decide) (by decide) ?_
        show Steps p.tables e below (s₁.setTop (mkF m 66 #[.val (.int ix0), .val (.int bits), .val (.int (1 : Int32)), .val (.int (0 : Int32)), .val (.int (2 : Int32))] [])) _
        refine st11 _ ?_
        show Steps p.tables e below (T11.setTop (mkF m 69 #[.val (.int ix0), .val (.int bits), .val (.int (1 : Int32)), .val (.int (0 : Int32)), .val (.int (2 : Int32))] [(.ref ob11)])) _
        refine XS.dup X11.here hx rfl (hb hby at_69) rfl rfl ?_
        show Steps p.tables e below (T11.setTop (mkF m 70 #[.val (.int ix0), .val (.int bits), .val (.int (1 : Int32)), .val (.int (0 : Int32)), .val (.int (2 : Int32))] [(.ref ob11), (.ref ob11)])) _
        refine XS.iloadN X11.here hx rfl (hb hby at_70) rfl ?_
        show Steps p.tables e below (T11.setTop (mkF m 71 #[.val (.int ix0), .val (.int bits), .val (.int (1 : Int32)), .val (.int (0 : Int32)), .val (.int (2 : Int32))] [(.int bits), (.ref ob11), (.ref ob11)])) _
        refine st12.trans ?_
        show Steps p.tables e below (T12.setTop (mkF m 74 #[.val (.int ix0), .val (.int bits), .val (.int (1 : Int32)), .val (.int (0 : Int32)), .val (.int (2 : Int32))] [(.ref ob11)])) _
        refine st13.trans ?_
        show Steps p.tables e below (T13.setTop (mkF m 77 #[.val (.int ix0), .val (.int bits), .val (.int (1 : Int32)), .val (.int (0 : Int32)), .val (.int (2 : Int32))] [(.int (own_ver bits))])) _
        refine XS.iload X13.here hx rfl (hb hby at_77) rfl ?_
        show Steps p.tables e below (T13.setTop (mkF m 79 #[.val (.int ix0), .val (.int bits), .val (.int (1 : Int32)), .val (.int (0 : Int32)), .val (.int (2 : Int32))] [(.int (2 : Int32)), (.int (own_ver bits))])) _
        refine XS.icmpNo X13.here hx rfl (hb hby at_79) rfl (XT.ii_ne_f (own_ver2 _ hhi hlo)) ?_
        show Steps p.tables e below (T13.setTop (mkF m 82 #[.val (.int ix0), .val (.int bits), .val (.int (1 : Int32)), .val (.int (0 : Int32)), .val (.int (2 : Int32))] [])) _
        refine XT.iconstV X13.here hx rfl (1 : Int32) (hb hby at_82) rfl ?_
        show Steps p.tables e below (T13.setTop (mkF m 83 #[.val (.int ix0), .val (.int bits), .val (.int (1 : Int32)), .val (.int (0 : Int32)), .val (.int (2 : Int32))] [(.int (1 : Int32))])) _
        refine XS.goto X13.here hx rfl (pc0 := 83) (pc' := 87) rfl (hb hby at_83) (by decide) (by decide) ?_
        show Steps p.tables e below (T13.setTop (mkF m 87 #[.val (.int ix0), .val (.int bits), .val (.int (1 : Int32)), .val (.int (0 : Int32)), .val (.int (2 : Int32))] [(.int (1 : Int32))])) _
        exact retN X13 hx (t := .boolean) Bd.returns (by simp) (hb hby at_87) hr
      · show own_Q0 Z ix0 h0 n0 _ T13.heap _
        exact ⟨rfl, N13⟩
    · obtain ⟨T14, h14, X14, e14, E14, A14, D14, -, st14⟩ := newO X0 hx hZ hown (hw _ (List.mem_of_getElem? (i := 3) rfl)) (hw _ (List.mem_of_getElem? (i := 4) rfl)) (hw _ (List.mem_of_getElem? (i := 5) rfl)) e0 (g := (mkF m 66 #[.val (.int ix0), .val (.int bits), .val (.int (1 : Int32)), .val (.int (1 : Int32)), .val (.int (1 : Int32))] [])) rfl (hb hby at_66) (by decide) (by decide)
      obtain ⟨ob14, g14⟩ : ∃ z, z = h0.size := ⟨_, rfl⟩
      rw [← g14] at A14 D14 st14
      have sz14 : n0 ≤ h14.size := Nat.le_trans Z0 E14.1
      have gn_ob14 : n0 ≤ ob14 := Nat.le_trans Z0 (Nat.le_of_eq g14.symm)
      have bo_ob14 : h0.size ≤ ob14 := Nat.le_trans (Keep.refl h0 []).1 (Nat.le_of_eq g14.symm)
      have K14 : Keep h0 h14 [] := (Keep.refl h0 []).ext E14
      have F0_bits_ob14 : Fld Z h14 ob14 "com/example/plainsong/plainsong/Mp3Frames$Header" "bits" "I" (.int (0 : Int32)) := D14 (Or.inr (hw _ (List.mem_of_getElem? (i := 18) rfl))) (ty := .int) (by decide)
      obtain ⟨_, _, ⟨T15, tL15, tk15, tn15⟩, -, X15, ⟨Lc15, hQ15, tl15, ty15, tz15⟩, st15⟩ := X14.specialBack hx (y := (⟨"com/example/plainsong/plainsong/Mp3Frames$Header", "<init>", "(I)V"⟩ : MethodName)) rfl hown (mvT hZ (hw _ (List.mem_of_getElem? (i := 6) rfl))) (mvT hZ (hw _ (List.mem_of_getElem? (i := 7) rfl))) (mvT hZ (hw _ (List.mem_of_getElem? (i := 8) rfl))) (by decide) (backOf (W := 1) (own_rm1 l Z a0 hw [] ob14 bits ((.int (0 : Int32)) : Value) h14 n0 sz14 A14 F0_bits_ob14 gn_ob14) hZ (hw _ (List.mem_of_getElem? (i := 8) rfl)) (hw _ (List.mem_of_getElem? (i := 5) rfl)) (by decide) (by decide)) (g := (mkF m 71 #[.val (.int ix0), .val (.int bits), .val (.int (1 : Int32)), .val (.int (1 : Int32)), .val (.int (1 : Int32))] [(.int bits), (.ref ob14), (.ref ob14)])) rfl (by rw [hml]; rfl) (Steps.refl _) (a := ob14) (argsL := [(.int bits)]) (rest := [(.ref ob14)]) (lenOf own_pd1 rfl) rfl (by show 2 * 0 + _ ≤ _; exact Nat.le_of_eq rfl) (hb hby at_71) (fun _ _ => ⟨rfl, e14, (by decide : 1 + 0 ≤ _), (by decide : 1 + 0 ≤ _)⟩)
      dsimp only [Pt.U, Pt.locs, Pt.cells, Pt.slots] at X15 tl15 ty15 tz15 st15 hQ15
      rw [tl15, ty15, tz15] at X15
      obtain ⟨rfl, Nq15, K15, Fa15_E_a1, Fa15_F_a1_bits⟩ := hQ15
      have N15 := Fr.app N0 Nq15
      have sz15 : n0 ≤ T15.heap.size := Nat.le_trans sz14 K15.1
      have KK15 : Keep h0 T15.heap [] := K14.trans K15 (allS (Or.inr bo_ob14) all0)
      obtain ⟨cq16, kq16, q16a, q16b, q16c⟩ := isOf hZ rfl Fa15_E_a1
      obtain ⟨_, _, ⟨T16, tL16, tk16, tn16⟩, -, X16, ⟨Lc16, hQ16, tl16, ty16, tz16⟩, st16⟩ := X15.virtualBack hx (y := (⟨"com/example/plainsong/plainsong/Mp3Frames$Header", "version", "()I"⟩ : MethodName)) (z := (⟨"com/example/plainsong/plainsong/Mp3Frames$Header", "version", "()I"⟩ : MethodName)) hown (mvT hZ (hw _ (List.mem_of_getElem? (i := 19) rfl))) (mvT hZ (hw _ (List.mem_of_getElem? (i := 20) rfl))) (notFace_of_selects (args := #[]) (mvT hZ (hw _ (List.mem_of_getElem? (i := 22) rfl)))) (mvT hZ (hw _ (List.mem_of_getElem? (i := 22) rfl))) (mvT hZ (hw _ (List.mem_of_getElem? (i := 21) rfl))) (by decide) (backOf (W := 0) (own_rm4 l Z a0 hw [] ob14 bits T15.heap n0 sz15 Fa15_E_a1 Fa15_F_a1_bits) hZ (hw _ (List.mem_of_getElem? (i := 23) rfl)) (hw _ (List.mem_of_getElem? (i := 5) rfl)) (by decide) (by decide)) q16a q16c (g := (mkF m 74 #[.val (.int ix0), .val (.int bits), .val (.int (1 : Int32)), .val (.int (1 : Int32)), .val (.int (1 : Int32))] [(.ref ob14)])) rfl (by rw [hml]; rfl) (Steps.refl _) (argsL := []) (rest := []) (lenOf own_pd2 rfl) rfl (by show 2 * 0 + _ ≤ _; exact Nat.le_of_eq rfl) (hb hby at_74) (fun _ _ => ⟨rfl, rfl, (by decide : 1 + 0 ≤ _), (by decide : 1 + 0 ≤ _)⟩)
      dsimp only [Pt.U, Pt.locs, Pt.cells, Pt.slots] at X16 tl16 ty16 tz16 st16 hQ16
      rw [tl16, ty16, tz16] at X16
      obtain ⟨rfl, Nq16, K16⟩ := hQ16
      have N16 := Fr.app N15 Nq16
      obtain ⟨fs, hr, hrun, hended, hW, hsame⟩ := X16.leave (v := some (.int (1 : Int32))) (fun h => by rw [Bd.returns] at h; cases h)
      refine ⟨_, _, pre10 _ ?_, hrun, hended, _, _, rfl, ?_, ⟨_, rfl⟩, hW, hsame.mono (by decide) (by decide)⟩
      · show Steps p.tables e below (s₁.setTop (mkF m 33 #[.val (.int ix0), .val (.int bits), .val (.int (1 : Int32)), .unset, .unset] [(.int (bits &&& (524288 : Int32)))])) _
        refine XS.ifNo X0.here hx rfl (hb hby at_33) rfl (XT.i0_eq_f hlo) ?_
        show Steps p.tables e below (s₁.setTop (mkF m 36 #[.val (.int ix0), .val (.int bits), .val (.int (1 : Int32)), .unset, .unset] [])) _
        refine XT.iconstV X0.here hx rfl (1 : Int32) (hb hby at_36) rfl ?_
        show Steps p.tables e below (s₁.setTop (mkF m 37 #[.val (.int ix0), .val (.int bits), .val (.int (1 : Int32)), .unset, .unset] [(.int (1 : Int32))])) _
        refine XS.goto X0.here hx rfl (pc0 := 37) (pc' := 41) rfl (hb hby at_37) (by decide) (by decide) ?_
        show Steps p.tables e below (s₁.setTop (mkF m 41 #[.val (.int ix0), .val (.int bits), .val (.int (1 : Int32)), .unset, .unset] [(.int (1 : Int32))])) _
        refine XS.istoreN X0.here hx rfl (hb hby at_41) rfl (l' := #[.val (.int ix0), .val (.int bits), .val (.int (1 : Int32)), .val (.int (1 : Int32)), .unset]) rfl ?_
        show Steps p.tables e below (s₁.setTop (mkF m 42 #[.val (.int ix0), .val (.int bits), .val (.int (1 : Int32)), .val (.int (1 : Int32)), .unset] [])) _
        refine XS.iloadN X0.here hx rfl (hb hby at_42) rfl ?_
        show Steps p.tables e below (s₁.setTop (mkF m 43 #[.val (.int ix0), .val (.int bits), .val (.int (1 : Int32)), .val (.int (1 : Int32)), .unset] [(.int (1 : Int32))])) _
        refine XS.ifNo X0.here hx rfl (hb hby at_43) rfl (XT.i0_eq_f (by decide)) ?_
        show Steps p.tables e below (s₁.setTop (mkF m 46 #[.val (.int ix0), .val (.int bits), .val (.int (1 : Int32)), .val (.int (1 : Int32)), .unset] [])) _
        refine XS.iloadN X0.here hx rfl (hb hby at_46) rfl ?_
        show Steps p.tables e below (s₁.setTop (mkF m 47 #[.val (.int ix0), .val (.int bits), .val (.int (1 : Int32)), .val (.int (1 : Int32)), .unset] [(.int (1 : Int32))])) _
        refine XS.ifNo X0.here hx rfl (hb hby at_47) rfl (XT.i0_eq_f (by decide)) ?_
        show Steps p.tables e below (s₁.setTop (mkF m 50 #[.val (.int ix0), .val (.int bits), .val (.int (1 : Int32)), .val (.int (1 : Int32)), .unset] [])) _
        refine XT.iconstV X0.here hx rfl (1 : Int32) (hb hby at_50) rfl ?_
        show Steps p.tables e below (s₁.setTop (mkF m 51 #[.val (.int ix0), .val (.int bits), .val (.int (1 : Int32)), .val (.int (1 : Int32)), .unset] [(.int (1 : Int32))])) _
        refine XS.istore X0.here hx rfl (hb hby at_51) rfl (l' := #[.val (.int ix0), .val (.int bits), .val (.int (1 : Int32)), .val (.int (1 : Int32)), .val (.int (1 : Int32))]) rfl ?_
        show Steps p.tables e below (s₁.setTop (mkF m 53 #[.val (.int ix0), .val (.int bits), .val (.int (1 : Int32)), .val (.int (1 : Int32)), .val (.int (1 : Int32))] [])) _
        refine XS.goto X0.here hx rfl (pc0 := 53) (pc' := 66) rfl (hb hby at_53) (by decide) (by decide) ?_
        show Steps p.tables e below (s₁.setTop (mkF m 66 #[.val (.int ix0), .val (.int bits), .val (.int (1 : Int32)), .val (.int (1 : Int32)), .val (.int (1 : Int32))] [])) _
        refine st14 _ ?_
        show Steps p.tables e below (T14.setTop (mkF m 69 #[.val (.int ix0), .val (.int bits), .val (.int (1 : Int32)), .val (.int (1 : Int32)), .val (.int (1 : Int32))] [(.ref ob14)])) _
        refine XS.dup X14.here hx rfl (hb hby at_69) rfl rfl ?_
        show Steps p.tables e below (T14.setTop (mkF m 70 #[.val (.int ix0), .val (.int bits), .val (.int (1 : Int32)), .val (.int (1 : Int32)), .val (.int (1 : Int32))] [(.ref ob14), (.ref ob14)])) _
        refine XS.iloadN X14.here hx rfl (hb hby at_70) rfl ?_
        show Steps p.tables e below (T14.setTop (mkF m 71 #[.val (.int ix0), .val (.int bits), .val (.int (1 : Int32)), .val (.int (1 : Int32)), .val (.int (1 : Int32))] [(.int bits), (.ref ob14), (.ref ob14)])) _
        refine st15.trans ?_
        show Steps p.tables e below (T15.setTop (mkF m 74 #[.val (.int ix0), .val (.int bits), .val (.int (1 : Int32)), .val (.int (1 : Int32)), .val (.int (1 : Int32))] [(.ref ob14)])) _
        refine st16.trans ?_
        show Steps p.tables e below (T16.setTop (mkF m 77 #[.val (.int ix0), .val (.int bits), .val (.int (1 : Int32)), .val (.int (1 : Int32)), .val (.int (1 : Int32))] [(.int (own_ver bits))])) _
        refine XS.iload X16.here hx rfl (hb hby at_77) rfl ?_
        show Steps p.tables e below (T16.setTop (mkF m 79 #[.val (.int ix0), .val (.int bits), .val (.int (1 : Int32)), .val (.int (1 : Int32)), .val (.int (1 : Int32))] [(.int (1 : Int32)), (.int (own_ver bits))])) _
        refine XS.icmpNo X16.here hx rfl (hb hby at_79) rfl (XT.ii_ne_f (own_ver1 _ hhi hlo)) ?_
        show Steps p.tables e below (T16.setTop (mkF m 82 #[.val (.int ix0), .val (.int bits), .val (.int (1 : Int32)), .val (.int (1 : Int32)), .val (.int (1 : Int32))] [])) _
        refine XT.iconstV X16.here hx rfl (1 : Int32) (hb hby at_82) rfl ?_
        show Steps p.tables e below (T16.setTop (mkF m 83 #[.val (.int ix0), .val (.int bits), .val (.int (1 : Int32)), .val (.int (1 : Int32)), .val (.int (1 : Int32))] [(.int (1 : Int32))])) _
        refine XS.goto X16.here hx rfl (pc0 := 83) (pc' := 87) rfl (hb hby at_83) (by decide) (by decide) ?_
        show Steps p.tables e below (T16.setTop (mkF m 87 #[.val (.int ix0), .val (.int bits), .val (.int (1 : Int32)), .val (.int (1 : Int32)), .val (.int (1 : Int32))] [(.int (1 : Int32))])) _
        exact retN X16 hx (t := .boolean) Bd.returns (by simp) (hb hby at_87) hr
      · show own_Q0 Z ix0 h0 n0 _ T16.heap _
        exact ⟨rfl, N16⟩
set_option maxRecDepth 65536 in
set_option maxHeartbeats 40000000 in
theorem comes_1 {Post : Tables → Env → Array Value → State → Outcome → State → Prop} (hpost : ∀ tb e args s v u, (limb_1_1.after args s (.returned v) u = true ∧ limb_1_2.after args s (.returned v) u = true ∧ True) → FrameEnd s (.returned v) u (Jvm.fieldLocs frame_1_writes args s ++ Jvm.arrayLocs frame_1_arrays args s ++ Jvm.staticLocs frame_1_statics s) 16 128 → Post tb e args s (.returned v) u) :
    ArmFor flags0 classFile x code maxLocals ret World_1 tables_1 room_1 Calls_1 rest_1 Pre_1 Post := by
  intro l hfl _ _ p e ha hc hk s m args below hf hA hF happ hP
  obtain ⟨hcalls, hrest, hpre⟩ := hP
  obtain ⟨-, -, -, hnamed, -, -, -, hat⟩ := (Spec.applies_iff hf).mp happ
  obtain ⟨hg, hn⟩ := and_e (Cond.before_iff.mp (show (Jvm.Cond.and given_1 narrow_1).before args s = true from hpre))
  obtain ⟨gc, gr0⟩ := and_e hg
  obtain ⟨w0, rfl⟩ : ∃ w0 : Value, args = #[w0] := by
    have hs : args.size = 1 := by simpa [Cond.value, given_1] using gc
    obtain ⟨L⟩ := args
    match L, hs with
    | [w0], _ => exact ⟨w0, rfl⟩
  have hw := fun d (hd : d ∈ tables_1) => atoms_spec (ws := Jvm.Cond.code x code maxLocals ret :: tables_1) hat d (List.mem_cons_of_mem _ hd)
  obtain ⟨i0, ei0⟩ := is_v gr0
  obtain rfl : w0 = (.int i0) := Option.some.inj ei0
  obtain ⟨n, o, h1, h2, h3, _, L, rfl, ⟨rfl, N⟩, hq⟩ := own_rm0 l s _ hw tables_1 i0 s.heap s.heap.size (Nat.le_refl _) p e ha hc hk s m _ below hf ((Spec.applies_iff_loose hf).mp happ).1 ⟨rfl, State.Warmed39.refl s, rfl⟩ trivial
  refine ⟨n, _, h1, h2, h3, hpost _ _ _ _ _ _ ⟨Cond.after_iff.mpr rfl, Cond.after_iff.mpr (eq_i res_at (Term.int_eval (1)) rfl), trivial⟩ ⟨hq.1, hq.2.1, (hq.2.2.sift fun y hy => Or.inr (N y hy)).mono (by decide) (by decide)⟩⟩
theorem main_1_1 : Claimed_1_1 := comes_1 fun _ _ _ _ _ _ h hF => ⟨h.1, hF⟩
theorem main_1_2 : Claimed_1_2 := comes_1 fun _ _ _ _ _ _ h hF => ⟨h.2.1, hF⟩
end Jvm.Pilot.@@N@@
namespace Jvm.Pilot.@@N@@
open Jvm Jvm.ClassFile Sem Op Lib Jvm.Free Jvm.Stand Jvm.Pilot.@@N@@.Jvm.D
/-! MADE BY PROGRAM (witnessworld.py) out of the Statement's table words and the real class files: 10 classes; the members and pool entries that the words name. The judged class is class 1, her method 1. -/
namespace start1
open Jvm.ClassFile
def u (s : String) : CpInfo := .utf8 (stringToUtf16 s)
/-- a pool by its gaps: so many unusable entries, then the entry; so many at the end -/
def gap : Nat → List CpInfo → List CpInfo
  | 0, r => r
  | n + 1, r => .unusable :: gap n r
def poolList (es : List (Nat × CpInfo)) (last : Nat) : List CpInfo := es.foldr (fun e r => gap e.1 (e.2 :: r)) (gap last [])
def pool (es : List (Nat × CpInfo)) (last : Nat) : Array CpInfo := ⟨poolList es last⟩
def fileOf (pool : Array CpInfo) (this : Nat) (attrs : Array Attribute := #[]) (ms : Array MethodInfo := #[]) (fl : Nat := 33) (sup : Nat := 0) (ifs : Array Nat := #[]) (fds : Array FieldInfo := #[]) : ClassFile where
  minorVersion := 0
  majorVersion := 65
  constantPool := pool
  accessFlags := fl
  thisClass := this
  superClass := sup
  interfaces := ifs
  fields := fds
  methods := ms
  attributes := attrs
def plain (name : String) (sup : Option ClassId) : Class where
  name := name
  kind := .ordinary
  loader := none
  accessFlags := 33
  super := sup
  interfaces := #[]
  cf := none
  fields := #[]
  methods := #[]
  instanceTypes := #[]
  staticTypes := #[]
  resolved := #[]
  callSites := []
  init := .initialized
  statics := none
  mirror := none

def pool0 : Array CpInfo := pool [(5, u "<init>"), (0, u "()V"), (1, .class_ 10), (1, u "java/lang/Object")] 113

def k0c0 : Code := { maxStack := 0, maxLocals := 1, code := object_method_1_code, exceptionTable := #[], attributes := #[] }
def k0m0 : Method := { name := "<init>", desc := "()V", sig := { parameters := [], returnType := none }, accessFlags := 1, code := some k0c0 }
/-- java/lang/Object -/
def k0 : Class := { plain "java/lang/Object" none with
  accessFlags := 33
  interfaces := #[]
  cf := some (fileOf pool0 8 #[] #[{ accessFlags := 1, nameIndex := 5, descriptorIndex := 6, attributes := #[] }] 33 0 #[] #[])
  fields := #[]
  methods := #[k0m0]
  instanceTypes := #[]
  staticTypes := #[]
  resolved := Array.replicate 124 none
  statics := none }

def pool1 : Array CpInfo := pool [(2, .class_ 4), (1, u "java/lang/Object"), (0, u "<init>"), (0, u "()V"), (0, .integer 1572864), (0, .integer 524288), (0, .integer 1048576), (0, .class_ 11), (0, u "com/example/plainsong/plainsong/Mp3Frames$Header"), (0, .methodref 10 13), (0, .nameAndType 5 14), (0, u "(I)V"), (0, .methodref 10 16), (0, .nameAndType 17 18), (0, u "version"), (0, u "()I"), (0, .class_ 20), (0, u "com/example/plainsong/plainsong/HeaderVersionPinLaw"), (2, u "law"), (0, u "(I)Z")] 7

def k1m0 : Method := { name := "<init>", desc := "()V", sig := { parameters := [], returnType := none }, accessFlags := 1, code := none }
def k1c1 : Code := { maxStack := 3, maxLocals := 5, code := code, exceptionTable := #[], attributes := #[] }
def k1m1 : Method := { name := "law", desc := "(I)Z", sig := { parameters := [.int], returnType := some .boolean }, accessFlags := 9, code := some k1c1 }
/-- com/example/plainsong/plainsong/HeaderVersionPinLaw -/
def k1 : Class := { plain "com/example/plainsong/plainsong/HeaderVersionPinLaw" (some 0) with
  accessFlags := 49
  interfaces := #[]
  cf := some (fileOf pool1 19 #[] #[{ accessFlags := 1, nameIndex := 5, descriptorIndex := 6, attributes := #[] }, { accessFlags := 9, nameIndex := 23, descriptorIndex := 24, attributes := #[] }] 49 2 #[] #[])
  fields := #[]
  methods := #[k1m0, k1m1]
  instanceTypes := #[]
  staticTypes := #[]
  resolved := Array.replicate 32 none
  statics := none }

def pool2 : Array CpInfo := pool [(1, .methodref 2 3), (0, .class_ 4), (0, .nameAndType 5 6), (0, u "java/lang/Object"), (0, u "<init>"), (0, u "()V"), (0, .class_ 8), (0, u "java/lang/Record")] 13

def k2c0 : Code := { maxStack := 1, maxLocals := 1, code := jdk_30_method_1_code, exceptionTable := #[], attributes := #[] }
def k2m0 : Method := { name := "<init>", desc := "()V", sig := { parameters := [], returnType := none }, accessFlags := 4, code := some k2c0 }
/-- java/lang/Record -/
def k2 : Class := { plain "java/lang/Record" (some 0) with
  accessFlags := 1057
  interfaces := #[]
  cf := some (fileOf pool2 7 #[] #[{ accessFlags := 4, nameIndex := 5, descriptorIndex := 6, attributes := #[] }] 1057 2 #[] #[])
  fields := #[]
  methods := #[k2m0]
  instanceTypes := #[]
  staticTypes := #[]
  resolved := Array.replicate 22 none
  statics := none }

def pool3 : Array CpInfo := pool [(1, .class_ 2), (0, u "com/example/plainsong/plainsong/Mp3Frames"), (0, .methodref 4 5), (0, .class_ 6), (0, .nameAndType 7 8), (0, u "java/lang/Record"), (0, u "<init>"), (0, u "()V"), (0, .fieldref 10 11), (0, .class_ 12), (0, .nameAndType 13 14), (0, u "com/example/plainsong/plainsong/Mp3Frames$Header"), (0, u "bits"), (0, u "I"), (9, u "(I)V"), (6, u "version"), (0, u "()I"), (2, u "MPEG1_KBPS"), (0, u "[I"), (2, u "MPEG2_KBPS"), (2, u "MPEG1_RATES"), (50, u "LENGTH_BITS"), (2, u "STREAM_BITS"), (0, u "MAX_DAMAGED_BITS")] 41

def k3c0 : Code := { maxStack := 2, maxLocals := 2, code := prog_49_method_1_code, exceptionTable := #[], attributes := #[] }
def k3m0 : Method := { name := "<init>", desc := "(I)V", sig := { parameters := [.int], returnType := none }, accessFlags := 0, code := some k3c0 }
def k3c1 : Code := { maxStack := 2, maxLocals := 2, code := prog_49_method_3_code, exceptionTable := #[], attributes := #[] }
def k3m1 : Method := { name := "version", desc := "()I", sig := { parameters := [], returnType := some .int }, accessFlags := 0, code := some k3c1 }
/-- com/example/plainsong/plainsong/Mp3Frames$Header -/
def k3 : Class := { plain "com/example/plainsong/plainsong/Mp3Frames$Header" (some 2) with
  accessFlags := 48
  interfaces := #[]
  cf := some (fileOf pool3 10 #[.nestHost 1] #[{ accessFlags := 0, nameIndex := 7, descriptorIndex := 24, attributes := #[] }, { accessFlags := 0, nameIndex := 31, descriptorIndex := 32, attributes := #[] }] 48 4 #[] #[{ accessFlags := 18, nameIndex := 13, descriptorIndex := 14, attributes := #[] }, { accessFlags := 24, nameIndex := 93, descriptorIndex := 14, attributes := #[] }, { accessFlags := 26, nameIndex := 96, descriptorIndex := 14, attributes := #[] }, { accessFlags := 26, nameIndex := 97, descriptorIndex := 14, attributes := #[] }, { accessFlags := 26, nameIndex := 35, descriptorIndex := 36, attributes := #[] }, { accessFlags := 26, nameIndex := 39, descriptorIndex := 36, attributes := #[] }, { accessFlags := 26, nameIndex := 42, descriptorIndex := 36, attributes := #[] }])
  fields := #[{ name := "bits", type := .int, accessFlags := 18, slot := 0, constantValue := 0 }, { name := "LENGTH_BITS", type := .int, accessFlags := 24, slot := 0, constantValue := 0 }, { name := "STREAM_BITS", type := .int, accessFlags := 26, slot := 1, constantValue := 0 }, { name := "MAX_DAMAGED_BITS", type := .int, accessFlags := 26, slot := 2, constantValue := 0 }, { name := "MPEG1_KBPS", type := (.array .int), accessFlags := 26, slot := 3, constantValue := 0 }, { name := "MPEG2_KBPS", type := (.array .int), accessFlags := 26, slot := 4, constantValue := 0 }, { name := "MPEG1_RATES", type := (.array .int), accessFlags := 26, slot := 5, constantValue := 0 }]
  methods := #[k3m0, k3m1]
  instanceTypes := #[.int]
  staticTypes := #[.int, .int, .int, (.array .int), (.array .int), (.array .int)]
  resolved := Array.replicate 139 none
  statics := none }

def pool4 : Array CpInfo := pool [(1, u "java/lang/Cloneable"), (0, .class_ 1), (0, u "java/lang/Object"), (0, .class_ 3)] 3

/-- java/lang/Cloneable -/
def k4 : Class := { plain "java/lang/Cloneable" (some 0) with
  accessFlags := 1537
  interfaces := #[]
  cf := some (fileOf pool4 2 #[] #[] 1537 4 #[] #[])
  fields := #[]
  methods := #[]
  instanceTypes := #[]
  staticTypes := #[]
  resolved := Array.replicate 8 none
  statics := none }

def pool5 : Array CpInfo := pool [(1, u "java/io/Serializable"), (0, .class_ 1), (0, u "java/lang/Object"), (0, .class_ 3)] 3

/-- java/io/Serializable -/
def k5 : Class := { plain "java/io/Serializable" (some 0) with
  accessFlags := 1537
  interfaces := #[]
  cf := some (fileOf pool5 2 #[] #[] 1537 4 #[] #[])
  fields := #[]
  methods := #[]
  instanceTypes := #[]
  staticTypes := #[]
  resolved := Array.replicate 8 none
  statics := none }

/-- the primitive byte -/
def k6 : Class := { plain "byte" none with kind := .primitive 'B', accessFlags := 0x411 }
/-- [B -/
def k7 : Class := { plain "[B" (some 0) with kind := .array 6 .byte, interfaces := #[4, 5], accessFlags := 1041 }

/-- the primitive int -/
def k8 : Class := { plain "int" none with kind := .primitive 'I', accessFlags := 0x411 }
/-- [I -/
def k9 : Class := { plain "[I" (some 0) with kind := .array 8 .int, interfaces := #[4, 5], accessFlags := 1041 }

def heap : Heap := #[]
def classes : Array Class := #[k0, k1, k2, k3, k4, k5, k6, k7, k8, k9]
def interned : List (Array UInt16 × Addr) := []
def slotsUsed : Nat := 0
def theMethod : MethodId := ⟨1, 1⟩
def args0 : Array Value := #[.int 5]
def aboutOver (below : List Frame) : State where
  vm := { classes := classes, interned := interned.toArray }
  heap := heap
  slotsUsed := slotsUsed
  threads := #[{ frames := .invoking theMethod args0 :: below }]
def below0 : List Frame := [.native { method := ⟨0, 0⟩, args := #[] }]
def about1 : State := aboutOver below0
def p0 : Program := .bare "" "" ""
def e0 : Env := launch0.env 0 0 0
theorem w_frames : about1.frames = Frame.invoking theMethod args0 :: below0 := rfl
set_option maxRecDepth 65536 in
theorem w_args : argsFit about1.vm theMethod args0 = true := by decide +kernel
set_option maxRecDepth 65536 in
theorem w_heap : heapFits about1 = true := by decide +kernel
set_option maxRecDepth 65536 in
theorem w_runnable : about1.curStatus? = some .runnable := by decide +kernel
set_option maxRecDepth 65536 in
theorem w_alone : about1.alone = true := by decide +kernel
set_option maxRecDepth 65536 in
theorem w_named : about1.methodNamed? x = some theMethod := by decide +kernel
set_option maxRecDepth 65536 in
theorem w_hears : about1.hears theMethod below0 = true := by decide +kernel
set_option maxRecDepth 65536 in
theorem w_ripe : about1.ripe theMethod args0 below0 = true := by decide +kernel
theorem w_running : about1.status = .running := rfl
set_option maxRecDepth 65536 in
theorem w_room : about1.hasRoom e0.platform room_1 = true :=
  launch0.hasRoom_least _ room_1 (by decide +kernel) (by decide +kernel) (by decide +kernel) (by decide +kernel) (by decide +kernel) (by decide +kernel)
theorem allAtoms_all (ts : List Jvm.Cond) (a : Array Jvm.Value) (st : Jvm.State) : (allAtoms ts).before a st = ts.all (fun c => c.before a st) := by
  induction ts with
  | nil => rfl
  | cons c t ih =>
    show (Jvm.Cond.and c (allAtoms t)).before a st = _
    rw [Jvm.Cond.before_and, ih, List.all_cons]
def words1 : List Jvm.Cond := Jvm.Cond.code x code maxLocals ret :: tables_1
/-- a 'code' word, met by the world's own term for the bytes: nothing is compared byte by byte -/
theorem code_word {y : MethodName} {bytes : ByteArray} {mx : Nat} {rt : Option FieldType} {a : Array Value} {s : State} {m : MethodId} {meth : Method} {c : Code} (h1 : s.methodNamed? y = some m) (h2 : s.vm.method? m = some meth) (h3 : meth.code = some c) (h4 : c.code = bytes)
    (h5 : (c.maxLocals == mx && c.exceptionTable.isEmpty && decide (c.maxStack ≤ mostOperands) && decide (meth.sig.returnType = rt) && !meth.locks && decide (parseMethodDescriptor y.desc = some meth.sig)) = true) : (Jvm.Cond.code y bytes mx rt).before a s = true := by
  simp only [Bool.and_eq_true, beq_iff_eq, Bool.not_eq_true', decide_eq_true_eq] at h5
  obtain ⟨⟨⟨⟨⟨g1, g2⟩, g3⟩, g4⟩, g5⟩, g6⟩ := h5
  simp [Cond.before, Cond.holds, Cond.value, h1, h2, h3, h4, g1, g2, g3, g4, g5, g6]
def isCode : Jvm.Cond → Bool
  | .code _ _ _ _ => true
  | _ => false
theorem all_split {L : List Jvm.Cond} {P : Jvm.Cond → Bool} (h1 : L.all (fun c => isCode c || P c) = true) (h2 : ∀ c ∈ L.filter isCode, P c = true) : L.all P = true := by
  refine List.all_eq_true.mpr fun c hc => ?_
  have h := List.all_eq_true.mp h1 c hc
  rcases Bool.eq_false_or_eq_true (isCode c) with hi | hi
  · exact h2 c (List.mem_filter.mpr ⟨hc, hi⟩)
  · simpa [hi] using h
set_option maxRecDepth 65536 in
theorem w_c0 : (Jvm.Cond.code x code maxLocals ret).before args0 about1 = true := code_word (m := ⟨1, 1⟩) (meth := k1m1) (c := k1c1) (by decide +kernel) rfl rfl rfl (by decide +kernel)
set_option maxRecDepth 65536 in
theorem w_c1 : (Jvm.Cond.code ({ cls := "com/example/plainsong/plainsong/Mp3Frames$Header", name := "<init>", desc := "(I)V" } : Jvm.MethodName) prog_49_method_1_code (2 : Nat) (Option.none : Option Jvm.ClassFile.FieldType)).before args0 about1 = true := code_word (m := ⟨3, 0⟩) (meth := k3m0) (c := k3c0) (by decide +kernel) rfl rfl rfl (by decide +kernel)
set_option maxRecDepth 65536 in
theorem w_c2 : (Jvm.Cond.code ({ cls := "java/lang/Record", name := "<init>", desc := "()V" } : Jvm.MethodName) jdk_30_method_1_code (1 : Nat) (Option.none : Option Jvm.ClassFile.FieldType)).before args0 about1 = true := code_word (m := ⟨2, 0⟩) (meth := k2m0) (c := k2c0) (by decide +kernel) rfl rfl rfl (by decide +kernel)
set_option maxRecDepth 65536 in
theorem w_c3 : (Jvm.Cond.code ({ cls := "java/lang/Object", name := "<init>", desc := "()V" } : Jvm.MethodName) object_method_1_code (1 : Nat) (Option.none : Option Jvm.ClassFile.FieldType)).before args0 about1 = true := code_word (m := ⟨0, 0⟩) (meth := k0m0) (c := k0c0) (by decide +kernel) rfl rfl rfl (by decide +kernel)
set_option maxRecDepth 65536 in
theorem w_c4 : (Jvm.Cond.code ({ cls := "com/example/plainsong/plainsong/Mp3Frames$Header", name := "version", desc := "()I" } : Jvm.MethodName) prog_49_method_3_code (2 : Nat) (Option.some Jvm.ClassFile.FieldType.int)).before args0 about1 = true := code_word (m := ⟨3, 1⟩) (meth := k3m1) (c := k3c1) (by decide +kernel) rfl rfl rfl (by decide +kernel)
def codes1 : List Jvm.Cond := [Jvm.Cond.code x code maxLocals ret, Jvm.Cond.code ({ cls := "com/example/plainsong/plainsong/Mp3Frames$Header", name := "<init>", desc := "(I)V" } : Jvm.MethodName) prog_49_method_1_code (2 : Nat) (Option.none : Option Jvm.ClassFile.FieldType), Jvm.Cond.code ({ cls := "java/lang/Record", name := "<init>", desc := "()V" } : Jvm.MethodName) jdk_30_method_1_code (1 : Nat) (Option.none : Option Jvm.ClassFile.FieldType), Jvm.Cond.code ({ cls := "java/lang/Object", name := "<init>", desc := "()V" } : Jvm.MethodName) object_method_1_code (1 : Nat) (Option.none : Option Jvm.ClassFile.FieldType), Jvm.Cond.code ({ cls := "com/example/plainsong/plainsong/Mp3Frames$Header", name := "version", desc := "()I" } : Jvm.MethodName) prog_49_method_3_code (2 : Nat) (Option.some Jvm.ClassFile.FieldType.int)]
set_option maxRecDepth 65536 in
theorem codes_eq : words1.filter isCode = codes1 := rfl
theorem w_codes : ∀ c ∈ words1.filter isCode, c.before args0 about1 = true := by
  rw [codes_eq]
  intro c hc
  simp only [codes1, List.mem_cons, List.not_mem_nil, or_false] at hc
  rcases hc with rfl | rfl | rfl | rfl | rfl
  · exact w_c0
  · exact w_c1
  · exact w_c2
  · exact w_c3
  · exact w_c4
set_option maxRecDepth 65536 in
theorem w_t1 : (words1.take 24).all (fun c => isCode c || c.before args0 about1) = true := by decide +kernel
set_option maxRecDepth 65536 in
theorem w_t2 : (words1.drop 24).all (fun c => isCode c || c.before args0 about1) = true := by decide +kernel
theorem w_tables : (allAtoms (Jvm.Cond.code x code maxLocals ret :: tables_1)).before args0 about1 = true := by
  rw [allAtoms_all]
  show words1.all (fun c => c.before args0 about1) = true
  refine all_split ?_ w_codes
  rw [← List.take_append_drop 24 words1, List.all_append, w_t1, w_t2]
  rfl
set_option maxRecDepth 65536 in
theorem w_case : (Jvm.Cond.and given_1 narrow_1).before args0 about1 = true := by decide +kernel
theorem w_applies : (headSpec (Jvm.Cond.code x code maxLocals ret :: tables_1) room_1).applies x e0.platform about1 = true :=
  (Spec.applies_iff w_frames).mpr ⟨w_running, w_runnable, w_alone, w_named, w_hears, w_ripe, w_room, w_tables⟩
theorem atStart : AtStart classFile x code maxLocals ret World_1 tables_1 room_1 Calls_1 rest_1 Pre_1 launch0 p0 e0 about1 theMethod args0 below0 :=
  ⟨lists_1, trivial, launch0.admits_env _ _ _, launch0.least_env, fairChoices_fair.cas, fairChoices_fair.clock, w_frames, w_args, w_heap, w_applies, trivial, trivial, w_case⟩
end start1
theorem witness_1 : WitnessClaimed_1 := ⟨start1.p0, start1.e0, start1.about1, start1.theMethod, start1.args0, start1.below0, start1.atStart⟩
end Jvm.Pilot.@@N@@
