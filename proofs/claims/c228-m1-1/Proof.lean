import JvmDerived
import JvmDerived.Pilot.@@N@@Statement
import JvmDerived.Pilot.@@N@@Code
set_option linter.unusedVariables false
set_option linter.unusedSimpArgs false
namespace Jvm.Pilot.@@N@@
open Jvm Jvm.ClassFile Sem Op Lib Jvm.Free Jvm.Stand Jvm.LawKit Jvm.RoadKit Bundle Jvm.Pilot.@@N@@.Jvm.D
theorem own_pd0 : parseMethodDescriptor "(II)V" = some ⟨[.int, .int], none⟩ := by decide +kernel
theorem own_pd1 : parseMethodDescriptor "(Lcom/example/tracegauge/tracegauge/TraceTokens$Deviations;J)V" = some ⟨[(.object "com/example/tracegauge/tracegauge/TraceTokens$Deviations"), .long], none⟩ := by decide +kernel
theorem own_pd2 : parseMethodDescriptor "(JJJI)J" = some ⟨[.long, .long, .long, .int], some .long⟩ := by decide +kernel
theorem own_exp0 (a b t : Int64) : a + b * t = (a + (0 : Int32).toInt64) + ((b + (0 : Int32).toInt64) * t) := by
  have e : (0 : Int32).toInt64 = 0 := by decide
  rw [e, Int64.add_zero, Int64.add_zero]
theorem own_d1_0 : decode prog_143_method_1_code 0 = .ok (.aload_n 0, 1) := by decide +kernel
theorem own_d1_1 : decode prog_143_method_1_code 1 = .ok (.invokespecial 1, 3) := by decide +kernel
theorem own_d1_4 : decode prog_143_method_1_code 4 = .ok (.aload_n 0, 1) := by decide +kernel
theorem own_d1_5 : decode prog_143_method_1_code 5 = .ok (.iload_n 1, 1) := by decide +kernel
theorem own_d1_6 : decode prog_143_method_1_code 6 = .ok (.newarray .long, 2) := by decide +kernel
theorem own_d1_8 : decode prog_143_method_1_code 8 = .ok (.putfield 7, 3) := by decide +kernel
theorem own_d1_11 : decode prog_143_method_1_code 11 = .ok (.aload_n 0, 1) := by decide +kernel
theorem own_d1_12 : decode prog_143_method_1_code 12 = .ok (.iload_n 1, 1) := by decide +kernel
theorem own_d1_13 : decode prog_143_method_1_code 13 = .ok (.newarray .long, 2) := by decide +kernel
theorem own_d1_15 : decode prog_143_method_1_code 15 = .ok (.putfield 13, 3) := by decide +kernel
theorem own_d1_18 : decode prog_143_method_1_code 18 = .ok (.aload_n 0, 1) := by decide +kernel
theorem own_d1_19 : decode prog_143_method_1_code 19 = .ok (.iload_n 2, 1) := by decide +kernel
theorem own_d1_20 : decode prog_143_method_1_code 20 = .ok (.newarray .long, 2) := by decide +kernel
theorem own_d1_22 : decode prog_143_method_1_code 22 = .ok (.putfield 16, 3) := by decide +kernel
theorem own_d1_25 : decode prog_143_method_1_code 25 = .ok (.aload_n 0, 1) := by decide +kernel
theorem own_d1_26 : decode prog_143_method_1_code 26 = .ok (.iload_n 2, 1) := by decide +kernel
theorem own_d1_27 : decode prog_143_method_1_code 27 = .ok (.newarray .long, 2) := by decide +kernel
theorem own_d1_29 : decode prog_143_method_1_code 29 = .ok (.putfield 19, 3) := by decide +kernel
theorem own_d1_32 : decode prog_143_method_1_code 32 = .ok (.return_, 1) := by decide +kernel
theorem own_pn1 : plainName "com/example/tracegauge/tracegauge/TraceTokens$Deviations" = true := by first | (simp [plainName, overriddenIn]; done) | decide +kernel
theorem own_ef1 (m : MethodId) (a1 : Addr) : entryFrame m #[(.ref a1), (.int (2 : Int32)), (.int (3 : Int32))] 3 = mkF m 0 #[.val (.ref a1), .val (.int (2 : Int32)), .val (.int (3 : Int32))] [] := by first | (simp [entryFrame, mkF, argsToLocals, Value.category]; done) | rfl
def own_Q1 (Z : State) (a1 : Addr) (u_missing : Value) (u_remaining : Value) (u_forced : Value) (u_violated : Value) (h0 : Heap) (n0 : Nat) (v : Option Value) (h : Heap) (L : List Loc) : Prop := ∃ m0 : Addr, ∃ m1 : Addr, ∃ m2 : Addr, ∃ m3 : Addr, ∃ k0 : ClassId, ∃ k1 : ClassId, ∃ k2 : ClassId, ∃ k3 : ClassId, (v = none) ∧ (Fr n0 L) ∧ (Keep h0 h [a1]) ∧ (Exa Z h a1 "com/example/tracegauge/tracegauge/TraceTokens$Deviations") ∧ (Fld Z h a1 "com/example/tracegauge/tracegauge/TraceTokens$Deviations" "missing" "[J" (.ref m0)) ∧ (Fld Z h a1 "com/example/tracegauge/tracegauge/TraceTokens$Deviations" "remaining" "[J" (.ref m1)) ∧ (Fld Z h a1 "com/example/tracegauge/tracegauge/TraceTokens$Deviations" "forced" "[J" (.ref m2)) ∧ (Fld Z h a1 "com/example/tracegauge/tracegauge/TraceTokens$Deviations" "violated" "[J" (.ref m3)) ∧ (Arv Z h m0 k0 .long (2 : Int32) [(.long (0 : Int64)), (.long (0 : Int64))] (.long (0 : Int64))) ∧ (Arv Z h m1 k1 .long (2 : Int32) [(.long (0 : Int64)), (.long (0 : Int64))] (.long (0 : Int64))) ∧ (Arv Z h m2 k2 .long (3 : Int32) [(.long (0 : Int64)), (.long (0 : Int64)), (.long (0 : Int64))] (.long (0 : Int64))) ∧ (Arv Z h m3 k3 .long (3 : Int32) [(.long (0 : Int64)), (.long (0 : Int64)), (.long (0 : Int64))] (.long (0 : Int64))) ∧ (h0.size ≤ m0) ∧ (h0.size ≤ m1) ∧ (h0.size ≤ m2) ∧ (h0.size ≤ m3) ∧ (m0 ≠ m1) ∧ (m0 ≠ m2) ∧ (m0 ≠ m3) ∧ (m1 ≠ m2) ∧ (m1 ≠ m3) ∧ (m2 ≠ m3)
set_option maxRecDepth 65536 in
set_option maxHeartbeats 40000000 in
theorem own_rm1 (l : Launch) (Z : State) (a0 : Array Value) (hw : ∀ d ∈ tables_1, d.before a0 Z = true) (ws : List Jvm.Cond) (a1 : Addr) (u_missing : Value) (u_remaining : Value) (u_forced : Value) (u_violated : Value) (h0 : Heap) (n0 : Nat) (Z0 : n0 ≤ h0.size) (P_E_a1 : Exa Z h0 a1 "com/example/tracegauge/tracegauge/TraceTokens$Deviations") (P_F_a1_missing : Fld Z h0 a1 "com/example/tracegauge/tracegauge/TraceTokens$Deviations" "missing" "[J" u_missing) (P_F_a1_remaining : Fld Z h0 a1 "com/example/tracegauge/tracegauge/TraceTokens$Deviations" "remaining" "[J" u_remaining) (P_F_a1_forced : Fld Z h0 a1 "com/example/tracegauge/tracegauge/TraceTokens$Deviations" "forced" "[J" u_forced) (P_F_a1_violated : Fld Z h0 a1 "com/example/tracegauge/tracegauge/TraceTokens$Deviations" "violated" "[J" u_violated) (g_a1 : n0 ≤ a1) :
    MetFree l (⟨"com/example/tracegauge/tracegauge/TraceTokens$Deviations", "<init>", "(II)V"⟩ : MethodName) (head1 (Jvm.Cond.code (⟨"com/example/tracegauge/tracegauge/TraceTokens$Deviations", "<init>", "(II)V"⟩ : MethodName) prog_143_method_1_code 3 none :: ws) ({ frames := 1, cells := 4, slots := 10, locals := 12 } : Room)) (fun ar_ U_ => ar_ = #[(.ref a1), (.int (2 : Int32)), (.int (3 : Int32))] ∧ Z.Warmed39 U_.vm ∧ U_.heap = h0) (fun _ _ _ _ _ => True) (fun _ U_ o_ U_' => ∃ v_ L_, o_ = .returned v_ ∧ own_Q1 Z a1 u_missing u_remaining u_forced u_violated h0 n0 v_ U_'.heap L_ ∧ FrameEnd U_ o_ U_' L_ ({ frames := 1, cells := 4, slots := 10, locals := 12 } : Room).cells ({ frames := 1, cells := 4, slots := 10, locals := 12 } : Room).slots) := by
  refine MetFree.of_bodySF (plainFor_of_name own_pn1) hisR ?_
  intro p e s m args below meth c s₁ Bd hml0 hP hK
  obtain ⟨rfl, hZ, hh⟩ := hP
  have hx := Bd.exec
  have hby := Bd.bytes
  have hml : c.maxLocals = 3 := hml0
  have hown : s.vm.findClass "com/example/tracegauge/tracegauge/TraceTokens$Deviations" = some m.cls := findClass_of_methodNamed Bd.named
  have hnm := (name_of_methodNamed Bd.named Bd.method).1
  have X0 : Stand p l e ({ frames := 1, cells := 4, slots := 10, locals := 12 } : Room) s m #[(.ref a1), (.int (2 : Int32)), (.int (3 : Int32))] below meth c s₁ [] 0 0 := Stand.of_body Bd
  have e0 : s₁.heap = h0 := by rw [← hh, Bd.state]; rfl
  have N0 := Fr.nil n0
  have pre0 : ∀ t, Steps p.tables e below (s₁.setTop (mkF m 0 #[.val (.ref a1), .val (.int (2 : Int32)), .val (.int (3 : Int32))] [])) t → Steps p.tables e below (s₁.setTop (entryFrame m #[(.ref a1), (.int (2 : Int32)), (.int (3 : Int32))] 3)) t := fun t k => castTop (own_ef1 m a1) k
  obtain ⟨T1, X1, e1, st1⟩ := initO X0 hx hZ hown (hw _ (List.mem_of_getElem? (i := 6) rfl)) (hw _ (List.mem_of_getElem? (i := 7) rfl)) (hw _ (List.mem_of_getElem? (i := 8) rfl)) e0 (g := (mkF m 1 #[.val (.ref a1), .val (.int (2 : Int32)), .val (.int (3 : Int32))] [(.ref a1)])) rfl (by rw [hml]; rfl) rfl (hb hby own_d1_1) (by decide) (W := 0) (by show 2 * 0 + _ ≤ _; exact Nat.le_of_eq rfl) (by decide)
  obtain ⟨T2, h2, kc2, X2, e2, E2, A2, st2⟩ := newP X1 hx hZ (hw _ (List.mem_of_getElem? (i := 9) rfl)) e1 (g := (mkF m 6 #[.val (.ref a1), .val (.int (2 : Int32)), .val (.int (3 : Int32))] [(.int (2 : Int32)), (.ref a1)])) rfl (hb hby own_d1_6) rfl (by decide) (cap := 2) (by decide) (by decide) (by decide) (by decide)
  obtain ⟨ob2, g2⟩ : ∃ z, z = h0.size := ⟨_, rfl⟩
  rw [← g2] at A2 st2
  have ne_a1_ob2 : a1 ≠ ob2 := Nat.ne_of_lt (Nat.lt_of_lt_of_le P_E_a1.lt (Nat.le_of_eq g2.symm))
  have sz2 : n0 ≤ h2.size := Nat.le_trans Z0 E2.1
  have gn_ob2 : n0 ≤ ob2 := Nat.le_trans Z0 (Nat.le_of_eq g2.symm)
  have bo_ob2 : h0.size ≤ ob2 := Nat.le_trans (Keep.refl h0 [a1]).1 (Nat.le_of_eq g2.symm)
  have K2 : Keep h0 h2 [a1] := (Keep.refl h0 [a1]).ext E2
  have V_ob2 : Arv Z h2 ob2 kc2 .long (2 : Int32) [(.long (0 : Int64)), (.long (0 : Int64))] (.long (0 : Int64)) := (Arv.new A2 (by decide)).pad (pad_rep [] (.long (0 : Int64)) 2)
  have FF_a1_missing_3 : Fld Z h2 a1 "com/example/tracegauge/tracegauge/TraceTokens$Deviations" "missing" "[J" u_missing := (P_F_a1_missing.ext E2)
  have FE_a1_4 : Exa Z h2 a1 "com/example/tracegauge/tracegauge/TraceTokens$Deviations" := (P_E_a1.ext E2)
  obtain ⟨T5, h5, X5, e5, W5, st5⟩ := putF X2 hx hZ hown (host := "") (Or.inl (hw _ (List.mem_of_getElem? (i := 10) rfl))) Via.refl e2 FF_a1_missing_3 FE_a1_4 (Or.inr ⟨(hw _ (List.mem_of_getElem? (i := 11) rfl)), rfl, hnm⟩) (hw _ (List.mem_of_getElem? (i := 1) rfl)) (ty := (.array .long)) (by decide) rfl rfl (g := (mkF m 8 #[.val (.ref a1), .val (.int (2 : Int32)), .val (.int (3 : Int32))] [(.ref ob2), (.ref a1)])) rfl rfl (hb hby own_d1_8)
  have Fw5 : Fld Z h5 a1 "com/example/tracegauge/tracegauge/TraceTokens$Deviations" "missing" "[J" (.ref ob2) := Fld.same W5 FF_a1_missing_3
  have K5 : Keep h0 h5 [a1] := K2.wr W5 (Or.inl (List.mem_of_getElem? (i := 0) rfl))
  have N5 := Fr.snoc X5 N0 g_a1
  obtain ⟨T6, h6, kc6, X6, e6, E6, A6, st6⟩ := newP X5 hx hZ (hw _ (List.mem_of_getElem? (i := 9) rfl)) e5 (g := (mkF m 13 #[.val (.ref a1), .val (.int (2 : Int32)), .val (.int (3 : Int32))] [(.int (2 : Int32)), (.ref a1)])) rfl (hb hby own_d1_13) rfl (by decide) (cap := 2) (by decide) (by decide) (by decide) (by decide)
  obtain ⟨ob6, g6⟩ : ∃ z, z = h5.size := ⟨_, rfl⟩
  rw [← g6] at A6 st6
  have szn7 : n0 ≤ h5.size := (Nat.le_trans sz2 (Keep.of_wr W5).1)
  have FE_a1_8 : Exa Z h5 a1 "com/example/tracegauge/tracegauge/TraceTokens$Deviations" := (FE_a1_4.wr W5)
  have ne_a1_ob6 : a1 ≠ ob6 := Nat.ne_of_lt (Nat.lt_of_lt_of_le FE_a1_8.lt (Nat.le_of_eq g6.symm))
  have FV_ob2_9 : Arv Z h5 ob2 kc2 .long (2 : Int32) [(.long (0 : Int64)), (.long (0 : Int64))] (.long (0 : Int64)) := (V_ob2.other W5 ne_a1_ob2.symm)
  have ne_ob2_ob6 : ob2 ≠ ob6 := Nat.ne_of_lt (Nat.lt_of_lt_of_le FV_ob2_9.lt (Nat.le_of_eq g6.symm))
  have sz6 : n0 ≤ h6.size := Nat.le_trans szn7 E6.1
  have gn_ob6 : n0 ≤ ob6 := Nat.le_trans szn7 (Nat.le_of_eq g6.symm)
  have bo_ob6 : h0.size ≤ ob6 := Nat.le_trans K5.1 (Nat.le_of_eq g6.symm)
  have K6 : Keep h0 h6 [a1] := K5.ext E6
  have V_ob6 : Arv Z h6 ob6 kc6 .long (2 : Int32) [(.long (0 : Int64)), (.long (0 : Int64))] (.long (0 : Int64)) := (Arv.new A6 (by decide)).pad (pad_rep [] (.long (0 : Int64)) 2)
  have FF_a1_remaining_10 : Fld Z h6 a1 "com/example/tracegauge/tracegauge/TraceTokens$Deviations" "remaining" "[J" u_remaining := (((P_F_a1_remaining.ext E2).other W5 (Or.inr (slot_ne (Or.inr (hw _ (List.mem_of_getElem? (i := 13) rfl))) (Or.inr (hw _ (List.mem_of_getElem? (i := 11) rfl))) (by decide) (t := (.array .long)) (t' := (.array .long)) (by decide) (by decide)))).ext E6)
  have FE_a1_11 : Exa Z h6 a1 "com/example/tracegauge/tracegauge/TraceTokens$Deviations" := (FE_a1_8.ext E6)
  obtain ⟨T12, h12, X12, e12, W12, st12⟩ := putF X6 hx hZ hown (host := "") (Or.inl (hw _ (List.mem_of_getElem? (i := 12) rfl))) Via.refl e6 FF_a1_remaining_10 FE_a1_11 (Or.inr ⟨(hw _ (List.mem_of_getElem? (i := 13) rfl)), rfl, hnm⟩) (hw _ (List.mem_of_getElem? (i := 1) rfl)) (ty := (.array .long)) (by decide) rfl rfl (g := (mkF m 15 #[.val (.ref a1), .val (.int (2 : Int32)), .val (.int (3 : Int32))] [(.ref ob6), (.ref a1)])) rfl rfl (hb hby own_d1_15)
  have Fw12 : Fld Z h12 a1 "com/example/tracegauge/tracegauge/TraceTokens$Deviations" "remaining" "[J" (.ref ob6) := Fld.same W12 FF_a1_remaining_10
  have K12 : Keep h0 h12 [a1] := K6.wr W12 (Or.inl (List.mem_of_getElem? (i := 0) rfl))
  have N12 := Fr.snoc X12 N5 g_a1
  obtain ⟨T13, h13, kc13, X13, e13, E13, A13, st13⟩ := newP X12 hx hZ (hw _ (List.mem_of_getElem? (i := 9) rfl)) e12 (g := (mkF m 20 #[.val (.ref a1), .val (.int (2 : Int32)), .val (.int (3 : Int32))] [(.int (3 : Int32)), (.ref a1)])) rfl (hb hby own_d1_20) rfl (by decide) (cap := 3) (by decide) (by decide) (by decide) (by decide)
  obtain ⟨ob13, g13⟩ : ∃ z, z = h12.size := ⟨_, rfl⟩
  rw [← g13] at A13 st13
  have szn14 : n0 ≤ h12.size := (Nat.le_trans sz6 (Keep.of_wr W12).1)
  have FE_a1_15 : Exa Z h12 a1 "com/example/tracegauge/tracegauge/TraceTokens$Deviations" := (FE_a1_11.wr W12)
  have ne_a1_ob13 : a1 ≠ ob13 := Nat.ne_of_lt (Nat.lt_of_lt_of_le FE_a1_15.lt (Nat.le_of_eq g13.symm))
  have FV_ob2_16 : Arv Z h12 ob2 kc2 .long (2 : Int32) [(.long (0 : Int64)), (.long (0 : Int64))] (.long (0 : Int64)) := ((FV_ob2_9.ext E6).other W12 ne_a1_ob2.symm)
  have ne_ob2_ob13 : ob2 ≠ ob13 := Nat.ne_of_lt (Nat.lt_of_lt_of_le FV_ob2_16.lt (Nat.le_of_eq g13.symm))
  have FV_ob6_17 : Arv Z h12 ob6 kc6 .long (2 : Int32) [(.long (0 : Int64)), (.long (0 : Int64))] (.long (0 : Int64)) := (V_ob6.other W12 ne_a1_ob6.symm)
  have ne_ob6_ob13 : ob6 ≠ ob13 := Nat.ne_of_lt (Nat.lt_of_lt_of_le FV_ob6_17.lt (Nat.le_of_eq g13.symm))
  have sz13 : n0 ≤ h13.size := Nat.le_trans szn14 E13.1
  have gn_ob13 : n0 ≤ ob13 := Nat.le_trans szn14 (Nat.le_of_eq g13.symm)
  have bo_ob13 : h0.size ≤ ob13 := Nat.le_trans K12.1 (Nat.le_of_eq g13.symm)
  have K13 : Keep h0 h13 [a1] := K12.ext E13
  have V_ob13 : Arv Z h13 ob13 kc13 .long (3 : Int32) [(.long (0 : Int64)), (.long (0 : Int64)), (.long (0 : Int64))] (.long (0 : Int64)) := (Arv.new A13 (by decide)).pad (pad_rep [] (.long (0 : Int64)) 3)
  have FF_a1_forced_18 : Fld Z h13 a1 "com/example/tracegauge/tracegauge/TraceTokens$Deviations" "forced" "[J" u_forced := (((((P_F_a1_forced.ext E2).other W5 (Or.inr (slot_ne (Or.inr (hw _ (List.mem_of_getElem? (i := 15) rfl))) (Or.inr (hw _ (List.mem_of_getElem? (i := 11) rfl))) (by decide) (t := (.array .long)) (t' := (.array .long)) (by decide) (by decide)))).ext E6).other W12 (Or.inr (slot_ne (Or.inr (hw _ (List.mem_of_getElem? (i := 15) rfl))) (Or.inr (hw _ (List.mem_of_getElem? (i := 13) rfl))) (by decide) (t := (.array .long)) (t' := (.array .long)) (by decide) (by decide)))).ext E13)
  have FE_a1_19 : Exa Z h13 a1 "com/example/tracegauge/tracegauge/TraceTokens$Deviations" := (FE_a1_15.ext E13)
  obtain ⟨T20, h20, X20, e20, W20, st20⟩ := putF X13 hx hZ hown (host := "") (Or.inl (hw _ (List.mem_of_getElem? (i := 14) rfl))) Via.refl e13 FF_a1_forced_18 FE_a1_19 (Or.inr ⟨(hw _ (List.mem_of_getElem? (i := 15) rfl)), rfl, hnm⟩) (hw _ (List.mem_of_getElem? (i := 1) rfl)) (ty := (.array .long)) (by decide) rfl rfl (g := (mkF m 22 #[.val (.ref a1), .val (.int (2 : Int32)), .val (.int (3 : Int32))] [(.ref ob13), (.ref a1)])) rfl rfl (hb hby own_d1_22)
  have Fw20 : Fld Z h20 a1 "com/example/tracegauge/tracegauge/TraceTokens$Deviations" "forced" "[J" (.ref ob13) := Fld.same W20 FF_a1_forced_18
  have K20 : Keep h0 h20 [a1] := K13.wr W20 (Or.inl (List.mem_of_getElem? (i := 0) rfl))
  have N20 := Fr.snoc X20 N12 g_a1
  obtain ⟨T21, h21, kc21, X21, e21, E21, A21, st21⟩ := newP X20 hx hZ (hw _ (List.mem_of_getElem? (i := 9) rfl)) e20 (g := (mkF m 27 #[.val (.ref a1), .val (.int (2 : Int32)), .val (.int (3 : Int32))] [(.int (3 : Int32)), (.ref a1)])) rfl (hb hby own_d1_27) rfl (by decide) (cap := 3) (by decide) (by decide) (by decide) (by decide)
  obtain ⟨ob21, g21⟩ : ∃ z, z = h20.size := ⟨_, rfl⟩
  rw [← g21] at A21 st21
  have szn22 : n0 ≤ h20.size := (Nat.le_trans sz13 (Keep.of_wr W20).1)
  have FE_a1_23 : Exa Z h20 a1 "com/example/tracegauge/tracegauge/TraceTokens$Deviations" := (FE_a1_19.wr W20)
  have ne_a1_ob21 : a1 ≠ ob21 := Nat.ne_of_lt (Nat.lt_of_lt_of_le FE_a1_23.lt (Nat.le_of_eq g21.symm))
  have FV_ob2_24 : Arv Z h20 ob2 kc2 .long (2 : Int32) [(.long (0 : Int64)), (.long (0 : Int64))] (.long (0 : Int64)) := ((FV_ob2_16.ext E13).other W20 ne_a1_ob2.symm)
  have ne_ob2_ob21 : ob2 ≠ ob21 := Nat.ne_of_lt (Nat.lt_of_lt_of_le FV_ob2_24.lt (Nat.le_of_eq g21.symm))
  have FV_ob6_25 : Arv Z h20 ob6 kc6 .long (2 : Int32) [(.long (0 : Int64)), (.long (0 : Int64))] (.long (0 : Int64)) := ((FV_ob6_17.ext E13).other W20 ne_a1_ob6.symm)
  have ne_ob6_ob21 : ob6 ≠ ob21 := Nat.ne_of_lt (Nat.lt_of_lt_of_le FV_ob6_25.lt (Nat.le_of_eq g21.symm))
  have FV_ob13_26 : Arv Z h20 ob13 kc13 .long (3 : Int32) [(.long (0 : Int64)), (.long (0 : Int64)), (.long (0 : Int64))] (.long (0 : Int64)) := (V_ob13.other W20 ne_a1_ob13.symm)
  have ne_ob13_ob21 : ob13 ≠ ob21 := Nat.ne_of_lt (Nat.lt_of_lt_of_le FV_ob13_26.lt (Nat.le_of_eq g21.symm))
  have sz21 : n0 ≤ h21.size := Nat.le_trans szn22 E21.1
  have gn_ob21 : n0 ≤ ob21 := Nat.le_trans szn22 (Nat.le_of_eq g21.symm)
  have bo_ob21 : h0.size ≤ ob21 := Nat.le_trans K20.1 (Nat.le_of_eq g21.symm)
  have K21 : Keep h0 h21 [a1] := K20.ext E21
  have V_ob21 : Arv Z h21 ob21 kc21 .long (3 : Int32) [(.long (0 : Int64)), (.long (0 : Int64)), (.long (0 : Int64))] (.long (0 : Int64)) := (Arv.new A21 (by decide)).pad (pad_rep [] (.long (0 : Int64)) 3)
  have FF_a1_violated_27 : Fld Z h21 a1 "com/example/tracegauge/tracegauge/TraceTokens$Deviations" "violated" "[J" u_violated := (((((((P_F_a1_violated.ext E2).other W5 (Or.inr (slot_ne (Or.inr (hw _ (List.mem_of_getElem? (i := 17) rfl))) (Or.inr (hw _ (List.mem_of_getElem? (i := 11) rfl))) (by decide) (t := (.array .long)) (t' := (.array .long)) (by decide) (by decide)))).ext E6).other W12 (Or.inr (slot_ne (Or.inr (hw _ (List.mem_of_getElem? (i := 17) rfl))) (Or.inr (hw _ (List.mem_of_getElem? (i := 13) rfl))) (by decide) (t := (.array .long)) (t' := (.array .long)) (by decide) (by decide)))).ext E13).other W20 (Or.inr (slot_ne (Or.inr (hw _ (List.mem_of_getElem? (i := 17) rfl))) (Or.inr (hw _ (List.mem_of_getElem? (i := 15) rfl))) (by decide) (t := (.array .long)) (t' := (.array .long)) (by decide) (by decide)))).ext E21)
  have FE_a1_28 : Exa Z h21 a1 "com/example/tracegauge/tracegauge/TraceTokens$Deviations" := (FE_a1_23.ext E21)
  obtain ⟨T29, h29, X29, e29, W29, st29⟩ := putF X21 hx hZ hown (host := "") (Or.inl (hw _ (List.mem_of_getElem? (i := 16) rfl))) Via.refl e21 FF_a1_violated_27 FE_a1_28 (Or.inr ⟨(hw _ (List.mem_of_getElem? (i := 17) rfl)), rfl, hnm⟩) (hw _ (List.mem_of_getElem? (i := 1) rfl)) (ty := (.array .long)) (by decide) rfl rfl (g := (mkF m 29 #[.val (.ref a1), .val (.int (2 : Int32)), .val (.int (3 : Int32))] [(.ref ob21), (.ref a1)])) rfl rfl (hb hby own_d1_29)
  have Fw29 : Fld Z h29 a1 "com/example/tracegauge/tracegauge/TraceTokens$Deviations" "violated" "[J" (.ref ob21) := Fld.same W29 FF_a1_violated_27
  have K29 : Keep h0 h29 [a1] := K21.wr W29 (Or.inl (List.mem_of_getElem? (i := 0) rfl))
  have N29 := Fr.snoc X29 N20 g_a1
  obtain ⟨fs, hr, hrun, hended, hW, hsame⟩ := X29.leave (v := none) (fun _ => rfl)
  refine ⟨_, _, pre0 _ ?_, hrun, hended, _, _, rfl, ?_, ⟨_, rfl⟩, hW, hsame.mono (by decide) (by decide)⟩
  · show Steps p.tables e below (s₁.setTop (mkF m 0 #[.val (.ref a1), .val (.int (2 : Int32)), .val (.int (3 : Int32))] [])) _
    refine XS.aloadN X0.here hx rfl (hb hby own_d1_0) rfl rfl ?_
    show Steps p.tables e below (s₁.setTop (mkF m 1 #[.val (.ref a1), .val (.int (2 : Int32)), .val (.int (3 : Int32))] [(.ref a1)])) _
    refine st1 _ ?_
    show Steps p.tables e below (T1.setTop (mkF m 4 #[.val (.ref a1), .val (.int (2 : Int32)), .val (.int (3 : Int32))] [])) _
    refine XS.aloadN X1.here hx rfl (hb hby own_d1_4) rfl rfl ?_
    show Steps p.tables e below (T1.setTop (mkF m 5 #[.val (.ref a1), .val (.int (2 : Int32)), .val (.int (3 : Int32))] [(.ref a1)])) _
    refine XS.iloadN X1.here hx rfl (hb hby own_d1_5) rfl ?_
    show Steps p.tables e below (T1.setTop (mkF m 6 #[.val (.ref a1), .val (.int (2 : Int32)), .val (.int (3 : Int32))] [(.int (2 : Int32)), (.ref a1)])) _
    refine st2 _ ?_
    show Steps p.tables e below (T2.setTop (mkF m 8 #[.val (.ref a1), .val (.int (2 : Int32)), .val (.int (3 : Int32))] [(.ref ob2), (.ref a1)])) _
    refine st5 _ ?_
    show Steps p.tables e below (T5.setTop (mkF m 11 #[.val (.ref a1), .val (.int (2 : Int32)), .val (.int (3 : Int32))] [])) _
    refine XS.aloadN X5.here hx rfl (hb hby own_d1_11) rfl rfl ?_
    show Steps p.tables e below (T5.setTop (mkF m 12 #[.val (.ref a1), .val (.int (2 : Int32)), .val (.int (3 : Int32))] [(.ref a1)])) _
    refine XS.iloadN X5.here hx rfl (hb hby own_d1_12) rfl ?_
    show Steps p.tables e below (T5.setTop (mkF m 13 #[.val (.ref a1), .val (.int (2 : Int32)), .val (.int (3 : Int32))] [(.int (2 : Int32)), (.ref a1)])) _
    refine st6 _ ?_
    show Steps p.tables e below (T6.setTop (mkF m 15 #[.val (.ref a1), .val (.int (2 : Int32)), .val (.int (3 : Int32))] [(.ref ob6), (.ref a1)])) _
    refine st12 _ ?_
    show Steps p.tables e below (T12.setTop (mkF m 18 #[.val (.ref a1), .val (.int (2 : Int32)), .val (.int (3 : Int32))] [])) _
    refine XS.aloadN X12.here hx rfl (hb hby own_d1_18) rfl rfl ?_
    show Steps p.tables e below (T12.setTop (mkF m 19 #[.val (.ref a1), .val (.int (2 : Int32)), .val (.int (3 : Int32))] [(.ref a1)])) _
    refine XS.iloadN X12.here hx rfl (hb hby own_d1_19) rfl ?_
    show Steps p.tables e below (T12.setTop (mkF m 20 #[.val (.ref a1), .val (.int (2 : Int32)), .val (.int (3 : Int32))] [(.int (3 : Int32)), (.ref a1)])) _
    refine st13 _ ?_
    show Steps p.tables e below (T13.setTop (mkF m 22 #[.val (.ref a1), .val (.int (2 : Int32)), .val (.int (3 : Int32))] [(.ref ob13), (.ref a1)])) _
    refine st20 _ ?_
    show Steps p.tables e below (T20.setTop (mkF m 25 #[.val (.ref a1), .val (.int (2 : Int32)), .val (.int (3 : Int32))] [])) _
    refine XS.aloadN X20.here hx rfl (hb hby own_d1_25) rfl rfl ?_
    show Steps p.tables e below (T20.setTop (mkF m 26 #[.val (.ref a1), .val (.int (2 : Int32)), .val (.int (3 : Int32))] [(.ref a1)])) _
    refine XS.iloadN X20.here hx rfl (hb hby own_d1_26) rfl ?_
    show Steps p.tables e below (T20.setTop (mkF m 27 #[.val (.ref a1), .val (.int (2 : Int32)), .val (.int (3 : Int32))] [(.int (3 : Int32)), (.ref a1)])) _
    refine st21 _ ?_
    show Steps p.tables e below (T21.setTop (mkF m 29 #[.val (.ref a1), .val (.int (2 : Int32)), .val (.int (3 : Int32))] [(.ref ob21), (.ref a1)])) _
    refine st29 _ ?_
    show Steps p.tables e below (T29.setTop (mkF m 32 #[.val (.ref a1), .val (.int (2 : Int32)), .val (.int (3 : Int32))] [])) _
    exact X29.returnOut hx Bd.returns (hb hby own_d1_32) hr
  · show own_Q1 Z a1 u_missing u_remaining u_forced u_violated h0 n0 _ T29.heap _
    rw [e29]
    have FE_a1_30 : Exa Z h29 a1 "com/example/tracegauge/tracegauge/TraceTokens$Deviations" := (FE_a1_28.wr W29)
    have FF_a1_missing_31 : Fld Z h29 a1 "com/example/tracegauge/tracegauge/TraceTokens$Deviations" "missing" "[J" (.ref ob2) := ((((((Fw5.ext E6).other W12 (Or.inr (slot_ne (Or.inr (hw _ (List.mem_of_getElem? (i := 11) rfl))) (Or.inr (hw _ (List.mem_of_getElem? (i := 13) rfl))) (by decide) (t := (.array .long)) (t' := (.array .long)) (by decide) (by decide)))).ext E13).other W20 (Or.inr (slot_ne (Or.inr (hw _ (List.mem_of_getElem? (i := 11) rfl))) (Or.inr (hw _ (List.mem_of_getElem? (i := 15) rfl))) (by decide) (t := (.array .long)) (t' := (.array .long)) (by decide) (by decide)))).ext E21).other W29 (Or.inr (slot_ne (Or.inr (hw _ (List.mem_of_getElem? (i := 11) rfl))) (Or.inr (hw _ (List.mem_of_getElem? (i := 17) rfl))) (by decide) (t := (.array .long)) (t' := (.array .long)) (by decide) (by decide))))
    have FF_a1_remaining_32 : Fld Z h29 a1 "com/example/tracegauge/tracegauge/TraceTokens$Deviations" "remaining" "[J" (.ref ob6) := ((((Fw12.ext E13).other W20 (Or.inr (slot_ne (Or.inr (hw _ (List.mem_of_getElem? (i := 13) rfl))) (Or.inr (hw _ (List.mem_of_getElem? (i := 15) rfl))) (by decide) (t := (.array .long)) (t' := (.array .long)) (by decide) (by decide)))).ext E21).other W29 (Or.inr (slot_ne (Or.inr (hw _ (List.mem_of_getElem? (i := 13) rfl))) (Or.inr (hw _ (List.mem_of_getElem? (i := 17) rfl))) (by decide) (t := (.array .long)) (t' := (.array .long)) (by decide) (by decide))))
    have FF_a1_forced_33 : Fld Z h29 a1 "com/example/tracegauge/tracegauge/TraceTokens$Deviations" "forced" "[J" (.ref ob13) := ((Fw20.ext E21).other W29 (Or.inr (slot_ne (Or.inr (hw _ (List.mem_of_getElem? (i := 15) rfl))) (Or.inr (hw _ (List.mem_of_getElem? (i := 17) rfl))) (by decide) (t := (.array .long)) (t' := (.array .long)) (by decide) (by decide))))
    have FV_ob2_34 : Arv Z h29 ob2 kc2 .long (2 : Int32) [(.long (0 : Int64)), (.long (0 : Int64))] (.long (0 : Int64)) := ((FV_ob2_24.ext E21).other W29 ne_a1_ob2.symm)
    have FV_ob6_35 : Arv Z h29 ob6 kc6 .long (2 : Int32) [(.long (0 : Int64)), (.long (0 : Int64))] (.long (0 : Int64)) := ((FV_ob6_25.ext E21).other W29 ne_a1_ob6.symm)
    have FV_ob13_36 : Arv Z h29 ob13 kc13 .long (3 : Int32) [(.long (0 : Int64)), (.long (0 : Int64)), (.long (0 : Int64))] (.long (0 : Int64)) := ((FV_ob13_26.ext E21).other W29 ne_a1_ob13.symm)
    have FV_ob21_37 : Arv Z h29 ob21 kc21 .long (3 : Int32) [(.long (0 : Int64)), (.long (0 : Int64)), (.long (0 : Int64))] (.long (0 : Int64)) := (V_ob21.other W29 ne_a1_ob21.symm)
    exact ⟨ob2, ob6, ob13, ob21, kc2, kc6, kc13, kc21, rfl, N29, K29, FE_a1_30, FF_a1_missing_31, FF_a1_remaining_32, FF_a1_forced_33, Fw29, FV_ob2_34, FV_ob6_35, FV_ob13_36, FV_ob21_37, bo_ob2, bo_ob6, bo_ob13, bo_ob21, ne_ob2_ob6, ne_ob2_ob13, ne_ob2_ob21, ne_ob6_ob13, ne_ob6_ob21, ne_ob13_ob21⟩
theorem own_d3_0 : decode prog_143_method_2_code 0 = .ok (.iconst 0, 1) := by decide +kernel
theorem own_d3_1 : decode prog_143_method_2_code 1 = .ok (.istore 4, 2) := by decide +kernel
theorem own_d3_3 : decode prog_143_method_2_code 3 = .ok (.iload 4, 2) := by decide +kernel
theorem own_d3_5 : decode prog_143_method_2_code 5 = .ok (.aload_n 0, 1) := by decide +kernel
theorem own_d3_6 : decode prog_143_method_2_code 6 = .ok (.getfield 7, 3) := by decide +kernel
theorem own_d3_9 : decode prog_143_method_2_code 9 = .ok (.arraylength, 1) := by decide +kernel
theorem own_d3_10 : decode prog_143_method_2_code 10 = .ok (.if_icmp .ge 47, 3) := by decide +kernel
theorem own_d3_13 : decode prog_143_method_2_code 13 = .ok (.aload_n 0, 1) := by decide +kernel
theorem own_d3_14 : decode prog_143_method_2_code 14 = .ok (.getfield 7, 3) := by decide +kernel
theorem own_d3_17 : decode prog_143_method_2_code 17 = .ok (.iload 4, 2) := by decide +kernel
theorem own_d3_19 : decode prog_143_method_2_code 19 = .ok (.dup2, 1) := by decide +kernel
theorem own_d3_20 : decode prog_143_method_2_code 20 = .ok (.laload, 1) := by decide +kernel
theorem own_d3_21 : decode prog_143_method_2_code 21 = .ok (.aload_n 1, 1) := by decide +kernel
theorem own_d3_22 : decode prog_143_method_2_code 22 = .ok (.getfield 7, 3) := by decide +kernel
theorem own_d3_25 : decode prog_143_method_2_code 25 = .ok (.iload 4, 2) := by decide +kernel
theorem own_d3_27 : decode prog_143_method_2_code 27 = .ok (.laload, 1) := by decide +kernel
theorem own_d3_28 : decode prog_143_method_2_code 28 = .ok (.lload_n 2, 1) := by decide +kernel
theorem own_d3_29 : decode prog_143_method_2_code 29 = .ok (.lmul, 1) := by decide +kernel
theorem own_d3_30 : decode prog_143_method_2_code 30 = .ok (.ladd, 1) := by decide +kernel
theorem own_d3_31 : decode prog_143_method_2_code 31 = .ok (.lastore, 1) := by decide +kernel
theorem own_d3_32 : decode prog_143_method_2_code 32 = .ok (.aload_n 0, 1) := by decide +kernel
theorem own_d3_33 : decode prog_143_method_2_code 33 = .ok (.getfield 13, 3) := by decide +kernel
theorem own_d3_36 : decode prog_143_method_2_code 36 = .ok (.iload 4, 2) := by decide +kernel
theorem own_d3_38 : decode prog_143_method_2_code 38 = .ok (.dup2, 1) := by decide +kernel
theorem own_d3_39 : decode prog_143_method_2_code 39 = .ok (.laload, 1) := by decide +kernel
theorem own_d3_40 : decode prog_143_method_2_code 40 = .ok (.aload_n 1, 1) := by decide +kernel
theorem own_d3_41 : decode prog_143_method_2_code 41 = .ok (.getfield 13, 3) := by decide +kernel
theorem own_d3_44 : decode prog_143_method_2_code 44 = .ok (.iload 4, 2) := by decide +kernel
theorem own_d3_46 : decode prog_143_method_2_code 46 = .ok (.laload, 1) := by decide +kernel
theorem own_d3_47 : decode prog_143_method_2_code 47 = .ok (.lload_n 2, 1) := by decide +kernel
theorem own_d3_48 : decode prog_143_method_2_code 48 = .ok (.lmul, 1) := by decide +kernel
theorem own_d3_49 : decode prog_143_method_2_code 49 = .ok (.ladd, 1) := by decide +kernel
theorem own_d3_50 : decode prog_143_method_2_code 50 = .ok (.lastore, 1) := by decide +kernel
theorem own_d3_51 : decode prog_143_method_2_code 51 = .ok (.iinc 4 1, 3) := by decide +kernel
theorem own_d3_54 : decode prog_143_method_2_code 54 = .ok (.goto (-51), 3) := by decide +kernel
theorem own_d3_57 : decode prog_143_method_2_code 57 = .ok (.iconst 0, 1) := by decide +kernel
theorem own_d3_58 : decode prog_143_method_2_code 58 = .ok (.istore 4, 2) := by decide +kernel
theorem own_d3_60 : decode prog_143_method_2_code 60 = .ok (.iload 4, 2) := by decide +kernel
theorem own_d3_62 : decode prog_143_method_2_code 62 = .ok (.aload_n 0, 1) := by decide +kernel
theorem own_d3_63 : decode prog_143_method_2_code 63 = .ok (.getfield 16, 3) := by decide +kernel
theorem own_d3_66 : decode prog_143_method_2_code 66 = .ok (.arraylength, 1) := by decide +kernel
theorem own_d3_67 : decode prog_143_method_2_code 67 = .ok (.if_icmp .ge 47, 3) := by decide +kernel
theorem own_d3_70 : decode prog_143_method_2_code 70 = .ok (.aload_n 0, 1) := by decide +kernel
theorem own_d3_71 : decode prog_143_method_2_code 71 = .ok (.getfield 16, 3) := by decide +kernel
theorem own_d3_74 : decode prog_143_method_2_code 74 = .ok (.iload 4, 2) := by decide +kernel
theorem own_d3_76 : decode prog_143_method_2_code 76 = .ok (.dup2, 1) := by decide +kernel
theorem own_d3_77 : decode prog_143_method_2_code 77 = .ok (.laload, 1) := by decide +kernel
theorem own_d3_78 : decode prog_143_method_2_code 78 = .ok (.aload_n 1, 1) := by decide +kernel
theorem own_d3_79 : decode prog_143_method_2_code 79 = .ok (.getfield 16, 3) := by decide +kernel
theorem own_d3_82 : decode prog_143_method_2_code 82 = .ok (.iload 4, 2) := by decide +kernel
theorem own_d3_84 : decode prog_143_method_2_code 84 = .ok (.laload, 1) := by decide +kernel
theorem own_d3_85 : decode prog_143_method_2_code 85 = .ok (.lload_n 2, 1) := by decide +kernel
theorem own_d3_86 : decode prog_143_method_2_code 86 = .ok (.lmul, 1) := by decide +kernel
theorem own_d3_87 : decode prog_143_method_2_code 87 = .ok (.ladd, 1) := by decide +kernel
theorem own_d3_88 : decode prog_143_method_2_code 88 = .ok (.lastore, 1) := by decide +kernel
theorem own_d3_89 : decode prog_143_method_2_code 89 = .ok (.aload_n 0, 1) := by decide +kernel
theorem own_d3_90 : decode prog_143_method_2_code 90 = .ok (.getfield 19, 3) := by decide +kernel
theorem own_d3_93 : decode prog_143_method_2_code 93 = .ok (.iload 4, 2) := by decide +kernel
theorem own_d3_95 : decode prog_143_method_2_code 95 = .ok (.dup2, 1) := by decide +kernel
theorem own_d3_96 : decode prog_143_method_2_code 96 = .ok (.laload, 1) := by decide +kernel
theorem own_d3_97 : decode prog_143_method_2_code 97 = .ok (.aload_n 1, 1) := by decide +kernel
theorem own_d3_98 : decode prog_143_method_2_code 98 = .ok (.getfield 19, 3) := by decide +kernel
theorem own_d3_101 : decode prog_143_method_2_code 101 = .ok (.iload 4, 2) := by decide +kernel
theorem own_d3_103 : decode prog_143_method_2_code 103 = .ok (.laload, 1) := by decide +kernel
theorem own_d3_104 : decode prog_143_method_2_code 104 = .ok (.lload_n 2, 1) := by decide +kernel
theorem own_d3_105 : decode prog_143_method_2_code 105 = .ok (.lmul, 1) := by decide +kernel
theorem own_d3_106 : decode prog_143_method_2_code 106 = .ok (.ladd, 1) := by decide +kernel
theorem own_d3_107 : decode prog_143_method_2_code 107 = .ok (.lastore, 1) := by decide +kernel
theorem own_d3_108 : decode prog_143_method_2_code 108 = .ok (.iinc 4 1, 3) := by decide +kernel
theorem own_d3_111 : decode prog_143_method_2_code 111 = .ok (.goto (-51), 3) := by decide +kernel
theorem own_d3_114 : decode prog_143_method_2_code 114 = .ok (.return_, 1) := by decide +kernel
theorem own_pn3 : plainName "com/example/tracegauge/tracegauge/TraceTokens$Deviations" = true := by first | (simp [plainName, overriddenIn]; done) | decide +kernel
theorem own_ef3 (m : MethodId) (a1 : Addr) (o1 : Addr) (tm : Int64) : entryFrame m #[(.ref a1), (.ref o1), (.long tm)] 5 = mkF m 0 #[.val (.ref a1), .val (.ref o1), .val (.long tm), .second, .unset] [] := by first | (simp [entryFrame, mkF, argsToLocals, Value.category]; done) | rfl
def own_Q3 (Z : State) (a1 : Addr) (o1 : Addr) (tm : Int64) (m0 : Addr) (m1 : Addr) (m2 : Addr) (m3 : Addr) (km0 : ClassId) (x00 : Int64) (x01 : Int64) (km1 : ClassId) (x10 : Int64) (x11 : Int64) (km2 : ClassId) (x20 : Int64) (x21 : Int64) (x22 : Int64) (km3 : ClassId) (x30 : Int64) (x31 : Int64) (x32 : Int64) (r0 : Addr) (r1 : Addr) (r2 : Addr) (r3 : Addr) (kr0 : ClassId) (y00 : Int64) (y01 : Int64) (kr1 : ClassId) (y10 : Int64) (y11 : Int64) (kr2 : ClassId) (y20 : Int64) (y21 : Int64) (y22 : Int64) (kr3 : ClassId) (y30 : Int64) (y31 : Int64) (y32 : Int64) (h0 : Heap) (n0 : Nat) (v : Option Value) (h : Heap) (L : List Loc) : Prop := (v = none) ∧ (Fr n0 L) ∧ (Keep h0 h [m0, m1, m2, m3]) ∧ (Arv Z h m0 km0 .long (2 : Int32) [(.long (x00 + (y00 * tm))), (.long (x01 + (y01 * tm)))] (.long (0 : Int64))) ∧ (Arv Z h m1 km1 .long (2 : Int32) [(.long (x10 + (y10 * tm))), (.long (x11 + (y11 * tm)))] (.long (0 : Int64))) ∧ (Arv Z h m2 km2 .long (3 : Int32) [(.long (x20 + (y20 * tm))), (.long (x21 + (y21 * tm))), (.long (x22 + (y22 * tm)))] (.long (0 : Int64))) ∧ (Arv Z h m3 km3 .long (3 : Int32) [(.long (x30 + (y30 * tm))), (.long (x31 + (y31 * tm))), (.long (x32 + (y32 * tm)))] (.long (0 : Int64)))
set_option maxRecDepth 65536 in
set_option maxHeartbeats 40000000 in
theorem own_rm3 (l : Launch) (Z : State) (a0 : Array Value) (hw : ∀ d ∈ tables_1, d.before a0 Z = true) (ws : List Jvm.Cond) (a1 : Addr) (o1 : Addr) (tm : Int64) (m0 : Addr) (m1 : Addr) (m2 : Addr) (m3 : Addr) (km0 : ClassId) (x00 : Int64) (x01 : Int64) (km1 : ClassId) (x10 : Int64) (x11 : Int64) (km2 : ClassId) (x20 : Int64) (x21 : Int64) (x22 : Int64) (km3 : ClassId) (x30 : Int64) (x31 : Int64) (x32 : Int64) (r0 : Addr) (r1 : Addr) (r2 : Addr) (r3 : Addr) (kr0 : ClassId) (y00 : Int64) (y01 : Int64) (kr1 : ClassId) (y10 : Int64) (y11 : Int64) (kr2 : ClassId) (y20 : Int64) (y21 : Int64) (y22 : Int64) (kr3 : ClassId) (y30 : Int64) (y31 : Int64) (y32 : Int64) (h0 : Heap) (n0 : Nat) (Z0 : n0 ≤ h0.size) (P_E_a1 : Exa Z h0 a1 "com/example/tracegauge/tracegauge/TraceTokens$Deviations") (P_F_a1_missing : Fld Z h0 a1 "com/example/tracegauge/tracegauge/TraceTokens$Deviations" "missing" "[J" (.ref m0)) (P_F_a1_remaining : Fld Z h0 a1 "com/example/tracegauge/tracegauge/TraceTokens$Deviations" "remaining" "[J" (.ref m1)) (P_F_a1_forced : Fld Z h0 a1 "com/example/tracegauge/tracegauge/TraceTokens$Deviations" "forced" "[J" (.ref m2)) (P_F_a1_violated : Fld Z h0 a1 "com/example/tracegauge/tracegauge/TraceTokens$Deviations" "violated" "[J" (.ref m3)) (P_V_m0 : Arv Z h0 m0 km0 .long (2 : Int32) [(.long x00), (.long x01)] (.long (0 : Int64))) (P_V_m1 : Arv Z h0 m1 km1 .long (2 : Int32) [(.long x10), (.long x11)] (.long (0 : Int64))) (P_V_m2 : Arv Z h0 m2 km2 .long (3 : Int32) [(.long x20), (.long x21), (.long x22)] (.long (0 : Int64))) (P_V_m3 : Arv Z h0 m3 km3 .long (3 : Int32) [(.long x30), (.long x31), (.long x32)] (.long (0 : Int64))) (P_E_o1 : Exa Z h0 o1 "com/example/tracegauge/tracegauge/TraceTokens$Deviations") (P_F_o1_missing : Fld Z h0 o1 "com/example/tracegauge/tracegauge/TraceTokens$Deviations" "missing" "[J" (.ref r0)) (P_F_o1_remaining : Fld Z h0 o1 "com/example/tracegauge/tracegauge/TraceTokens$Deviations" "remaining" "[J" (.ref r1)) (P_F_o1_forced : Fld Z h0 o1 "com/example/tracegauge/tracegauge/TraceTokens$Deviations" "forced" "[J" (.ref r2)) (P_F_o1_violated : Fld Z h0 o1 "com/example/tracegauge/tracegauge/TraceTokens$Deviations" "violated" "[J" (.ref r3)) (P_V_r0 : Arv Z h0 r0 kr0 .long (2 : Int32) [(.long y00), (.long y01)] (.long (0 : Int64))) (P_V_r1 : Arv Z h0 r1 kr1 .long (2 : Int32) [(.long y10), (.long y11)] (.long (0 : Int64))) (P_V_r2 : Arv Z h0 r2 kr2 .long (3 : Int32) [(.long y20), (.long y21), (.long y22)] (.long (0 : Int64))) (P_V_r3 : Arv Z h0 r3 kr3 .long (3 : Int32) [(.long y30), (.long y31), (.long y32)] (.long (0 : Int64))) (g_m0 : n0 ≤ m0) (g_m1 : n0 ≤ m1) (g_m2 : n0 ≤ m2) (g_m3 : n0 ≤ m3) (nea0 : a1 ≠ m0) (neo0 : o1 ≠ m0) (ner00 : r0 ≠ m0) (nem01 : m0 ≠ m1) (ner01 : r1 ≠ m0) (nem02 : m0 ≠ m2) (ner02 : r2 ≠ m0) (nem03 : m0 ≠ m3) (ner03 : r3 ≠ m0) (nea1 : a1 ≠ m1) (neo1 : o1 ≠ m1) (ner10 : r0 ≠ m1) (ner11 : r1 ≠ m1) (nem12 : m1 ≠ m2) (ner12 : r2 ≠ m1) (nem13 : m1 ≠ m3) (ner13 : r3 ≠ m1) (nea2 : a1 ≠ m2) (neo2 : o1 ≠ m2) (ner20 : r0 ≠ m2) (ner21 : r1 ≠ m2) (ner22 : r2 ≠ m2) (nem23 : m2 ≠ m3) (ner23 : r3 ≠ m2) (nea3 : a1 ≠ m3) (neo3 : o1 ≠ m3) (ner30 : r0 ≠ m3) (ner31 : r1 ≠ m3) (ner32 : r2 ≠ m3) (ner33 : r3 ≠ m3) :
    MetFree l (⟨"com/example/tracegauge/tracegauge/TraceTokens$Deviations", "add", "(Lcom/example/tracegauge/tracegauge/TraceTokens$Deviations;J)V"⟩ : MethodName) (head1 (Jvm.Cond.code (⟨"com/example/tracegauge/tracegauge/TraceTokens$Deviations", "add", "(Lcom/example/tracegauge/tracegauge/TraceTokens$Deviations;J)V"⟩ : MethodName) prog_143_method_2_code 5 none :: ws) ({ frames := 0, cells := 0, slots := 0, locals := 0 } : Room)) (fun ar_ U_ => ar_ = #[(.ref a1), (.ref o1), (.long tm)] ∧ Z.Warmed39 U_.vm ∧ U_.heap = h0) (fun _ _ _ _ _ => True) (fun _ U_ o_ U_' => ∃ v_ L_, o_ = .returned v_ ∧ own_Q3 Z a1 o1 tm m0 m1 m2 m3 km0 x00 x01 km1 x10 x11 km2 x20 x21 x22 km3 x30 x31 x32 r0 r1 r2 r3 kr0 y00 y01 kr1 y10 y11 kr2 y20 y21 y22 kr3 y30 y31 y32 h0 n0 v_ U_'.heap L_ ∧ FrameEnd U_ o_ U_' L_ ({ frames := 0, cells := 0, slots := 0, locals := 0 } : Room).cells ({ frames := 0, cells := 0, slots := 0, locals := 0 } : Room).slots) := by
  refine MetFree.of_bodySF (plainFor_of_name own_pn3) hisR ?_
  intro p e s m args below meth c s₁ Bd hml0 hP hK
  obtain ⟨rfl, hZ, hh⟩ := hP
  have hx := Bd.exec
  have hby := Bd.bytes
  have hml : c.maxLocals = 5 := hml0
  have hown : s.vm.findClass "com/example/tracegauge/tracegauge/TraceTokens$Deviations" = some m.cls := findClass_of_methodNamed Bd.named
  have hnm := (name_of_methodNamed Bd.named Bd.method).1
  have X0 : Stand p l e ({ frames := 0, cells := 0, slots := 0, locals := 0 } : Room) s m #[(.ref a1), (.ref o1), (.long tm)] below meth c s₁ [] 0 0 := Stand.of_body Bd
  have e0 : s₁.heap = h0 := by rw [← hh, Bd.state]; rfl
  have N0 := Fr.nil n0
  have pre0 : ∀ t, Steps p.tables e below (s₁.setTop (mkF m 0 #[.val (.ref a1), .val (.ref o1), .val (.long tm), .second, .unset] [])) t → Steps p.tables e below (s₁.setTop (entryFrame m #[(.ref a1), (.ref o1), (.long tm)] 5)) t := fun t k => castTop (own_ef3 m a1 o1 tm) k
  obtain ⟨T1, X1, e1, st1⟩ := getF X0 hx hZ hown (host := "") (Or.inl (hw _ (List.mem_of_getElem? (i := 10) rfl))) Via.refl e0 P_F_a1_missing (g := (mkF m 6 #[.val (.ref a1), .val (.ref o1), .val (.long tm), .second, .val (.int (0 : Int32))] [(.ref a1), (.int (0 : Int32))])) rfl rfl (hb hby own_d3_6)
  obtain ⟨cl2, Ar2, -, Sz2, Nn2, -, -⟩ := id P_V_m0
  obtain ⟨T3, X3, e3, st3⟩ := getF X1 hx hZ hown (host := "") (Or.inl (hw _ (List.mem_of_getElem? (i := 10) rfl))) Via.refl e1 P_F_a1_missing (g := (mkF m 14 #[.val (.ref a1), .val (.ref o1), .val (.long tm), .second, .val (.int (0 : Int32))] [(.ref a1)])) rfl rfl (hb hby own_d3_14)
  obtain ⟨cl4, Ar4, Q4, Sz4, Nn4, Ha4, Gf4⟩ := id P_V_m0
  have ghin4 : ¬ ((0 : Int32) < 0 ∨ cl4.slots.size ≤ ((0 : Int32)).toNatClampNeg) := inb_of Sz4 ⟨by decide, by decide⟩
  have ghat4 : cl4.slots[((0 : Int32)).toNatClampNeg]? = some (.long x00) := Ha4.at ghin4 rfl
  obtain ⟨T5, X5, e5, st5⟩ := getF X3 hx hZ hown (host := "") (Or.inl (hw _ (List.mem_of_getElem? (i := 10) rfl))) Via.refl e3 P_F_o1_missing (g := (mkF m 22 #[.val (.ref a1), .val (.ref o1), .val (.long tm), .second, .val (.int (0 : Int32))] [(.ref o1), (.long x00), (.int (0 : Int32)), (.ref m0)])) rfl rfl (hb hby own_d3_22)
  obtain ⟨cl6, Ar6, Q6, Sz6, Nn6, Ha6, Gf6⟩ := id P_V_r0
  have ghin6 : ¬ ((0 : Int32) < 0 ∨ cl6.slots.size ≤ ((0 : Int32)).toNatClampNeg) := inb_of Sz6 ⟨by decide, by decide⟩
  have ghat6 : cl6.slots[((0 : Int32)).toNatClampNeg]? = some (.long y00) := Ha6.at ghin6 rfl
  obtain ⟨cl7, Ar7, Q7, Sz7, Nn7, Ha7, Gf7⟩ := id P_V_m0
  have ghin7 : ¬ ((0 : Int32) < 0 ∨ cl7.slots.size ≤ ((0 : Int32)).toNatClampNeg) := inb_of Sz7 ⟨by decide, by decide⟩
  obtain ⟨T8, h8, X8, e8, W8, st8⟩ := stJ X5 hx hZ e5 Ar7 (j := (0 : Int32)) ghin7 (g := (mkF m 31 #[.val (.ref a1), .val (.ref o1), .val (.long tm), .second, .val (.int (0 : Int32))] [(.long (x00 + (y00 * tm))), (.int (0 : Int32)), (.ref m0)])) rfl rfl (hb hby own_d3_31)
  have V8 : Arv Z h8 m0 km0 .long (2 : Int32) [(.long (x00 + (y00 * tm))), (.long x01)] (.long (0 : Int64)) := Arv.set Ar7 Q7 Sz7 Nn7 Ha7 Gf7 rfl W8 0 rfl (Nat.le_of_ble_eq_true rfl)
  have K8 : Keep h0 h8 [m0, m1, m2, m3] := (Keep.refl h0 [m0, m1, m2, m3]).wr W8 (Or.inl (List.mem_of_getElem? (i := 0) rfl))
  have N8 := Fr.snoc X8 N0 g_m0
  have FF_a1_remaining_9 : Fld Z h8 a1 "com/example/tracegauge/tracegauge/TraceTokens$Deviations" "remaining" "[J" (.ref m1) := (P_F_a1_remaining.other W8 (Or.inl nea0))
  obtain ⟨T10, X10, e10, st10⟩ := getF X8 hx hZ hown (host := "") (Or.inl (hw _ (List.mem_of_getElem? (i := 12) rfl))) Via.refl e8 FF_a1_remaining_9 (g := (mkF m 33 #[.val (.ref a1), .val (.ref o1), .val (.long tm), .second, .val (.int (0 : Int32))] [(.ref a1)])) rfl rfl (hb hby own_d3_33)
  have FV_m1_11 : Arv Z h8 m1 km1 .long (2 : Int32) [(.long x10), (.long x11)] (.long (0 : Int64)) := (P_V_m1.other W8 nem01.symm)
  obtain ⟨cl12, Ar12, Q12, Sz12, Nn12, Ha12, Gf12⟩ := id FV_m1_11
  have ghin12 : ¬ ((0 : Int32) < 0 ∨ cl12.slots.size ≤ ((0 : Int32)).toNatClampNeg) := inb_of Sz12 ⟨by decide, by decide⟩
  have ghat12 : cl12.slots[((0 : Int32)).toNatClampNeg]? = some (.long x10) := Ha12.at ghin12 rfl
  have FF_o1_remaining_13 : Fld Z h8 o1 "com/example/tracegauge/tracegauge/TraceTokens$Deviations" "remaining" "[J" (.ref r1) := (P_F_o1_remaining.other W8 (Or.inl neo0))
  obtain ⟨T14, X14, e14, st14⟩ := getF X10 hx hZ hown (host := "") (Or.inl (hw _ (List.mem_of_getElem? (i := 12) rfl))) Via.refl e10 FF_o1_remaining_13 (g := (mkF m 41 #[.val (.ref a1), .val (.ref o1), .val (.long tm), .second, .val (.int (0 : Int32))] [(.ref o1), (.long x10), (.int (0 : Int32)), (.ref m1)])) rfl rfl (hb hby own_d3_41)
  have FV_r1_15 : Arv Z h8 r1 kr1 .long (2 : Int32) [(.long y10), (.long y11)] (.long (0 : Int64)) := (P_V_r1.other W8 ner01)
  obtain ⟨cl16, Ar16, Q16, Sz16, Nn16, Ha16, Gf16⟩ := id FV_r1_15
  have ghin16 : ¬ ((0 : Int32) < 0 ∨ cl16.slots.size ≤ ((0 : Int32)).toNatClampNeg) := inb_of Sz16 ⟨by decide, by decide⟩
  have ghat16 : cl16.slots[((0 : Int32)).toNatClampNeg]? = some (.long y10) := Ha16.at ghin16 rfl
  obtain ⟨cl17, Ar17, Q17, Sz17, Nn17, Ha17, Gf17⟩ := id FV_m1_11
  have ghin17 : ¬ ((0 : Int32) < 0 ∨ cl17.slots.size ≤ ((0 : Int32)).toNatClampNeg) := inb_of Sz17 ⟨by decide, by decide⟩
  obtain ⟨T18, h18, X18, e18, W18, st18⟩ := stJ X14 hx hZ e14 Ar17 (j := (0 : Int32)) ghin17 (g := (mkF m 50 #[.val (.ref a1), .val (.ref o1), .val (.long tm), .second, .val (.int (0 : Int32))] [(.long (x10 + (y10 * tm))), (.int (0 : Int32)), (.ref m1)])) rfl rfl (hb hby own_d3_50)
  have V18 : Arv Z h18 m1 km1 .long (2 : Int32) [(.long (x10 + (y10 * tm))), (.long x11)] (.long (0 : Int64)) := Arv.set Ar17 Q17 Sz17 Nn17 Ha17 Gf17 rfl W18 0 rfl (Nat.le_of_ble_eq_true rfl)
  have K18 : Keep h0 h18 [m0, m1, m2, m3] := K8.wr W18 (Or.inl (List.mem_of_getElem? (i := 1) rfl))
  have N18 := Fr.snoc X18 N8 g_m1
  have FF_a1_missing_19 : Fld Z h18 a1 "com/example/tracegauge/tracegauge/TraceTokens$Deviations" "missing" "[J" (.ref m0) := ((P_F_a1_missing.other W8 (Or.inl nea0)).other W18 (Or.inl nea1))
  obtain ⟨T20, X20, e20, st20⟩ := getF X18 hx hZ hown (host := "") (Or.inl (hw _ (List.mem_of_getElem? (i := 10) rfl))) Via.refl e18 FF_a1_missing_19 (g := (mkF m 6 #[.val (.ref a1), .val (.ref o1), .val (.long tm), .second, .val (.int (1 : Int32))] [(.ref a1), (.int (1 : Int32))])) rfl rfl (hb hby own_d3_6)
  have FV_m0_21 : Arv Z h18 m0 km0 .long (2 : Int32) [(.long (x00 + (y00 * tm))), (.long x01)] (.long (0 : Int64)) := (V8.other W18 nem01)
  obtain ⟨cl22, Ar22, -, Sz22, Nn22, -, -⟩ := id FV_m0_21
  obtain ⟨T23, X23, e23, st23⟩ := getF X20 hx hZ hown (host := "") (Or.inl (hw _ (List.mem_of_getElem? (i := 10) rfl))) Via.refl e20 FF_a1_missing_19 (g := (mkF m 14 #[.val (.ref a1), .val (.ref o1), .val (.long tm), .second, .val (.int (1 : Int32))] [(.ref a1)])) rfl rfl (hb hby own_d3_14)
  obtain ⟨cl24, Ar24, Q24, Sz24, Nn24, Ha24, Gf24⟩ := id FV_m0_21
  have ghin24 : ¬ ((1 : Int32) < 0 ∨ cl24.slots.size ≤ ((1 : Int32)).toNatClampNeg) := inb_of Sz24 ⟨by decide, by decide⟩
  have ghat24 : cl24.slots[((1 : Int32)).toNatClampNeg]? = some (.long x01) := Ha24.at ghin24 rfl
  have FF_o1_missing_25 : Fld Z h18 o1 "com/example/tracegauge/tracegauge/TraceTokens$Deviations" "missing" "[J" (.ref r0) := ((P_F_o1_missing.other W8 (Or.inl neo0)).other W18 (Or.inl neo1))
  obtain ⟨T26, X26, e26, st26⟩ := getF X23 hx hZ hown (host := "") (Or.inl (hw _ (List.mem_of_getElem? (i := 10) rfl))) Via.refl e23 FF_o1_missing_25 (g := (mkF m 22 #[.val (.ref a1), .val (.ref o1), .val (.long tm), .second, .val (.int (1 : Int32))] [(.ref o1), (.long x01), (.int (1 : Int32)), (.ref m0)])) rfl rfl (hb hby own_d3_22)
  have FV_r0_27 : Arv Z h18 r0 kr0 .long (2 : Int32) [(.long y00), (.long y01)] (.long (0 : Int64)) := ((P_V_r0.other W8 ner00).other W18 ner10)
  obtain ⟨cl28, Ar28, Q28, Sz28, Nn28, Ha28, Gf28⟩ := id FV_r0_27
  have ghin28 : ¬ ((1 : Int32) < 0 ∨ cl28.slots.size ≤ ((1 : Int32)).toNatClampNeg) := inb_of Sz28 ⟨by decide, by decide⟩
  have ghat28 : cl28.slots[((1 : Int32)).toNatClampNeg]? = some (.long y01) := Ha28.at ghin28 rfl
  obtain ⟨cl29, Ar29, Q29, Sz29, Nn29, Ha29, Gf29⟩ := id FV_m0_21
  have ghin29 : ¬ ((1 : Int32) < 0 ∨ cl29.slots.size ≤ ((1 : Int32)).toNatClampNeg) := inb_of Sz29 ⟨by decide, by decide⟩
  obtain ⟨T30, h30, X30, e30, W30, st30⟩ := stJ X26 hx hZ e26 Ar29 (j := (1 : Int32)) ghin29 (g := (mkF m 31 #[.val (.ref a1), .val (.ref o1), .val (.long tm), .second, .val (.int (1 : Int32))] [(.long (x01 + (y01 * tm))), (.int (1 : Int32)), (.ref m0)])) rfl rfl (hb hby own_d3_31)
  have V30 : Arv Z h30 m0 km0 .long (2 : Int32) [(.long (x00 + (y00 * tm))), (.long (x01 + (y01 * tm)))] (.long (0 : Int64)) := Arv.set Ar29 Q29 Sz29 Nn29 Ha29 Gf29 rfl W30 1 rfl (Nat.le_of_ble_eq_true rfl)
  have K30 : Keep h0 h30 [m0, m1, m2, m3] := K18.wr W30 (Or.inl (List.mem_of_getElem? (i := 0) rfl))
  have N30 := Fr.snoc X30 N18 g_m0
  have FF_a1_remaining_31 : Fld Z h30 a1 "com/example/tracegauge/tracegauge/TraceTokens$Deviations" "remaining" "[J" (.ref m1) := ((FF_a1_remaining_9.other W18 (Or.inl nea1)).other W30 (Or.inl nea0))
  obtain ⟨T32, X32, e32, st32⟩ := getF X30 hx hZ hown (host := "") (Or.inl (hw _ (List.mem_of_getElem? (i := 12) rfl))) Via.refl e30 FF_a1_remaining_31 (g := (mkF m 33 #[.val (.ref a1), .val (.ref o1), .val (.long tm), .second, .val (.int (1 : Int32))] [(.ref a1)])) rfl rfl (hb hby own_d3_33)
  have FV_m1_33 : Arv Z h30 m1 km1 .long (2 : Int32) [(.long (x10 + (y10 * tm))), (.long x11)] (.long (0 : Int64)) := (V18.other W30 nem01.symm)
  obtain ⟨cl34, Ar34, Q34, Sz34, Nn34, Ha34, Gf34⟩ := id FV_m1_33
  have ghin34 : ¬ ((1 : Int32) < 0 ∨ cl34.slots.size ≤ ((1 : Int32)).toNatClampNeg) := inb_of Sz34 ⟨by decide, by decide⟩
  have ghat34 : cl34.slots[((1 : Int32)).toNatClampNeg]? = some (.long x11) := Ha34.at ghin34 rfl
  have FF_o1_remaining_35 : Fld Z h30 o1 "com/example/tracegauge/tracegauge/TraceTokens$Deviations" "remaining" "[J" (.ref r1) := ((FF_o1_remaining_13.other W18 (Or.inl neo1)).other W30 (Or.inl neo0))
  obtain ⟨T36, X36, e36, st36⟩ := getF X32 hx hZ hown (host := "") (Or.inl (hw _ (List.mem_of_getElem? (i := 12) rfl))) Via.refl e32 FF_o1_remaining_35 (g := (mkF m 41 #[.val (.ref a1), .val (.ref o1), .val (.long tm), .second, .val (.int (1 : Int32))] [(.ref o1), (.long x11), (.int (1 : Int32)), (.ref m1)])) rfl rfl (hb hby own_d3_41)
  have FV_r1_37 : Arv Z h30 r1 kr1 .long (2 : Int32) [(.long y10), (.long y11)] (.long (0 : Int64)) := ((FV_r1_15.other W18 ner11).other W30 ner01)
  obtain ⟨cl38, Ar38, Q38, Sz38, Nn38, Ha38, Gf38⟩ := id FV_r1_37
  have ghin38 : ¬ ((1 : Int32) < 0 ∨ cl38.slots.size ≤ ((1 : Int32)).toNatClampNeg) := inb_of Sz38 ⟨by decide, by decide⟩
  have ghat38 : cl38.slots[((1 : Int32)).toNatClampNeg]? = some (.long y11) := Ha38.at ghin38 rfl
  obtain ⟨cl39, Ar39, Q39, Sz39, Nn39, Ha39, Gf39⟩ := id FV_m1_33
  have ghin39 : ¬ ((1 : Int32) < 0 ∨ cl39.slots.size ≤ ((1 : Int32)).toNatClampNeg) := inb_of Sz39 ⟨by decide, by decide⟩
  obtain ⟨T40, h40, X40, e40, W40, st40⟩ := stJ X36 hx hZ e36 Ar39 (j := (1 : Int32)) ghin39 (g := (mkF m 50 #[.val (.ref a1), .val (.ref o1), .val (.long tm), .second, .val (.int (1 : Int32))] [(.long (x11 + (y11 * tm))), (.int (1 : Int32)), (.ref m1)])) rfl rfl (hb hby own_d3_50)
  have V40 : Arv Z h40 m1 km1 .long (2 : Int32) [(.long (x10 + (y10 * tm))), (.long (x11 + (y11 * tm)))] (.long (0 : Int64)) := Arv.set Ar39 Q39 Sz39 Nn39 Ha39 Gf39 rfl W40 1 rfl (Nat.le_of_ble_eq_true rfl)
  have K40 : Keep h0 h40 [m0, m1, m2, m3] := K30.wr W40 (Or.inl (List.mem_of_getElem? (i := 1) rfl))
  have N40 := Fr.snoc X40 N30 g_m1
  have FF_a1_missing_41 : Fld Z h40 a1 "com/example/tracegauge/tracegauge/TraceTokens$Deviations" "missing" "[J" (.ref m0) := ((FF_a1_missing_19.other W30 (Or.inl nea0)).other W40 (Or.inl nea1))
  obtain ⟨T42, X42, e42, st42⟩ := getF X40 hx hZ hown (host := "") (Or.inl (hw _ (List.mem_of_getElem? (i := 10) rfl))) Via.refl e40 FF_a1_missing_41 (g := (mkF m 6 #[.val (.ref a1), .val (.ref o1), .val (.long tm), .second, .val (.int (2 : Int32))] [(.ref a1), (.int (2 : Int32))])) rfl rfl (hb hby own_d3_6)
  have FV_m0_43 : Arv Z h40 m0 km0 .long (2 : Int32) [(.long (x00 + (y00 * tm))), (.long (x01 + (y01 * tm)))] (.long (0 : Int64)) := (V30.other W40 nem01)
  obtain ⟨cl44, Ar44, -, Sz44, Nn44, -, -⟩ := id FV_m0_43
  have FF_a1_forced_45 : Fld Z h40 a1 "com/example/tracegauge/tracegauge/TraceTokens$Deviations" "forced" "[J" (.ref m2) := ((((P_F_a1_forced.other W8 (Or.inl nea0)).other W18 (Or.inl nea1)).other W30 (Or.inl nea0)).other W40 (Or.inl nea1))
  obtain ⟨T46, X46, e46, st46⟩ := getF X42 hx hZ hown (host := "") (Or.inl (hw _ (List.mem_of_getElem? (i := 14) rfl))) Via.refl e42 FF_a1_forced_45 (g := (mkF m 63 #[.val (.ref a1), .val (.ref o1), .val (.long tm), .second, .val (.int (0 : Int32))] [(.ref a1), (.int (0 : Int32))])) rfl rfl (hb hby own_d3_63)
  have FV_m2_47 : Arv Z h40 m2 km2 .long (3 : Int32) [(.long x20), (.long x21), (.long x22)] (.long (0 : Int64)) := ((((P_V_m2.other W8 nem02.symm).other W18 nem12.symm).other W30 nem02.symm).other W40 nem12.symm)
  obtain ⟨cl48, Ar48, -, Sz48, Nn48, -, -⟩ := id FV_m2_47
  obtain ⟨T49, X49, e49, st49⟩ := getF X46 hx hZ hown (host := "") (Or.inl (hw _ (List.mem_of_getElem? (i := 14) rfl))) Via.refl e46 FF_a1_forced_45 (g := (mkF m 71 #[.val (.ref a1), .val (.ref o1), .val (.long tm), .second, .val (.int (0 : Int32))] [(.ref a1)])) rfl rfl (hb hby own_d3_71)
  obtain ⟨cl50, Ar50, Q50, Sz50, Nn50, Ha50, Gf50⟩ := id FV_m2_47
  have ghin50 : ¬ ((0 : Int32) < 0 ∨ cl50.slots.size ≤ ((0 : Int32)).toNatClampNeg) := inb_of Sz50 ⟨by decide, by decide⟩
  have ghat50 : cl50.slots[((0 : Int32)).toNatClampNeg]? = some (.long x20) := Ha50.at ghin50 rfl
  have FF_o1_forced_51 : Fld Z h40 o1 "com/example/tracegauge/tracegauge/TraceTokens$Deviations" "forced" "[J" (.ref r2) := ((((P_F_o1_forced.other W8 (Or.inl neo0)).other W18 (Or.inl neo1)).other W30 (Or.inl neo0)).other W40 (Or.inl neo1))
  obtain ⟨T52, X52, e52, st52⟩ := getF X49 hx hZ hown (host := "") (Or.inl (hw _ (List.mem_of_getElem? (i := 14) rfl))) Via.refl e49 FF_o1_forced_51 (g := (mkF m 79 #[.val (.ref a1), .val (.ref o1), .val (.long tm), .second, .val (.int (0 : Int32))] [(.ref o1), (.long x20), (.int (0 : Int32)), (.ref m2)])) rfl rfl (hb hby own_d3_79)
  have FV_r2_53 : Arv Z h40 r2 kr2 .long (3 : Int32) [(.long y20), (.long y21), (.long y22)] (.long (0 : Int64)) := ((((P_V_r2.other W8 ner02).other W18 ner12).other W30 ner02).other W40 ner12)
  obtain ⟨cl54, Ar54, Q54, Sz54, Nn54, Ha54, Gf54⟩ := id FV_r2_53
  have ghin54 : ¬ ((0 : Int32) < 0 ∨ cl54.slots.size ≤ ((0 : Int32)).toNatClampNeg) := inb_of Sz54 ⟨by decide, by decide⟩
  have ghat54 : cl54.slots[((0 : Int32)).toNatClampNeg]? = some (.long y20) := Ha54.at ghin54 rfl
  obtain ⟨cl55, Ar55, Q55, Sz55, Nn55, Ha55, Gf55⟩ := id FV_m2_47
  have ghin55 : ¬ ((0 : Int32) < 0 ∨ cl55.slots.size ≤ ((0 : Int32)).toNatClampNeg) := inb_of Sz55 ⟨by decide, by decide⟩
  obtain ⟨T56, h56, X56, e56, W56, st56⟩ := stJ X52 hx hZ e52 Ar55 (j := (0 : Int32)) ghin55 (g := (mkF m 88 #[.val (.ref a1), .val (.ref o1), .val (.long tm), .second, .val (.int (0 : Int32))] [(.long (x20 + (y20 * tm))), (.int (0 : Int32)), (.ref m2)])) rfl rfl (hb hby own_d3_88)
  have V56 : Arv Z h56 m2 km2 .long (3 : Int32) [(.long (x20 + (y20 * tm))), (.long x21), (.long x22)] (.long (0 : Int64)) := Arv.set Ar55 Q55 Sz55 Nn55 Ha55 Gf55 rfl W56 0 rfl (Nat.le_of_ble_eq_true rfl)
  have K56 : Keep h0 h56 [m0, m1, m2, m3] := K40.wr W56 (Or.inl (List.mem_of_getElem? (i := 2) rfl))
  have N56 := Fr.snoc X56 N40 g_m2
  have FF_a1_violated_57 : Fld Z h56 a1 "com/example/tracegauge/tracegauge/TraceTokens$Deviations" "violated" "[J" (.ref m3) := (((((P_F_a1_violated.other W8 (Or.inl nea0)).other W18 (Or.inl nea1)).other W30 (Or.inl nea0)).other W40 (Or.inl nea1)).other W56 (Or.inl nea2))
  obtain ⟨T58, X58, e58, st58⟩ := getF X56 hx hZ hown (host := "") (Or.inl (hw _ (List.mem_of_getElem? (i := 16) rfl))) Via.refl e56 FF_a1_violated_57 (g := (mkF m 90 #[.val (.ref a1), .val (.ref o1), .val (.long tm), .second, .val (.int (0 : Int32))] [(.ref a1)])) rfl rfl (hb hby own_d3_90)
  have FV_m3_59 : Arv Z h56 m3 km3 .long (3 : Int32) [(.long x30), (.long x31), (.long x32)] (.long (0 : Int64)) := (((((P_V_m3.other W8 nem03.symm).other W18 nem13.symm).other W30 nem03.symm).other W40 nem13.symm).other W56 nem23.symm)
  obtain ⟨cl60, Ar60, Q60, Sz60, Nn60, Ha60, Gf60⟩ := id FV_m3_59
  have ghin60 : ¬ ((0 : Int32) < 0 ∨ cl60.slots.size ≤ ((0 : Int32)).toNatClampNeg) := inb_of Sz60 ⟨by decide, by decide⟩
  have ghat60 : cl60.slots[((0 : Int32)).toNatClampNeg]? = some (.long x30) := Ha60.at ghin60 rfl
  have FF_o1_violated_61 : Fld Z h56 o1 "com/example/tracegauge/tracegauge/TraceTokens$Deviations" "violated" "[J" (.ref r3) := (((((P_F_o1_violated.other W8 (Or.inl neo0)).other W18 (Or.inl neo1)).other W30 (Or.inl neo0)).other W40 (Or.inl neo1)).other W56 (Or.inl neo2))
  obtain ⟨T62, X62, e62, st62⟩ := getF X58 hx hZ hown (host := "") (Or.inl (hw _ (List.mem_of_getElem? (i := 16) rfl))) Via.refl e58 FF_o1_violated_61 (g := (mkF m 98 #[.val (.ref a1), .val (.ref o1), .val (.long tm), .second, .val (.int (0 : Int32))] [(.ref o1), (.long x30), (.int (0 : Int32)), (.ref m3)])) rfl rfl (hb hby own_d3_98)
  have FV_r3_63 : Arv Z h56 r3 kr3 .long (3 : Int32) [(.long y30), (.long y31), (.long y32)] (.long (0 : Int64)) := (((((P_V_r3.other W8 ner03).other W18 ner13).other W30 ner03).other W40 ner13).other W56 ner23)
  obtain ⟨cl64, Ar64, Q64, Sz64, Nn64, Ha64, Gf64⟩ := id FV_r3_63
  have ghin64 : ¬ ((0 : Int32) < 0 ∨ cl64.slots.size ≤ ((0 : Int32)).toNatClampNeg) := inb_of Sz64 ⟨by decide, by decide⟩
  have ghat64 : cl64.slots[((0 : Int32)).toNatClampNeg]? = some (.long y30) := Ha64.at ghin64 rfl
  obtain ⟨cl65, Ar65, Q65, Sz65, Nn65, Ha65, Gf65⟩ := id FV_m3_59
  have ghin65 : ¬ ((0 : Int32) < 0 ∨ cl65.slots.size ≤ ((0 : Int32)).toNatClampNeg) := inb_of Sz65 ⟨by decide, by decide⟩
  obtain ⟨T66, h66, X66, e66, W66, st66⟩ := stJ X62 hx hZ e62 Ar65 (j := (0 : Int32)) ghin65 (g := (mkF m 107 #[.val (.ref a1), .val (.ref o1), .val (.long tm), .second, .val (.int (0 : Int32))] [(.long (x30 + (y30 * tm))), (.int (0 : Int32)), (.ref m3)])) rfl rfl (hb hby own_d3_107)
  have V66 : Arv Z h66 m3 km3 .long (3 : Int32) [(.long (x30 + (y30 * tm))), (.long x31), (.long x32)] (.long (0 : Int64)) := Arv.set Ar65 Q65 Sz65 Nn65 Ha65 Gf65 rfl W66 0 rfl (Nat.le_of_ble_eq_true rfl)
  have K66 : Keep h0 h66 [m0, m1, m2, m3] := K56.wr W66 (Or.inl (List.mem_of_getElem? (i := 3) rfl))
  have N66 := Fr.snoc X66 N56 g_m3
  have FF_a1_forced_67 : Fld Z h66 a1 "com/example/tracegauge/tracegauge/TraceTokens$Deviations" "forced" "[J" (.ref m2) := ((FF_a1_forced_45.other W56 (Or.inl nea2)).other W66 (Or.inl nea3))
  obtain ⟨T68, X68, e68, st68⟩ := getF X66 hx hZ hown (host := "") (Or.inl (hw _ (List.mem_of_getElem? (i := 14) rfl))) Via.refl e66 FF_a1_forced_67 (g := (mkF m 63 #[.val (.ref a1), .val (.ref o1), .val (.long tm), .second, .val (.int (1 : Int32))] [(.ref a1), (.int (1 : Int32))])) rfl rfl (hb hby own_d3_63)
  have FV_m2_69 : Arv Z h66 m2 km2 .long (3 : Int32) [(.long (x20 + (y20 * tm))), (.long x21), (.long x22)] (.long (0 : Int64)) := (V56.other W66 nem23)
  obtain ⟨cl70, Ar70, -, Sz70, Nn70, -, -⟩ := id FV_m2_69
  obtain ⟨T71, X71, e71, st71⟩ := getF X68 hx hZ hown (host := "") (Or.inl (hw _ (List.mem_of_getElem? (i := 14) rfl))) Via.refl e68 FF_a1_forced_67 (g := (mkF m 71 #[.val (.ref a1), .val (.ref o1), .val (.long tm), .second, .val (.int (1 : Int32))] [(.ref a1)])) rfl rfl (hb hby own_d3_71)
  obtain ⟨cl72, Ar72, Q72, Sz72, Nn72, Ha72, Gf72⟩ := id FV_m2_69
  have ghin72 : ¬ ((1 : Int32) < 0 ∨ cl72.slots.size ≤ ((1 : Int32)).toNatClampNeg) := inb_of Sz72 ⟨by decide, by decide⟩
  have ghat72 : cl72.slots[((1 : Int32)).toNatClampNeg]? = some (.long x21) := Ha72.at ghin72 rfl
  have FF_o1_forced_73 : Fld Z h66 o1 "com/example/tracegauge/tracegauge/TraceTokens$Deviations" "forced" "[J" (.ref r2) := ((FF_o1_forced_51.other W56 (Or.inl neo2)).other W66 (Or.inl neo3))
  obtain ⟨T74, X74, e74, st74⟩ := getF X71 hx hZ hown (host := "") (Or.inl (hw _ (List.mem_of_getElem? (i := 14) rfl))) Via.refl e71 FF_o1_forced_73 (g := (mkF m 79 #[.val (.ref a1), .val (.ref o1), .val (.long tm), .second, .val (.int (1 : Int32))] [(.ref o1), (.long x21), (.int (1 : Int32)), (.ref m2)])) rfl rfl (hb hby own_d3_79)
  have FV_r2_75 : Arv Z h66 r2 kr2 .long (3 : Int32) [(.long y20), (.long y21), (.long y22)] (.long (0 : Int64)) := ((FV_r2_53.other W56 ner22).other W66 ner32)
  obtain ⟨cl76, Ar76, Q76, Sz76, Nn76, Ha76, Gf76⟩ := id FV_r2_75
  have ghin76 : ¬ ((1 : Int32) < 0 ∨ cl76.slots.size ≤ ((1 : Int32)).toNatClampNeg) := inb_of Sz76 ⟨by decide, by decide⟩
  have ghat76 : cl76.slots[((1 : Int32)).toNatClampNeg]? = some (.long y21) := Ha76.at ghin76 rfl
  obtain ⟨cl77, Ar77, Q77, Sz77, Nn77, Ha77, Gf77⟩ := id FV_m2_69
  have ghin77 : ¬ ((1 : Int32) < 0 ∨ cl77.slots.size ≤ ((1 : Int32)).toNatClampNeg) := inb_of Sz77 ⟨by decide, by decide⟩
  obtain ⟨T78, h78, X78, e78, W78, st78⟩ := stJ X74 hx hZ e74 Ar77 (j := (1 : Int32)) ghin77 (g := (mkF m 88 #[.val (.ref a1), .val (.ref o1), .val (.long tm), .second, .val (.int (1 : Int32))] [(.long (x21 + (y21 * tm))), (.int (1 : Int32)), (.ref m2)])) rfl rfl (hb hby own_d3_88)
  have V78 : Arv Z h78 m2 km2 .long (3 : Int32) [(.long (x20 + (y20 * tm))), (.long (x21 + (y21 * tm))), (.long x22)] (.long (0 : Int64)) := Arv.set Ar77 Q77 Sz77 Nn77 Ha77 Gf77 rfl W78 1 rfl (Nat.le_of_ble_eq_true rfl)
  have K78 : Keep h0 h78 [m0, m1, m2, m3] := K66.wr W78 (Or.inl (List.mem_of_getElem? (i := 2) rfl))
  have N78 := Fr.snoc X78 N66 g_m2
  have FF_a1_violated_79 : Fld Z h78 a1 "com/example/tracegauge/tracegauge/TraceTokens$Deviations" "violated" "[J" (.ref m3) := ((FF_a1_violated_57.other W66 (Or.inl nea3)).other W78 (Or.inl nea2))
  obtain ⟨T80, X80, e80, st80⟩ := getF X78 hx hZ hown (host := "") (Or.inl (hw _ (List.mem_of_getElem? (i := 16) rfl))) Via.refl e78 FF_a1_violated_79 (g := (mkF m 90 #[.val (.ref a1), .val (.ref o1), .val (.long tm), .second, .val (.int (1 : Int32))] [(.ref a1)])) rfl rfl (hb hby own_d3_90)
  have FV_m3_81 : Arv Z h78 m3 km3 .long (3 : Int32) [(.long (x30 + (y30 * tm))), (.long x31), (.long x32)] (.long (0 : Int64)) := (V66.other W78 nem23.symm)
  obtain ⟨cl82, Ar82, Q82, Sz82, Nn82, Ha82, Gf82⟩ := id FV_m3_81
  have ghin82 : ¬ ((1 : Int32) < 0 ∨ cl82.slots.size ≤ ((1 : Int32)).toNatClampNeg) := inb_of Sz82 ⟨by decide, by decide⟩
  have ghat82 : cl82.slots[((1 : Int32)).toNatClampNeg]? = some (.long x31) := Ha82.at ghin82 rfl
  have FF_o1_violated_83 : Fld Z h78 o1 "com/example/tracegauge/tracegauge/TraceTokens$Deviations" "violated" "[J" (.ref r3) := ((FF_o1_violated_61.other W66 (Or.inl neo3)).other W78 (Or.inl neo2))
  obtain ⟨T84, X84, e84, st84⟩ := getF X80 hx hZ hown (host := "") (Or.inl (hw _ (List.mem_of_getElem? (i := 16) rfl))) Via.refl e80 FF_o1_violated_83 (g := (mkF m 98 #[.val (.ref a1), .val (.ref o1), .val (.long tm), .second, .val (.int (1 : Int32))] [(.ref o1), (.long x31), (.int (1 : Int32)), (.ref m3)])) rfl rfl (hb hby own_d3_98)
  have FV_r3_85 : Arv Z h78 r3 kr3 .long (3 : Int32) [(.long y30), (.long y31), (.long y32)] (.long (0 : Int64)) := ((FV_r3_63.other W66 ner33).other W78 ner23)
  obtain ⟨cl86, Ar86, Q86, Sz86, Nn86, Ha86, Gf86⟩ := id FV_r3_85
  have ghin86 : ¬ ((1 : Int32) < 0 ∨ cl86.slots.size ≤ ((1 : Int32)).toNatClampNeg) := inb_of Sz86 ⟨by decide, by decide⟩
  have ghat86 : cl86.slots[((1 : Int32)).toNatClampNeg]? = some (.long y31) := Ha86.at ghin86 rfl
  obtain ⟨cl87, Ar87, Q87, Sz87, Nn87, Ha87, Gf87⟩ := id FV_m3_81
  have ghin87 : ¬ ((1 : Int32) < 0 ∨ cl87.slots.size ≤ ((1 : Int32)).toNatClampNeg) := inb_of Sz87 ⟨by decide, by decide⟩
  obtain ⟨T88, h88, X88, e88, W88, st88⟩ := stJ X84 hx hZ e84 Ar87 (j := (1 : Int32)) ghin87 (g := (mkF m 107 #[.val (.ref a1), .val (.ref o1), .val (.long tm), .second, .val (.int (1 : Int32))] [(.long (x31 + (y31 * tm))), (.int (1 : Int32)), (.ref m3)])) rfl rfl (hb hby own_d3_107)
  have V88 : Arv Z h88 m3 km3 .long (3 : Int32) [(.long (x30 + (y30 * tm))), (.long (x31 + (y31 * tm))), (.long x32)] (.long (0 : Int64)) := Arv.set Ar87 Q87 Sz87 Nn87 Ha87 Gf87 rfl W88 1 rfl (Nat.le_of_ble_eq_true rfl)
  have K88 : Keep h0 h88 [m0, m1, m2, m3] := K78.wr W88 (Or.inl (List.mem_of_getElem? (i := 3) rfl))
  have N88 := Fr.snoc X88 N78 g_m3
  have FF_a1_forced_89 : Fld Z h88 a1 "com/example/tracegauge/tracegauge/TraceTokens$Deviations" "forced" "[J" (.ref m2) := ((FF_a1_forced_67.other W78 (Or.inl nea2)).other W88 (Or.inl nea3))
  obtain ⟨T90, X90, e90, st90⟩ := getF X88 hx hZ hown (host := "") (Or.inl (hw _ (List.mem_of_getElem? (i := 14) rfl))) Via.refl e88 FF_a1_forced_89 (g := (mkF m 63 #[.val (.ref a1), .val (.ref o1), .val (.long tm), .second, .val (.int (2 : Int32))] [(.ref a1), (.int (2 : Int32))])) rfl rfl (hb hby own_d3_63)
  have FV_m2_91 : Arv Z h88 m2 km2 .long (3 : Int32) [(.long (x20 + (y20 * tm))), (.long (x21 + (y21 * tm))), (.long x22)] (.long (0 : Int64)) := (V78.other W88 nem23)
  obtain ⟨cl92, Ar92, -, Sz92, Nn92, -, -⟩ := id FV_m2_91
  obtain ⟨T93, X93, e93, st93⟩ := getF X90 hx hZ hown (host := "") (Or.inl (hw _ (List.mem_of_getElem? (i := 14) rfl))) Via.refl e90 FF_a1_forced_89 (g := (mkF m 71 #[.val (.ref a1), .val (.ref o1), .val (.long tm), .second, .val (.int (2 : Int32))] [(.ref a1)])) rfl rfl (hb hby own_d3_71)
  obtain ⟨cl94, Ar94, Q94, Sz94, Nn94, Ha94, Gf94⟩ := id FV_m2_91
  have ghin94 : ¬ ((2 : Int32) < 0 ∨ cl94.slots.size ≤ ((2 : Int32)).toNatClampNeg) := inb_of Sz94 ⟨by decide, by decide⟩
  have ghat94 : cl94.slots[((2 : Int32)).toNatClampNeg]? = some (.long x22) := Ha94.at ghin94 rfl
  have FF_o1_forced_95 : Fld Z h88 o1 "com/example/tracegauge/tracegauge/TraceTokens$Deviations" "forced" "[J" (.ref r2) := ((FF_o1_forced_73.other W78 (Or.inl neo2)).other W88 (Or.inl neo3))
  obtain ⟨T96, X96, e96, st96⟩ := getF X93 hx hZ hown (host := "") (Or.inl (hw _ (List.mem_of_getElem? (i := 14) rfl))) Via.refl e93 FF_o1_forced_95 (g := (mkF m 79 #[.val (.ref a1), .val (.ref o1), .val (.long tm), .second, .val (.int (2 : Int32))] [(.ref o1), (.long x22), (.int (2 : Int32)), (.ref m2)])) rfl rfl (hb hby own_d3_79)
  have FV_r2_97 : Arv Z h88 r2 kr2 .long (3 : Int32) [(.long y20), (.long y21), (.long y22)] (.long (0 : Int64)) := ((FV_r2_75.other W78 ner22).other W88 ner32)
  obtain ⟨cl98, Ar98, Q98, Sz98, Nn98, Ha98, Gf98⟩ := id FV_r2_97
  have ghin98 : ¬ ((2 : Int32) < 0 ∨ cl98.slots.size ≤ ((2 : Int32)).toNatClampNeg) := inb_of Sz98 ⟨by decide, by decide⟩
  have ghat98 : cl98.slots[((2 : Int32)).toNatClampNeg]? = some (.long y22) := Ha98.at ghin98 rfl
  obtain ⟨cl99, Ar99, Q99, Sz99, Nn99, Ha99, Gf99⟩ := id FV_m2_91
  have ghin99 : ¬ ((2 : Int32) < 0 ∨ cl99.slots.size ≤ ((2 : Int32)).toNatClampNeg) := inb_of Sz99 ⟨by decide, by decide⟩
  obtain ⟨T100, h100, X100, e100, W100, st100⟩ := stJ X96 hx hZ e96 Ar99 (j := (2 : Int32)) ghin99 (g := (mkF m 88 #[.val (.ref a1), .val (.ref o1), .val (.long tm), .second, .val (.int (2 : Int32))] [(.long (x22 + (y22 * tm))), (.int (2 : Int32)), (.ref m2)])) rfl rfl (hb hby own_d3_88)
  have V100 : Arv Z h100 m2 km2 .long (3 : Int32) [(.long (x20 + (y20 * tm))), (.long (x21 + (y21 * tm))), (.long (x22 + (y22 * tm)))] (.long (0 : Int64)) := Arv.set Ar99 Q99 Sz99 Nn99 Ha99 Gf99 rfl W100 2 rfl (Nat.le_of_ble_eq_true rfl)
  have K100 : Keep h0 h100 [m0, m1, m2, m3] := K88.wr W100 (Or.inl (List.mem_of_getElem? (i := 2) rfl))
  have N100 := Fr.snoc X100 N88 g_m2
  have FF_a1_violated_101 : Fld Z h100 a1 "com/example/tracegauge/tracegauge/TraceTokens$Deviations" "violated" "[J" (.ref m3) := ((FF_a1_violated_79.other W88 (Or.inl nea3)).other W100 (Or.inl nea2))
  obtain ⟨T102, X102, e102, st102⟩ := getF X100 hx hZ hown (host := "") (Or.inl (hw _ (List.mem_of_getElem? (i := 16) rfl))) Via.refl e100 FF_a1_violated_101 (g := (mkF m 90 #[.val (.ref a1), .val (.ref o1), .val (.long tm), .second, .val (.int (2 : Int32))] [(.ref a1)])) rfl rfl (hb hby own_d3_90)
  have FV_m3_103 : Arv Z h100 m3 km3 .long (3 : Int32) [(.long (x30 + (y30 * tm))), (.long (x31 + (y31 * tm))), (.long x32)] (.long (0 : Int64)) := (V88.other W100 nem23.symm)
  obtain ⟨cl104, Ar104, Q104, Sz104, Nn104, Ha104, Gf104⟩ := id FV_m3_103
  have ghin104 : ¬ ((2 : Int32) < 0 ∨ cl104.slots.size ≤ ((2 : Int32)).toNatClampNeg) := inb_of Sz104 ⟨by decide, by decide⟩
  have ghat104 : cl104.slots[((2 : Int32)).toNatClampNeg]? = some (.long x32) := Ha104.at ghin104 rfl
  have FF_o1_violated_105 : Fld Z h100 o1 "com/example/tracegauge/tracegauge/TraceTokens$Deviations" "violated" "[J" (.ref r3) := ((FF_o1_violated_83.other W88 (Or.inl neo3)).other W100 (Or.inl neo2))
  obtain ⟨T106, X106, e106, st106⟩ := getF X102 hx hZ hown (host := "") (Or.inl (hw _ (List.mem_of_getElem? (i := 16) rfl))) Via.refl e102 FF_o1_violated_105 (g := (mkF m 98 #[.val (.ref a1), .val (.ref o1), .val (.long tm), .second, .val (.int (2 : Int32))] [(.ref o1), (.long x32), (.int (2 : Int32)), (.ref m3)])) rfl rfl (hb hby own_d3_98)
  have FV_r3_107 : Arv Z h100 r3 kr3 .long (3 : Int32) [(.long y30), (.long y31), (.long y32)] (.long (0 : Int64)) := ((FV_r3_85.other W88 ner33).other W100 ner23)
  obtain ⟨cl108, Ar108, Q108, Sz108, Nn108, Ha108, Gf108⟩ := id FV_r3_107
  have ghin108 : ¬ ((2 : Int32) < 0 ∨ cl108.slots.size ≤ ((2 : Int32)).toNatClampNeg) := inb_of Sz108 ⟨by decide, by decide⟩
  have ghat108 : cl108.slots[((2 : Int32)).toNatClampNeg]? = some (.long y32) := Ha108.at ghin108 rfl
  obtain ⟨cl109, Ar109, Q109, Sz109, Nn109, Ha109, Gf109⟩ := id FV_m3_103
  have ghin109 : ¬ ((2 : Int32) < 0 ∨ cl109.slots.size ≤ ((2 : Int32)).toNatClampNeg) := inb_of Sz109 ⟨by decide, by decide⟩
  obtain ⟨T110, h110, X110, e110, W110, st110⟩ := stJ X106 hx hZ e106 Ar109 (j := (2 : Int32)) ghin109 (g := (mkF m 107 #[.val (.ref a1), .val (.ref o1), .val (.long tm), .second, .val (.int (2 : Int32))] [(.long (x32 + (y32 * tm))), (.int (2 : Int32)), (.ref m3)])) rfl rfl (hb hby own_d3_107)
  have V110 : Arv Z h110 m3 km3 .long (3 : Int32) [(.long (x30 + (y30 * tm))), (.long (x31 + (y31 * tm))), (.long (x32 + (y32 * tm)))] (.long (0 : Int64)) := Arv.set Ar109 Q109 Sz109 Nn109 Ha109 Gf109 rfl W110 2 rfl (Nat.le_of_ble_eq_true rfl)
  have K110 : Keep h0 h110 [m0, m1, m2, m3] := K100.wr W110 (Or.inl (List.mem_of_getElem? (i := 3) rfl))
  have N110 := Fr.snoc X110 N100 g_m3
  have FF_a1_forced_111 : Fld Z h110 a1 "com/example/tracegauge/tracegauge/TraceTokens$Deviations" "forced" "[J" (.ref m2) := ((FF_a1_forced_89.other W100 (Or.inl nea2)).other W110 (Or.inl nea3))
  obtain ⟨T112, X112, e112, st112⟩ := getF X110 hx hZ hown (host := "") (Or.inl (hw _ (List.mem_of_getElem? (i := 14) rfl))) Via.refl e110 FF_a1_forced_111 (g := (mkF m 63 #[.val (.ref a1), .val (.ref o1), .val (.long tm), .second, .val (.int (3 : Int32))] [(.ref a1), (.int (3 : Int32))])) rfl rfl (hb hby own_d3_63)
  have FV_m2_113 : Arv Z h110 m2 km2 .long (3 : Int32) [(.long (x20 + (y20 * tm))), (.long (x21 + (y21 * tm))), (.long (x22 + (y22 * tm)))] (.long (0 : Int64)) := (V100.other W110 nem23)
  obtain ⟨cl114, Ar114, -, Sz114, Nn114, -, -⟩ := id FV_m2_113
  obtain ⟨fs, hr, hrun, hended, hW, hsame⟩ := X112.leave (v := none) (fun _ => rfl)
  refine ⟨_, _, pre0 _ ?_, hrun, hended, _, _, rfl, ?_, ⟨_, rfl⟩, hW, hsame.mono (by decide) (by decide)⟩
  · show Steps p.tables e below (s₁.setTop (mkF m 0 #[.val (.ref a1), .val (.ref o1), .val (.long tm), .second, .unset] [])) _
    refine XT.iconstV X0.here hx rfl (0 : Int32) (hb hby own_d3_0) rfl ?_
    show Steps p.tables e below (s₁.setTop (mkF m 1 #[.val (.ref a1), .val (.ref o1), .val (.long tm), .second, .unset] [(.int (0 : Int32))])) _
    refine XS.istore X0.here hx rfl (hb hby own_d3_1) rfl (l' := #[.val (.ref a1), .val (.ref o1), .val (.long tm), .second, .val (.int (0 : Int32))]) rfl ?_
    show Steps p.tables e below (s₁.setTop (mkF m 3 #[.val (.ref a1), .val (.ref o1), .val (.long tm), .second, .val (.int (0 : Int32))] [])) _
    refine XS.iload X0.here hx rfl (hb hby own_d3_3) rfl ?_
    show Steps p.tables e below (s₁.setTop (mkF m 5 #[.val (.ref a1), .val (.ref o1), .val (.long tm), .second, .val (.int (0 : Int32))] [(.int (0 : Int32))])) _
    refine XS.aloadN X0.here hx rfl (hb hby own_d3_5) rfl rfl ?_
    show Steps p.tables e below (s₁.setTop (mkF m 6 #[.val (.ref a1), .val (.ref o1), .val (.long tm), .second, .val (.int (0 : Int32))] [(.ref a1), (.int (0 : Int32))])) _
    refine st1 _ ?_
    show Steps p.tables e below (T1.setTop (mkF m 9 #[.val (.ref a1), .val (.ref o1), .val (.long tm), .second, .val (.int (0 : Int32))] [(.ref m0), (.int (0 : Int32))])) _
    refine X1.arraylength hx (by rw [e1]; exact Ar2.1) (State.isArrayOf_alike hZ.alike Ar2.2.1) (g := (mkF m 9 #[.val (.ref a1), .val (.ref o1), .val (.long tm), .second, .val (.int (0 : Int32))] [(.ref m0), (.int (0 : Int32))])) rfl rfl (hb hby own_d3_9) _ ?_
    rw [len_of Sz2 Nn2]
    show Steps p.tables e below (T1.setTop (mkF m 10 #[.val (.ref a1), .val (.ref o1), .val (.long tm), .second, .val (.int (0 : Int32))] [(.int (2 : Int32)), (.int (0 : Int32))])) _
    refine XS.icmpNo X1.here hx rfl (hb hby own_d3_10) rfl (XT.ii_ge_f (by decide)) ?_
    show Steps p.tables e below (T1.setTop (mkF m 13 #[.val (.ref a1), .val (.ref o1), .val (.long tm), .second, .val (.int (0 : Int32))] [])) _
    refine XS.aloadN X1.here hx rfl (hb hby own_d3_13) rfl rfl ?_
    show Steps p.tables e below (T1.setTop (mkF m 14 #[.val (.ref a1), .val (.ref o1), .val (.long tm), .second, .val (.int (0 : Int32))] [(.ref a1)])) _
    refine st3 _ ?_
    show Steps p.tables e below (T3.setTop (mkF m 17 #[.val (.ref a1), .val (.ref o1), .val (.long tm), .second, .val (.int (0 : Int32))] [(.ref m0)])) _
    refine XS.iload X3.here hx rfl (hb hby own_d3_17) rfl ?_
    show Steps p.tables e below (T3.setTop (mkF m 19 #[.val (.ref a1), .val (.ref o1), .val (.long tm), .second, .val (.int (0 : Int32))] [(.int (0 : Int32)), (.ref m0)])) _
    refine XT.dup2 X3.here hx rfl (hb hby own_d3_19) rfl rfl rfl ?_
    show Steps p.tables e below (T3.setTop (mkF m 20 #[.val (.ref a1), .val (.ref o1), .val (.long tm), .second, .val (.int (0 : Int32))] [(.int (0 : Int32)), (.ref m0), (.int (0 : Int32)), (.ref m0)])) _
    refine X3.laload hx (j := (0 : Int32)) (v := (.long x00)) (by rw [e3]; exact Ar4.1) (State.isArrayOf_alike hZ.alike Ar4.2.1) Ar4.2.2 ghin4 ghat4 (g := (mkF m 20 #[.val (.ref a1), .val (.ref o1), .val (.long tm), .second, .val (.int (0 : Int32))] [(.int (0 : Int32)), (.ref m0), (.int (0 : Int32)), (.ref m0)])) rfl rfl (hb hby own_d3_20) _ ?_
    show Steps p.tables e below (T3.setTop (mkF m 21 #[.val (.ref a1), .val (.ref o1), .val (.long tm), .second, .val (.int (0 : Int32))] [(.long x00), (.int (0 : Int32)), (.ref m0)])) _
    refine XS.aloadN X3.here hx rfl (hb hby own_d3_21) rfl rfl ?_
    show Steps p.tables e below (T3.setTop (mkF m 22 #[.val (.ref a1), .val (.ref o1), .val (.long tm), .second, .val (.int (0 : Int32))] [(.ref o1), (.long x00), (.int (0 : Int32)), (.ref m0)])) _
    refine st5 _ ?_
    show Steps p.tables e below (T5.setTop (mkF m 25 #[.val (.ref a1), .val (.ref o1), .val (.long tm), .second, .val (.int (0 : Int32))] [(.ref r0), (.long x00), (.int (0 : Int32)), (.ref m0)])) _
    refine XS.iload X5.here hx rfl (hb hby own_d3_25) rfl ?_
    show Steps p.tables e below (T5.setTop (mkF m 27 #[.val (.ref a1), .val (.ref o1), .val (.long tm), .second, .val (.int (0 : Int32))] [(.int (0 : Int32)), (.ref r0), (.long x00), (.int (0 : Int32)), (.ref m0)])) _
    refine X5.laload hx (j := (0 : Int32)) (v := (.long y00)) (by rw [e5]; exact Ar6.1) (State.isArrayOf_alike hZ.alike Ar6.2.1) Ar6.2.2 ghin6 ghat6 (g := (mkF m 27 #[.val (.ref a1), .val (.ref o1), .val (.long tm), .second, .val (.int (0 : Int32))] [(.int (0 : Int32)), (.ref r0), (.long x00), (.int (0 : Int32)), (.ref m0)])) rfl rfl (hb hby own_d3_27) _ ?_
    show Steps p.tables e below (T5.setTop (mkF m 28 #[.val (.ref a1), .val (.ref o1), .val (.long tm), .second, .val (.int (0 : Int32))] [(.long y00), (.long x00), (.int (0 : Int32)), (.ref m0)])) _
    refine XT.lloadN X5.here hx rfl (hb hby own_d3_28) rfl ?_
    show Steps p.tables e below (T5.setTop (mkF m 29 #[.val (.ref a1), .val (.ref o1), .val (.long tm), .second, .val (.int (0 : Int32))] [(.long tm), (.long y00), (.long x00), (.int (0 : Int32)), (.ref m0)])) _
    refine XT.lmul X5.here hx rfl (hb hby own_d3_29) rfl ?_
    show Steps p.tables e below (T5.setTop (mkF m 30 #[.val (.ref a1), .val (.ref o1), .val (.long tm), .second, .val (.int (0 : Int32))] [(.long (y00 * tm)), (.long x00), (.int (0 : Int32)), (.ref m0)])) _
    refine XT.ladd X5.here hx rfl (hb hby own_d3_30) rfl ?_
    show Steps p.tables e below (T5.setTop (mkF m 31 #[.val (.ref a1), .val (.ref o1), .val (.long tm), .second, .val (.int (0 : Int32))] [(.long (x00 + (y00 * tm))), (.int (0 : Int32)), (.ref m0)])) _
    refine st8 _ ?_
    show Steps p.tables e below (T8.setTop (mkF m 32 #[.val (.ref a1), .val (.ref o1), .val (.long tm), .second, .val (.int (0 : Int32))] [])) _
    refine XS.aloadN X8.here hx rfl (hb hby own_d3_32) rfl rfl ?_
    show Steps p.tables e below (T8.setTop (mkF m 33 #[.val (.ref a1), .val (.ref o1), .val (.long tm), .second, .val (.int (0 : Int32))] [(.ref a1)])) _
    refine st10 _ ?_
    show Steps p.tables e below (T10.setTop (mkF m 36 #[.val (.ref a1), .val (.ref o1), .val (.long tm), .second, .val (.int (0 : Int32))] [(.ref m1)])) _
    refine XS.iload X10.here hx rfl (hb hby own_d3_36) rfl ?_
    show Steps p.tables e below (T10.setTop (mkF m 38 #[.val (.ref a1), .val (.ref o1), .val (.long tm), .second, .val (.int (0 : Int32))] [(.int (0 : Int32)), (.ref m1)])) _
    refine XT.dup2 X10.here hx rfl (hb hby own_d3_38) rfl rfl rfl ?_
    show Steps p.tables e below (T10.setTop (mkF m 39 #[.val (.ref a1), .val (.ref o1), .val (.long tm), .second, .val (.int (0 : Int32))] [(.int (0 : Int32)), (.ref m1), (.int (0 : Int32)), (.ref m1)])) _
    refine X10.laload hx (j := (0 : Int32)) (v := (.long x10)) (by rw [e10]; exact Ar12.1) (State.isArrayOf_alike hZ.alike Ar12.2.1) Ar12.2.2 ghin12 ghat12 (g := (mkF m 39 #[.val (.ref a1), .val (.ref o1), .val (.long tm), .second, .val (.int (0 : Int32))] [(.int (0 : Int32)), (.ref m1), (.int (0 : Int32)), (.ref m1)])) rfl rfl (hb hby own_d3_39) _ ?_
    show Steps p.tables e below (T10.setTop (mkF m 40 #[.val (.ref a1), .val (.ref o1), .val (.long tm), .second, .val (.int (0 : Int32))] [(.long x10), (.int (0 : Int32)), (.ref m1)])) _
    refine XS.aloadN X10.here hx rfl (hb hby own_d3_40) rfl rfl ?_
    show Steps p.tables e below (T10.setTop (mkF m 41 #[.val (.ref a1), .val (.ref o1), .val (.long tm), .second, .val (.int (0 : Int32))] [(.ref o1), (.long x10), (.int (0 : Int32)), (.ref m1)])) _
    refine st14 _ ?_
    show Steps p.tables e below (T14.setTop (mkF m 44 #[.val (.ref a1), .val (.ref o1), .val (.long tm), .second, .val (.int (0 : Int32))] [(.ref r1), (.long x10), (.int (0 : Int32)), (.ref m1)])) _
    refine XS.iload X14.here hx rfl (hb hby own_d3_44) rfl ?_
    show Steps p.tables e below (T14.setTop (mkF m 46 #[.val (.ref a1), .val (.ref o1), .val (.long tm), .second, .val (.int (0 : Int32))] [(.int (0 : Int32)), (.ref r1), (.long x10), (.int (0 : Int32)), (.ref m1)])) _
    refine X14.laload hx (j := (0 : Int32)) (v := (.long y10)) (by rw [e14]; exact Ar16.1) (State.isArrayOf_alike hZ.alike Ar16.2.1) Ar16.2.2 ghin16 ghat16 (g := (mkF m 46 #[.val (.ref a1), .val (.ref o1), .val (.long tm), .second, .val (.int (0 : Int32))] [(.int (0 : Int32)), (.ref r1), (.long x10), (.int (0 : Int32)), (.ref m1)])) rfl rfl (hb hby own_d3_46) _ ?_
    show Steps p.tables e below (T14.setTop (mkF m 47 #[.val (.ref a1), .val (.ref o1), .val (.long tm), .second, .val (.int (0 : Int32))] [(.long y10), (.long x10), (.int (0 : Int32)), (.ref m1)])) _
    refine XT.lloadN X14.here hx rfl (hb hby own_d3_47) rfl ?_
    show Steps p.tables e below (T14.setTop (mkF m 48 #[.val (.ref a1), .val (.ref o1), .val (.long tm), .second, .val (.int (0 : Int32))] [(.long tm), (.long y10), (.long x10), (.int (0 : Int32)), (.ref m1)])) _
    refine XT.lmul X14.here hx rfl (hb hby own_d3_48) rfl ?_
    show Steps p.tables e below (T14.setTop (mkF m 49 #[.val (.ref a1), .val (.ref o1), .val (.long tm), .second, .val (.int (0 : Int32))] [(.long (y10 * tm)), (.long x10), (.int (0 : Int32)), (.ref m1)])) _
    refine XT.ladd X14.here hx rfl (hb hby own_d3_49) rfl ?_
    show Steps p.tables e below (T14.setTop (mkF m 50 #[.val (.ref a1), .val (.ref o1), .val (.long tm), .second, .val (.int (0 : Int32))] [(.long (x10 + (y10 * tm))), (.int (0 : Int32)), (.ref m1)])) _
    refine st18 _ ?_
    show Steps p.tables e below (T18.setTop (mkF m 51 #[.val (.ref a1), .val (.ref o1), .val (.long tm), .second, .val (.int (0 : Int32))] [])) _
    refine XT.iincV X18.here hx rfl (1 : Int32) (hb hby own_d3_51) rfl rfl (l' := #[.val (.ref a1), .val (.ref o1), .val (.long tm), .second, .val (.int (1 : Int32))]) rfl ?_
    show Steps p.tables e below (T18.setTop (mkF m 54 #[.val (.ref a1), .val (.ref o1), .val (.long tm), .second, .val (.int (1 : Int32))] [])) _
    refine XS.goto X18.here hx rfl (pc0 := 54) (pc' := 3) rfl (hb hby own_d3_54) (by decide) (by decide) ?_
    show Steps p.tables e below (T18.setTop (mkF m 3 #[.val (.ref a1), .val (.ref o1), .val (.long tm), .second, .val (.int (1 : Int32))] [])) _
    refine XS.iload X18.here hx rfl (hb hby own_d3_3) rfl ?_
    show Steps p.tables e below (T18.setTop (mkF m 5 #[.val (.ref a1), .val (.ref o1), .val (.long tm), .second, .val (.int (1 : Int32))] [(.int (1 : Int32))])) _
    refine XS.aloadN X18.here hx rfl (hb hby own_d3_5) rfl rfl ?_
    show Steps p.tables e below (T18.setTop (mkF m 6 #[.val (.ref a1), .val (.ref o1), .val (.long tm), .second, .val (.int (1 : Int32))] [(.ref a1), (.int (1 : Int32))])) _
    refine st20 _ ?_
    show Steps p.tables e below (T20.setTop (mkF m 9 #[.val (.ref a1), .val (.ref o1), .val (.long tm), .second, .val (.int (1 : Int32))] [(.ref m0), (.int (1 : Int32))])) _
    refine X20.arraylength hx (by rw [e20]; exact Ar22.1) (State.isArrayOf_alike hZ.alike Ar22.2.1) (g := (mkF m 9 #[.val (.ref a1), .val (.ref o1), .val (.long tm), .second, .val (.int (1 : Int32))] [(.ref m0), (.int (1 : Int32))])) rfl rfl (hb hby own_d3_9) _ ?_
    rw [len_of Sz22 Nn22]
    show Steps p.tables e below (T20.setTop (mkF m 10 #[.val (.ref a1), .val (.ref o1), .val (.long tm), .second, .val (.int (1 : Int32))] [(.int (2 : Int32)), (.int (1 : Int32))])) _
    refine XS.icmpNo X20.here hx rfl (hb hby own_d3_10) rfl (XT.ii_ge_f (by decide)) ?_
    show Steps p.tables e below (T20.setTop (mkF m 13 #[.val (.ref a1), .val (.ref o1), .val (.long tm), .second, .val (.int (1 : Int32))] [])) _
    refine XS.aloadN X20.here hx rfl (hb hby own_d3_13) rfl rfl ?_
    show Steps p.tables e below (T20.setTop (mkF m 14 #[.val (.ref a1), .val (.ref o1), .val (.long tm), .second, .val (.int (1 : Int32))] [(.ref a1)])) _
    refine st23 _ ?_
    show Steps p.tables e below (T23.setTop (mkF m 17 #[.val (.ref a1), .val (.ref o1), .val (.long tm), .second, .val (.int (1 : Int32))] [(.ref m0)])) _
    refine XS.iload X23.here hx rfl (hb hby own_d3_17) rfl ?_
    show Steps p.tables e below (T23.setTop (mkF m 19 #[.val (.ref a1), .val (.ref o1), .val (.long tm), .second, .val (.int (1 : Int32))] [(.int (1 : Int32)), (.ref m0)])) _
    refine XT.dup2 X23.here hx rfl (hb hby own_d3_19) rfl rfl rfl ?_
    show Steps p.tables e below (T23.setTop (mkF m 20 #[.val (.ref a1), .val (.ref o1), .val (.long tm), .second, .val (.int (1 : Int32))] [(.int (1 : Int32)), (.ref m0), (.int (1 : Int32)), (.ref m0)])) _
    refine X23.laload hx (j := (1 : Int32)) (v := (.long x01)) (by rw [e23]; exact Ar24.1) (State.isArrayOf_alike hZ.alike Ar24.2.1) Ar24.2.2 ghin24 ghat24 (g := (mkF m 20 #[.val (.ref a1), .val (.ref o1), .val (.long tm), .second, .val (.int (1 : Int32))] [(.int (1 : Int32)), (.ref m0), (.int (1 : Int32)), (.ref m0)])) rfl rfl (hb hby own_d3_20) _ ?_
    show Steps p.tables e below (T23.setTop (mkF m 21 #[.val (.ref a1), .val (.ref o1), .val (.long tm), .second, .val (.int (1 : Int32))] [(.long x01), (.int (1 : Int32)), (.ref m0)])) _
    refine XS.aloadN X23.here hx rfl (hb hby own_d3_21) rfl rfl ?_
    show Steps p.tables e below (T23.setTop (mkF m 22 #[.val (.ref a1), .val (.ref o1), .val (.long tm), .second, .val (.int (1 : Int32))] [(.ref o1), (.long x01), (.int (1 : Int32)), (.ref m0)])) _
    refine st26 _ ?_
    show Steps p.tables e below (T26.setTop (mkF m 25 #[.val (.ref a1), .val (.ref o1), .val (.long tm), .second, .val (.int (1 : Int32))] [(.ref r0), (.long x01), (.int (1 : Int32)), (.ref m0)])) _
    refine XS.iload X26.here hx rfl (hb hby own_d3_25) rfl ?_
    show Steps p.tables e below (T26.setTop (mkF m 27 #[.val (.ref a1), .val (.ref o1), .val (.long tm), .second, .val (.int (1 : Int32))] [(.int (1 : Int32)), (.ref r0), (.long x01), (.int (1 : Int32)), (.ref m0)])) _
    refine X26.laload hx (j := (1 : Int32)) (v := (.long y01)) (by rw [e26]; exact Ar28.1) (State.isArrayOf_alike hZ.alike Ar28.2.1) Ar28.2.2 ghin28 ghat28 (g := (mkF m 27 #[.val (.ref a1), .val (.ref o1), .val (.long tm), .second, .val (.int (1 : Int32))] [(.int (1 : Int32)), (.ref r0), (.long x01), (.int (1 : Int32)), (.ref m0)])) rfl rfl (hb hby own_d3_27) _ ?_
    show Steps p.tables e below (T26.setTop (mkF m 28 #[.val (.ref a1), .val (.ref o1), .val (.long tm), .second, .val (.int (1 : Int32))] [(.long y01), (.long x01), (.int (1 : Int32)), (.ref m0)])) _
    refine XT.lloadN X26.here hx rfl (hb hby own_d3_28) rfl ?_
    show Steps p.tables e below (T26.setTop (mkF m 29 #[.val (.ref a1), .val (.ref o1), .val (.long tm), .second, .val (.int (1 : Int32))] [(.long tm), (.long y01), (.long x01), (.int (1 : Int32)), (.ref m0)])) _
    refine XT.lmul X26.here hx rfl (hb hby own_d3_29) rfl ?_
    show Steps p.tables e below (T26.setTop (mkF m 30 #[.val (.ref a1), .val (.ref o1), .val (.long tm), .second, .val (.int (1 : Int32))] [(.long (y01 * tm)), (.long x01), (.int (1 : Int32)), (.ref m0)])) _
    refine XT.ladd X26.here hx rfl (hb hby own_d3_30) rfl ?_
    show Steps p.tables e below (T26.setTop (mkF m 31 #[.val (.ref a1), .val (.ref o1), .val (.long tm), .second, .val (.int (1 : Int32))] [(.long (x01 + (y01 * tm))), (.int (1 : Int32)), (.ref m0)])) _
    refine st30 _ ?_
    show Steps p.tables e below (T30.setTop (mkF m 32 #[.val (.ref a1), .val (.ref o1), .val (.long tm), .second, .val (.int (1 : Int32))] [])) _
    refine XS.aloadN X30.here hx rfl (hb hby own_d3_32) rfl rfl ?_
    show Steps p.tables e below (T30.setTop (mkF m 33 #[.val (.ref a1), .val (.ref o1), .val (.long tm), .second, .val (.int (1 : Int32))] [(.ref a1)])) _
    refine st32 _ ?_
    show Steps p.tables e below (T32.setTop (mkF m 36 #[.val (.ref a1), .val (.ref o1), .val (.long tm), .second, .val (.int (1 : Int32))] [(.ref m1)])) _
    refine XS.iload X32.here hx rfl (hb hby own_d3_36) rfl ?_
    show Steps p.tables e below (T32.setTop (mkF m 38 #[.val (.ref a1), .val (.ref o1), .val (.long tm), .second, .val (.int (1 : Int32))] [(.int (1 : Int32)), (.ref m1)])) _
    refine XT.dup2 X32.here hx rfl (hb hby own_d3_38) rfl rfl rfl ?_
    show Steps p.tables e below (T32.setTop (mkF m 39 #[.val (.ref a1), .val (.ref o1), .val (.long tm), .second, .val (.int (1 : Int32))] [(.int (1 : Int32)), (.ref m1), (.int (1 : Int32)), (.ref m1)])) _
    refine X32.laload hx (j := (1 : Int32)) (v := (.long x11)) (by rw [e32]; exact Ar34.1) (State.isArrayOf_alike hZ.alike Ar34.2.1) Ar34.2.2 ghin34 ghat34 (g := (mkF m 39 #[.val (.ref a1), .val (.ref o1), .val (.long tm), .second, .val (.int (1 : Int32))] [(.int (1 : Int32)), (.ref m1), (.int (1 : Int32)), (.ref m1)])) rfl rfl (hb hby own_d3_39) _ ?_
    show Steps p.tables e below (T32.setTop (mkF m 40 #[.val (.ref a1), .val (.ref o1), .val (.long tm), .second, .val (.int (1 : Int32))] [(.long x11), (.int (1 : Int32)), (.ref m1)])) _
    refine XS.aloadN X32.here hx rfl (hb hby own_d3_40) rfl rfl ?_
    show Steps p.tables e below (T32.setTop (mkF m 41 #[.val (.ref a1), .val (.ref o1), .val (.long tm), .second, .val (.int (1 : Int32))] [(.ref o1), (.long x11), (.int (1 : Int32)), (.ref m1)])) _
    refine st36 _ ?_
    show Steps p.tables e below (T36.setTop (mkF m 44 #[.val (.ref a1), .val (.ref o1), .val (.long tm), .second, .val (.int (1 : Int32))] [(.ref r1), (.long x11), (.int (1 : Int32)), (.ref m1)])) _
    refine XS.iload X36.here hx rfl (hb hby own_d3_44) rfl ?_
    show Steps p.tables e below (T36.setTop (mkF m 46 #[.val (.ref a1), .val (.ref o1), .val (.long tm), .second, .val (.int (1 : Int32))] [(.int (1 : Int32)), (.ref r1), (.long x11), (.int (1 : Int32)), (.ref m1)])) _
    refine X36.laload hx (j := (1 : Int32)) (v := (.long y11)) (by rw [e36]; exact Ar38.1) (State.isArrayOf_alike hZ.alike Ar38.2.1) Ar38.2.2 ghin38 ghat38 (g := (mkF m 46 #[.val (.ref a1), .val (.ref o1), .val (.long tm), .second, .val (.int (1 : Int32))] [(.int (1 : Int32)), (.ref r1), (.long x11), (.int (1 : Int32)), (.ref m1)])) rfl rfl (hb hby own_d3_46) _ ?_
    show Steps p.tables e below (T36.setTop (mkF m 47 #[.val (.ref a1), .val (.ref o1), .val (.long tm), .second, .val (.int (1 : Int32))] [(.long y11), (.long x11), (.int (1 : Int32)), (.ref m1)])) _
    refine XT.lloadN X36.here hx rfl (hb hby own_d3_47) rfl ?_
    show Steps p.tables e below (T36.setTop (mkF m 48 #[.val (.ref a1), .val (.ref o1), .val (.long tm), .second, .val (.int (1 : Int32))] [(.long tm), (.long y11), (.long x11), (.int (1 : Int32)), (.ref m1)])) _
    refine XT.lmul X36.here hx rfl (hb hby own_d3_48) rfl ?_
    show Steps p.tables e below (T36.setTop (mkF m 49 #[.val (.ref a1), .val (.ref o1), .val (.long tm), .second, .val (.int (1 : Int32))] [(.long (y11 * tm)), (.long x11), (.int (1 : Int32)), (.ref m1)])) _
    refine XT.ladd X36.here hx rfl (hb hby own_d3_49) rfl ?_
    show Steps p.tables e below (T36.setTop (mkF m 50 #[.val (.ref a1), .val (.ref o1), .val (.long tm), .second, .val (.int (1 : Int32))] [(.long (x11 + (y11 * tm))), (.int (1 : Int32)), (.ref m1)])) _
    refine st40 _ ?_
    show Steps p.tables e below (T40.setTop (mkF m 51 #[.val (.ref a1), .val (.ref o1), .val (.long tm), .second, .val (.int (1 : Int32))] [])) _
    refine XT.iincV X40.here hx rfl (1 : Int32) (hb hby own_d3_51) rfl rfl (l' := #[.val (.ref a1), .val (.ref o1), .val (.long tm), .second, .val (.int (2 : Int32))]) rfl ?_
    show Steps p.tables e below (T40.setTop (mkF m 54 #[.val (.ref a1), .val (.ref o1), .val (.long tm), .second, .val (.int (2 : Int32))] [])) _
    refine XS.goto X40.here hx rfl (pc0 := 54) (pc' := 3) rfl (hb hby own_d3_54) (by decide) (by decide) ?_
    show Steps p.tables e below (T40.setTop (mkF m 3 #[.val (.ref a1), .val (.ref o1), .val (.long tm), .second, .val (.int (2 : Int32))] [])) _
    refine XS.iload X40.here hx rfl (hb hby own_d3_3) rfl ?_
    show Steps p.tables e below (T40.setTop (mkF m 5 #[.val (.ref a1), .val (.ref o1), .val (.long tm), .second, .val (.int (2 : Int32))] [(.int (2 : Int32))])) _
    refine XS.aloadN X40.here hx rfl (hb hby own_d3_5) rfl rfl ?_
    show Steps p.tables e below (T40.setTop (mkF m 6 #[.val (.ref a1), .val (.ref o1), .val (.long tm), .second, .val (.int (2 : Int32))] [(.ref a1), (.int (2 : Int32))])) _
    refine st42 _ ?_
    show Steps p.tables e below (T42.setTop (mkF m 9 #[.val (.ref a1), .val (.ref o1), .val (.long tm), .second, .val (.int (2 : Int32))] [(.ref m0), (.int (2 : Int32))])) _
    refine X42.arraylength hx (by rw [e42]; exact Ar44.1) (State.isArrayOf_alike hZ.alike Ar44.2.1) (g := (mkF m 9 #[.val (.ref a1), .val (.ref o1), .val (.long tm), .second, .val (.int (2 : Int32))] [(.ref m0), (.int (2 : Int32))])) rfl rfl (hb hby own_d3_9) _ ?_
    rw [len_of Sz44 Nn44]
    show Steps p.tables e below (T42.setTop (mkF m 10 #[.val (.ref a1), .val (.ref o1), .val (.long tm), .second, .val (.int (2 : Int32))] [(.int (2 : Int32)), (.int (2 : Int32))])) _
    refine XS.icmpYes X42.here hx rfl (pc0 := 10) (pc' := 57) rfl (hb hby own_d3_10) rfl (XT.ii_ge_t (by decide)) (by decide) (by decide) ?_
    show Steps p.tables e below (T42.setTop (mkF m 57 #[.val (.ref a1), .val (.ref o1), .val (.long tm), .second, .val (.int (2 : Int32))] [])) _
    refine XT.iconstV X42.here hx rfl (0 : Int32) (hb hby own_d3_57) rfl ?_
    show Steps p.tables e below (T42.setTop (mkF m 58 #[.val (.ref a1), .val (.ref o1), .val (.long tm), .second, .val (.int (2 : Int32))] [(.int (0 : Int32))])) _
    refine XS.istore X42.here hx rfl (hb hby own_d3_58) rfl (l' := #[.val (.ref a1), .val (.ref o1), .val (.long tm), .second, .val (.int (0 : Int32))]) rfl ?_
    show Steps p.tables e below (T42.setTop (mkF m 60 #[.val (.ref a1), .val (.ref o1), .val (.long tm), .second, .val (.int (0 : Int32))] [])) _
    refine XS.iload X42.here hx rfl (hb hby own_d3_60) rfl ?_
    show Steps p.tables e below (T42.setTop (mkF m 62 #[.val (.ref a1), .val (.ref o1), .val (.long tm), .second, .val (.int (0 : Int32))] [(.int (0 : Int32))])) _
    refine XS.aloadN X42.here hx rfl (hb hby own_d3_62) rfl rfl ?_
    show Steps p.tables e below (T42.setTop (mkF m 63 #[.val (.ref a1), .val (.ref o1), .val (.long tm), .second, .val (.int (0 : Int32))] [(.ref a1), (.int (0 : Int32))])) _
    refine st46 _ ?_
    show Steps p.tables e below (T46.setTop (mkF m 66 #[.val (.ref a1), .val (.ref o1), .val (.long tm), .second, .val (.int (0 : Int32))] [(.ref m2), (.int (0 : Int32))])) _
    refine X46.arraylength hx (by rw [e46]; exact Ar48.1) (State.isArrayOf_alike hZ.alike Ar48.2.1) (g := (mkF m 66 #[.val (.ref a1), .val (.ref o1), .val (.long tm), .second, .val (.int (0 : Int32))] [(.ref m2), (.int (0 : Int32))])) rfl rfl (hb hby own_d3_66) _ ?_
    rw [len_of Sz48 Nn48]
    show Steps p.tables e below (T46.setTop (mkF m 67 #[.val (.ref a1), .val (.ref o1), .val (.long tm), .second, .val (.int (0 : Int32))] [(.int (3 : Int32)), (.int (0 : Int32))])) _
    refine XS.icmpNo X46.here hx rfl (hb hby own_d3_67) rfl (XT.ii_ge_f (by decide)) ?_
    show Steps p.tables e below (T46.setTop (mkF m 70 #[.val (.ref a1), .val (.ref o1), .val (.long tm), .second, .val (.int (0 : Int32))] [])) _
    refine XS.aloadN X46.here hx rfl (hb hby own_d3_70) rfl rfl ?_
    show Steps p.tables e below (T46.setTop (mkF m 71 #[.val (.ref a1), .val (.ref o1), .val (.long tm), .second, .val (.int (0 : Int32))] [(.ref a1)])) _
    refine st49 _ ?_
    show Steps p.tables e below (T49.setTop (mkF m 74 #[.val (.ref a1), .val (.ref o1), .val (.long tm), .second, .val (.int (0 : Int32))] [(.ref m2)])) _
    refine XS.iload X49.here hx rfl (hb hby own_d3_74) rfl ?_
    show Steps p.tables e below (T49.setTop (mkF m 76 #[.val (.ref a1), .val (.ref o1), .val (.long tm), .second, .val (.int (0 : Int32))] [(.int (0 : Int32)), (.ref m2)])) _
    refine XT.dup2 X49.here hx rfl (hb hby own_d3_76) rfl rfl rfl ?_
    show Steps p.tables e below (T49.setTop (mkF m 77 #[.val (.ref a1), .val (.ref o1), .val (.long tm), .second, .val (.int (0 : Int32))] [(.int (0 : Int32)), (.ref m2), (.int (0 : Int32)), (.ref m2)])) _
    refine X49.laload hx (j := (0 : Int32)) (v := (.long x20)) (by rw [e49]; exact Ar50.1) (State.isArrayOf_alike hZ.alike Ar50.2.1) Ar50.2.2 ghin50 ghat50 (g := (mkF m 77 #[.val (.ref a1), .val (.ref o1), .val (.long tm), .second, .val (.int (0 : Int32))] [(.int (0 : Int32)), (.ref m2), (.int (0 : Int32)), (.ref m2)])) rfl rfl (hb hby own_d3_77) _ ?_
    show Steps p.tables e below (T49.setTop (mkF m 78 #[.val (.ref a1), .val (.ref o1), .val (.long tm), .second, .val (.int (0 : Int32))] [(.long x20), (.int (0 : Int32)), (.ref m2)])) _
    refine XS.aloadN X49.here hx rfl (hb hby own_d3_78) rfl rfl ?_
    show Steps p.tables e below (T49.setTop (mkF m 79 #[.val (.ref a1), .val (.ref o1), .val (.long tm), .second, .val (.int (0 : Int32))] [(.ref o1), (.long x20), (.int (0 : Int32)), (.ref m2)])) _
    refine st52 _ ?_
    show Steps p.tables e below (T52.setTop (mkF m 82 #[.val (.ref a1), .val (.ref o1), .val (.long tm), .second, .val (.int (0 : Int32))] [(.ref r2), (.long x20), (.int (0 : Int32)), (.ref m2)])) _
    refine XS.iload X52.here hx rfl (hb hby own_d3_82) rfl ?_
    show Steps p.tables e below (T52.setTop (mkF m 84 #[.val (.ref a1), .val (.ref o1), .val (.long tm), .second, .val (.int (0 : Int32))] [(.int (0 : Int32)), (.ref r2), (.long x20), (.int (0 : Int32)), (.ref m2)])) _
    refine X52.laload hx (j := (0 : Int32)) (v := (.long y20)) (by rw [e52]; exact Ar54.1) (State.isArrayOf_alike hZ.alike Ar54.2.1) Ar54.2.2 ghin54 ghat54 (g := (mkF m 84 #[.val (.ref a1), .val (.ref o1), .val (.long tm), .second, .val (.int (0 : Int32))] [(.int (0 : Int32)), (.ref r2), (.long x20), (.int (0 : Int32)), (.ref m2)])) rfl rfl (hb hby own_d3_84) _ ?_
    show Steps p.tables e below (T52.setTop (mkF m 85 #[.val (.ref a1), .val (.ref o1), .val (.long tm), .second, .val (.int (0 : Int32))] [(.long y20), (.long x20), (.int (0 : Int32)), (.ref m2)])) _
    refine XT.lloadN X52.here hx rfl (hb hby own_d3_85) rfl ?_
    show Steps p.tables e below (T52.setTop (mkF m 86 #[.val (.ref a1), .val (.ref o1), .val (.long tm), .second, .val (.int (0 : Int32))] [(.long tm), (.long y20), (.long x20), (.int (0 : Int32)), (.ref m2)])) _
    refine XT.lmul X52.here hx rfl (hb hby own_d3_86) rfl ?_
    show Steps p.tables e below (T52.setTop (mkF m 87 #[.val (.ref a1), .val (.ref o1), .val (.long tm), .second, .val (.int (0 : Int32))] [(.long (y20 * tm)), (.long x20), (.int (0 : Int32)), (.ref m2)])) _
    refine XT.ladd X52.here hx rfl (hb hby own_d3_87) rfl ?_
    show Steps p.tables e below (T52.setTop (mkF m 88 #[.val (.ref a1), .val (.ref o1), .val (.long tm), .second, .val (.int (0 : Int32))] [(.long (x20 + (y20 * tm))), (.int (0 : Int32)), (.ref m2)])) _
    refine st56 _ ?_
    show Steps p.tables e below (T56.setTop (mkF m 89 #[.val (.ref a1), .val (.ref o1), .val (.long tm), .second, .val (.int (0 : Int32))] [])) _
    refine XS.aloadN X56.here hx rfl (hb hby own_d3_89) rfl rfl ?_
    show Steps p.tables e below (T56.setTop (mkF m 90 #[.val (.ref a1), .val (.ref o1), .val (.long tm), .second, .val (.int (0 : Int32))] [(.ref a1)])) _
    refine st58 _ ?_
    show Steps p.tables e below (T58.setTop (mkF m 93 #[.val (.ref a1), .val (.ref o1), .val (.long tm), .second, .val (.int (0 : Int32))] [(.ref m3)])) _
    refine XS.iload X58.here hx rfl (hb hby own_d3_93) rfl ?_
    show Steps p.tables e below (T58.setTop (mkF m 95 #[.val (.ref a1), .val (.ref o1), .val (.long tm), .second, .val (.int (0 : Int32))] [(.int (0 : Int32)), (.ref m3)])) _
    refine XT.dup2 X58.here hx rfl (hb hby own_d3_95) rfl rfl rfl ?_
    show Steps p.tables e below (T58.setTop (mkF m 96 #[.val (.ref a1), .val (.ref o1), .val (.long tm), .second, .val (.int (0 : Int32))] [(.int (0 : Int32)), (.ref m3), (.int (0 : Int32)), (.ref m3)])) _
    refine X58.laload hx (j := (0 : Int32)) (v := (.long x30)) (by rw [e58]; exact Ar60.1) (State.isArrayOf_alike hZ.alike Ar60.2.1) Ar60.2.2 ghin60 ghat60 (g := (mkF m 96 #[.val (.ref a1), .val (.ref o1), .val (.long tm), .second, .val (.int (0 : Int32))] [(.int (0 : Int32)), (.ref m3), (.int (0 : Int32)), (.ref m3)])) rfl rfl (hb hby own_d3_96) _ ?_
    show Steps p.tables e below (T58.setTop (mkF m 97 #[.val (.ref a1), .val (.ref o1), .val (.long tm), .second, .val (.int (0 : Int32))] [(.long x30), (.int (0 : Int32)), (.ref m3)])) _
    refine XS.aloadN X58.here hx rfl (hb hby own_d3_97) rfl rfl ?_
    show Steps p.tables e below (T58.setTop (mkF m 98 #[.val (.ref a1), .val (.ref o1), .val (.long tm), .second, .val (.int (0 : Int32))] [(.ref o1), (.long x30), (.int (0 : Int32)), (.ref m3)])) _
    refine st62 _ ?_
    show Steps p.tables e below (T62.setTop (mkF m 101 #[.val (.ref a1), .val (.ref o1), .val (.long tm), .second, .val (.int (0 : Int32))] [(.ref r3), (.long x30), (.int (0 : Int32)), (.ref m3)])) _
    refine XS.iload X62.here hx rfl (hb hby own_d3_101) rfl ?_
    show Steps p.tables e below (T62.setTop (mkF m 103 #[.val (.ref a1), .val (.ref o1), .val (.long tm), .second, .val (.int (0 : Int32))] [(.int (0 : Int32)), (.ref r3), (.long x30), (.int (0 : Int32)), (.ref m3)])) _
    refine X62.laload hx (j := (0 : Int32)) (v := (.long y30)) (by rw [e62]; exact Ar64.1) (State.isArrayOf_alike hZ.alike Ar64.2.1) Ar64.2.2 ghin64 ghat64 (g := (mkF m 103 #[.val (.ref a1), .val (.ref o1), .val (.long tm), .second, .val (.int (0 : Int32))] [(.int (0 : Int32)), (.ref r3), (.long x30), (.int (0 : Int32)), (.ref m3)])) rfl rfl (hb hby own_d3_103) _ ?_
    show Steps p.tables e below (T62.setTop (mkF m 104 #[.val (.ref a1), .val (.ref o1), .val (.long tm), .second, .val (.int (0 : Int32))] [(.long y30), (.long x30), (.int (0 : Int32)), (.ref m3)])) _
    refine XT.lloadN X62.here hx rfl (hb hby own_d3_104) rfl ?_
    show Steps p.tables e below (T62.setTop (mkF m 105 #[.val (.ref a1), .val (.ref o1), .val (.long tm), .second, .val (.int (0 : Int32))] [(.long tm), (.long y30), (.long x30), (.int (0 : Int32)), (.ref m3)])) _
    refine XT.lmul X62.here hx rfl (hb hby own_d3_105) rfl ?_
    show Steps p.tables e below (T62.setTop (mkF m 106 #[.val (.ref a1), .val (.ref o1), .val (.long tm), .second, .val (.int (0 : Int32))] [(.long (y30 * tm)), (.long x30), (.int (0 : Int32)), (.ref m3)])) _
    refine XT.ladd X62.here hx rfl (hb hby own_d3_106) rfl ?_
    show Steps p.tables e below (T62.setTop (mkF m 107 #[.val (.ref a1), .val (.ref o1), .val (.long tm), .second, .val (.int (0 : Int32))] [(.long (x30 + (y30 * tm))), (.int (0 : Int32)), (.ref m3)])) _
    refine st66 _ ?_
    show Steps p.tables e below (T66.setTop (mkF m 108 #[.val (.ref a1), .val (.ref o1), .val (.long tm), .second, .val (.int (0 : Int32))] [])) _
    refine XT.iincV X66.here hx rfl (1 : Int32) (hb hby own_d3_108) rfl rfl (l' := #[.val (.ref a1), .val (.ref o1), .val (.long tm), .second, .val (.int (1 : Int32))]) rfl ?_
    show Steps p.tables e below (T66.setTop (mkF m 111 #[.val (.ref a1), .val (.ref o1), .val (.long tm), .second, .val (.int (1 : Int32))] [])) _
    refine XS.goto X66.here hx rfl (pc0 := 111) (pc' := 60) rfl (hb hby own_d3_111) (by decide) (by decide) ?_
    show Steps p.tables e below (T66.setTop (mkF m 60 #[.val (.ref a1), .val (.ref o1), .val (.long tm), .second, .val (.int (1 : Int32))] [])) _
    refine XS.iload X66.here hx rfl (hb hby own_d3_60) rfl ?_
    show Steps p.tables e below (T66.setTop (mkF m 62 #[.val (.ref a1), .val (.ref o1), .val (.long tm), .second, .val (.int (1 : Int32))] [(.int (1 : Int32))])) _
    refine XS.aloadN X66.here hx rfl (hb hby own_d3_62) rfl rfl ?_
    show Steps p.tables e below (T66.setTop (mkF m 63 #[.val (.ref a1), .val (.ref o1), .val (.long tm), .second, .val (.int (1 : Int32))] [(.ref a1), (.int (1 : Int32))])) _
    refine st68 _ ?_
    show Steps p.tables e below (T68.setTop (mkF m 66 #[.val (.ref a1), .val (.ref o1), .val (.long tm), .second, .val (.int (1 : Int32))] [(.ref m2), (.int (1 : Int32))])) _
    refine X68.arraylength hx (by rw [e68]; exact Ar70.1) (State.isArrayOf_alike hZ.alike Ar70.2.1) (g := (mkF m 66 #[.val (.ref a1), .val (.ref o1), .val (.long tm), .second, .val (.int (1 : Int32))] [(.ref m2), (.int (1 : Int32))])) rfl rfl (hb hby own_d3_66) _ ?_
    rw [len_of Sz70 Nn70]
    show Steps p.tables e below (T68.setTop (mkF m 67 #[.val (.ref a1), .val (.ref o1), .val (.long tm), .second, .val (.int (1 : Int32))] [(.int (3 : Int32)), (.int (1 : Int32))])) _
    refine XS.icmpNo X68.here hx rfl (hb hby own_d3_67) rfl (XT.ii_ge_f (by decide)) ?_
    show Steps p.tables e below (T68.setTop (mkF m 70 #[.val (.ref a1), .val (.ref o1), .val (.long tm), .second, .val (.int (1 : Int32))] [])) _
    refine XS.aloadN X68.here hx rfl (hb hby own_d3_70) rfl rfl ?_
    show Steps p.tables e below (T68.setTop (mkF m 71 #[.val (.ref a1), .val (.ref o1), .val (.long tm), .second, .val (.int (1 : Int32))] [(.ref a1)])) _
    refine st71 _ ?_
    show Steps p.tables e below (T71.setTop (mkF m 74 #[.val (.ref a1), .val (.ref o1), .val (.long tm), .second, .val (.int (1 : Int32))] [(.ref m2)])) _
    refine XS.iload X71.here hx rfl (hb hby own_d3_74) rfl ?_
    show Steps p.tables e below (T71.setTop (mkF m 76 #[.val (.ref a1), .val (.ref o1), .val (.long tm), .second, .val (.int (1 : Int32))] [(.int (1 : Int32)), (.ref m2)])) _
    refine XT.dup2 X71.here hx rfl (hb hby own_d3_76) rfl rfl rfl ?_
    show Steps p.tables e below (T71.setTop (mkF m 77 #[.val (.ref a1), .val (.ref o1), .val (.long tm), .second, .val (.int (1 : Int32))] [(.int (1 : Int32)), (.ref m2), (.int (1 : Int32)), (.ref m2)])) _
    refine X71.laload hx (j := (1 : Int32)) (v := (.long x21)) (by rw [e71]; exact Ar72.1) (State.isArrayOf_alike hZ.alike Ar72.2.1) Ar72.2.2 ghin72 ghat72 (g := (mkF m 77 #[.val (.ref a1), .val (.ref o1), .val (.long tm), .second, .val (.int (1 : Int32))] [(.int (1 : Int32)), (.ref m2), (.int (1 : Int32)), (.ref m2)])) rfl rfl (hb hby own_d3_77) _ ?_
    show Steps p.tables e below (T71.setTop (mkF m 78 #[.val (.ref a1), .val (.ref o1), .val (.long tm), .second, .val (.int (1 : Int32))] [(.long x21), (.int (1 : Int32)), (.ref m2)])) _
    refine XS.aloadN X71.here hx rfl (hb hby own_d3_78) rfl rfl ?_
    show Steps p.tables e below (T71.setTop (mkF m 79 #[.val (.ref a1), .val (.ref o1), .val (.long tm), .second, .val (.int (1 : Int32))] [(.ref o1), (.long x21), (.int (1 : Int32)), (.ref m2)])) _
    refine st74 _ ?_
    show Steps p.tables e below (T74.setTop (mkF m 82 #[.val (.ref a1), .val (.ref o1), .val (.long tm), .second, .val (.int (1 : Int32))] [(.ref r2), (.long x21), (.int (1 : Int32)), (.ref m2)])) _
    refine XS.iload X74.here hx rfl (hb hby own_d3_82) rfl ?_
    show Steps p.tables e below (T74.setTop (mkF m 84 #[.val (.ref a1), .val (.ref o1), .val (.long tm), .second, .val (.int (1 : Int32))] [(.int (1 : Int32)), (.ref r2), (.long x21), (.int (1 : Int32)), (.ref m2)])) _
    refine X74.laload hx (j := (1 : Int32)) (v := (.long y21)) (by rw [e74]; exact Ar76.1) (State.isArrayOf_alike hZ.alike Ar76.2.1) Ar76.2.2 ghin76 ghat76 (g := (mkF m 84 #[.val (.ref a1), .val (.ref o1), .val (.long tm), .second, .val (.int (1 : Int32))] [(.int (1 : Int32)), (.ref r2), (.long x21), (.int (1 : Int32)), (.ref m2)])) rfl rfl (hb hby own_d3_84) _ ?_
    show Steps p.tables e below (T74.setTop (mkF m 85 #[.val (.ref a1), .val (.ref o1), .val (.long tm), .second, .val (.int (1 : Int32))] [(.long y21), (.long x21), (.int (1 : Int32)), (.ref m2)])) _
    refine XT.lloadN X74.here hx rfl (hb hby own_d3_85) rfl ?_
    show Steps p.tables e below (T74.setTop (mkF m 86 #[.val (.ref a1), .val (.ref o1), .val (.long tm), .second, .val (.int (1 : Int32))] [(.long tm), (.long y21), (.long x21), (.int (1 : Int32)), (.ref m2)])) _
    refine XT.lmul X74.here hx rfl (hb hby own_d3_86) rfl ?_
    show Steps p.tables e below (T74.setTop (mkF m 87 #[.val (.ref a1), .val (.ref o1), .val (.long tm), .second, .val (.int (1 : Int32))] [(.long (y21 * tm)), (.long x21), (.int (1 : Int32)), (.ref m2)])) _
    refine XT.ladd X74.here hx rfl (hb hby own_d3_87) rfl ?_
    show Steps p.tables e below (T74.setTop (mkF m 88 #[.val (.ref a1), .val (.ref o1), .val (.long tm), .second, .val (.int (1 : Int32))] [(.long (x21 + (y21 * tm))), (.int (1 : Int32)), (.ref m2)])) _
    refine st78 _ ?_
    show Steps p.tables e below (T78.setTop (mkF m 89 #[.val (.ref a1), .val (.ref o1), .val (.long tm), .second, .val (.int (1 : Int32))] [])) _
    refine XS.aloadN X78.here hx rfl (hb hby own_d3_89) rfl rfl ?_
    show Steps p.tables e below (T78.setTop (mkF m 90 #[.val (.ref a1), .val (.ref o1), .val (.long tm), .second, .val (.int (1 : Int32))] [(.ref a1)])) _
    refine st80 _ ?_
    show Steps p.tables e below (T80.setTop (mkF m 93 #[.val (.ref a1), .val (.ref o1), .val (.long tm), .second, .val (.int (1 : Int32))] [(.ref m3)])) _
    refine XS.iload X80.here hx rfl (hb hby own_d3_93) rfl ?_
    show Steps p.tables e below (T80.setTop (mkF m 95 #[.val (.ref a1), .val (.ref o1), .val (.long tm), .second, .val (.int (1 : Int32))] [(.int (1 : Int32)), (.ref m3)])) _
    refine XT.dup2 X80.here hx rfl (hb hby own_d3_95) rfl rfl rfl ?_
    show Steps p.tables e below (T80.setTop (mkF m 96 #[.val (.ref a1), .val (.ref o1), .val (.long tm), .second, .val (.int (1 : Int32))] [(.int (1 : Int32)), (.ref m3), (.int (1 : Int32)), (.ref m3)])) _
    refine X80.laload hx (j := (1 : Int32)) (v := (.long x31)) (by rw [e80]; exact Ar82.1) (State.isArrayOf_alike hZ.alike Ar82.2.1) Ar82.2.2 ghin82 ghat82 (g := (mkF m 96 #[.val (.ref a1), .val (.ref o1), .val (.long tm), .second, .val (.int (1 : Int32))] [(.int (1 : Int32)), (.ref m3), (.int (1 : Int32)), (.ref m3)])) rfl rfl (hb hby own_d3_96) _ ?_
    show Steps p.tables e below (T80.setTop (mkF m 97 #[.val (.ref a1), .val (.ref o1), .val (.long tm), .second, .val (.int (1 : Int32))] [(.long x31), (.int (1 : Int32)), (.ref m3)])) _
    refine XS.aloadN X80.here hx rfl (hb hby own_d3_97) rfl rfl ?_
    show Steps p.tables e below (T80.setTop (mkF m 98 #[.val (.ref a1), .val (.ref o1), .val (.long tm), .second, .val (.int (1 : Int32))] [(.ref o1), (.long x31), (.int (1 : Int32)), (.ref m3)])) _
    refine st84 _ ?_
    show Steps p.tables e below (T84.setTop (mkF m 101 #[.val (.ref a1), .val (.ref o1), .val (.long tm), .second, .val (.int (1 : Int32))] [(.ref r3), (.long x31), (.int (1 : Int32)), (.ref m3)])) _
    refine XS.iload X84.here hx rfl (hb hby own_d3_101) rfl ?_
    show Steps p.tables e below (T84.setTop (mkF m 103 #[.val (.ref a1), .val (.ref o1), .val (.long tm), .second, .val (.int (1 : Int32))] [(.int (1 : Int32)), (.ref r3), (.long x31), (.int (1 : Int32)), (.ref m3)])) _
    refine X84.laload hx (j := (1 : Int32)) (v := (.long y31)) (by rw [e84]; exact Ar86.1) (State.isArrayOf_alike hZ.alike Ar86.2.1) Ar86.2.2 ghin86 ghat86 (g := (mkF m 103 #[.val (.ref a1), .val (.ref o1), .val (.long tm), .second, .val (.int (1 : Int32))] [(.int (1 : Int32)), (.ref r3), (.long x31), (.int (1 : Int32)), (.ref m3)])) rfl rfl (hb hby own_d3_103) _ ?_
    show Steps p.tables e below (T84.setTop (mkF m 104 #[.val (.ref a1), .val (.ref o1), .val (.long tm), .second, .val (.int (1 : Int32))] [(.long y31), (.long x31), (.int (1 : Int32)), (.ref m3)])) _
    refine XT.lloadN X84.here hx rfl (hb hby own_d3_104) rfl ?_
    show Steps p.tables e below (T84.setTop (mkF m 105 #[.val (.ref a1), .val (.ref o1), .val (.long tm), .second, .val (.int (1 : Int32))] [(.long tm), (.long y31), (.long x31), (.int (1 : Int32)), (.ref m3)])) _
    refine XT.lmul X84.here hx rfl (hb hby own_d3_105) rfl ?_
    show Steps p.tables e below (T84.setTop (mkF m 106 #[.val (.ref a1), .val (.ref o1), .val (.long tm), .second, .val (.int (1 : Int32))] [(.long (y31 * tm)), (.long x31), (.int (1 : Int32)), (.ref m3)])) _
    refine XT.ladd X84.here hx rfl (hb hby own_d3_106) rfl ?_
    show Steps p.tables e below (T84.setTop (mkF m 107 #[.val (.ref a1), .val (.ref o1), .val (.long tm), .second, .val (.int (1 : Int32))] [(.long (x31 + (y31 * tm))), (.int (1 : Int32)), (.ref m3)])) _
    refine st88 _ ?_
    show Steps p.tables e below (T88.setTop (mkF m 108 #[.val (.ref a1), .val (.ref o1), .val (.long tm), .second, .val (.int (1 : Int32))] [])) _
    refine XT.iincV X88.here hx rfl (1 : Int32) (hb hby own_d3_108) rfl rfl (l' := #[.val (.ref a1), .val (.ref o1), .val (.long tm), .second, .val (.int (2 : Int32))]) rfl ?_
    show Steps p.tables e below (T88.setTop (mkF m 111 #[.val (.ref a1), .val (.ref o1), .val (.long tm), .second, .val (.int (2 : Int32))] [])) _
    refine XS.goto X88.here hx rfl (pc0 := 111) (pc' := 60) rfl (hb hby own_d3_111) (by decide) (by decide) ?_
    show Steps p.tables e below (T88.setTop (mkF m 60 #[.val (.ref a1), .val (.ref o1), .val (.long tm), .second, .val (.int (2 : Int32))] [])) _
    refine XS.iload X88.here hx rfl (hb hby own_d3_60) rfl ?_
    show Steps p.tables e below (T88.setTop (mkF m 62 #[.val (.ref a1), .val (.ref o1), .val (.long tm), .second, .val (.int (2 : Int32))] [(.int (2 : Int32))])) _
    refine XS.aloadN X88.here hx rfl (hb hby own_d3_62) rfl rfl ?_
    show Steps p.tables e below (T88.setTop (mkF m 63 #[.val (.ref a1), .val (.ref o1), .val (.long tm), .second, .val (.int (2 : Int32))] [(.ref a1), (.int (2 : Int32))])) _
    refine st90 _ ?_
    show Steps p.tables e below (T90.setTop (mkF m 66 #[.val (.ref a1), .val (.ref o1), .val (.long tm), .second, .val (.int (2 : Int32))] [(.ref m2), (.int (2 : Int32))])) _
    refine X90.arraylength hx (by rw [e90]; exact Ar92.1) (State.isArrayOf_alike hZ.alike Ar92.2.1) (g := (mkF m 66 #[.val (.ref a1), .val (.ref o1), .val (.long tm), .second, .val (.int (2 : Int32))] [(.ref m2), (.int (2 : Int32))])) rfl rfl (hb hby own_d3_66) _ ?_
    rw [len_of Sz92 Nn92]
    show Steps p.tables e below (T90.setTop (mkF m 67 #[.val (.ref a1), .val (.ref o1), .val (.long tm), .second, .val (.int (2 : Int32))] [(.int (3 : Int32)), (.int (2 : Int32))])) _
    refine XS.icmpNo X90.here hx rfl (hb hby own_d3_67) rfl (XT.ii_ge_f (by decide)) ?_
    show Steps p.tables e below (T90.setTop (mkF m 70 #[.val (.ref a1), .val (.ref o1), .val (.long tm), .second, .val (.int (2 : Int32))] [])) _
    refine XS.aloadN X90.here hx rfl (hb hby own_d3_70) rfl rfl ?_
    show Steps p.tables e below (T90.setTop (mkF m 71 #[.val (.ref a1), .val (.ref o1), .val (.long tm), .second, .val (.int (2 : Int32))] [(.ref a1)])) _
    refine st93 _ ?_
    show Steps p.tables e below (T93.setTop (mkF m 74 #[.val (.ref a1), .val (.ref o1), .val (.long tm), .second, .val (.int (2 : Int32))] [(.ref m2)])) _
    refine XS.iload X93.here hx rfl (hb hby own_d3_74) rfl ?_
    show Steps p.tables e below (T93.setTop (mkF m 76 #[.val (.ref a1), .val (.ref o1), .val (.long tm), .second, .val (.int (2 : Int32))] [(.int (2 : Int32)), (.ref m2)])) _
    refine XT.dup2 X93.here hx rfl (hb hby own_d3_76) rfl rfl rfl ?_
    show Steps p.tables e below (T93.setTop (mkF m 77 #[.val (.ref a1), .val (.ref o1), .val (.long tm), .second, .val (.int (2 : Int32))] [(.int (2 : Int32)), (.ref m2), (.int (2 : Int32)), (.ref m2)])) _
    refine X93.laload hx (j := (2 : Int32)) (v := (.long x22)) (by rw [e93]; exact Ar94.1) (State.isArrayOf_alike hZ.alike Ar94.2.1) Ar94.2.2 ghin94 ghat94 (g := (mkF m 77 #[.val (.ref a1), .val (.ref o1), .val (.long tm), .second, .val (.int (2 : Int32))] [(.int (2 : Int32)), (.ref m2), (.int (2 : Int32)), (.ref m2)])) rfl rfl (hb hby own_d3_77) _ ?_
    show Steps p.tables e below (T93.setTop (mkF m 78 #[.val (.ref a1), .val (.ref o1), .val (.long tm), .second, .val (.int (2 : Int32))] [(.long x22), (.int (2 : Int32)), (.ref m2)])) _
    refine XS.aloadN X93.here hx rfl (hb hby own_d3_78) rfl rfl ?_
    show Steps p.tables e below (T93.setTop (mkF m 79 #[.val (.ref a1), .val (.ref o1), .val (.long tm), .second, .val (.int (2 : Int32))] [(.ref o1), (.long x22), (.int (2 : Int32)), (.ref m2)])) _
    refine st96 _ ?_
    show Steps p.tables e below (T96.setTop (mkF m 82 #[.val (.ref a1), .val (.ref o1), .val (.long tm), .second, .val (.int (2 : Int32))] [(.ref r2), (.long x22), (.int (2 : Int32)), (.ref m2)])) _
    refine XS.iload X96.here hx rfl (hb hby own_d3_82) rfl ?_
    show Steps p.tables e below (T96.setTop (mkF m 84 #[.val (.ref a1), .val (.ref o1), .val (.long tm), .second, .val (.int (2 : Int32))] [(.int (2 : Int32)), (.ref r2), (.long x22), (.int (2 : Int32)), (.ref m2)])) _
    refine X96.laload hx (j := (2 : Int32)) (v := (.long y22)) (by rw [e96]; exact Ar98.1) (State.isArrayOf_alike hZ.alike Ar98.2.1) Ar98.2.2 ghin98 ghat98 (g := (mkF m 84 #[.val (.ref a1), .val (.ref o1), .val (.long tm), .second, .val (.int (2 : Int32))] [(.int (2 : Int32)), (.ref r2), (.long x22), (.int (2 : Int32)), (.ref m2)])) rfl rfl (hb hby own_d3_84) _ ?_
    show Steps p.tables e below (T96.setTop (mkF m 85 #[.val (.ref a1), .val (.ref o1), .val (.long tm), .second, .val (.int (2 : Int32))] [(.long y22), (.long x22), (.int (2 : Int32)), (.ref m2)])) _
    refine XT.lloadN X96.here hx rfl (hb hby own_d3_85) rfl ?_
    show Steps p.tables e below (T96.setTop (mkF m 86 #[.val (.ref a1), .val (.ref o1), .val (.long tm), .second, .val (.int (2 : Int32))] [(.long tm), (.long y22), (.long x22), (.int (2 : Int32)), (.ref m2)])) _
    refine XT.lmul X96.here hx rfl (hb hby own_d3_86) rfl ?_
    show Steps p.tables e below (T96.setTop (mkF m 87 #[.val (.ref a1), .val (.ref o1), .val (.long tm), .second, .val (.int (2 : Int32))] [(.long (y22 * tm)), (.long x22), (.int (2 : Int32)), (.ref m2)])) _
    refine XT.ladd X96.here hx rfl (hb hby own_d3_87) rfl ?_
    show Steps p.tables e below (T96.setTop (mkF m 88 #[.val (.ref a1), .val (.ref o1), .val (.long tm), .second, .val (.int (2 : Int32))] [(.long (x22 + (y22 * tm))), (.int (2 : Int32)), (.ref m2)])) _
    refine st100 _ ?_
    show Steps p.tables e below (T100.setTop (mkF m 89 #[.val (.ref a1), .val (.ref o1), .val (.long tm), .second, .val (.int (2 : Int32))] [])) _
    refine XS.aloadN X100.here hx rfl (hb hby own_d3_89) rfl rfl ?_
    show Steps p.tables e below (T100.setTop (mkF m 90 #[.val (.ref a1), .val (.ref o1), .val (.long tm), .second, .val (.int (2 : Int32))] [(.ref a1)])) _
    refine st102 _ ?_
    show Steps p.tables e below (T102.setTop (mkF m 93 #[.val (.ref a1), .val (.ref o1), .val (.long tm), .second, .val (.int (2 : Int32))] [(.ref m3)])) _
    refine XS.iload X102.here hx rfl (hb hby own_d3_93) rfl ?_
    show Steps p.tables e below (T102.setTop (mkF m 95 #[.val (.ref a1), .val (.ref o1), .val (.long tm), .second, .val (.int (2 : Int32))] [(.int (2 : Int32)), (.ref m3)])) _
    refine XT.dup2 X102.here hx rfl (hb hby own_d3_95) rfl rfl rfl ?_
    show Steps p.tables e below (T102.setTop (mkF m 96 #[.val (.ref a1), .val (.ref o1), .val (.long tm), .second, .val (.int (2 : Int32))] [(.int (2 : Int32)), (.ref m3), (.int (2 : Int32)), (.ref m3)])) _
    refine X102.laload hx (j := (2 : Int32)) (v := (.long x32)) (by rw [e102]; exact Ar104.1) (State.isArrayOf_alike hZ.alike Ar104.2.1) Ar104.2.2 ghin104 ghat104 (g := (mkF m 96 #[.val (.ref a1), .val (.ref o1), .val (.long tm), .second, .val (.int (2 : Int32))] [(.int (2 : Int32)), (.ref m3), (.int (2 : Int32)), (.ref m3)])) rfl rfl (hb hby own_d3_96) _ ?_
    show Steps p.tables e below (T102.setTop (mkF m 97 #[.val (.ref a1), .val (.ref o1), .val (.long tm), .second, .val (.int (2 : Int32))] [(.long x32), (.int (2 : Int32)), (.ref m3)])) _
    refine XS.aloadN X102.here hx rfl (hb hby own_d3_97) rfl rfl ?_
    show Steps p.tables e below (T102.setTop (mkF m 98 #[.val (.ref a1), .val (.ref o1), .val (.long tm), .second, .val (.int (2 : Int32))] [(.ref o1), (.long x32), (.int (2 : Int32)), (.ref m3)])) _
    refine st106 _ ?_
    show Steps p.tables e below (T106.setTop (mkF m 101 #[.val (.ref a1), .val (.ref o1), .val (.long tm), .second, .val (.int (2 : Int32))] [(.ref r3), (.long x32), (.int (2 : Int32)), (.ref m3)])) _
    refine XS.iload X106.here hx rfl (hb hby own_d3_101) rfl ?_
    show Steps p.tables e below (T106.setTop (mkF m 103 #[.val (.ref a1), .val (.ref o1), .val (.long tm), .second, .val (.int (2 : Int32))] [(.int (2 : Int32)), (.ref r3), (.long x32), (.int (2 : Int32)), (.ref m3)])) _
    refine X106.laload hx (j := (2 : Int32)) (v := (.long y32)) (by rw [e106]; exact Ar108.1) (State.isArrayOf_alike hZ.alike Ar108.2.1) Ar108.2.2 ghin108 ghat108 (g := (mkF m 103 #[.val (.ref a1), .val (.ref o1), .val (.long tm), .second, .val (.int (2 : Int32))] [(.int (2 : Int32)), (.ref r3), (.long x32), (.int (2 : Int32)), (.ref m3)])) rfl rfl (hb hby own_d3_103) _ ?_
    show Steps p.tables e below (T106.setTop (mkF m 104 #[.val (.ref a1), .val (.ref o1), .val (.long tm), .second, .val (.int (2 : Int32))] [(.long y32), (.long x32), (.int (2 : Int32)), (.ref m3)])) _
    refine XT.lloadN X106.here hx rfl (hb hby own_d3_104) rfl ?_
    show Steps p.tables e below (T106.setTop (mkF m 105 #[.val (.ref a1), .val (.ref o1), .val (.long tm), .second, .val (.int (2 : Int32))] [(.long tm), (.long y32), (.long x32), (.int (2 : Int32)), (.ref m3)])) _
    refine XT.lmul X106.here hx rfl (hb hby own_d3_105) rfl ?_
    show Steps p.tables e below (T106.setTop (mkF m 106 #[.val (.ref a1), .val (.ref o1), .val (.long tm), .second, .val (.int (2 : Int32))] [(.long (y32 * tm)), (.long x32), (.int (2 : Int32)), (.ref m3)])) _
    refine XT.ladd X106.here hx rfl (hb hby own_d3_106) rfl ?_
    show Steps p.tables e below (T106.setTop (mkF m 107 #[.val (.ref a1), .val (.ref o1), .val (.long tm), .second, .val (.int (2 : Int32))] [(.long (x32 + (y32 * tm))), (.int (2 : Int32)), (.ref m3)])) _
    refine st110 _ ?_
    show Steps p.tables e below (T110.setTop (mkF m 108 #[.val (.ref a1), .val (.ref o1), .val (.long tm), .second, .val (.int (2 : Int32))] [])) _
    refine XT.iincV X110.here hx rfl (1 : Int32) (hb hby own_d3_108) rfl rfl (l' := #[.val (.ref a1), .val (.ref o1), .val (.long tm), .second, .val (.int (3 : Int32))]) rfl ?_
    show Steps p.tables e below (T110.setTop (mkF m 111 #[.val (.ref a1), .val (.ref o1), .val (.long tm), .second, .val (.int (3 : Int32))] [])) _
    refine XS.goto X110.here hx rfl (pc0 := 111) (pc' := 60) rfl (hb hby own_d3_111) (by decide) (by decide) ?_
    show Steps p.tables e below (T110.setTop (mkF m 60 #[.val (.ref a1), .val (.ref o1), .val (.long tm), .second, .val (.int (3 : Int32))] [])) _
    refine XS.iload X110.here hx rfl (hb hby own_d3_60) rfl ?_
    show Steps p.tables e below (T110.setTop (mkF m 62 #[.val (.ref a1), .val (.ref o1), .val (.long tm), .second, .val (.int (3 : Int32))] [(.int (3 : Int32))])) _
    refine XS.aloadN X110.here hx rfl (hb hby own_d3_62) rfl rfl ?_
    show Steps p.tables e below (T110.setTop (mkF m 63 #[.val (.ref a1), .val (.ref o1), .val (.long tm), .second, .val (.int (3 : Int32))] [(.ref a1), (.int (3 : Int32))])) _
    refine st112 _ ?_
    show Steps p.tables e below (T112.setTop (mkF m 66 #[.val (.ref a1), .val (.ref o1), .val (.long tm), .second, .val (.int (3 : Int32))] [(.ref m2), (.int (3 : Int32))])) _
    refine X112.arraylength hx (by rw [e112]; exact Ar114.1) (State.isArrayOf_alike hZ.alike Ar114.2.1) (g := (mkF m 66 #[.val (.ref a1), .val (.ref o1), .val (.long tm), .second, .val (.int (3 : Int32))] [(.ref m2), (.int (3 : Int32))])) rfl rfl (hb hby own_d3_66) _ ?_
    rw [len_of Sz114 Nn114]
    show Steps p.tables e below (T112.setTop (mkF m 67 #[.val (.ref a1), .val (.ref o1), .val (.long tm), .second, .val (.int (3 : Int32))] [(.int (3 : Int32)), (.int (3 : Int32))])) _
    refine XS.icmpYes X112.here hx rfl (pc0 := 67) (pc' := 114) rfl (hb hby own_d3_67) rfl (XT.ii_ge_t (by decide)) (by decide) (by decide) ?_
    show Steps p.tables e below (T112.setTop (mkF m 114 #[.val (.ref a1), .val (.ref o1), .val (.long tm), .second, .val (.int (3 : Int32))] [])) _
    exact X112.returnOut hx Bd.returns (hb hby own_d3_114) hr
  · show own_Q3 Z a1 o1 tm m0 m1 m2 m3 km0 x00 x01 km1 x10 x11 km2 x20 x21 x22 km3 x30 x31 x32 r0 r1 r2 r3 kr0 y00 y01 kr1 y10 y11 kr2 y20 y21 y22 kr3 y30 y31 y32 h0 n0 _ T112.heap _
    rw [e112]
    have FV_m0_115 : Arv Z h110 m0 km0 .long (2 : Int32) [(.long (x00 + (y00 * tm))), (.long (x01 + (y01 * tm)))] (.long (0 : Int64)) := ((((((FV_m0_43.other W56 nem02).other W66 nem03).other W78 nem02).other W88 nem03).other W100 nem02).other W110 nem03)
    have FV_m1_116 : Arv Z h110 m1 km1 .long (2 : Int32) [(.long (x10 + (y10 * tm))), (.long (x11 + (y11 * tm)))] (.long (0 : Int64)) := ((((((V40.other W56 nem12).other W66 nem13).other W78 nem12).other W88 nem13).other W100 nem12).other W110 nem13)
    exact ⟨rfl, N110, K110, FV_m0_115, FV_m1_116, FV_m2_113, V110⟩
theorem own_d4_0 : decode method_2_code 0 = .ok (.lload_n 0, 1) := by decide +kernel
theorem own_d4_1 : decode method_2_code 1 = .ok (.iload 6, 2) := by decide +kernel
theorem own_d4_3 : decode method_2_code 3 = .ok (.i2l, 1) := by decide +kernel
theorem own_d4_4 : decode method_2_code 4 = .ok (.ladd, 1) := by decide +kernel
theorem own_d4_5 : decode method_2_code 5 = .ok (.lload_n 2, 1) := by decide +kernel
theorem own_d4_6 : decode method_2_code 6 = .ok (.iload 6, 2) := by decide +kernel
theorem own_d4_8 : decode method_2_code 8 = .ok (.i2l, 1) := by decide +kernel
theorem own_d4_9 : decode method_2_code 9 = .ok (.ladd, 1) := by decide +kernel
theorem own_d4_10 : decode method_2_code 10 = .ok (.lload 4, 2) := by decide +kernel
theorem own_d4_12 : decode method_2_code 12 = .ok (.lmul, 1) := by decide +kernel
theorem own_d4_13 : decode method_2_code 13 = .ok (.ladd, 1) := by decide +kernel
theorem own_d4_14 : decode method_2_code 14 = .ok (.lreturn, 1) := by decide +kernel
theorem own_pn4 : plainName "com/example/tracegauge/tracegauge/TraceTokensAddPinLaw" = true := by first | (simp [plainName, overriddenIn]; done) | decide +kernel
theorem own_ef4 (m : MethodId) (ja : Int64) (jb : Int64) (jt : Int64) (ik : Int32) : entryFrame m #[(.long ja), (.long jb), (.long jt), (.int ik)] 7 = mkF m 0 #[.val (.long ja), .second, .val (.long jb), .second, .val (.long jt), .second, .val (.int ik)] [] := by first | (simp [entryFrame, mkF, argsToLocals, Value.category]; done) | rfl
def own_Q4 (Z : State) (ja : Int64) (jb : Int64) (jt : Int64) (ik : Int32) (h0 : Heap) (n0 : Nat) (v : Option Value) (h : Heap) (L : List Loc) : Prop := (v = some (.long ((ja + (ik.toInt64)) + ((jb + (ik.toInt64)) * jt)))) ∧ (Fr n0 L) ∧ (h = h0)
set_option maxRecDepth 65536 in
set_option maxHeartbeats 40000000 in
theorem own_rm4 (l : Launch) (Z : State) (a0 : Array Value) (hw : ∀ d ∈ tables_1, d.before a0 Z = true) (ws : List Jvm.Cond) (ja : Int64) (jb : Int64) (jt : Int64) (ik : Int32) (h0 : Heap) (n0 : Nat) (Z0 : n0 ≤ h0.size)  :
    MetFree l (⟨"com/example/tracegauge/tracegauge/TraceTokensAddPinLaw", "exp", "(JJJI)J"⟩ : MethodName) (head1 (Jvm.Cond.code (⟨"com/example/tracegauge/tracegauge/TraceTokensAddPinLaw", "exp", "(JJJI)J"⟩ : MethodName) method_2_code 7 (some .long) :: ws) ({ frames := 0, cells := 0, slots := 0, locals := 0 } : Room)) (fun ar_ U_ => ar_ = #[(.long ja), (.long jb), (.long jt), (.int ik)] ∧ Z.Warmed39 U_.vm ∧ U_.heap = h0) (fun _ _ _ _ _ => True) (fun _ U_ o_ U_' => ∃ v_ L_, o_ = .returned v_ ∧ own_Q4 Z ja jb jt ik h0 n0 v_ U_'.heap L_ ∧ FrameEnd U_ o_ U_' L_ ({ frames := 0, cells := 0, slots := 0, locals := 0 } : Room).cells ({ frames := 0, cells := 0, slots := 0, locals := 0 } : Room).slots) := by
  refine MetFree.of_bodySF (plainFor_of_name own_pn4) hisR ?_
  intro p e s m args below meth c s₁ Bd hml0 hP hK
  obtain ⟨rfl, hZ, hh⟩ := hP
  have hx := Bd.exec
  have hby := Bd.bytes
  have hml : c.maxLocals = 7 := hml0
  have hown : s.vm.findClass "com/example/tracegauge/tracegauge/TraceTokensAddPinLaw" = some m.cls := findClass_of_methodNamed Bd.named
  have hnm := (name_of_methodNamed Bd.named Bd.method).1
  have X0 : Stand p l e ({ frames := 0, cells := 0, slots := 0, locals := 0 } : Room) s m #[(.long ja), (.long jb), (.long jt), (.int ik)] below meth c s₁ [] 0 0 := Stand.of_body Bd
  have e0 : s₁.heap = h0 := by rw [← hh, Bd.state]; rfl
  have N0 := Fr.nil n0
  have pre0 : ∀ t, Steps p.tables e below (s₁.setTop (mkF m 0 #[.val (.long ja), .second, .val (.long jb), .second, .val (.long jt), .second, .val (.int ik)] [])) t → Steps p.tables e below (s₁.setTop (entryFrame m #[(.long ja), (.long jb), (.long jt), (.int ik)] 7)) t := fun t k => castTop (own_ef4 m ja jb jt ik) k
  obtain ⟨fs, hr, hrun, hended, hW, hsame⟩ := X0.leave (v := some (.long ((ja + (ik.toInt64)) + ((jb + (ik.toInt64)) * jt)))) (fun h => by rw [Bd.returns] at h; cases h)
  refine ⟨_, _, pre0 _ ?_, hrun, hended, _, _, rfl, ?_, ⟨_, rfl⟩, hW, hsame.mono (by decide) (by decide)⟩
  · show Steps p.tables e below (s₁.setTop (mkF m 0 #[.val (.long ja), .second, .val (.long jb), .second, .val (.long jt), .second, .val (.int ik)] [])) _
    refine XT.lloadN X0.here hx rfl (hb hby own_d4_0) rfl ?_
    show Steps p.tables e below (s₁.setTop (mkF m 1 #[.val (.long ja), .second, .val (.long jb), .second, .val (.long jt), .second, .val (.int ik)] [(.long ja)])) _
    refine XS.iload X0.here hx rfl (hb hby own_d4_1) rfl ?_
    show Steps p.tables e below (s₁.setTop (mkF m 3 #[.val (.long ja), .second, .val (.long jb), .second, .val (.long jt), .second, .val (.int ik)] [(.int ik), (.long ja)])) _
    refine XT.i2l X0.here hx rfl (hb hby own_d4_3) rfl ?_
    show Steps p.tables e below (s₁.setTop (mkF m 4 #[.val (.long ja), .second, .val (.long jb), .second, .val (.long jt), .second, .val (.int ik)] [(.long (ik.toInt64)), (.long ja)])) _
    refine XT.ladd X0.here hx rfl (hb hby own_d4_4) rfl ?_
    show Steps p.tables e below (s₁.setTop (mkF m 5 #[.val (.long ja), .second, .val (.long jb), .second, .val (.long jt), .second, .val (.int ik)] [(.long (ja + (ik.toInt64)))])) _
    refine XT.lloadN X0.here hx rfl (hb hby own_d4_5) rfl ?_
    show Steps p.tables e below (s₁.setTop (mkF m 6 #[.val (.long ja), .second, .val (.long jb), .second, .val (.long jt), .second, .val (.int ik)] [(.long jb), (.long (ja + (ik.toInt64)))])) _
    refine XS.iload X0.here hx rfl (hb hby own_d4_6) rfl ?_
    show Steps p.tables e below (s₁.setTop (mkF m 8 #[.val (.long ja), .second, .val (.long jb), .second, .val (.long jt), .second, .val (.int ik)] [(.int ik), (.long jb), (.long (ja + (ik.toInt64)))])) _
    refine XT.i2l X0.here hx rfl (hb hby own_d4_8) rfl ?_
    show Steps p.tables e below (s₁.setTop (mkF m 9 #[.val (.long ja), .second, .val (.long jb), .second, .val (.long jt), .second, .val (.int ik)] [(.long (ik.toInt64)), (.long jb), (.long (ja + (ik.toInt64)))])) _
    refine XT.ladd X0.here hx rfl (hb hby own_d4_9) rfl ?_
    show Steps p.tables e below (s₁.setTop (mkF m 10 #[.val (.long ja), .second, .val (.long jb), .second, .val (.long jt), .second, .val (.int ik)] [(.long (jb + (ik.toInt64))), (.long (ja + (ik.toInt64)))])) _
    refine XT.lload X0.here hx rfl (hb hby own_d4_10) rfl ?_
    show Steps p.tables e below (s₁.setTop (mkF m 12 #[.val (.long ja), .second, .val (.long jb), .second, .val (.long jt), .second, .val (.int ik)] [(.long jt), (.long (jb + (ik.toInt64))), (.long (ja + (ik.toInt64)))])) _
    refine XT.lmul X0.here hx rfl (hb hby own_d4_12) rfl ?_
    show Steps p.tables e below (s₁.setTop (mkF m 13 #[.val (.long ja), .second, .val (.long jb), .second, .val (.long jt), .second, .val (.int ik)] [(.long ((jb + (ik.toInt64)) * jt)), (.long (ja + (ik.toInt64)))])) _
    refine XT.ladd X0.here hx rfl (hb hby own_d4_13) rfl ?_
    show Steps p.tables e below (s₁.setTop (mkF m 14 #[.val (.long ja), .second, .val (.long jb), .second, .val (.long jt), .second, .val (.int ik)] [(.long ((ja + (ik.toInt64)) + ((jb + (ik.toInt64)) * jt)))])) _
    exact retOut X0 hx (t := .long) Bd.returns rfl (Or.inr (Or.inl ⟨rfl, rfl, _, rfl⟩)) (hb hby own_d4_14) hr
  · show own_Q4 Z ja jb jt ik h0 n0 _ s₁.heap _
    exact ⟨rfl, N0, e0⟩
theorem own_pn0 : plainName "com/example/tracegauge/tracegauge/TraceTokensAddPinLaw" = true := by first | (simp [plainName, overriddenIn]; done) | decide +kernel
theorem own_ef0 (m : MethodId) (ja : Int64) (jb : Int64) (jt : Int64) : entryFrame m #[(.long ja), (.long jb), (.long jt)] maxLocals = mkF m 0 #[.val (.long ja), .second, .val (.long jb), .second, .val (.long jt), .second, .unset, .unset, .unset, .unset] [] := by first | (simp [entryFrame, mkF, argsToLocals, Value.category, maxLocals]; done) | rfl
def own_Q0 (Z : State) (ja : Int64) (jb : Int64) (jt : Int64) (h0 : Heap) (n0 : Nat) (v : Option Value) (h : Heap) (L : List Loc) : Prop := (v = some (.int (1 : Int32))) ∧ (Fr n0 L)
set_option maxRecDepth 65536 in
set_option maxHeartbeats 40000000 in
theorem own_rm0 (l : Launch) (Z : State) (a0 : Array Value) (hw : ∀ d ∈ tables_1, d.before a0 Z = true) (ws : List Jvm.Cond) (ja : Int64) (jb : Int64) (jt : Int64) (h0 : Heap) (n0 : Nat) (Z0 : n0 ≤ h0.size)  :
    MetFree l x (head1 (Jvm.Cond.code x code maxLocals ret :: ws) room_1) (fun ar_ U_ => ar_ = #[(.long ja), (.long jb), (.long jt)] ∧ Z.Warmed39 U_.vm ∧ U_.heap = h0) (fun _ _ _ _ _ => True) (fun _ U_ o_ U_' => ∃ v_ L_, o_ = .returned v_ ∧ own_Q0 Z ja jb jt h0 n0 v_ U_'.heap L_ ∧ FrameEnd U_ o_ U_' L_ room_1.cells room_1.slots) := by
  refine MetFree.of_bodySF (plainFor_of_name own_pn0) hisR ?_
  intro p e s m args below meth c s₁ Bd hml0 hP hK
  obtain ⟨rfl, hZ, hh⟩ := hP
  have hx := Bd.exec
  have hby := Bd.bytes
  have hml : c.maxLocals = 10 := hml0
  have hown : s.vm.findClass "com/example/tracegauge/tracegauge/TraceTokensAddPinLaw" = some m.cls := findClass_of_methodNamed Bd.named
  have hnm := (name_of_methodNamed Bd.named Bd.method).1
  have X0 : Stand p l e room_1 s m #[(.long ja), (.long jb), (.long jt)] below meth c s₁ [] 0 0 := Stand.of_body Bd
  have e0 : s₁.heap = h0 := by rw [← hh, Bd.state]; rfl
  have N0 := Fr.nil n0
  have pre0 : ∀ t, Steps p.tables e below (s₁.setTop (mkF m 0 #[.val (.long ja), .second, .val (.long jb), .second, .val (.long jt), .second, .unset, .unset, .unset, .unset] [])) t → Steps p.tables e below (s₁.setTop (entryFrame m #[(.long ja), (.long jb), (.long jt)] maxLocals)) t := fun t k => castTop (own_ef0 m ja jb jt) k
  obtain ⟨T1, h1, X1, e1, E1, A1, D1, -, st1⟩ := newO X0 hx hZ hown (hw _ (List.mem_of_getElem? (i := 0) rfl)) (hw _ (List.mem_of_getElem? (i := 1) rfl)) (hw _ (List.mem_of_getElem? (i := 2) rfl)) e0 (g := (mkF m 0 #[.val (.long ja), .second, .val (.long jb), .second, .val (.long jt), .second, .unset, .unset, .unset, .unset] [])) rfl (hb hby at_0) (by decide) (by decide)
  obtain ⟨ob1, g1⟩ : ∃ z, z = h0.size := ⟨_, rfl⟩
  rw [← g1] at A1 D1 st1
  have sz1 : n0 ≤ h1.size := Nat.le_trans Z0 E1.1
  have gn_ob1 : n0 ≤ ob1 := Nat.le_trans Z0 (Nat.le_of_eq g1.symm)
  have bo_ob1 : h0.size ≤ ob1 := Nat.le_trans (Keep.refl h0 []).1 (Nat.le_of_eq g1.symm)
  have K1 : Keep h0 h1 [] := (Keep.refl h0 []).ext E1
  have F0_missing_ob1 : Fld Z h1 ob1 "com/example/tracegauge/tracegauge/TraceTokens$Deviations" "missing" "[J" .null := D1 (Or.inr (hw _ (List.mem_of_getElem? (i := 11) rfl))) (ty := (.array .long)) (by decide)
  have F0_remaining_ob1 : Fld Z h1 ob1 "com/example/tracegauge/tracegauge/TraceTokens$Deviations" "remaining" "[J" .null := D1 (Or.inr (hw _ (List.mem_of_getElem? (i := 13) rfl))) (ty := (.array .long)) (by decide)
  have F0_forced_ob1 : Fld Z h1 ob1 "com/example/tracegauge/tracegauge/TraceTokens$Deviations" "forced" "[J" .null := D1 (Or.inr (hw _ (List.mem_of_getElem? (i := 15) rfl))) (ty := (.array .long)) (by decide)
  have F0_violated_ob1 : Fld Z h1 ob1 "com/example/tracegauge/tracegauge/TraceTokens$Deviations" "violated" "[J" .null := D1 (Or.inr (hw _ (List.mem_of_getElem? (i := 17) rfl))) (ty := (.array .long)) (by decide)
  obtain ⟨_, _, ⟨T2, tL2, tk2, tn2⟩, -, X2, ⟨Lc2, hQ2, tl2, ty2, tz2⟩, st2⟩ := X1.specialBack hx (y := (⟨"com/example/tracegauge/tracegauge/TraceTokens$Deviations", "<init>", "(II)V"⟩ : MethodName)) rfl hown (mvT hZ (hw _ (List.mem_of_getElem? (i := 3) rfl))) (mvT hZ (hw _ (List.mem_of_getElem? (i := 4) rfl))) (mvT hZ (hw _ (List.mem_of_getElem? (i := 5) rfl))) (by decide) (backOf (W := 1) (own_rm1 l Z a0 hw [] ob1 (.null : Value) (.null : Value) (.null : Value) (.null : Value) h1 n0 sz1 A1 F0_missing_ob1 F0_remaining_ob1 F0_forced_ob1 F0_violated_ob1 gn_ob1) hZ (hw _ (List.mem_of_getElem? (i := 5) rfl)) (hw _ (List.mem_of_getElem? (i := 2) rfl)) (by decide) (by decide)) (g := (mkF m 6 #[.val (.long ja), .second, .val (.long jb), .second, .val (.long jt), .second, .unset, .unset, .unset, .unset] [(.int (3 : Int32)), (.int (2 : Int32)), (.ref ob1), (.ref ob1)])) rfl (by rw [hml]; rfl) (Steps.refl _) (a := ob1) (argsL := [(.int (2 : Int32)), (.int (3 : Int32))]) (rest := [(.ref ob1)]) (lenOf own_pd0 rfl) rfl (by show 2 * 0 + _ ≤ _; exact Nat.le_of_eq rfl) (hb hby at_6) (fun _ _ => ⟨rfl, e1, (by decide : 1 + 4 ≤ _), (by decide : 4 + 10 ≤ _)⟩)
  dsimp only [Pt.U, Pt.locs, Pt.cells, Pt.slots] at X2 tl2 ty2 tz2 st2 hQ2
  rw [tl2, ty2, tz2] at X2
  obtain ⟨m0_2, m1_2, m2_2, m3_2, k0_2, k1_2, k2_2, k3_2, rfl, Nq2, K2, Fa2_E_a1, Fa2_F_a1_missing, Fa2_F_a1_remaining, Fa2_F_a1_forced, Fa2_F_a1_violated, Fa2_V_m0, Fa2_V_m1, Fa2_V_m2, Fa2_V_m3, hb0_2, hb1_2, hb2_2, hb3_2, hm01_2, hm02_2, hm03_2, hm12_2, hm13_2, hm23_2⟩ := hQ2
  have N2 := Fr.app N0 Nq2
  have sz2 : n0 ≤ T2.heap.size := Nat.le_trans sz1 K2.1
  have KK2 : Keep h0 T2.heap [] := K1.trans K2 (allS (Or.inr bo_ob1) all0)
  have gn_m0_2 : n0 ≤ m0_2 := Nat.le_trans sz1 hb0_2
  have bo_m0_2 : h0.size ≤ m0_2 := Nat.le_trans K1.1 hb0_2
  have ne_ob1_m0_2 : ob1 ≠ m0_2 := Nat.ne_of_lt (Nat.lt_of_lt_of_le A1.lt hb0_2)
  have gn_m1_2 : n0 ≤ m1_2 := Nat.le_trans sz1 hb1_2
  have bo_m1_2 : h0.size ≤ m1_2 := Nat.le_trans K1.1 hb1_2
  have ne_ob1_m1_2 : ob1 ≠ m1_2 := Nat.ne_of_lt (Nat.lt_of_lt_of_le A1.lt hb1_2)
  have gn_m2_2 : n0 ≤ m2_2 := Nat.le_trans sz1 hb2_2
  have bo_m2_2 : h0.size ≤ m2_2 := Nat.le_trans K1.1 hb2_2
  have ne_ob1_m2_2 : ob1 ≠ m2_2 := Nat.ne_of_lt (Nat.lt_of_lt_of_le A1.lt hb2_2)
  have gn_m3_2 : n0 ≤ m3_2 := Nat.le_trans sz1 hb3_2
  have bo_m3_2 : h0.size ≤ m3_2 := Nat.le_trans K1.1 hb3_2
  have ne_ob1_m3_2 : ob1 ≠ m3_2 := Nat.ne_of_lt (Nat.lt_of_lt_of_le A1.lt hb3_2)
  obtain ⟨T3, h3, X3, e3, E3, A3, D3, -, st3⟩ := newO X2 hx hZ hown (hw _ (List.mem_of_getElem? (i := 0) rfl)) (hw _ (List.mem_of_getElem? (i := 1) rfl)) (hw _ (List.mem_of_getElem? (i := 2) rfl)) rfl (g := (mkF m 11 #[.val (.long ja), .second, .val (.long jb), .second, .val (.long jt), .second, .val (.ref ob1), .unset, .unset, .unset] [])) rfl (hb hby at_11) (by decide) (by decide)
  obtain ⟨ob3, g3⟩ : ∃ z, z = T2.heap.size := ⟨_, rfl⟩
  rw [← g3] at A3 D3 st3
  have ne_ob1_ob3 : ob1 ≠ ob3 := Nat.ne_of_lt (Nat.lt_of_lt_of_le Fa2_E_a1.lt (Nat.le_of_eq g3.symm))
  have ne_m0_2_ob3 : m0_2 ≠ ob3 := Nat.ne_of_lt (Nat.lt_of_lt_of_le Fa2_V_m0.lt (Nat.le_of_eq g3.symm))
  have ne_m1_2_ob3 : m1_2 ≠ ob3 := Nat.ne_of_lt (Nat.lt_of_lt_of_le Fa2_V_m1.lt (Nat.le_of_eq g3.symm))
  have ne_m2_2_ob3 : m2_2 ≠ ob3 := Nat.ne_of_lt (Nat.lt_of_lt_of_le Fa2_V_m2.lt (Nat.le_of_eq g3.symm))
  have ne_m3_2_ob3 : m3_2 ≠ ob3 := Nat.ne_of_lt (Nat.lt_of_lt_of_le Fa2_V_m3.lt (Nat.le_of_eq g3.symm))
  have sz3 : n0 ≤ h3.size := Nat.le_trans sz2 E3.1
  have gn_ob3 : n0 ≤ ob3 := Nat.le_trans sz2 (Nat.le_of_eq g3.symm)
  have bo_ob3 : h0.size ≤ ob3 := Nat.le_trans KK2.1 (Nat.le_of_eq g3.symm)
  have K3 : Keep h0 h3 [] := KK2.ext E3
  have F0_missing_ob3 : Fld Z h3 ob3 "com/example/tracegauge/tracegauge/TraceTokens$Deviations" "missing" "[J" .null := D3 (Or.inr (hw _ (List.mem_of_getElem? (i := 11) rfl))) (ty := (.array .long)) (by decide)
  have F0_remaining_ob3 : Fld Z h3 ob3 "com/example/tracegauge/tracegauge/TraceTokens$Deviations" "remaining" "[J" .null := D3 (Or.inr (hw _ (List.mem_of_getElem? (i := 13) rfl))) (ty := (.array .long)) (by decide)
  have F0_forced_ob3 : Fld Z h3 ob3 "com/example/tracegauge/tracegauge/TraceTokens$Deviations" "forced" "[J" .null := D3 (Or.inr (hw _ (List.mem_of_getElem? (i := 15) rfl))) (ty := (.array .long)) (by decide)
  have F0_violated_ob3 : Fld Z h3 ob3 "com/example/tracegauge/tracegauge/TraceTokens$Deviations" "violated" "[J" .null := D3 (Or.inr (hw _ (List.mem_of_getElem? (i := 17) rfl))) (ty := (.array .long)) (by decide)
  have FE_ob1_4 : Exa Z h3 ob1 "com/example/tracegauge/tracegauge/TraceTokens$Deviations" := (Fa2_E_a1.ext E3)
  have FV_m0_2_5 : Arv Z h3 m0_2 k0_2 .long (2 : Int32) [(.long (0 : Int64)), (.long (0 : Int64))] (.long (0 : Int64)) := (Fa2_V_m0.ext E3)
  have FV_m1_2_6 : Arv Z h3 m1_2 k1_2 .long (2 : Int32) [(.long (0 : Int64)), (.long (0 : Int64))] (.long (0 : Int64)) := (Fa2_V_m1.ext E3)
  have FV_m2_2_7 : Arv Z h3 m2_2 k2_2 .long (3 : Int32) [(.long (0 : Int64)), (.long (0 : Int64)), (.long (0 : Int64))] (.long (0 : Int64)) := (Fa2_V_m2.ext E3)
  have FV_m3_2_8 : Arv Z h3 m3_2 k3_2 .long (3 : Int32) [(.long (0 : Int64)), (.long (0 : Int64)), (.long (0 : Int64))] (.long (0 : Int64)) := (Fa2_V_m3.ext E3)
  obtain ⟨_, _, ⟨T9, tL9, tk9, tn9⟩, -, X9, ⟨Lc9, hQ9, tl9, ty9, tz9⟩, st9⟩ := X3.specialBack hx (y := (⟨"com/example/tracegauge/tracegauge/TraceTokens$Deviations", "<init>", "(II)V"⟩ : MethodName)) rfl hown (mvT hZ (hw _ (List.mem_of_getElem? (i := 3) rfl))) (mvT hZ (hw _ (List.mem_of_getElem? (i := 4) rfl))) (mvT hZ (hw _ (List.mem_of_getElem? (i := 5) rfl))) (by decide) (backOf (W := 1) (own_rm1 l Z a0 hw [] ob3 (.null : Value) (.null : Value) (.null : Value) (.null : Value) h3 n0 sz3 A3 F0_missing_ob3 F0_remaining_ob3 F0_forced_ob3 F0_violated_ob3 gn_ob3) hZ (hw _ (List.mem_of_getElem? (i := 5) rfl)) (hw _ (List.mem_of_getElem? (i := 2) rfl)) (by decide) (by decide)) (g := (mkF m 17 #[.val (.long ja), .second, .val (.long jb), .second, .val (.long jt), .second, .val (.ref ob1), .unset, .unset, .unset] [(.int (3 : Int32)), (.int (2 : Int32)), (.ref ob3), (.ref ob3)])) rfl (by rw [hml]; rfl) (Steps.refl _) (a := ob3) (argsL := [(.int (2 : Int32)), (.int (3 : Int32))]) (rest := [(.ref ob3)]) (lenOf own_pd0 rfl) rfl (by show 2 * 0 + _ ≤ _; exact Nat.le_of_eq rfl) (hb hby at_17) (fun _ _ => ⟨rfl, e3, (by decide : 6 + 4 ≤ _), (by decide : 18 + 10 ≤ _)⟩)
  dsimp only [Pt.U, Pt.locs, Pt.cells, Pt.slots] at X9 tl9 ty9 tz9 st9 hQ9
  rw [tl9, ty9, tz9] at X9
  obtain ⟨m0_9, m1_9, m2_9, m3_9, k0_9, k1_9, k2_9, k3_9, rfl, Nq9, K9, Fa9_E_a1, Fa9_F_a1_missing, Fa9_F_a1_remaining, Fa9_F_a1_forced, Fa9_F_a1_violated, Fa9_V_m0, Fa9_V_m1, Fa9_V_m2, Fa9_V_m3, hb0_9, hb1_9, hb2_9, hb3_9, hm01_9, hm02_9, hm03_9, hm12_9, hm13_9, hm23_9⟩ := hQ9
  have N9 := Fr.app N2 Nq9
  have sz9 : n0 ≤ T9.heap.size := Nat.le_trans sz3 K9.1
  have KK9 : Keep h0 T9.heap [] := K3.trans K9 (allS (Or.inr bo_ob3) all0)
  have gn_m0_9 : n0 ≤ m0_9 := Nat.le_trans sz3 hb0_9
  have bo_m0_9 : h0.size ≤ m0_9 := Nat.le_trans K3.1 hb0_9
  have ne_ob1_m0_9 : ob1 ≠ m0_9 := Nat.ne_of_lt (Nat.lt_of_lt_of_le FE_ob1_4.lt hb0_9)
  have ne_m0_2_m0_9 : m0_2 ≠ m0_9 := Nat.ne_of_lt (Nat.lt_of_lt_of_le FV_m0_2_5.lt hb0_9)
  have ne_m1_2_m0_9 : m1_2 ≠ m0_9 := Nat.ne_of_lt (Nat.lt_of_lt_of_le FV_m1_2_6.lt hb0_9)
  have ne_m2_2_m0_9 : m2_2 ≠ m0_9 := Nat.ne_of_lt (Nat.lt_of_lt_of_le FV_m2_2_7.lt hb0_9)
  have ne_m3_2_m0_9 : m3_2 ≠ m0_9 := Nat.ne_of_lt (Nat.lt_of_lt_of_le FV_m3_2_8.lt hb0_9)
  have ne_ob3_m0_9 : ob3 ≠ m0_9 := Nat.ne_of_lt (Nat.lt_of_lt_of_le A3.lt hb0_9)
  have gn_m1_9 : n0 ≤ m1_9 := Nat.le_trans sz3 hb1_9
  have bo_m1_9 : h0.size ≤ m1_9 := Nat.le_trans K3.1 hb1_9
  have ne_ob1_m1_9 : ob1 ≠ m1_9 := Nat.ne_of_lt (Nat.lt_of_lt_of_le FE_ob1_4.lt hb1_9)
  have ne_m0_2_m1_9 : m0_2 ≠ m1_9 := Nat.ne_of_lt (Nat.lt_of_lt_of_le FV_m0_2_5.lt hb1_9)
  have ne_m1_2_m1_9 : m1_2 ≠ m1_9 := Nat.ne_of_lt (Nat.lt_of_lt_of_le FV_m1_2_6.lt hb1_9)
  have ne_m2_2_m1_9 : m2_2 ≠ m1_9 := Nat.ne_of_lt (Nat.lt_of_lt_of_le FV_m2_2_7.lt hb1_9)
  have ne_m3_2_m1_9 : m3_2 ≠ m1_9 := Nat.ne_of_lt (Nat.lt_of_lt_of_le FV_m3_2_8.lt hb1_9)
  have ne_ob3_m1_9 : ob3 ≠ m1_9 := Nat.ne_of_lt (Nat.lt_of_lt_of_le A3.lt hb1_9)
  have gn_m2_9 : n0 ≤ m2_9 := Nat.le_trans sz3 hb2_9
  have bo_m2_9 : h0.size ≤ m2_9 := Nat.le_trans K3.1 hb2_9
  have ne_ob1_m2_9 : ob1 ≠ m2_9 := Nat.ne_of_lt (Nat.lt_of_lt_of_le FE_ob1_4.lt hb2_9)
  have ne_m0_2_m2_9 : m0_2 ≠ m2_9 := Nat.ne_of_lt (Nat.lt_of_lt_of_le FV_m0_2_5.lt hb2_9)
  have ne_m1_2_m2_9 : m1_2 ≠ m2_9 := Nat.ne_of_lt (Nat.lt_of_lt_of_le FV_m1_2_6.lt hb2_9)
  have ne_m2_2_m2_9 : m2_2 ≠ m2_9 := Nat.ne_of_lt (Nat.lt_of_lt_of_le FV_m2_2_7.lt hb2_9)
  have ne_m3_2_m2_9 : m3_2 ≠ m2_9 := Nat.ne_of_lt (Nat.lt_of_lt_of_le FV_m3_2_8.lt hb2_9)
  have ne_ob3_m2_9 : ob3 ≠ m2_9 := Nat.ne_of_lt (Nat.lt_of_lt_of_le A3.lt hb2_9)
  have gn_m3_9 : n0 ≤ m3_9 := Nat.le_trans sz3 hb3_9
  have bo_m3_9 : h0.size ≤ m3_9 := Nat.le_trans K3.1 hb3_9
  have ne_ob1_m3_9 : ob1 ≠ m3_9 := Nat.ne_of_lt (Nat.lt_of_lt_of_le FE_ob1_4.lt hb3_9)
  have ne_m0_2_m3_9 : m0_2 ≠ m3_9 := Nat.ne_of_lt (Nat.lt_of_lt_of_le FV_m0_2_5.lt hb3_9)
  have ne_m1_2_m3_9 : m1_2 ≠ m3_9 := Nat.ne_of_lt (Nat.lt_of_lt_of_le FV_m1_2_6.lt hb3_9)
  have ne_m2_2_m3_9 : m2_2 ≠ m3_9 := Nat.ne_of_lt (Nat.lt_of_lt_of_le FV_m2_2_7.lt hb3_9)
  have ne_m3_2_m3_9 : m3_2 ≠ m3_9 := Nat.ne_of_lt (Nat.lt_of_lt_of_le FV_m3_2_8.lt hb3_9)
  have ne_ob3_m3_9 : ob3 ≠ m3_9 := Nat.ne_of_lt (Nat.lt_of_lt_of_le A3.lt hb3_9)
  have FF_ob1_missing_10 : Fld Z T9.heap ob1 "com/example/tracegauge/tracegauge/TraceTokens$Deviations" "missing" "[J" (.ref m0_2) := ((Fa2_F_a1_missing.ext E3).keep K9 (ninS ne_ob1_ob3 nin0))
  obtain ⟨T11, X11, e11, st11⟩ := getF X9 hx hZ hown (host := "") (Or.inl (hw _ (List.mem_of_getElem? (i := 18) rfl))) Via.refl rfl FF_ob1_missing_10 (g := (mkF m 24 #[.val (.long ja), .second, .val (.long jb), .second, .val (.long jt), .second, .val (.ref ob1), .val (.ref ob3), .unset, .unset] [(.ref ob1)])) rfl rfl (hb hby at_24)
  have FV_m0_2_12 : Arv Z T9.heap m0_2 k0_2 .long (2 : Int32) [(.long (0 : Int64)), (.long (0 : Int64))] (.long (0 : Int64)) := (FV_m0_2_5.keep K9 (ninS ne_m0_2_ob3 nin0))
  obtain ⟨cl13, Ar13, Q13, Sz13, Nn13, Ha13, Gf13⟩ := id FV_m0_2_12
  have ghin13 : ¬ ((0 : Int32) < 0 ∨ cl13.slots.size ≤ ((0 : Int32)).toNatClampNeg) := inb_of Sz13 ⟨by decide, by decide⟩
  obtain ⟨T14, h14, X14, e14, W14, st14⟩ := stJ X11 hx hZ e11 Ar13 (j := (0 : Int32)) ghin13 (g := (mkF m 29 #[.val (.long ja), .second, .val (.long jb), .second, .val (.long jt), .second, .val (.ref ob1), .val (.ref ob3), .unset, .unset] [(.long ja), (.int (0 : Int32)), (.ref m0_2)])) rfl rfl (hb hby at_29)
  have V14 : Arv Z h14 m0_2 k0_2 .long (2 : Int32) [(.long ja), (.long (0 : Int64))] (.long (0 : Int64)) := Arv.set Ar13 Q13 Sz13 Nn13 Ha13 Gf13 rfl W14 0 rfl (Nat.le_of_ble_eq_true rfl)
  have K14 : Keep h0 h14 [] := KK9.wr W14 (Or.inr bo_m0_2)
  have N14 := Fr.snoc X14 N9 gn_m0_2
  have FF_ob1_missing_15 : Fld Z h14 ob1 "com/example/tracegauge/tracegauge/TraceTokens$Deviations" "missing" "[J" (.ref m0_2) := (FF_ob1_missing_10.other W14 (Or.inl ne_ob1_m0_2))
  obtain ⟨T16, X16, e16, st16⟩ := getF X14 hx hZ hown (host := "") (Or.inl (hw _ (List.mem_of_getElem? (i := 18) rfl))) Via.refl e14 FF_ob1_missing_15 (g := (mkF m 32 #[.val (.long ja), .second, .val (.long jb), .second, .val (.long jt), .second, .val (.ref ob1), .val (.ref ob3), .unset, .unset] [(.ref ob1)])) rfl rfl (hb hby at_32)
  obtain ⟨cl17, Ar17, Q17, Sz17, Nn17, Ha17, Gf17⟩ := id V14
  have ghin17 : ¬ ((1 : Int32) < 0 ∨ cl17.slots.size ≤ ((1 : Int32)).toNatClampNeg) := inb_of Sz17 ⟨by decide, by decide⟩
  obtain ⟨T18, h18, X18, e18, W18, st18⟩ := stJ X16 hx hZ e16 Ar17 (j := (1 : Int32)) ghin17 (g := (mkF m 39 #[.val (.long ja), .second, .val (.long jb), .second, .val (.long jt), .second, .val (.ref ob1), .val (.ref ob3), .unset, .unset] [(.long (ja + (1 : Int64))), (.int (1 : Int32)), (.ref m0_2)])) rfl rfl (hb hby at_39)
  have V18 : Arv Z h18 m0_2 k0_2 .long (2 : Int32) [(.long ja), (.long (ja + (1 : Int64)))] (.long (0 : Int64)) := Arv.set Ar17 Q17 Sz17 Nn17 Ha17 Gf17 rfl W18 1 rfl (Nat.le_of_ble_eq_true rfl)
  have K18 : Keep h0 h18 [] := K14.wr W18 (Or.inr bo_m0_2)
  have N18 := Fr.snoc X18 N14 gn_m0_2
  have FF_ob1_remaining_19 : Fld Z h18 ob1 "com/example/tracegauge/tracegauge/TraceTokens$Deviations" "remaining" "[J" (.ref m1_2) := ((((Fa2_F_a1_remaining.ext E3).keep K9 (ninS ne_ob1_ob3 nin0)).other W14 (Or.inl ne_ob1_m0_2)).other W18 (Or.inl ne_ob1_m0_2))
  obtain ⟨T20, X20, e20, st20⟩ := getF X18 hx hZ hown (host := "") (Or.inl (hw _ (List.mem_of_getElem? (i := 19) rfl))) Via.refl e18 FF_ob1_remaining_19 (g := (mkF m 42 #[.val (.long ja), .second, .val (.long jb), .second, .val (.long jt), .second, .val (.ref ob1), .val (.ref ob3), .unset, .unset] [(.ref ob1)])) rfl rfl (hb hby at_42)
  have FV_m1_2_21 : Arv Z h18 m1_2 k1_2 .long (2 : Int32) [(.long (0 : Int64)), (.long (0 : Int64))] (.long (0 : Int64)) := (((FV_m1_2_6.keep K9 (ninS ne_m1_2_ob3 nin0)).other W14 hm01_2.symm).other W18 hm01_2.symm)
  obtain ⟨cl22, Ar22, Q22, Sz22, Nn22, Ha22, Gf22⟩ := id FV_m1_2_21
  have ghin22 : ¬ ((0 : Int32) < 0 ∨ cl22.slots.size ≤ ((0 : Int32)).toNatClampNeg) := inb_of Sz22 ⟨by decide, by decide⟩
  obtain ⟨T23, h23, X23, e23, W23, st23⟩ := stJ X20 hx hZ e20 Ar22 (j := (0 : Int32)) ghin22 (g := (mkF m 51 #[.val (.long ja), .second, .val (.long jb), .second, .val (.long jt), .second, .val (.ref ob1), .val (.ref ob3), .unset, .unset] [(.long (ja + (2 : Int64))), (.int (0 : Int32)), (.ref m1_2)])) rfl rfl (hb hby at_51)
  have V23 : Arv Z h23 m1_2 k1_2 .long (2 : Int32) [(.long (ja + (2 : Int64))), (.long (0 : Int64))] (.long (0 : Int64)) := Arv.set Ar22 Q22 Sz22 Nn22 Ha22 Gf22 rfl W23 0 rfl (Nat.le_of_ble_eq_true rfl)
  have K23 : Keep h0 h23 [] := K18.wr W23 (Or.inr bo_m1_2)
  have N23 := Fr.snoc X23 N18 gn_m1_2
  have FF_ob1_remaining_24 : Fld Z h23 ob1 "com/example/tracegauge/tracegauge/TraceTokens$Deviations" "remaining" "[J" (.ref m1_2) := (FF_ob1_remaining_19.other W23 (Or.inl ne_ob1_m1_2))
  obtain ⟨T25, X25, e25, st25⟩ := getF X23 hx hZ hown (host := "") (Or.inl (hw _ (List.mem_of_getElem? (i := 19) rfl))) Via.refl e23 FF_ob1_remaining_24 (g := (mkF m 54 #[.val (.long ja), .second, .val (.long jb), .second, .val (.long jt), .second, .val (.ref ob1), .val (.ref ob3), .unset, .unset] [(.ref ob1)])) rfl rfl (hb hby at_54)
  obtain ⟨cl26, Ar26, Q26, Sz26, Nn26, Ha26, Gf26⟩ := id V23
  have ghin26 : ¬ ((1 : Int32) < 0 ∨ cl26.slots.size ≤ ((1 : Int32)).toNatClampNeg) := inb_of Sz26 ⟨by decide, by decide⟩
  obtain ⟨T27, h27, X27, e27, W27, st27⟩ := stJ X25 hx hZ e25 Ar26 (j := (1 : Int32)) ghin26 (g := (mkF m 63 #[.val (.long ja), .second, .val (.long jb), .second, .val (.long jt), .second, .val (.ref ob1), .val (.ref ob3), .unset, .unset] [(.long (ja + (3 : Int64))), (.int (1 : Int32)), (.ref m1_2)])) rfl rfl (hb hby at_63)
  have V27 : Arv Z h27 m1_2 k1_2 .long (2 : Int32) [(.long (ja + (2 : Int64))), (.long (ja + (3 : Int64)))] (.long (0 : Int64)) := Arv.set Ar26 Q26 Sz26 Nn26 Ha26 Gf26 rfl W27 1 rfl (Nat.le_of_ble_eq_true rfl)
  have K27 : Keep h0 h27 [] := K23.wr W27 (Or.inr bo_m1_2)
  have N27 := Fr.snoc X27 N23 gn_m1_2
  have FF_ob1_forced_28 : Fld Z h27 ob1 "com/example/tracegauge/tracegauge/TraceTokens$Deviations" "forced" "[J" (.ref m2_2) := ((((((Fa2_F_a1_forced.ext E3).keep K9 (ninS ne_ob1_ob3 nin0)).other W14 (Or.inl ne_ob1_m0_2)).other W18 (Or.inl ne_ob1_m0_2)).other W23 (Or.inl ne_ob1_m1_2)).other W27 (Or.inl ne_ob1_m1_2))
  obtain ⟨T29, X29, e29, st29⟩ := getF X27 hx hZ hown (host := "") (Or.inl (hw _ (List.mem_of_getElem? (i := 22) rfl))) Via.refl e27 FF_ob1_forced_28 (g := (mkF m 66 #[.val (.long ja), .second, .val (.long jb), .second, .val (.long jt), .second, .val (.ref ob1), .val (.ref ob3), .unset, .unset] [(.ref ob1)])) rfl rfl (hb hby at_66)
  have FV_m2_2_30 : Arv Z h27 m2_2 k2_2 .long (3 : Int32) [(.long (0 : Int64)), (.long (0 : Int64)), (.long (0 : Int64))] (.long (0 : Int64)) := (((((FV_m2_2_7.keep K9 (ninS ne_m2_2_ob3 nin0)).other W14 hm02_2.symm).other W18 hm02_2.symm).other W23 hm12_2.symm).other W27 hm12_2.symm)
  obtain ⟨cl31, Ar31, Q31, Sz31, Nn31, Ha31, Gf31⟩ := id FV_m2_2_30
  have ghin31 : ¬ ((0 : Int32) < 0 ∨ cl31.slots.size ≤ ((0 : Int32)).toNatClampNeg) := inb_of Sz31 ⟨by decide, by decide⟩
  obtain ⟨T32, h32, X32, e32, W32, st32⟩ := stJ X29 hx hZ e29 Ar31 (j := (0 : Int32)) ghin31 (g := (mkF m 75 #[.val (.long ja), .second, .val (.long jb), .second, .val (.long jt), .second, .val (.ref ob1), .val (.ref ob3), .unset, .unset] [(.long (ja + (4 : Int64))), (.int (0 : Int32)), (.ref m2_2)])) rfl rfl (hb hby at_75)
  have V32 : Arv Z h32 m2_2 k2_2 .long (3 : Int32) [(.long (ja + (4 : Int64))), (.long (0 : Int64)), (.long (0 : Int64))] (.long (0 : Int64)) := Arv.set Ar31 Q31 Sz31 Nn31 Ha31 Gf31 rfl W32 0 rfl (Nat.le_of_ble_eq_true rfl)
  have K32 : Keep h0 h32 [] := K27.wr W32 (Or.inr bo_m2_2)
  have N32 := Fr.snoc X32 N27 gn_m2_2
  have FF_ob1_forced_33 : Fld Z h32 ob1 "com/example/tracegauge/tracegauge/TraceTokens$Deviations" "forced" "[J" (.ref m2_2) := (FF_ob1_forced_28.other W32 (Or.inl ne_ob1_m2_2))
  obtain ⟨T34, X34, e34, st34⟩ := getF X32 hx hZ hown (host := "") (Or.inl (hw _ (List.mem_of_getElem? (i := 22) rfl))) Via.refl e32 FF_ob1_forced_33 (g := (mkF m 78 #[.val (.long ja), .second, .val (.long jb), .second, .val (.long jt), .second, .val (.ref ob1), .val (.ref ob3), .unset, .unset] [(.ref ob1)])) rfl rfl (hb hby at_78)
  obtain ⟨cl35, Ar35, Q35, Sz35, Nn35, Ha35, Gf35⟩ := id V32
  have ghin35 : ¬ ((1 : Int32) < 0 ∨ cl35.slots.size ≤ ((1 : Int32)).toNatClampNeg) := inb_of Sz35 ⟨by decide, by decide⟩
  obtain ⟨T36, h36, X36, e36, W36, st36⟩ := stJ X34 hx hZ e34 Ar35 (j := (1 : Int32)) ghin35 (g := (mkF m 87 #[.val (.long ja), .second, .val (.long jb), .second, .val (.long jt), .second, .val (.ref ob1), .val (.ref ob3), .unset, .unset] [(.long (ja + (5 : Int64))), (.int (1 : Int32)), (.ref m2_2)])) rfl rfl (hb hby at_87)
  have V36 : Arv Z h36 m2_2 k2_2 .long (3 : Int32) [(.long (ja + (4 : Int64))), (.long (ja + (5 : Int64))), (.long (0 : Int64))] (.long (0 : Int64)) := Arv.set Ar35 Q35 Sz35 Nn35 Ha35 Gf35 rfl W36 1 rfl (Nat.le_of_ble_eq_true rfl)
  have K36 : Keep h0 h36 [] := K32.wr W36 (Or.inr bo_m2_2)
  have N36 := Fr.snoc X36 N32 gn_m2_2
  have FF_ob1_forced_37 : Fld Z h36 ob1 "com/example/tracegauge/tracegauge/TraceTokens$Deviations" "forced" "[J" (.ref m2_2) := (FF_ob1_forced_33.other W36 (Or.inl ne_ob1_m2_2))
  obtain ⟨T38, X38, e38, st38⟩ := getF X36 hx hZ hown (host := "") (Or.inl (hw _ (List.mem_of_getElem? (i := 22) rfl))) Via.refl e36 FF_ob1_forced_37 (g := (mkF m 90 #[.val (.long ja), .second, .val (.long jb), .second, .val (.long jt), .second, .val (.ref ob1), .val (.ref ob3), .unset, .unset] [(.ref ob1)])) rfl rfl (hb hby at_90)
  obtain ⟨cl39, Ar39, Q39, Sz39, Nn39, Ha39, Gf39⟩ := id V36
  have ghin39 : ¬ ((2 : Int32) < 0 ∨ cl39.slots.size ≤ ((2 : Int32)).toNatClampNeg) := inb_of Sz39 ⟨by decide, by decide⟩
  obtain ⟨T40, h40, X40, e40, W40, st40⟩ := stJ X38 hx hZ e38 Ar39 (j := (2 : Int32)) ghin39 (g := (mkF m 99 #[.val (.long ja), .second, .val (.long jb), .second, .val (.long jt), .second, .val (.ref ob1), .val (.ref ob3), .unset, .unset] [(.long (ja + (6 : Int64))), (.int (2 : Int32)), (.ref m2_2)])) rfl rfl (hb hby at_99)
  have V40 : Arv Z h40 m2_2 k2_2 .long (3 : Int32) [(.long (ja + (4 : Int64))), (.long (ja + (5 : Int64))), (.long (ja + (6 : Int64)))] (.long (0 : Int64)) := Arv.set Ar39 Q39 Sz39 Nn39 Ha39 Gf39 rfl W40 2 rfl (Nat.le_of_ble_eq_true rfl)
  have K40 : Keep h0 h40 [] := K36.wr W40 (Or.inr bo_m2_2)
  have N40 := Fr.snoc X40 N36 gn_m2_2
  have FF_ob1_violated_41 : Fld Z h40 ob1 "com/example/tracegauge/tracegauge/TraceTokens$Deviations" "violated" "[J" (.ref m3_2) := (((((((((Fa2_F_a1_violated.ext E3).keep K9 (ninS ne_ob1_ob3 nin0)).other W14 (Or.inl ne_ob1_m0_2)).other W18 (Or.inl ne_ob1_m0_2)).other W23 (Or.inl ne_ob1_m1_2)).other W27 (Or.inl ne_ob1_m1_2)).other W32 (Or.inl ne_ob1_m2_2)).other W36 (Or.inl ne_ob1_m2_2)).other W40 (Or.inl ne_ob1_m2_2))
  obtain ⟨T42, X42, e42, st42⟩ := getF X40 hx hZ hown (host := "") (Or.inl (hw _ (List.mem_of_getElem? (i := 26) rfl))) Via.refl e40 FF_ob1_violated_41 (g := (mkF m 102 #[.val (.long ja), .second, .val (.long jb), .second, .val (.long jt), .second, .val (.ref ob1), .val (.ref ob3), .unset, .unset] [(.ref ob1)])) rfl rfl (hb hby at_102)
  have FV_m3_2_43 : Arv Z h40 m3_2 k3_2 .long (3 : Int32) [(.long (0 : Int64)), (.long (0 : Int64)), (.long (0 : Int64))] (.long (0 : Int64)) := ((((((((FV_m3_2_8.keep K9 (ninS ne_m3_2_ob3 nin0)).other W14 hm03_2.symm).other W18 hm03_2.symm).other W23 hm13_2.symm).other W27 hm13_2.symm).other W32 hm23_2.symm).other W36 hm23_2.symm).other W40 hm23_2.symm)
  obtain ⟨cl44, Ar44, Q44, Sz44, Nn44, Ha44, Gf44⟩ := id FV_m3_2_43
  have ghin44 : ¬ ((0 : Int32) < 0 ∨ cl44.slots.size ≤ ((0 : Int32)).toNatClampNeg) := inb_of Sz44 ⟨by decide, by decide⟩
  obtain ⟨T45, h45, X45, e45, W45, st45⟩ := stJ X42 hx hZ e42 Ar44 (j := (0 : Int32)) ghin44 (g := (mkF m 111 #[.val (.long ja), .second, .val (.long jb), .second, .val (.long jt), .second, .val (.ref ob1), .val (.ref ob3), .unset, .unset] [(.long (ja + (7 : Int64))), (.int (0 : Int32)), (.ref m3_2)])) rfl rfl (hb hby at_111)
  have V45 : Arv Z h45 m3_2 k3_2 .long (3 : Int32) [(.long (ja + (7 : Int64))), (.long (0 : Int64)), (.long (0 : Int64))] (.long (0 : Int64)) := Arv.set Ar44 Q44 Sz44 Nn44 Ha44 Gf44 rfl W45 0 rfl (Nat.le_of_ble_eq_true rfl)
  have K45 : Keep h0 h45 [] := K40.wr W45 (Or.inr bo_m3_2)
  have N45 := Fr.snoc X45 N40 gn_m3_2
  have FF_ob1_violated_46 : Fld Z h45 ob1 "com/example/tracegauge/tracegauge/TraceTokens$Deviations" "violated" "[J" (.ref m3_2) := (FF_ob1_violated_41.other W45 (Or.inl ne_ob1_m3_2))
  obtain ⟨T47, X47, e47, st47⟩ := getF X45 hx hZ hown (host := "") (Or.inl (hw _ (List.mem_of_getElem? (i := 26) rfl))) Via.refl e45 FF_ob1_violated_46 (g := (mkF m 114 #[.val (.long ja), .second, .val (.long jb), .second, .val (.long jt), .second, .val (.ref ob1), .val (.ref ob3), .unset, .unset] [(.ref ob1)])) rfl rfl (hb hby at_114)
  obtain ⟨cl48, Ar48, Q48, Sz48, Nn48, Ha48, Gf48⟩ := id V45
  have ghin48 : ¬ ((1 : Int32) < 0 ∨ cl48.slots.size ≤ ((1 : Int32)).toNatClampNeg) := inb_of Sz48 ⟨by decide, by decide⟩
  obtain ⟨T49, h49, X49, e49, W49, st49⟩ := stJ X47 hx hZ e47 Ar48 (j := (1 : Int32)) ghin48 (g := (mkF m 123 #[.val (.long ja), .second, .val (.long jb), .second, .val (.long jt), .second, .val (.ref ob1), .val (.ref ob3), .unset, .unset] [(.long (ja + (8 : Int64))), (.int (1 : Int32)), (.ref m3_2)])) rfl rfl (hb hby at_123)
  have V49 : Arv Z h49 m3_2 k3_2 .long (3 : Int32) [(.long (ja + (7 : Int64))), (.long (ja + (8 : Int64))), (.long (0 : Int64))] (.long (0 : Int64)) := Arv.set Ar48 Q48 Sz48 Nn48 Ha48 Gf48 rfl W49 1 rfl (Nat.le_of_ble_eq_true rfl)
  have K49 : Keep h0 h49 [] := K45.wr W49 (Or.inr bo_m3_2)
  have N49 := Fr.snoc X49 N45 gn_m3_2
  have FF_ob1_violated_50 : Fld Z h49 ob1 "com/example/tracegauge/tracegauge/TraceTokens$Deviations" "violated" "[J" (.ref m3_2) := (FF_ob1_violated_46.other W49 (Or.inl ne_ob1_m3_2))
  obtain ⟨T51, X51, e51, st51⟩ := getF X49 hx hZ hown (host := "") (Or.inl (hw _ (List.mem_of_getElem? (i := 26) rfl))) Via.refl e49 FF_ob1_violated_50 (g := (mkF m 126 #[.val (.long ja), .second, .val (.long jb), .second, .val (.long jt), .second, .val (.ref ob1), .val (.ref ob3), .unset, .unset] [(.ref ob1)])) rfl rfl (hb hby at_126)
  obtain ⟨cl52, Ar52, Q52, Sz52, Nn52, Ha52, Gf52⟩ := id V49
  have ghin52 : ¬ ((2 : Int32) < 0 ∨ cl52.slots.size ≤ ((2 : Int32)).toNatClampNeg) := inb_of Sz52 ⟨by decide, by decide⟩
  obtain ⟨T53, h53, X53, e53, W53, st53⟩ := stJ X51 hx hZ e51 Ar52 (j := (2 : Int32)) ghin52 (g := (mkF m 135 #[.val (.long ja), .second, .val (.long jb), .second, .val (.long jt), .second, .val (.ref ob1), .val (.ref ob3), .unset, .unset] [(.long (ja + (9 : Int64))), (.int (2 : Int32)), (.ref m3_2)])) rfl rfl (hb hby at_135)
  have V53 : Arv Z h53 m3_2 k3_2 .long (3 : Int32) [(.long (ja + (7 : Int64))), (.long (ja + (8 : Int64))), (.long (ja + (9 : Int64)))] (.long (0 : Int64)) := Arv.set Ar52 Q52 Sz52 Nn52 Ha52 Gf52 rfl W53 2 rfl (Nat.le_of_ble_eq_true rfl)
  have K53 : Keep h0 h53 [] := K49.wr W53 (Or.inr bo_m3_2)
  have N53 := Fr.snoc X53 N49 gn_m3_2
  have FF_ob3_missing_54 : Fld Z h53 ob3 "com/example/tracegauge/tracegauge/TraceTokens$Deviations" "missing" "[J" (.ref m0_9) := ((((((((((Fa9_F_a1_missing.other W14 (Or.inl ne_m0_2_ob3.symm)).other W18 (Or.inl ne_m0_2_ob3.symm)).other W23 (Or.inl ne_m1_2_ob3.symm)).other W27 (Or.inl ne_m1_2_ob3.symm)).other W32 (Or.inl ne_m2_2_ob3.symm)).other W36 (Or.inl ne_m2_2_ob3.symm)).other W40 (Or.inl ne_m2_2_ob3.symm)).other W45 (Or.inl ne_m3_2_ob3.symm)).other W49 (Or.inl ne_m3_2_ob3.symm)).other W53 (Or.inl ne_m3_2_ob3.symm))
  obtain ⟨T55, X55, e55, st55⟩ := getF X53 hx hZ hown (host := "") (Or.inl (hw _ (List.mem_of_getElem? (i := 18) rfl))) Via.refl e53 FF_ob3_missing_54 (g := (mkF m 138 #[.val (.long ja), .second, .val (.long jb), .second, .val (.long jt), .second, .val (.ref ob1), .val (.ref ob3), .unset, .unset] [(.ref ob3)])) rfl rfl (hb hby at_138)
  have FV_m0_9_56 : Arv Z h53 m0_9 k0_9 .long (2 : Int32) [(.long (0 : Int64)), (.long (0 : Int64))] (.long (0 : Int64)) := ((((((((((Fa9_V_m0.other W14 ne_m0_2_m0_9.symm).other W18 ne_m0_2_m0_9.symm).other W23 ne_m1_2_m0_9.symm).other W27 ne_m1_2_m0_9.symm).other W32 ne_m2_2_m0_9.symm).other W36 ne_m2_2_m0_9.symm).other W40 ne_m2_2_m0_9.symm).other W45 ne_m3_2_m0_9.symm).other W49 ne_m3_2_m0_9.symm).other W53 ne_m3_2_m0_9.symm)
  obtain ⟨cl57, Ar57, Q57, Sz57, Nn57, Ha57, Gf57⟩ := id FV_m0_9_56
  have ghin57 : ¬ ((0 : Int32) < 0 ∨ cl57.slots.size ≤ ((0 : Int32)).toNatClampNeg) := inb_of Sz57 ⟨by decide, by decide⟩
  obtain ⟨T58, h58, X58, e58, W58, st58⟩ := stJ X55 hx hZ e55 Ar57 (j := (0 : Int32)) ghin57 (g := (mkF m 143 #[.val (.long ja), .second, .val (.long jb), .second, .val (.long jt), .second, .val (.ref ob1), .val (.ref ob3), .unset, .unset] [(.long jb), (.int (0 : Int32)), (.ref m0_9)])) rfl rfl (hb hby at_143)
  have V58 : Arv Z h58 m0_9 k0_9 .long (2 : Int32) [(.long jb), (.long (0 : Int64))] (.long (0 : Int64)) := Arv.set Ar57 Q57 Sz57 Nn57 Ha57 Gf57 rfl W58 0 rfl (Nat.le_of_ble_eq_true rfl)
  have K58 : Keep h0 h58 [] := K53.wr W58 (Or.inr bo_m0_9)
  have N58 := Fr.snoc X58 N53 gn_m0_9
  have FF_ob3_missing_59 : Fld Z h58 ob3 "com/example/tracegauge/tracegauge/TraceTokens$Deviations" "missing" "[J" (.ref m0_9) := (FF_ob3_missing_54.other W58 (Or.inl ne_ob3_m0_9))
  obtain ⟨T60, X60, e60, st60⟩ := getF X58 hx hZ hown (host := "") (Or.inl (hw _ (List.mem_of_getElem? (i := 18) rfl))) Via.refl e58 FF_ob3_missing_59 (g := (mkF m 146 #[.val (.long ja), .second, .val (.long jb), .second, .val (.long jt), .second, .val (.ref ob1), .val (.ref ob3), .unset, .unset] [(.ref ob3)])) rfl rfl (hb hby at_146)
  obtain ⟨cl61, Ar61, Q61, Sz61, Nn61, Ha61, Gf61⟩ := id V58
  have ghin61 : ¬ ((1 : Int32) < 0 ∨ cl61.slots.size ≤ ((1 : Int32)).toNatClampNeg) := inb_of Sz61 ⟨by decide, by decide⟩
  obtain ⟨T62, h62, X62, e62, W62, st62⟩ := stJ X60 hx hZ e60 Ar61 (j := (1 : Int32)) ghin61 (g := (mkF m 153 #[.val (.long ja), .second, .val (.long jb), .second, .val (.long jt), .second, .val (.ref ob1), .val (.ref ob3), .unset, .unset] [(.long (jb + (1 : Int64))), (.int (1 : Int32)), (.ref m0_9)])) rfl rfl (hb hby at_153)
  have V62 : Arv Z h62 m0_9 k0_9 .long (2 : Int32) [(.long jb), (.long (jb + (1 : Int64)))] (.long (0 : Int64)) := Arv.set Ar61 Q61 Sz61 Nn61 Ha61 Gf61 rfl W62 1 rfl (Nat.le_of_ble_eq_true rfl)
  have K62 : Keep h0 h62 [] := K58.wr W62 (Or.inr bo_m0_9)
  have N62 := Fr.snoc X62 N58 gn_m0_9
  have FF_ob3_remaining_63 : Fld Z h62 ob3 "com/example/tracegauge/tracegauge/TraceTokens$Deviations" "remaining" "[J" (.ref m1_9) := ((((((((((((Fa9_F_a1_remaining.other W14 (Or.inl ne_m0_2_ob3.symm)).other W18 (Or.inl ne_m0_2_ob3.symm)).other W23 (Or.inl ne_m1_2_ob3.symm)).other W27 (Or.inl ne_m1_2_ob3.symm)).other W32 (Or.inl ne_m2_2_ob3.symm)).other W36 (Or.inl ne_m2_2_ob3.symm)).other W40 (Or.inl ne_m2_2_ob3.symm)).other W45 (Or.inl ne_m3_2_ob3.symm)).other W49 (Or.inl ne_m3_2_ob3.symm)).other W53 (Or.inl ne_m3_2_ob3.symm)).other W58 (Or.inl ne_ob3_m0_9)).other W62 (Or.inl ne_ob3_m0_9))
  obtain ⟨T64, X64, e64, st64⟩ := getF X62 hx hZ hown (host := "") (Or.inl (hw _ (List.mem_of_getElem? (i := 19) rfl))) Via.refl e62 FF_ob3_remaining_63 (g := (mkF m 156 #[.val (.long ja), .second, .val (.long jb), .second, .val (.long jt), .second, .val (.ref ob1), .val (.ref ob3), .unset, .unset] [(.ref ob3)])) rfl rfl (hb hby at_156)
  have FV_m1_9_65 : Arv Z h62 m1_9 k1_9 .long (2 : Int32) [(.long (0 : Int64)), (.long (0 : Int64))] (.long (0 : Int64)) := ((((((((((((Fa9_V_m1.other W14 ne_m0_2_m1_9.symm).other W18 ne_m0_2_m1_9.symm).other W23 ne_m1_2_m1_9.symm).other W27 ne_m1_2_m1_9.symm).other W32 ne_m2_2_m1_9.symm).other W36 ne_m2_2_m1_9.symm).other W40 ne_m2_2_m1_9.symm).other W45 ne_m3_2_m1_9.symm).other W49 ne_m3_2_m1_9.symm).other W53 ne_m3_2_m1_9.symm).other W58 hm01_9.symm).other W62 hm01_9.symm)
  obtain ⟨cl66, Ar66, Q66, Sz66, Nn66, Ha66, Gf66⟩ := id FV_m1_9_65
  have ghin66 : ¬ ((0 : Int32) < 0 ∨ cl66.slots.size ≤ ((0 : Int32)).toNatClampNeg) := inb_of Sz66 ⟨by decide, by decide⟩
  obtain ⟨T67, h67, X67, e67, W67, st67⟩ := stJ X64 hx hZ e64 Ar66 (j := (0 : Int32)) ghin66 (g := (mkF m 165 #[.val (.long ja), .second, .val (.long jb), .second, .val (.long jt), .second, .val (.ref ob1), .val (.ref ob3), .unset, .unset] [(.long (jb + (2 : Int64))), (.int (0 : Int32)), (.ref m1_9)])) rfl rfl (hb hby at_165)
  have V67 : Arv Z h67 m1_9 k1_9 .long (2 : Int32) [(.long (jb + (2 : Int64))), (.long (0 : Int64))] (.long (0 : Int64)) := Arv.set Ar66 Q66 Sz66 Nn66 Ha66 Gf66 rfl W67 0 rfl (Nat.le_of_ble_eq_true rfl)
  have K67 : Keep h0 h67 [] := K62.wr W67 (Or.inr bo_m1_9)
  have N67 := Fr.snoc X67 N62 gn_m1_9
  have FF_ob3_remaining_68 : Fld Z h67 ob3 "com/example/tracegauge/tracegauge/TraceTokens$Deviations" "remaining" "[J" (.ref m1_9) := (FF_ob3_remaining_63.other W67 (Or.inl ne_ob3_m1_9))
  obtain ⟨T69, X69, e69, st69⟩ := getF X67 hx hZ hown (host := "") (Or.inl (hw _ (List.mem_of_getElem? (i := 19) rfl))) Via.refl e67 FF_ob3_remaining_68 (g := (mkF m 168 #[.val (.long ja), .second, .val (.long jb), .second, .val (.long jt), .second, .val (.ref ob1), .val (.ref ob3), .unset, .unset] [(.ref ob3)])) rfl rfl (hb hby at_168)
  obtain ⟨cl70, Ar70, Q70, Sz70, Nn70, Ha70, Gf70⟩ := id V67
  have ghin70 : ¬ ((1 : Int32) < 0 ∨ cl70.slots.size ≤ ((1 : Int32)).toNatClampNeg) := inb_of Sz70 ⟨by decide, by decide⟩
  obtain ⟨T71, h71, X71, e71, W71, st71⟩ := stJ X69 hx hZ e69 Ar70 (j := (1 : Int32)) ghin70 (g := (mkF m 177 #[.val (.long ja), .second, .val (.long jb), .second, .val (.long jt), .second, .val (.ref ob1), .val (.ref ob3), .unset, .unset] [(.long (jb + (3 : Int64))), (.int (1 : Int32)), (.ref m1_9)])) rfl rfl (hb hby at_177)
  have V71 : Arv Z h71 m1_9 k1_9 .long (2 : Int32) [(.long (jb + (2 : Int64))), (.long (jb + (3 : Int64)))] (.long (0 : Int64)) := Arv.set Ar70 Q70 Sz70 Nn70 Ha70 Gf70 rfl W71 1 rfl (Nat.le_of_ble_eq_true rfl)
  have K71 : Keep h0 h71 [] := K67.wr W71 (Or.inr bo_m1_9)
  have N71 := Fr.snoc X71 N67 gn_m1_9
  have FF_ob3_forced_72 : Fld Z h71 ob3 "com/example/tracegauge/tracegauge/TraceTokens$Deviations" "forced" "[J" (.ref m2_9) := ((((((((((((((Fa9_F_a1_forced.other W14 (Or.inl ne_m0_2_ob3.symm)).other W18 (Or.inl ne_m0_2_ob3.symm)).other W23 (Or.inl ne_m1_2_ob3.symm)).other W27 (Or.inl ne_m1_2_ob3.symm)).other W32 (Or.inl ne_m2_2_ob3.symm)).other W36 (Or.inl ne_m2_2_ob3.symm)).other W40 (Or.inl ne_m2_2_ob3.symm)).other W45 (Or.inl ne_m3_2_ob3.symm)).other W49 (Or.inl ne_m3_2_ob3.symm)).other W53 (Or.inl ne_m3_2_ob3.symm)).other W58 (Or.inl ne_ob3_m0_9)).other W62 (Or.inl ne_ob3_m0_9)).other W67 (Or.inl ne_ob3_m1_9)).other W71 (Or.inl ne_ob3_m1_9))
  obtain ⟨T73, X73, e73, st73⟩ := getF X71 hx hZ hown (host := "") (Or.inl (hw _ (List.mem_of_getElem? (i := 22) rfl))) Via.refl e71 FF_ob3_forced_72 (g := (mkF m 180 #[.val (.long ja), .second, .val (.long jb), .second, .val (.long jt), .second, .val (.ref ob1), .val (.ref ob3), .unset, .unset] [(.ref ob3)])) rfl rfl (hb hby at_180)
  have FV_m2_9_74 : Arv Z h71 m2_9 k2_9 .long (3 : Int32) [(.long (0 : Int64)), (.long (0 : Int64)), (.long (0 : Int64))] (.long (0 : Int64)) := ((((((((((((((Fa9_V_m2.other W14 ne_m0_2_m2_9.symm).other W18 ne_m0_2_m2_9.symm).other W23 ne_m1_2_m2_9.symm).other W27 ne_m1_2_m2_9.symm).other W32 ne_m2_2_m2_9.symm).other W36 ne_m2_2_m2_9.symm).other W40 ne_m2_2_m2_9.symm).other W45 ne_m3_2_m2_9.symm).other W49 ne_m3_2_m2_9.symm).other W53 ne_m3_2_m2_9.symm).other W58 hm02_9.symm).other W62 hm02_9.symm).other W67 hm12_9.symm).other W71 hm12_9.symm)
  obtain ⟨cl75, Ar75, Q75, Sz75, Nn75, Ha75, Gf75⟩ := id FV_m2_9_74
  have ghin75 : ¬ ((0 : Int32) < 0 ∨ cl75.slots.size ≤ ((0 : Int32)).toNatClampNeg) := inb_of Sz75 ⟨by decide, by decide⟩
  obtain ⟨T76, h76, X76, e76, W76, st76⟩ := stJ X73 hx hZ e73 Ar75 (j := (0 : Int32)) ghin75 (g := (mkF m 189 #[.val (.long ja), .second, .val (.long jb), .second, .val (.long jt), .second, .val (.ref ob1), .val (.ref ob3), .unset, .unset] [(.long (jb + (4 : Int64))), (.int (0 : Int32)), (.ref m2_9)])) rfl rfl (hb hby at_189)
  have V76 : Arv Z h76 m2_9 k2_9 .long (3 : Int32) [(.long (jb + (4 : Int64))), (.long (0 : Int64)), (.long (0 : Int64))] (.long (0 : Int64)) := Arv.set Ar75 Q75 Sz75 Nn75 Ha75 Gf75 rfl W76 0 rfl (Nat.le_of_ble_eq_true rfl)
  have K76 : Keep h0 h76 [] := K71.wr W76 (Or.inr bo_m2_9)
  have N76 := Fr.snoc X76 N71 gn_m2_9
  have FF_ob3_forced_77 : Fld Z h76 ob3 "com/example/tracegauge/tracegauge/TraceTokens$Deviations" "forced" "[J" (.ref m2_9) := (FF_ob3_forced_72.other W76 (Or.inl ne_ob3_m2_9))
  obtain ⟨T78, X78, e78, st78⟩ := getF X76 hx hZ hown (host := "") (Or.inl (hw _ (List.mem_of_getElem? (i := 22) rfl))) Via.refl e76 FF_ob3_forced_77 (g := (mkF m 192 #[.val (.long ja), .second, .val (.long jb), .second, .val (.long jt), .second, .val (.ref ob1), .val (.ref ob3), .unset, .unset] [(.ref ob3)])) rfl rfl (hb hby at_192)
  obtain ⟨cl79, Ar79, Q79, Sz79, Nn79, Ha79, Gf79⟩ := id V76
  have ghin79 : ¬ ((1 : Int32) < 0 ∨ cl79.slots.size ≤ ((1 : Int32)).toNatClampNeg) := inb_of Sz79 ⟨by decide, by decide⟩
  obtain ⟨T80, h80, X80, e80, W80, st80⟩ := stJ X78 hx hZ e78 Ar79 (j := (1 : Int32)) ghin79 (g := (mkF m 201 #[.val (.long ja), .second, .val (.long jb), .second, .val (.long jt), .second, .val (.ref ob1), .val (.ref ob3), .unset, .unset] [(.long (jb + (5 : Int64))), (.int (1 : Int32)), (.ref m2_9)])) rfl rfl (hb hby at_201)
  have V80 : Arv Z h80 m2_9 k2_9 .long (3 : Int32) [(.long (jb + (4 : Int64))), (.long (jb + (5 : Int64))), (.long (0 : Int64))] (.long (0 : Int64)) := Arv.set Ar79 Q79 Sz79 Nn79 Ha79 Gf79 rfl W80 1 rfl (Nat.le_of_ble_eq_true rfl)
  have K80 : Keep h0 h80 [] := K76.wr W80 (Or.inr bo_m2_9)
  have N80 := Fr.snoc X80 N76 gn_m2_9
  have FF_ob3_forced_81 : Fld Z h80 ob3 "com/example/tracegauge/tracegauge/TraceTokens$Deviations" "forced" "[J" (.ref m2_9) := (FF_ob3_forced_77.other W80 (Or.inl ne_ob3_m2_9))
  obtain ⟨T82, X82, e82, st82⟩ := getF X80 hx hZ hown (host := "") (Or.inl (hw _ (List.mem_of_getElem? (i := 22) rfl))) Via.refl e80 FF_ob3_forced_81 (g := (mkF m 204 #[.val (.long ja), .second, .val (.long jb), .second, .val (.long jt), .second, .val (.ref ob1), .val (.ref ob3), .unset, .unset] [(.ref ob3)])) rfl rfl (hb hby at_204)
  obtain ⟨cl83, Ar83, Q83, Sz83, Nn83, Ha83, Gf83⟩ := id V80
  have ghin83 : ¬ ((2 : Int32) < 0 ∨ cl83.slots.size ≤ ((2 : Int32)).toNatClampNeg) := inb_of Sz83 ⟨by decide, by decide⟩
  obtain ⟨T84, h84, X84, e84, W84, st84⟩ := stJ X82 hx hZ e82 Ar83 (j := (2 : Int32)) ghin83 (g := (mkF m 213 #[.val (.long ja), .second, .val (.long jb), .second, .val (.long jt), .second, .val (.ref ob1), .val (.ref ob3), .unset, .unset] [(.long (jb + (6 : Int64))), (.int (2 : Int32)), (.ref m2_9)])) rfl rfl (hb hby at_213)
  have V84 : Arv Z h84 m2_9 k2_9 .long (3 : Int32) [(.long (jb + (4 : Int64))), (.long (jb + (5 : Int64))), (.long (jb + (6 : Int64)))] (.long (0 : Int64)) := Arv.set Ar83 Q83 Sz83 Nn83 Ha83 Gf83 rfl W84 2 rfl (Nat.le_of_ble_eq_true rfl)
  have K84 : Keep h0 h84 [] := K80.wr W84 (Or.inr bo_m2_9)
  have N84 := Fr.snoc X84 N80 gn_m2_9
  have FF_ob3_violated_85 : Fld Z h84 ob3 "com/example/tracegauge/tracegauge/TraceTokens$Deviations" "violated" "[J" (.ref m3_9) := (((((((((((((((((Fa9_F_a1_violated.other W14 (Or.inl ne_m0_2_ob3.symm)).other W18 (Or.inl ne_m0_2_ob3.symm)).other W23 (Or.inl ne_m1_2_ob3.symm)).other W27 (Or.inl ne_m1_2_ob3.symm)).other W32 (Or.inl ne_m2_2_ob3.symm)).other W36 (Or.inl ne_m2_2_ob3.symm)).other W40 (Or.inl ne_m2_2_ob3.symm)).other W45 (Or.inl ne_m3_2_ob3.symm)).other W49 (Or.inl ne_m3_2_ob3.symm)).other W53 (Or.inl ne_m3_2_ob3.symm)).other W58 (Or.inl ne_ob3_m0_9)).other W62 (Or.inl ne_ob3_m0_9)).other W67 (Or.inl ne_ob3_m1_9)).other W71 (Or.inl ne_ob3_m1_9)).other W76 (Or.inl ne_ob3_m2_9)).other W80 (Or.inl ne_ob3_m2_9)).other W84 (Or.inl ne_ob3_m2_9))
  obtain ⟨T86, X86, e86, st86⟩ := getF X84 hx hZ hown (host := "") (Or.inl (hw _ (List.mem_of_getElem? (i := 26) rfl))) Via.refl e84 FF_ob3_violated_85 (g := (mkF m 216 #[.val (.long ja), .second, .val (.long jb), .second, .val (.long jt), .second, .val (.ref ob1), .val (.ref ob3), .unset, .unset] [(.ref ob3)])) rfl rfl (hb hby at_216)
  have FV_m3_9_87 : Arv Z h84 m3_9 k3_9 .long (3 : Int32) [(.long (0 : Int64)), (.long (0 : Int64)), (.long (0 : Int64))] (.long (0 : Int64)) := (((((((((((((((((Fa9_V_m3.other W14 ne_m0_2_m3_9.symm).other W18 ne_m0_2_m3_9.symm).other W23 ne_m1_2_m3_9.symm).other W27 ne_m1_2_m3_9.symm).other W32 ne_m2_2_m3_9.symm).other W36 ne_m2_2_m3_9.symm).other W40 ne_m2_2_m3_9.symm).other W45 ne_m3_2_m3_9.symm).other W49 ne_m3_2_m3_9.symm).other W53 ne_m3_2_m3_9.symm).other W58 hm03_9.symm).other W62 hm03_9.symm).other W67 hm13_9.symm).other W71 hm13_9.symm).other W76 hm23_9.symm).other W80 hm23_9.symm).other W84 hm23_9.symm)
  obtain ⟨cl88, Ar88, Q88, Sz88, Nn88, Ha88, Gf88⟩ := id FV_m3_9_87
  have ghin88 : ¬ ((0 : Int32) < 0 ∨ cl88.slots.size ≤ ((0 : Int32)).toNatClampNeg) := inb_of Sz88 ⟨by decide, by decide⟩
  obtain ⟨T89, h89, X89, e89, W89, st89⟩ := stJ X86 hx hZ e86 Ar88 (j := (0 : Int32)) ghin88 (g := (mkF m 225 #[.val (.long ja), .second, .val (.long jb), .second, .val (.long jt), .second, .val (.ref ob1), .val (.ref ob3), .unset, .unset] [(.long (jb + (7 : Int64))), (.int (0 : Int32)), (.ref m3_9)])) rfl rfl (hb hby at_225)
  have V89 : Arv Z h89 m3_9 k3_9 .long (3 : Int32) [(.long (jb + (7 : Int64))), (.long (0 : Int64)), (.long (0 : Int64))] (.long (0 : Int64)) := Arv.set Ar88 Q88 Sz88 Nn88 Ha88 Gf88 rfl W89 0 rfl (Nat.le_of_ble_eq_true rfl)
  have K89 : Keep h0 h89 [] := K84.wr W89 (Or.inr bo_m3_9)
  have N89 := Fr.snoc X89 N84 gn_m3_9
  have FF_ob3_violated_90 : Fld Z h89 ob3 "com/example/tracegauge/tracegauge/TraceTokens$Deviations" "violated" "[J" (.ref m3_9) := (FF_ob3_violated_85.other W89 (Or.inl ne_ob3_m3_9))
  obtain ⟨T91, X91, e91, st91⟩ := getF X89 hx hZ hown (host := "") (Or.inl (hw _ (List.mem_of_getElem? (i := 26) rfl))) Via.refl e89 FF_ob3_violated_90 (g := (mkF m 228 #[.val (.long ja), .second, .val (.long jb), .second, .val (.long jt), .second, .val (.ref ob1), .val (.ref ob3), .unset, .unset] [(.ref ob3)])) rfl rfl (hb hby at_228)
  obtain ⟨cl92, Ar92, Q92, Sz92, Nn92, Ha92, Gf92⟩ := id V89
  have ghin92 : ¬ ((1 : Int32) < 0 ∨ cl92.slots.size ≤ ((1 : Int32)).toNatClampNeg) := inb_of Sz92 ⟨by decide, by decide⟩
  obtain ⟨T93, h93, X93, e93, W93, st93⟩ := stJ X91 hx hZ e91 Ar92 (j := (1 : Int32)) ghin92 (g := (mkF m 237 #[.val (.long ja), .second, .val (.long jb), .second, .val (.long jt), .second, .val (.ref ob1), .val (.ref ob3), .unset, .unset] [(.long (jb + (8 : Int64))), (.int (1 : Int32)), (.ref m3_9)])) rfl rfl (hb hby at_237)
  have V93 : Arv Z h93 m3_9 k3_9 .long (3 : Int32) [(.long (jb + (7 : Int64))), (.long (jb + (8 : Int64))), (.long (0 : Int64))] (.long (0 : Int64)) := Arv.set Ar92 Q92 Sz92 Nn92 Ha92 Gf92 rfl W93 1 rfl (Nat.le_of_ble_eq_true rfl)
  have K93 : Keep h0 h93 [] := K89.wr W93 (Or.inr bo_m3_9)
  have N93 := Fr.snoc X93 N89 gn_m3_9
  have FF_ob3_violated_94 : Fld Z h93 ob3 "com/example/tracegauge/tracegauge/TraceTokens$Deviations" "violated" "[J" (.ref m3_9) := (FF_ob3_violated_90.other W93 (Or.inl ne_ob3_m3_9))
  obtain ⟨T95, X95, e95, st95⟩ := getF X93 hx hZ hown (host := "") (Or.inl (hw _ (List.mem_of_getElem? (i := 26) rfl))) Via.refl e93 FF_ob3_violated_94 (g := (mkF m 240 #[.val (.long ja), .second, .val (.long jb), .second, .val (.long jt), .second, .val (.ref ob1), .val (.ref ob3), .unset, .unset] [(.ref ob3)])) rfl rfl (hb hby at_240)
  obtain ⟨cl96, Ar96, Q96, Sz96, Nn96, Ha96, Gf96⟩ := id V93
  have ghin96 : ¬ ((2 : Int32) < 0 ∨ cl96.slots.size ≤ ((2 : Int32)).toNatClampNeg) := inb_of Sz96 ⟨by decide, by decide⟩
  obtain ⟨T97, h97, X97, e97, W97, st97⟩ := stJ X95 hx hZ e95 Ar96 (j := (2 : Int32)) ghin96 (g := (mkF m 249 #[.val (.long ja), .second, .val (.long jb), .second, .val (.long jt), .second, .val (.ref ob1), .val (.ref ob3), .unset, .unset] [(.long (jb + (9 : Int64))), (.int (2 : Int32)), (.ref m3_9)])) rfl rfl (hb hby at_249)
  have V97 : Arv Z h97 m3_9 k3_9 .long (3 : Int32) [(.long (jb + (7 : Int64))), (.long (jb + (8 : Int64))), (.long (jb + (9 : Int64)))] (.long (0 : Int64)) := Arv.set Ar96 Q96 Sz96 Nn96 Ha96 Gf96 rfl W97 2 rfl (Nat.le_of_ble_eq_true rfl)
  have K97 : Keep h0 h97 [] := K93.wr W97 (Or.inr bo_m3_9)
  have N97 := Fr.snoc X97 N93 gn_m3_9
  have FE_ob1_98 : Exa Z h97 ob1 "com/example/tracegauge/tracegauge/TraceTokens$Deviations" := (((((((((((((((((((((FE_ob1_4.keep K9).wr W14).wr W18).wr W23).wr W27).wr W32).wr W36).wr W40).wr W45).wr W49).wr W53).wr W58).wr W62).wr W67).wr W71).wr W76).wr W80).wr W84).wr W89).wr W93).wr W97)
  have FF_ob1_missing_99 : Fld Z h97 ob1 "com/example/tracegauge/tracegauge/TraceTokens$Deviations" "missing" "[J" (.ref m0_2) := (((((((((((((((((((FF_ob1_missing_15.other W18 (Or.inl ne_ob1_m0_2)).other W23 (Or.inl ne_ob1_m1_2)).other W27 (Or.inl ne_ob1_m1_2)).other W32 (Or.inl ne_ob1_m2_2)).other W36 (Or.inl ne_ob1_m2_2)).other W40 (Or.inl ne_ob1_m2_2)).other W45 (Or.inl ne_ob1_m3_2)).other W49 (Or.inl ne_ob1_m3_2)).other W53 (Or.inl ne_ob1_m3_2)).other W58 (Or.inl ne_ob1_m0_9)).other W62 (Or.inl ne_ob1_m0_9)).other W67 (Or.inl ne_ob1_m1_9)).other W71 (Or.inl ne_ob1_m1_9)).other W76 (Or.inl ne_ob1_m2_9)).other W80 (Or.inl ne_ob1_m2_9)).other W84 (Or.inl ne_ob1_m2_9)).other W89 (Or.inl ne_ob1_m3_9)).other W93 (Or.inl ne_ob1_m3_9)).other W97 (Or.inl ne_ob1_m3_9))
  have FF_ob1_remaining_100 : Fld Z h97 ob1 "com/example/tracegauge/tracegauge/TraceTokens$Deviations" "remaining" "[J" (.ref m1_2) := (((((((((((((((((FF_ob1_remaining_24.other W27 (Or.inl ne_ob1_m1_2)).other W32 (Or.inl ne_ob1_m2_2)).other W36 (Or.inl ne_ob1_m2_2)).other W40 (Or.inl ne_ob1_m2_2)).other W45 (Or.inl ne_ob1_m3_2)).other W49 (Or.inl ne_ob1_m3_2)).other W53 (Or.inl ne_ob1_m3_2)).other W58 (Or.inl ne_ob1_m0_9)).other W62 (Or.inl ne_ob1_m0_9)).other W67 (Or.inl ne_ob1_m1_9)).other W71 (Or.inl ne_ob1_m1_9)).other W76 (Or.inl ne_ob1_m2_9)).other W80 (Or.inl ne_ob1_m2_9)).other W84 (Or.inl ne_ob1_m2_9)).other W89 (Or.inl ne_ob1_m3_9)).other W93 (Or.inl ne_ob1_m3_9)).other W97 (Or.inl ne_ob1_m3_9))
  have FF_ob1_forced_101 : Fld Z h97 ob1 "com/example/tracegauge/tracegauge/TraceTokens$Deviations" "forced" "[J" (.ref m2_2) := ((((((((((((((FF_ob1_forced_37.other W40 (Or.inl ne_ob1_m2_2)).other W45 (Or.inl ne_ob1_m3_2)).other W49 (Or.inl ne_ob1_m3_2)).other W53 (Or.inl ne_ob1_m3_2)).other W58 (Or.inl ne_ob1_m0_9)).other W62 (Or.inl ne_ob1_m0_9)).other W67 (Or.inl ne_ob1_m1_9)).other W71 (Or.inl ne_ob1_m1_9)).other W76 (Or.inl ne_ob1_m2_9)).other W80 (Or.inl ne_ob1_m2_9)).other W84 (Or.inl ne_ob1_m2_9)).other W89 (Or.inl ne_ob1_m3_9)).other W93 (Or.inl ne_ob1_m3_9)).other W97 (Or.inl ne_ob1_m3_9))
  have FF_ob1_violated_102 : Fld Z h97 ob1 "com/example/tracegauge/tracegauge/TraceTokens$Deviations" "violated" "[J" (.ref m3_2) := (((((((((((FF_ob1_violated_50.other W53 (Or.inl ne_ob1_m3_2)).other W58 (Or.inl ne_ob1_m0_9)).other W62 (Or.inl ne_ob1_m0_9)).other W67 (Or.inl ne_ob1_m1_9)).other W71 (Or.inl ne_ob1_m1_9)).other W76 (Or.inl ne_ob1_m2_9)).other W80 (Or.inl ne_ob1_m2_9)).other W84 (Or.inl ne_ob1_m2_9)).other W89 (Or.inl ne_ob1_m3_9)).other W93 (Or.inl ne_ob1_m3_9)).other W97 (Or.inl ne_ob1_m3_9))
  have FV_m0_2_103 : Arv Z h97 m0_2 k0_2 .long (2 : Int32) [(.long ja), (.long (ja + (1 : Int64)))] (.long (0 : Int64)) := ((((((((((((((((((V18.other W23 hm01_2).other W27 hm01_2).other W32 hm02_2).other W36 hm02_2).other W40 hm02_2).other W45 hm03_2).other W49 hm03_2).other W53 hm03_2).other W58 ne_m0_2_m0_9).other W62 ne_m0_2_m0_9).other W67 ne_m0_2_m1_9).other W71 ne_m0_2_m1_9).other W76 ne_m0_2_m2_9).other W80 ne_m0_2_m2_9).other W84 ne_m0_2_m2_9).other W89 ne_m0_2_m3_9).other W93 ne_m0_2_m3_9).other W97 ne_m0_2_m3_9)
  have FV_m1_2_104 : Arv Z h97 m1_2 k1_2 .long (2 : Int32) [(.long (ja + (2 : Int64))), (.long (ja + (3 : Int64)))] (.long (0 : Int64)) := ((((((((((((((((V27.other W32 hm12_2).other W36 hm12_2).other W40 hm12_2).other W45 hm13_2).other W49 hm13_2).other W53 hm13_2).other W58 ne_m1_2_m0_9).other W62 ne_m1_2_m0_9).other W67 ne_m1_2_m1_9).other W71 ne_m1_2_m1_9).other W76 ne_m1_2_m2_9).other W80 ne_m1_2_m2_9).other W84 ne_m1_2_m2_9).other W89 ne_m1_2_m3_9).other W93 ne_m1_2_m3_9).other W97 ne_m1_2_m3_9)
  have FV_m2_2_105 : Arv Z h97 m2_2 k2_2 .long (3 : Int32) [(.long (ja + (4 : Int64))), (.long (ja + (5 : Int64))), (.long (ja + (6 : Int64)))] (.long (0 : Int64)) := (((((((((((((V40.other W45 hm23_2).other W49 hm23_2).other W53 hm23_2).other W58 ne_m2_2_m0_9).other W62 ne_m2_2_m0_9).other W67 ne_m2_2_m1_9).other W71 ne_m2_2_m1_9).other W76 ne_m2_2_m2_9).other W80 ne_m2_2_m2_9).other W84 ne_m2_2_m2_9).other W89 ne_m2_2_m3_9).other W93 ne_m2_2_m3_9).other W97 ne_m2_2_m3_9)
  have FV_m3_2_106 : Arv Z h97 m3_2 k3_2 .long (3 : Int32) [(.long (ja + (7 : Int64))), (.long (ja + (8 : Int64))), (.long (ja + (9 : Int64)))] (.long (0 : Int64)) := ((((((((((V53.other W58 ne_m3_2_m0_9).other W62 ne_m3_2_m0_9).other W67 ne_m3_2_m1_9).other W71 ne_m3_2_m1_9).other W76 ne_m3_2_m2_9).other W80 ne_m3_2_m2_9).other W84 ne_m3_2_m2_9).other W89 ne_m3_2_m3_9).other W93 ne_m3_2_m3_9).other W97 ne_m3_2_m3_9)
  have FE_ob3_107 : Exa Z h97 ob3 "com/example/tracegauge/tracegauge/TraceTokens$Deviations" := ((((((((((((((((((((Fa9_E_a1.wr W14).wr W18).wr W23).wr W27).wr W32).wr W36).wr W40).wr W45).wr W49).wr W53).wr W58).wr W62).wr W67).wr W71).wr W76).wr W80).wr W84).wr W89).wr W93).wr W97)
  have FF_ob3_missing_108 : Fld Z h97 ob3 "com/example/tracegauge/tracegauge/TraceTokens$Deviations" "missing" "[J" (.ref m0_9) := (((((((((FF_ob3_missing_59.other W62 (Or.inl ne_ob3_m0_9)).other W67 (Or.inl ne_ob3_m1_9)).other W71 (Or.inl ne_ob3_m1_9)).other W76 (Or.inl ne_ob3_m2_9)).other W80 (Or.inl ne_ob3_m2_9)).other W84 (Or.inl ne_ob3_m2_9)).other W89 (Or.inl ne_ob3_m3_9)).other W93 (Or.inl ne_ob3_m3_9)).other W97 (Or.inl ne_ob3_m3_9))
  have FF_ob3_remaining_109 : Fld Z h97 ob3 "com/example/tracegauge/tracegauge/TraceTokens$Deviations" "remaining" "[J" (.ref m1_9) := (((((((FF_ob3_remaining_68.other W71 (Or.inl ne_ob3_m1_9)).other W76 (Or.inl ne_ob3_m2_9)).other W80 (Or.inl ne_ob3_m2_9)).other W84 (Or.inl ne_ob3_m2_9)).other W89 (Or.inl ne_ob3_m3_9)).other W93 (Or.inl ne_ob3_m3_9)).other W97 (Or.inl ne_ob3_m3_9))
  have FF_ob3_forced_110 : Fld Z h97 ob3 "com/example/tracegauge/tracegauge/TraceTokens$Deviations" "forced" "[J" (.ref m2_9) := ((((FF_ob3_forced_81.other W84 (Or.inl ne_ob3_m2_9)).other W89 (Or.inl ne_ob3_m3_9)).other W93 (Or.inl ne_ob3_m3_9)).other W97 (Or.inl ne_ob3_m3_9))
  have FF_ob3_violated_111 : Fld Z h97 ob3 "com/example/tracegauge/tracegauge/TraceTokens$Deviations" "violated" "[J" (.ref m3_9) := (FF_ob3_violated_94.other W97 (Or.inl ne_ob3_m3_9))
  have FV_m0_9_112 : Arv Z h97 m0_9 k0_9 .long (2 : Int32) [(.long jb), (.long (jb + (1 : Int64)))] (.long (0 : Int64)) := ((((((((V62.other W67 hm01_9).other W71 hm01_9).other W76 hm02_9).other W80 hm02_9).other W84 hm02_9).other W89 hm03_9).other W93 hm03_9).other W97 hm03_9)
  have FV_m1_9_113 : Arv Z h97 m1_9 k1_9 .long (2 : Int32) [(.long (jb + (2 : Int64))), (.long (jb + (3 : Int64)))] (.long (0 : Int64)) := ((((((V71.other W76 hm12_9).other W80 hm12_9).other W84 hm12_9).other W89 hm13_9).other W93 hm13_9).other W97 hm13_9)
  have FV_m2_9_114 : Arv Z h97 m2_9 k2_9 .long (3 : Int32) [(.long (jb + (4 : Int64))), (.long (jb + (5 : Int64))), (.long (jb + (6 : Int64)))] (.long (0 : Int64)) := (((V84.other W89 hm23_9).other W93 hm23_9).other W97 hm23_9)
  have szn115 : n0 ≤ h97.size := (Nat.le_trans (Nat.le_trans (Nat.le_trans (Nat.le_trans (Nat.le_trans (Nat.le_trans (Nat.le_trans (Nat.le_trans (Nat.le_trans (Nat.le_trans (Nat.le_trans (Nat.le_trans (Nat.le_trans (Nat.le_trans (Nat.le_trans (Nat.le_trans (Nat.le_trans (Nat.le_trans (Nat.le_trans (Nat.le_trans sz9 (Keep.of_wr W14).1) (Keep.of_wr W18).1) (Keep.of_wr W23).1) (Keep.of_wr W27).1) (Keep.of_wr W32).1) (Keep.of_wr W36).1) (Keep.of_wr W40).1) (Keep.of_wr W45).1) (Keep.of_wr W49).1) (Keep.of_wr W53).1) (Keep.of_wr W58).1) (Keep.of_wr W62).1) (Keep.of_wr W67).1) (Keep.of_wr W71).1) (Keep.of_wr W76).1) (Keep.of_wr W80).1) (Keep.of_wr W84).1) (Keep.of_wr W89).1) (Keep.of_wr W93).1) (Keep.of_wr W97).1)
  obtain ⟨cq116, kq116, q116a, q116b, q116c⟩ := isOf hZ e97 FE_ob1_98
  obtain ⟨_, _, ⟨T116, tL116, tk116, tn116⟩, -, X116, ⟨Lc116, hQ116, tl116, ty116, tz116⟩, st116⟩ := X97.virtualBack hx (y := (⟨"com/example/tracegauge/tracegauge/TraceTokens$Deviations", "add", "(Lcom/example/tracegauge/tracegauge/TraceTokens$Deviations;J)V"⟩ : MethodName)) (z := (⟨"com/example/tracegauge/tracegauge/TraceTokens$Deviations", "add", "(Lcom/example/tracegauge/tracegauge/TraceTokens$Deviations;J)V"⟩ : MethodName)) hown (mvT hZ (hw _ (List.mem_of_getElem? (i := 30) rfl))) (mvT hZ (hw _ (List.mem_of_getElem? (i := 31) rfl))) (notFace_of_selects (args := #[]) (mvT hZ (hw _ (List.mem_of_getElem? (i := 33) rfl)))) (mvT hZ (hw _ (List.mem_of_getElem? (i := 33) rfl))) (mvT hZ (hw _ (List.mem_of_getElem? (i := 32) rfl))) (by decide) (backOf (W := 0) (own_rm3 l Z a0 hw [] ob1 ob3 jt m0_2 m1_2 m2_2 m3_2 k0_2 ja (ja + (1 : Int64)) k1_2 (ja + (2 : Int64)) (ja + (3 : Int64)) k2_2 (ja + (4 : Int64)) (ja + (5 : Int64)) (ja + (6 : Int64)) k3_2 (ja + (7 : Int64)) (ja + (8 : Int64)) (ja + (9 : Int64)) m0_9 m1_9 m2_9 m3_9 k0_9 jb (jb + (1 : Int64)) k1_9 (jb + (2 : Int64)) (jb + (3 : Int64)) k2_9 (jb + (4 : Int64)) (jb + (5 : Int64)) (jb + (6 : Int64)) k3_9 (jb + (7 : Int64)) (jb + (8 : Int64)) (jb + (9 : Int64)) h97 n0 szn115 FE_ob1_98 FF_ob1_missing_99 FF_ob1_remaining_100 FF_ob1_forced_101 FF_ob1_violated_102 FV_m0_2_103 FV_m1_2_104 FV_m2_2_105 FV_m3_2_106 FE_ob3_107 FF_ob3_missing_108 FF_ob3_remaining_109 FF_ob3_forced_110 FF_ob3_violated_111 FV_m0_9_112 FV_m1_9_113 FV_m2_9_114 V97 gn_m0_2 gn_m1_2 gn_m2_2 gn_m3_2 (ne_ob1_m0_2) (ne_m0_2_ob3.symm) (ne_m0_2_m0_9.symm) (hm01_2) (ne_m0_2_m1_9.symm) (hm02_2) (ne_m0_2_m2_9.symm) (hm03_2) (ne_m0_2_m3_9.symm) (ne_ob1_m1_2) (ne_m1_2_ob3.symm) (ne_m1_2_m0_9.symm) (ne_m1_2_m1_9.symm) (hm12_2) (ne_m1_2_m2_9.symm) (hm13_2) (ne_m1_2_m3_9.symm) (ne_ob1_m2_2) (ne_m2_2_ob3.symm) (ne_m2_2_m0_9.symm) (ne_m2_2_m1_9.symm) (ne_m2_2_m2_9.symm) (hm23_2) (ne_m2_2_m3_9.symm) (ne_ob1_m3_2) (ne_m3_2_ob3.symm) (ne_m3_2_m0_9.symm) (ne_m3_2_m1_9.symm) (ne_m3_2_m2_9.symm) (ne_m3_2_m3_9.symm)) hZ (hw _ (List.mem_of_getElem? (i := 34) rfl)) (hw _ (List.mem_of_getElem? (i := 2) rfl)) (by decide) (by decide)) q116a q116c (g := (mkF m 256 #[.val (.long ja), .second, .val (.long jb), .second, .val (.long jt), .second, .val (.ref ob1), .val (.ref ob3), .unset, .unset] [(.long jt), (.ref ob3), (.ref ob1)])) rfl (by rw [hml]; rfl) (Steps.refl _) (argsL := [(.ref ob3), (.long jt)]) (rest := []) (lenOf own_pd1 rfl) rfl (by show 2 * 0 + _ ≤ _; exact Nat.le_of_eq rfl) (hb hby at_256) (fun _ _ => ⟨rfl, e97, (by decide : 10 + 0 ≤ _), (by decide : 28 + 0 ≤ _)⟩)
  dsimp only [Pt.U, Pt.locs, Pt.cells, Pt.slots] at X116 tl116 ty116 tz116 st116 hQ116
  rw [tl116, ty116, tz116] at X116
  obtain ⟨rfl, Nq116, K116, Fa116_V_m0, Fa116_V_m1, Fa116_V_m2, Fa116_V_m3⟩ := hQ116
  have N116 := Fr.app N97 Nq116
  have sz116 : n0 ≤ T116.heap.size := Nat.le_trans szn115 K116.1
  have KK116 : Keep h0 T116.heap [] := K97.trans K116 (allS (Or.inr bo_m0_2) (allS (Or.inr bo_m1_2) (allS (Or.inr bo_m2_2) (allS (Or.inr bo_m3_2) all0))))
  have FF_ob1_missing_117 : Fld Z T116.heap ob1 "com/example/tracegauge/tracegauge/TraceTokens$Deviations" "missing" "[J" (.ref m0_2) := (FF_ob1_missing_99.keep K116 (ninS ne_ob1_m0_2 (ninS ne_ob1_m1_2 (ninS ne_ob1_m2_2 (ninS ne_ob1_m3_2 nin0)))))
  obtain ⟨T118, X118, e118, st118⟩ := getF X116 hx hZ hown (host := "") (Or.inl (hw _ (List.mem_of_getElem? (i := 18) rfl))) Via.refl rfl FF_ob1_missing_117 (g := (mkF m 261 #[.val (.long ja), .second, .val (.long jb), .second, .val (.long jt), .second, .val (.ref ob1), .val (.ref ob3), .unset, .unset] [(.ref ob1)])) rfl rfl (hb hby at_261)
  obtain ⟨cl119, Ar119, Q119, Sz119, Nn119, Ha119, Gf119⟩ := id Fa116_V_m0
  have ghin119 : ¬ ((0 : Int32) < 0 ∨ cl119.slots.size ≤ ((0 : Int32)).toNatClampNeg) := inb_of Sz119 ⟨by decide, by decide⟩
  have ghat119 : cl119.slots[((0 : Int32)).toNatClampNeg]? = some (.long (ja + (jb * jt))) := Ha119.at ghin119 rfl
  obtain ⟨_, _, ⟨T120, tL120, tk120, tn120⟩, -, X120, ⟨Lc120, hQ120, tl120, ty120, tz120⟩, st120⟩ := Jvm.LawKit.callS X118 hx (y := (⟨"com/example/tracegauge/tracegauge/TraceTokensAddPinLaw", "exp", "(JJJI)J"⟩ : MethodName)) hown (mvT hZ (hw _ (List.mem_of_getElem? (i := 35) rfl))) (mvT hZ (hw _ (List.mem_of_getElem? (i := 36) rfl))) (mvT hZ (hw _ (List.mem_of_getElem? (i := 37) rfl))) (mvT hZ (hw _ (List.mem_of_getElem? (i := 38) rfl))) (by decide) (backOf (W := 2) (own_rm4 l Z a0 hw [] ja jb jt (0 : Int32) T116.heap n0 sz116 ) hZ (hw _ (List.mem_of_getElem? (i := 38) rfl)) (hw _ (List.mem_of_getElem? (i := 37) rfl)) (by decide) (by decide)) (g := (mkF m 271 #[.val (.long ja), .second, .val (.long jb), .second, .val (.long jt), .second, .val (.ref ob1), .val (.ref ob3), .unset, .unset] [(.int (0 : Int32)), (.long jt), (.long jb), (.long ja), (.long (ja + (jb * jt)))])) rfl (by rw [hml]; rfl) (argsL := [(.long ja), (.long jb), (.long jt), (.int (0 : Int32))]) (rest := [(.long (ja + (jb * jt)))]) (lenOf own_pd2 rfl) rfl (by show 2 * 0 + _ ≤ _; exact Nat.le_of_eq rfl) (hb hby at_271) (fun _ _ => ⟨rfl, e118, (by decide : 10 + 0 ≤ _), (by decide : 28 + 0 ≤ _)⟩)
  dsimp only [Pt.U, Pt.locs, Pt.cells, Pt.slots] at X120 tl120 ty120 tz120 st120 hQ120
  rw [tl120, ty120, tz120] at X120
  obtain ⟨rfl, Nq120, K120⟩ := hQ120
  have N120 := Fr.app N116 Nq120
  obtain ⟨T121, X121, e121, st121⟩ := getF X120 hx hZ hown (host := "") (Or.inl (hw _ (List.mem_of_getElem? (i := 18) rfl))) Via.refl K120 FF_ob1_missing_117 (g := (mkF m 280 #[.val (.long ja), .second, .val (.long jb), .second, .val (.long jt), .second, .val (.ref ob1), .val (.ref ob3), .unset, .unset] [(.ref ob1)])) rfl rfl (hb hby at_280)
  obtain ⟨cl122, Ar122, Q122, Sz122, Nn122, Ha122, Gf122⟩ := id Fa116_V_m0
  have ghin122 : ¬ ((1 : Int32) < 0 ∨ cl122.slots.size ≤ ((1 : Int32)).toNatClampNeg) := inb_of Sz122 ⟨by decide, by decide⟩
  have ghat122 : cl122.slots[((1 : Int32)).toNatClampNeg]? = some (.long ((ja + (1 : Int64)) + ((jb + (1 : Int64)) * jt))) := Ha122.at ghin122 rfl
  obtain ⟨_, _, ⟨T123, tL123, tk123, tn123⟩, -, X123, ⟨Lc123, hQ123, tl123, ty123, tz123⟩, st123⟩ := Jvm.LawKit.callS X121 hx (y := (⟨"com/example/tracegauge/tracegauge/TraceTokensAddPinLaw", "exp", "(JJJI)J"⟩ : MethodName)) hown (mvT hZ (hw _ (List.mem_of_getElem? (i := 35) rfl))) (mvT hZ (hw _ (List.mem_of_getElem? (i := 36) rfl))) (mvT hZ (hw _ (List.mem_of_getElem? (i := 37) rfl))) (mvT hZ (hw _ (List.mem_of_getElem? (i := 38) rfl))) (by decide) (backOf (W := 2) (own_rm4 l Z a0 hw [] ja jb jt (1 : Int32) T116.heap n0 sz116 ) hZ (hw _ (List.mem_of_getElem? (i := 38) rfl)) (hw _ (List.mem_of_getElem? (i := 37) rfl)) (by decide) (by decide)) (g := (mkF m 290 #[.val (.long ja), .second, .val (.long jb), .second, .val (.long jt), .second, .val (.ref ob1), .val (.ref ob3), .unset, .unset] [(.int (1 : Int32)), (.long jt), (.long jb), (.long ja), (.long ((ja + (1 : Int64)) + ((jb + (1 : Int64)) * jt)))])) rfl (by rw [hml]; rfl) (argsL := [(.long ja), (.long jb), (.long jt), (.int (1 : Int32))]) (rest := [(.long ((ja + (1 : Int64)) + ((jb + (1 : Int64)) * jt)))]) (lenOf own_pd2 rfl) rfl (by show 2 * 0 + _ ≤ _; exact Nat.le_of_eq rfl) (hb hby at_290) (fun _ _ => ⟨rfl, e121, (by decide : 10 + 0 ≤ _), (by decide : 28 + 0 ≤ _)⟩)
  dsimp only [Pt.U, Pt.locs, Pt.cells, Pt.slots] at X123 tl123 ty123 tz123 st123 hQ123
  rw [tl123, ty123, tz123] at X123
  obtain ⟨rfl, Nq123, K123⟩ := hQ123
  have N123 := Fr.app N120 Nq123
  have FF_ob1_remaining_124 : Fld Z T116.heap ob1 "com/example/tracegauge/tracegauge/TraceTokens$Deviations" "remaining" "[J" (.ref m1_2) := (FF_ob1_remaining_100.keep K116 (ninS ne_ob1_m0_2 (ninS ne_ob1_m1_2 (ninS ne_ob1_m2_2 (ninS ne_ob1_m3_2 nin0)))))
  obtain ⟨T125, X125, e125, st125⟩ := getF X123 hx hZ hown (host := "") (Or.inl (hw _ (List.mem_of_getElem? (i := 19) rfl))) Via.refl K123 FF_ob1_remaining_124 (g := (mkF m 299 #[.val (.long ja), .second, .val (.long jb), .second, .val (.long jt), .second, .val (.ref ob1), .val (.ref ob3), .unset, .unset] [(.ref ob1)])) rfl rfl (hb hby at_299)
  obtain ⟨cl126, Ar126, Q126, Sz126, Nn126, Ha126, Gf126⟩ := id Fa116_V_m1
  have ghin126 : ¬ ((0 : Int32) < 0 ∨ cl126.slots.size ≤ ((0 : Int32)).toNatClampNeg) := inb_of Sz126 ⟨by decide, by decide⟩
  have ghat126 : cl126.slots[((0 : Int32)).toNatClampNeg]? = some (.long ((ja + (2 : Int64)) + ((jb + (2 : Int64)) * jt))) := Ha126.at ghin126 rfl
  obtain ⟨_, _, ⟨T127, tL127, tk127, tn127⟩, -, X127, ⟨Lc127, hQ127, tl127, ty127, tz127⟩, st127⟩ := Jvm.LawKit.callS X125 hx (y := (⟨"com/example/tracegauge/tracegauge/TraceTokensAddPinLaw", "exp", "(JJJI)J"⟩ : MethodName)) hown (mvT hZ (hw _ (List.mem_of_getElem? (i := 35) rfl))) (mvT hZ (hw _ (List.mem_of_getElem? (i := 36) rfl))) (mvT hZ (hw _ (List.mem_of_getElem? (i := 37) rfl))) (mvT hZ (hw _ (List.mem_of_getElem? (i := 38) rfl))) (by decide) (backOf (W := 2) (own_rm4 l Z a0 hw [] ja jb jt (2 : Int32) T116.heap n0 sz116 ) hZ (hw _ (List.mem_of_getElem? (i := 38) rfl)) (hw _ (List.mem_of_getElem? (i := 37) rfl)) (by decide) (by decide)) (g := (mkF m 309 #[.val (.long ja), .second, .val (.long jb), .second, .val (.long jt), .second, .val (.ref ob1), .val (.ref ob3), .unset, .unset] [(.int (2 : Int32)), (.long jt), (.long jb), (.long ja), (.long ((ja + (2 : Int64)) + ((jb + (2 : Int64)) * jt)))])) rfl (by rw [hml]; rfl) (argsL := [(.long ja), (.long jb), (.long jt), (.int (2 : Int32))]) (rest := [(.long ((ja + (2 : Int64)) + ((jb + (2 : Int64)) * jt)))]) (lenOf own_pd2 rfl) rfl (by show 2 * 0 + _ ≤ _; exact Nat.le_of_eq rfl) (hb hby at_309) (fun _ _ => ⟨rfl, e125, (by decide : 10 + 0 ≤ _), (by decide : 28 + 0 ≤ _)⟩)
  dsimp only [Pt.U, Pt.locs, Pt.cells, Pt.slots] at X127 tl127 ty127 tz127 st127 hQ127
  rw [tl127, ty127, tz127] at X127
  obtain ⟨rfl, Nq127, K127⟩ := hQ127
  have N127 := Fr.app N123 Nq127
  obtain ⟨T128, X128, e128, st128⟩ := getF X127 hx hZ hown (host := "") (Or.inl (hw _ (List.mem_of_getElem? (i := 19) rfl))) Via.refl K127 FF_ob1_remaining_124 (g := (mkF m 318 #[.val (.long ja), .second, .val (.long jb), .second, .val (.long jt), .second, .val (.ref ob1), .val (.ref ob3), .unset, .unset] [(.ref ob1)])) rfl rfl (hb hby at_318)
  obtain ⟨cl129, Ar129, Q129, Sz129, Nn129, Ha129, Gf129⟩ := id Fa116_V_m1
  have ghin129 : ¬ ((1 : Int32) < 0 ∨ cl129.slots.size ≤ ((1 : Int32)).toNatClampNeg) := inb_of Sz129 ⟨by decide, by decide⟩
  have ghat129 : cl129.slots[((1 : Int32)).toNatClampNeg]? = some (.long ((ja + (3 : Int64)) + ((jb + (3 : Int64)) * jt))) := Ha129.at ghin129 rfl
  obtain ⟨_, _, ⟨T130, tL130, tk130, tn130⟩, -, X130, ⟨Lc130, hQ130, tl130, ty130, tz130⟩, st130⟩ := Jvm.LawKit.callS X128 hx (y := (⟨"com/example/tracegauge/tracegauge/TraceTokensAddPinLaw", "exp", "(JJJI)J"⟩ : MethodName)) hown (mvT hZ (hw _ (List.mem_of_getElem? (i := 35) rfl))) (mvT hZ (hw _ (List.mem_of_getElem? (i := 36) rfl))) (mvT hZ (hw _ (List.mem_of_getElem? (i := 37) rfl))) (mvT hZ (hw _ (List.mem_of_getElem? (i := 38) rfl))) (by decide) (backOf (W := 2) (own_rm4 l Z a0 hw [] ja jb jt (3 : Int32) T116.heap n0 sz116 ) hZ (hw _ (List.mem_of_getElem? (i := 38) rfl)) (hw _ (List.mem_of_getElem? (i := 37) rfl)) (by decide) (by decide)) (g := (mkF m 328 #[.val (.long ja), .second, .val (.long jb), .second, .val (.long jt), .second, .val (.ref ob1), .val (.ref ob3), .unset, .unset] [(.int (3 : Int32)), (.long jt), (.long jb), (.long ja), (.long ((ja + (3 : Int64)) + ((jb + (3 : Int64)) * jt)))])) rfl (by rw [hml]; rfl) (argsL := [(.long ja), (.long jb), (.long jt), (.int (3 : Int32))]) (rest := [(.long ((ja + (3 : Int64)) + ((jb + (3 : Int64)) * jt)))]) (lenOf own_pd2 rfl) rfl (by show 2 * 0 + _ ≤ _; exact Nat.le_of_eq rfl) (hb hby at_328) (fun _ _ => ⟨rfl, e128, (by decide : 10 + 0 ≤ _), (by decide : 28 + 0 ≤ _)⟩)
  dsimp only [Pt.U, Pt.locs, Pt.cells, Pt.slots] at X130 tl130 ty130 tz130 st130 hQ130
  rw [tl130, ty130, tz130] at X130
  obtain ⟨rfl, Nq130, K130⟩ := hQ130
  have N130 := Fr.app N127 Nq130
  have FF_ob1_forced_131 : Fld Z T116.heap ob1 "com/example/tracegauge/tracegauge/TraceTokens$Deviations" "forced" "[J" (.ref m2_2) := (FF_ob1_forced_101.keep K116 (ninS ne_ob1_m0_2 (ninS ne_ob1_m1_2 (ninS ne_ob1_m2_2 (ninS ne_ob1_m3_2 nin0)))))
  obtain ⟨T132, X132, e132, st132⟩ := getF X130 hx hZ hown (host := "") (Or.inl (hw _ (List.mem_of_getElem? (i := 22) rfl))) Via.refl K130 FF_ob1_forced_131 (g := (mkF m 337 #[.val (.long ja), .second, .val (.long jb), .second, .val (.long jt), .second, .val (.ref ob1), .val (.ref ob3), .unset, .unset] [(.ref ob1)])) rfl rfl (hb hby at_337)
  obtain ⟨cl133, Ar133, Q133, Sz133, Nn133, Ha133, Gf133⟩ := id Fa116_V_m2
  have ghin133 : ¬ ((0 : Int32) < 0 ∨ cl133.slots.size ≤ ((0 : Int32)).toNatClampNeg) := inb_of Sz133 ⟨by decide, by decide⟩
  have ghat133 : cl133.slots[((0 : Int32)).toNatClampNeg]? = some (.long ((ja + (4 : Int64)) + ((jb + (4 : Int64)) * jt))) := Ha133.at ghin133 rfl
  obtain ⟨_, _, ⟨T134, tL134, tk134, tn134⟩, -, X134, ⟨Lc134, hQ134, tl134, ty134, tz134⟩, st134⟩ := Jvm.LawKit.callS X132 hx (y := (⟨"com/example/tracegauge/tracegauge/TraceTokensAddPinLaw", "exp", "(JJJI)J"⟩ : MethodName)) hown (mvT hZ (hw _ (List.mem_of_getElem? (i := 35) rfl))) (mvT hZ (hw _ (List.mem_of_getElem? (i := 36) rfl))) (mvT hZ (hw _ (List.mem_of_getElem? (i := 37) rfl))) (mvT hZ (hw _ (List.mem_of_getElem? (i := 38) rfl))) (by decide) (backOf (W := 2) (own_rm4 l Z a0 hw [] ja jb jt (4 : Int32) T116.heap n0 sz116 ) hZ (hw _ (List.mem_of_getElem? (i := 38) rfl)) (hw _ (List.mem_of_getElem? (i := 37) rfl)) (by decide) (by decide)) (g := (mkF m 347 #[.val (.long ja), .second, .val (.long jb), .second, .val (.long jt), .second, .val (.ref ob1), .val (.ref ob3), .unset, .unset] [(.int (4 : Int32)), (.long jt), (.long jb), (.long ja), (.long ((ja + (4 : Int64)) + ((jb + (4 : Int64)) * jt)))])) rfl (by rw [hml]; rfl) (argsL := [(.long ja), (.long jb), (.long jt), (.int (4 : Int32))]) (rest := [(.long ((ja + (4 : Int64)) + ((jb + (4 : Int64)) * jt)))]) (lenOf own_pd2 rfl) rfl (by show 2 * 0 + _ ≤ _; exact Nat.le_of_eq rfl) (hb hby at_347) (fun _ _ => ⟨rfl, e132, (by decide : 10 + 0 ≤ _), (by decide : 28 + 0 ≤ _)⟩)
  dsimp only [Pt.U, Pt.locs, Pt.cells, Pt.slots] at X134 tl134 ty134 tz134 st134 hQ134
  rw [tl134, ty134, tz134] at X134
  obtain ⟨rfl, Nq134, K134⟩ := hQ134
  have N134 := Fr.app N130 Nq134
  obtain ⟨T135, X135, e135, st135⟩ := getF X134 hx hZ hown (host := "") (Or.inl (hw _ (List.mem_of_getElem? (i := 22) rfl))) Via.refl K134 FF_ob1_forced_131 (g := (mkF m 356 #[.val (.long ja), .second, .val (.long jb), .second, .val (.long jt), .second, .val (.ref ob1), .val (.ref ob3), .unset, .unset] [(.ref ob1)])) rfl rfl (hb hby at_356)
  obtain ⟨cl136, Ar136, Q136, Sz136, Nn136, Ha136, Gf136⟩ := id Fa116_V_m2
  have ghin136 : ¬ ((1 : Int32) < 0 ∨ cl136.slots.size ≤ ((1 : Int32)).toNatClampNeg) := inb_of Sz136 ⟨by decide, by decide⟩
  have ghat136 : cl136.slots[((1 : Int32)).toNatClampNeg]? = some (.long ((ja + (5 : Int64)) + ((jb + (5 : Int64)) * jt))) := Ha136.at ghin136 rfl
  obtain ⟨_, _, ⟨T137, tL137, tk137, tn137⟩, -, X137, ⟨Lc137, hQ137, tl137, ty137, tz137⟩, st137⟩ := Jvm.LawKit.callS X135 hx (y := (⟨"com/example/tracegauge/tracegauge/TraceTokensAddPinLaw", "exp", "(JJJI)J"⟩ : MethodName)) hown (mvT hZ (hw _ (List.mem_of_getElem? (i := 35) rfl))) (mvT hZ (hw _ (List.mem_of_getElem? (i := 36) rfl))) (mvT hZ (hw _ (List.mem_of_getElem? (i := 37) rfl))) (mvT hZ (hw _ (List.mem_of_getElem? (i := 38) rfl))) (by decide) (backOf (W := 2) (own_rm4 l Z a0 hw [] ja jb jt (5 : Int32) T116.heap n0 sz116 ) hZ (hw _ (List.mem_of_getElem? (i := 38) rfl)) (hw _ (List.mem_of_getElem? (i := 37) rfl)) (by decide) (by decide)) (g := (mkF m 366 #[.val (.long ja), .second, .val (.long jb), .second, .val (.long jt), .second, .val (.ref ob1), .val (.ref ob3), .unset, .unset] [(.int (5 : Int32)), (.long jt), (.long jb), (.long ja), (.long ((ja + (5 : Int64)) + ((jb + (5 : Int64)) * jt)))])) rfl (by rw [hml]; rfl) (argsL := [(.long ja), (.long jb), (.long jt), (.int (5 : Int32))]) (rest := [(.long ((ja + (5 : Int64)) + ((jb + (5 : Int64)) * jt)))]) (lenOf own_pd2 rfl) rfl (by show 2 * 0 + _ ≤ _; exact Nat.le_of_eq rfl) (hb hby at_366) (fun _ _ => ⟨rfl, e135, (by decide : 10 + 0 ≤ _), (by decide : 28 + 0 ≤ _)⟩)
  dsimp only [Pt.U, Pt.locs, Pt.cells, Pt.slots] at X137 tl137 ty137 tz137 st137 hQ137
  rw [tl137, ty137, tz137] at X137
  obtain ⟨rfl, Nq137, K137⟩ := hQ137
  have N137 := Fr.app N134 Nq137
  obtain ⟨T138, X138, e138, st138⟩ := getF X137 hx hZ hown (host := "") (Or.inl (hw _ (List.mem_of_getElem? (i := 22) rfl))) Via.refl K137 FF_ob1_forced_131 (g := (mkF m 375 #[.val (.long ja), .second, .val (.long jb), .second, .val (.long jt), .second, .val (.ref ob1), .val (.ref ob3), .unset, .unset] [(.ref ob1)])) rfl rfl (hb hby at_375)
  obtain ⟨cl139, Ar139, Q139, Sz139, Nn139, Ha139, Gf139⟩ := id Fa116_V_m2
  have ghin139 : ¬ ((2 : Int32) < 0 ∨ cl139.slots.size ≤ ((2 : Int32)).toNatClampNeg) := inb_of Sz139 ⟨by decide, by decide⟩
  have ghat139 : cl139.slots[((2 : Int32)).toNatClampNeg]? = some (.long ((ja + (6 : Int64)) + ((jb + (6 : Int64)) * jt))) := Ha139.at ghin139 rfl
  obtain ⟨_, _, ⟨T140, tL140, tk140, tn140⟩, -, X140, ⟨Lc140, hQ140, tl140, ty140, tz140⟩, st140⟩ := Jvm.LawKit.callS X138 hx (y := (⟨"com/example/tracegauge/tracegauge/TraceTokensAddPinLaw", "exp", "(JJJI)J"⟩ : MethodName)) hown (mvT hZ (hw _ (List.mem_of_getElem? (i := 35) rfl))) (mvT hZ (hw _ (List.mem_of_getElem? (i := 36) rfl))) (mvT hZ (hw _ (List.mem_of_getElem? (i := 37) rfl))) (mvT hZ (hw _ (List.mem_of_getElem? (i := 38) rfl))) (by decide) (backOf (W := 2) (own_rm4 l Z a0 hw [] ja jb jt (6 : Int32) T116.heap n0 sz116 ) hZ (hw _ (List.mem_of_getElem? (i := 38) rfl)) (hw _ (List.mem_of_getElem? (i := 37) rfl)) (by decide) (by decide)) (g := (mkF m 386 #[.val (.long ja), .second, .val (.long jb), .second, .val (.long jt), .second, .val (.ref ob1), .val (.ref ob3), .unset, .unset] [(.int (6 : Int32)), (.long jt), (.long jb), (.long ja), (.long ((ja + (6 : Int64)) + ((jb + (6 : Int64)) * jt)))])) rfl (by rw [hml]; rfl) (argsL := [(.long ja), (.long jb), (.long jt), (.int (6 : Int32))]) (rest := [(.long ((ja + (6 : Int64)) + ((jb + (6 : Int64)) * jt)))]) (lenOf own_pd2 rfl) rfl (by show 2 * 0 + _ ≤ _; exact Nat.le_of_eq rfl) (hb hby at_386) (fun _ _ => ⟨rfl, e138, (by decide : 10 + 0 ≤ _), (by decide : 28 + 0 ≤ _)⟩)
  dsimp only [Pt.U, Pt.locs, Pt.cells, Pt.slots] at X140 tl140 ty140 tz140 st140 hQ140
  rw [tl140, ty140, tz140] at X140
  obtain ⟨rfl, Nq140, K140⟩ := hQ140
  have N140 := Fr.app N137 Nq140
  have FF_ob1_violated_141 : Fld Z T116.heap ob1 "com/example/tracegauge/tracegauge/TraceTokens$Deviations" "violated" "[J" (.ref m3_2) := (FF_ob1_violated_102.keep K116 (ninS ne_ob1_m0_2 (ninS ne_ob1_m1_2 (ninS ne_ob1_m2_2 (ninS ne_ob1_m3_2 nin0)))))
  obtain ⟨T142, X142, e142, st142⟩ := getF X140 hx hZ hown (host := "") (Or.inl (hw _ (List.mem_of_getElem? (i := 26) rfl))) Via.refl K140 FF_ob1_violated_141 (g := (mkF m 395 #[.val (.long ja), .second, .val (.long jb), .second, .val (.long jt), .second, .val (.ref ob1), .val (.ref ob3), .unset, .unset] [(.ref ob1)])) rfl rfl (hb hby at_395)
  obtain ⟨cl143, Ar143, Q143, Sz143, Nn143, Ha143, Gf143⟩ := id Fa116_V_m3
  have ghin143 : ¬ ((0 : Int32) < 0 ∨ cl143.slots.size ≤ ((0 : Int32)).toNatClampNeg) := inb_of Sz143 ⟨by decide, by decide⟩
  have ghat143 : cl143.slots[((0 : Int32)).toNatClampNeg]? = some (.long ((ja + (7 : Int64)) + ((jb + (7 : Int64)) * jt))) := Ha143.at ghin143 rfl
  obtain ⟨_, _, ⟨T144, tL144, tk144, tn144⟩, -, X144, ⟨Lc144, hQ144, tl144, ty144, tz144⟩, st144⟩ := Jvm.LawKit.callS X142 hx (y := (⟨"com/example/tracegauge/tracegauge/TraceTokensAddPinLaw", "exp", "(JJJI)J"⟩ : MethodName)) hown (mvT hZ (hw _ (List.mem_of_getElem? (i := 35) rfl))) (mvT hZ (hw _ (List.mem_of_getElem? (i := 36) rfl))) (mvT hZ (hw _ (List.mem_of_getElem? (i := 37) rfl))) (mvT hZ (hw _ (List.mem_of_getElem? (i := 38) rfl))) (by decide) (backOf (W := 2) (own_rm4 l Z a0 hw [] ja jb jt (7 : Int32) T116.heap n0 sz116 ) hZ (hw _ (List.mem_of_getElem? (i := 38) rfl)) (hw _ (List.mem_of_getElem? (i := 37) rfl)) (by decide) (by decide)) (g := (mkF m 406 #[.val (.long ja), .second, .val (.long jb), .second, .val (.long jt), .second, .val (.ref ob1), .val (.ref ob3), .unset, .unset] [(.int (7 : Int32)), (.long jt), (.long jb), (.long ja), (.long ((ja + (7 : Int64)) + ((jb + (7 : Int64)) * jt)))])) rfl (by rw [hml]; rfl) (argsL := [(.long ja), (.long jb), (.long jt), (.int (7 : Int32))]) (rest := [(.long ((ja + (7 : Int64)) + ((jb + (7 : Int64)) * jt)))]) (lenOf own_pd2 rfl) rfl (by show 2 * 0 + _ ≤ _; exact Nat.le_of_eq rfl) (hb hby at_406) (fun _ _ => ⟨rfl, e142, (by decide : 10 + 0 ≤ _), (by decide : 28 + 0 ≤ _)⟩)
  dsimp only [Pt.U, Pt.locs, Pt.cells, Pt.slots] at X144 tl144 ty144 tz144 st144 hQ144
  rw [tl144, ty144, tz144] at X144
  obtain ⟨rfl, Nq144, K144⟩ := hQ144
  have N144 := Fr.app N140 Nq144
  obtain ⟨T145, X145, e145, st145⟩ := getF X144 hx hZ hown (host := "") (Or.inl (hw _ (List.mem_of_getElem? (i := 26) rfl))) Via.refl K144 FF_ob1_violated_141 (g := (mkF m 415 #[.val (.long ja), .second, .val (.long jb), .second, .val (.long jt), .second, .val (.ref ob1), .val (.ref ob3), .unset, .unset] [(.ref ob1)])) rfl rfl (hb hby at_415)
  obtain ⟨cl146, Ar146, Q146, Sz146, Nn146, Ha146, Gf146⟩ := id Fa116_V_m3
  have ghin146 : ¬ ((1 : Int32) < 0 ∨ cl146.slots.size ≤ ((1 : Int32)).toNatClampNeg) := inb_of Sz146 ⟨by decide, by decide⟩
  have ghat146 : cl146.slots[((1 : Int32)).toNatClampNeg]? = some (.long ((ja + (8 : Int64)) + ((jb + (8 : Int64)) * jt))) := Ha146.at ghin146 rfl
  obtain ⟨_, _, ⟨T147, tL147, tk147, tn147⟩, -, X147, ⟨Lc147, hQ147, tl147, ty147, tz147⟩, st147⟩ := Jvm.LawKit.callS X145 hx (y := (⟨"com/example/tracegauge/tracegauge/TraceTokensAddPinLaw", "exp", "(JJJI)J"⟩ : MethodName)) hown (mvT hZ (hw _ (List.mem_of_getElem? (i := 35) rfl))) (mvT hZ (hw _ (List.mem_of_getElem? (i := 36) rfl))) (mvT hZ (hw _ (List.mem_of_getElem? (i := 37) rfl))) (mvT hZ (hw _ (List.mem_of_getElem? (i := 38) rfl))) (by decide) (backOf (W := 2) (own_rm4 l Z a0 hw [] ja jb jt (8 : Int32) T116.heap n0 sz116 ) hZ (hw _ (List.mem_of_getElem? (i := 38) rfl)) (hw _ (List.mem_of_getElem? (i := 37) rfl)) (by decide) (by decide)) (g := (mkF m 426 #[.val (.long ja), .second, .val (.long jb), .second, .val (.long jt), .second, .val (.ref ob1), .val (.ref ob3), .unset, .unset] [(.int (8 : Int32)), (.long jt), (.long jb), (.long ja), (.long ((ja + (8 : Int64)) + ((jb + (8 : Int64)) * jt)))])) rfl (by rw [hml]; rfl) (argsL := [(.long ja), (.long jb), (.long jt), (.int (8 : Int32))]) (rest := [(.long ((ja + (8 : Int64)) + ((jb + (8 : Int64)) * jt)))]) (lenOf own_pd2 rfl) rfl (by show 2 * 0 + _ ≤ _; exact Nat.le_of_eq rfl) (hb hby at_426) (fun _ _ => ⟨rfl, e145, (by decide : 10 + 0 ≤ _), (by decide : 28 + 0 ≤ _)⟩)
  dsimp only [Pt.U, Pt.locs, Pt.cells, Pt.slots] at X147 tl147 ty147 tz147 st147 hQ147
  rw [tl147, ty147, tz147] at X147
  obtain ⟨rfl, Nq147, K147⟩ := hQ147
  have N147 := Fr.app N144 Nq147
  obtain ⟨T148, X148, e148, st148⟩ := getF X147 hx hZ hown (host := "") (Or.inl (hw _ (List.mem_of_getElem? (i := 26) rfl))) Via.refl K147 FF_ob1_violated_141 (g := (mkF m 435 #[.val (.long ja), .second, .val (.long jb), .second, .val (.long jt), .second, .val (.ref ob1), .val (.ref ob3), .unset, .unset] [(.ref ob1)])) rfl rfl (hb hby at_435)
  obtain ⟨cl149, Ar149, Q149, Sz149, Nn149, Ha149, Gf149⟩ := id Fa116_V_m3
  have ghin149 : ¬ ((2 : Int32) < 0 ∨ cl149.slots.size ≤ ((2 : Int32)).toNatClampNeg) := inb_of Sz149 ⟨by decide, by decide⟩
  have ghat149 : cl149.slots[((2 : Int32)).toNatClampNeg]? = some (.long ((ja + (9 : Int64)) + ((jb + (9 : Int64)) * jt))) := Ha149.at ghin149 rfl
  obtain ⟨_, _, ⟨T150, tL150, tk150, tn150⟩, -, X150, ⟨Lc150, hQ150, tl150, ty150, tz150⟩, st150⟩ := Jvm.LawKit.callS X148 hx (y := (⟨"com/example/tracegauge/tracegauge/TraceTokensAddPinLaw", "exp", "(JJJI)J"⟩ : MethodName)) hown (mvT hZ (hw _ (List.mem_of_getElem? (i := 35) rfl))) (mvT hZ (hw _ (List.mem_of_getElem? (i := 36) rfl))) (mvT hZ (hw _ (List.mem_of_getElem? (i := 37) rfl))) (mvT hZ (hw _ (List.mem_of_getElem? (i := 38) rfl))) (by decide) (backOf (W := 2) (own_rm4 l Z a0 hw [] ja jb jt (9 : Int32) T116.heap n0 sz116 ) hZ (hw _ (List.mem_of_getElem? (i := 38) rfl)) (hw _ (List.mem_of_getElem? (i := 37) rfl)) (by decide) (by decide)) (g := (mkF m 446 #[.val (.long ja), .second, .val (.long jb), .second, .val (.long jt), .second, .val (.ref ob1), .val (.ref ob3), .unset, .unset] [(.int (9 : Int32)), (.long jt), (.long jb), (.long ja), (.long ((ja + (9 : Int64)) + ((jb + (9 : Int64)) * jt)))])) rfl (by rw [hml]; rfl) (argsL := [(.long ja), (.long jb), (.long jt), (.int (9 : Int32))]) (rest := [(.long ((ja + (9 : Int64)) + ((jb + (9 : Int64)) * jt)))]) (lenOf own_pd2 rfl) rfl (by show 2 * 0 + _ ≤ _; exact Nat.le_of_eq rfl) (hb hby at_446) (fun _ _ => ⟨rfl, e148, (by decide : 10 + 0 ≤ _), (by decide : 28 + 0 ≤ _)⟩)
  dsimp only [Pt.U, Pt.locs, Pt.cells, Pt.slots] at X150 tl150 ty150 tz150 st150 hQ150
  rw [tl150, ty150, tz150] at X150
  obtain ⟨rfl, Nq150, K150⟩ := hQ150
  have N150 := Fr.app N147 Nq150
  have FF_ob3_missing_151 : Fld Z T116.heap ob3 "com/example/tracegauge/tracegauge/TraceTokens$Deviations" "missing" "[J" (.ref m0_9) := (FF_ob3_missing_108.keep K116 (ninS ne_m0_2_ob3.symm (ninS ne_m1_2_ob3.symm (ninS ne_m2_2_ob3.symm (ninS ne_m3_2_ob3.symm nin0)))))
  obtain ⟨T152, X152, e152, st152⟩ := getF X150 hx hZ hown (host := "") (Or.inl (hw _ (List.mem_of_getElem? (i := 18) rfl))) Via.refl K150 FF_ob3_missing_151 (g := (mkF m 462 #[.val (.long ja), .second, .val (.long jb), .second, .val (.long jt), .second, .val (.ref ob1), .val (.ref ob3), .val (.int (1 : Int32)), .unset] [(.ref ob3)])) rfl rfl (hb hby at_462)
  have FV_m0_9_153 : Arv Z T116.heap m0_9 k0_9 .long (2 : Int32) [(.long jb), (.long (jb + (1 : Int64)))] (.long (0 : Int64)) := (FV_m0_9_112.keep K116 (ninS ne_m0_2_m0_9.symm (ninS ne_m1_2_m0_9.symm (ninS ne_m2_2_m0_9.symm (ninS ne_m3_2_m0_9.symm nin0)))))
  obtain ⟨cl154, Ar154, Q154, Sz154, Nn154, Ha154, Gf154⟩ := id FV_m0_9_153
  have ghin154 : ¬ ((0 : Int32) < 0 ∨ cl154.slots.size ≤ ((0 : Int32)).toNatClampNeg) := inb_of Sz154 ⟨by decide, by decide⟩
  have ghat154 : cl154.slots[((0 : Int32)).toNatClampNeg]? = some (.long jb) := Ha154.at ghin154 rfl
  obtain ⟨T155, X155, e155, st155⟩ := getF X152 hx hZ hown (host := "") (Or.inl (hw _ (List.mem_of_getElem? (i := 18) rfl))) Via.refl e152 FF_ob3_missing_151 (g := (mkF m 474 #[.val (.long ja), .second, .val (.long jb), .second, .val (.long jt), .second, .val (.ref ob1), .val (.ref ob3), .val (.int (1 : Int32)), .unset] [(.ref ob3)])) rfl rfl (hb hby at_474)
  obtain ⟨cl156, Ar156, Q156, Sz156, Nn156, Ha156, Gf156⟩ := id FV_m0_9_153
  have ghin156 : ¬ ((1 : Int32) < 0 ∨ cl156.slots.size ≤ ((1 : Int32)).toNatClampNeg) := inb_of Sz156 ⟨by decide, by decide⟩
  have ghat156 : cl156.slots[((1 : Int32)).toNatClampNeg]? = some (.long (jb + (1 : Int64))) := Ha156.at ghin156 rfl
  have FF_ob3_remaining_157 : Fld Z T116.heap ob3 "com/example/tracegauge/tracegauge/TraceTokens$Deviations" "remaining" "[J" (.ref m1_9) := (FF_ob3_remaining_109.keep K116 (ninS ne_m0_2_ob3.symm (ninS ne_m1_2_ob3.symm (ninS ne_m2_2_ob3.symm (ninS ne_m3_2_ob3.symm nin0)))))
  obtain ⟨T158, X158, e158, st158⟩ := getF X155 hx hZ hown (host := "") (Or.inl (hw _ (List.mem_of_getElem? (i := 19) rfl))) Via.refl e155 FF_ob3_remaining_157 (g := (mkF m 488 #[.val (.long ja), .second, .val (.long jb), .second, .val (.long jt), .second, .val (.ref ob1), .val (.ref ob3), .val (.int (1 : Int32)), .unset] [(.ref ob3)])) rfl rfl (hb hby at_488)
  have FV_m1_9_159 : Arv Z T116.heap m1_9 k1_9 .long (2 : Int32) [(.long (jb + (2 : Int64))), (.long (jb + (3 : Int64)))] (.long (0 : Int64)) := (FV_m1_9_113.keep K116 (ninS ne_m0_2_m1_9.symm (ninS ne_m1_2_m1_9.symm (ninS ne_m2_2_m1_9.symm (ninS ne_m3_2_m1_9.symm nin0)))))
  obtain ⟨cl160, Ar160, Q160, Sz160, Nn160, Ha160, Gf160⟩ := id FV_m1_9_159
  have ghin160 : ¬ ((0 : Int32) < 0 ∨ cl160.slots.size ≤ ((0 : Int32)).toNatClampNeg) := inb_of Sz160 ⟨by decide, by decide⟩
  have ghat160 : cl160.slots[((0 : Int32)).toNatClampNeg]? = some (.long (jb + (2 : Int64))) := Ha160.at ghin160 rfl
  obtain ⟨T161, X161, e161, st161⟩ := getF X158 hx hZ hown (host := "") (Or.inl (hw _ (List.mem_of_getElem? (i := 19) rfl))) Via.refl e158 FF_ob3_remaining_157 (g := (mkF m 504 #[.val (.long ja), .second, .val (.long jb), .second, .val (.long jt), .second, .val (.ref ob1), .val (.ref ob3), .val (.int (1 : Int32)), .unset] [(.ref ob3)])) rfl rfl (hb hby at_504)
  obtain ⟨cl162, Ar162, Q162, Sz162, Nn162, Ha162, Gf162⟩ := id FV_m1_9_159
  have ghin162 : ¬ ((1 : Int32) < 0 ∨ cl162.slots.size ≤ ((1 : Int32)).toNatClampNeg) := inb_of Sz162 ⟨by decide, by decide⟩
  have ghat162 : cl162.slots[((1 : Int32)).toNatClampNeg]? = some (.long (jb + (3 : Int64))) := Ha162.at ghin162 rfl
  have FF_ob3_forced_163 : Fld Z T116.heap ob3 "com/example/tracegauge/tracegauge/TraceTokens$Deviations" "forced" "[J" (.ref m2_9) := (FF_ob3_forced_110.keep K116 (ninS ne_m0_2_ob3.symm (ninS ne_m1_2_ob3.symm (ninS ne_m2_2_ob3.symm (ninS ne_m3_2_ob3.symm nin0)))))
  obtain ⟨T164, X164, e164, st164⟩ := getF X161 hx hZ hown (host := "") (Or.inl (hw _ (List.mem_of_getElem? (i := 22) rfl))) Via.refl e161 FF_ob3_forced_163 (g := (mkF m 520 #[.val (.long ja), .second, .val (.long jb), .second, .val (.long jt), .second, .val (.ref ob1), .val (.ref ob3), .val (.int (1 : Int32)), .unset] [(.ref ob3)])) rfl rfl (hb hby at_520)
  have FV_m2_9_165 : Arv Z T116.heap m2_9 k2_9 .long (3 : Int32) [(.long (jb + (4 : Int64))), (.long (jb + (5 : Int64))), (.long (jb + (6 : Int64)))] (.long (0 : Int64)) := (FV_m2_9_114.keep K116 (ninS ne_m0_2_m2_9.symm (ninS ne_m1_2_m2_9.symm (ninS ne_m2_2_m2_9.symm (ninS ne_m3_2_m2_9.symm nin0)))))
  obtain ⟨cl166, Ar166, Q166, Sz166, Nn166, Ha166, Gf166⟩ := id FV_m2_9_165
  have ghin166 : ¬ ((0 : Int32) < 0 ∨ cl166.slots.size ≤ ((0 : Int32)).toNatClampNeg) := inb_of Sz166 ⟨by decide, by decide⟩
  have ghat166 : cl166.slots[((0 : Int32)).toNatClampNeg]? = some (.long (jb + (4 : Int64))) := Ha166.at ghin166 rfl
  obtain ⟨T167, X167, e167, st167⟩ := getF X164 hx hZ hown (host := "") (Or.inl (hw _ (List.mem_of_getElem? (i := 22) rfl))) Via.refl e164 FF_ob3_forced_163 (g := (mkF m 536 #[.val (.long ja), .second, .val (.long jb), .second, .val (.long jt), .second, .val (.ref ob1), .val (.ref ob3), .val (.int (1 : Int32)), .unset] [(.ref ob3)])) rfl rfl (hb hby at_536)
  obtain ⟨cl168, Ar168, Q168, Sz168, Nn168, Ha168, Gf168⟩ := id FV_m2_9_165
  have ghin168 : ¬ ((1 : Int32) < 0 ∨ cl168.slots.size ≤ ((1 : Int32)).toNatClampNeg) := inb_of Sz168 ⟨by decide, by decide⟩
  have ghat168 : cl168.slots[((1 : Int32)).toNatClampNeg]? = some (.long (jb + (5 : Int64))) := Ha168.at ghin168 rfl
  obtain ⟨T169, X169, e169, st169⟩ := getF X167 hx hZ hown (host := "") (Or.inl (hw _ (List.mem_of_getElem? (i := 22) rfl))) Via.refl e167 FF_ob3_forced_163 (g := (mkF m 552 #[.val (.long ja), .second, .val (.long jb), .second, .val (.long jt), .second, .val (.ref ob1), .val (.ref ob3), .val (.int (1 : Int32)), .unset] [(.ref ob3)])) rfl rfl (hb hby at_552)
  obtain ⟨cl170, Ar170, Q170, Sz170, Nn170, Ha170, Gf170⟩ := id FV_m2_9_165
  have ghin170 : ¬ ((2 : Int32) < 0 ∨ cl170.slots.size ≤ ((2 : Int32)).toNatClampNeg) := inb_of Sz170 ⟨by decide, by decide⟩
  have ghat170 : cl170.slots[((2 : Int32)).toNatClampNeg]? = some (.long (jb + (6 : Int64))) := Ha170.at ghin170 rfl
  have FF_ob3_violated_171 : Fld Z T116.heap ob3 "com/example/tracegauge/tracegauge/TraceTokens$Deviations" "violated" "[J" (.ref m3_9) := (FF_ob3_violated_111.keep K116 (ninS ne_m0_2_ob3.symm (ninS ne_m1_2_ob3.symm (ninS ne_m2_2_ob3.symm (ninS ne_m3_2_ob3.symm nin0)))))
  obtain ⟨T172, X172, e172, st172⟩ := getF X169 hx hZ hown (host := "") (Or.inl (hw _ (List.mem_of_getElem? (i := 26) rfl))) Via.refl e169 FF_ob3_violated_171 (g := (mkF m 568 #[.val (.long ja), .second, .val (.long jb), .second, .val (.long jt), .second, .val (.ref ob1), .val (.ref ob3), .val (.int (1 : Int32)), .unset] [(.ref ob3)])) rfl rfl (hb hby at_568)
  have FV_m3_9_173 : Arv Z T116.heap m3_9 k3_9 .long (3 : Int32) [(.long (jb + (7 : Int64))), (.long (jb + (8 : Int64))), (.long (jb + (9 : Int64)))] (.long (0 : Int64)) := (V97.keep K116 (ninS ne_m0_2_m3_9.symm (ninS ne_m1_2_m3_9.symm (ninS ne_m2_2_m3_9.symm (ninS ne_m3_2_m3_9.symm nin0)))))
  obtain ⟨cl174, Ar174, Q174, Sz174, Nn174, Ha174, Gf174⟩ := id FV_m3_9_173
  have ghin174 : ¬ ((0 : Int32) < 0 ∨ cl174.slots.size ≤ ((0 : Int32)).toNatClampNeg) := inb_of Sz174 ⟨by decide, by decide⟩
  have ghat174 : cl174.slots[((0 : Int32)).toNatClampNeg]? = some (.long (jb + (7 : Int64))) := Ha174.at ghin174 rfl
  obtain ⟨T175, X175, e175, st175⟩ := getF X172 hx hZ hown (host := "") (Or.inl (hw _ (List.mem_of_getElem? (i := 26) rfl))) Via.refl e172 FF_ob3_violated_171 (g := (mkF m 584 #[.val (.long ja), .second, .val (.long jb), .second, .val (.long jt), .second, .val (.ref ob1), .val (.ref ob3), .val (.int (1 : Int32)), .unset] [(.ref ob3)])) rfl rfl (hb hby at_584)
  obtain ⟨cl176, Ar176, Q176, Sz176, Nn176, Ha176, Gf176⟩ := id FV_m3_9_173
  have ghin176 : ¬ ((1 : Int32) < 0 ∨ cl176.slots.size ≤ ((1 : Int32)).toNatClampNeg) := inb_of Sz176 ⟨by decide, by decide⟩
  have ghat176 : cl176.slots[((1 : Int32)).toNatClampNeg]? = some (.long (jb + (8 : Int64))) := Ha176.at ghin176 rfl
  obtain ⟨T177, X177, e177, st177⟩ := getF X175 hx hZ hown (host := "") (Or.inl (hw _ (List.mem_of_getElem? (i := 26) rfl))) Via.refl e175 FF_ob3_violated_171 (g := (mkF m 600 #[.val (.long ja), .second, .val (.long jb), .second, .val (.long jt), .second, .val (.ref ob1), .val (.ref ob3), .val (.int (1 : Int32)), .unset] [(.ref ob3)])) rfl rfl (hb hby at_600)
  obtain ⟨cl178, Ar178, Q178, Sz178, Nn178, Ha178, Gf178⟩ := id FV_m3_9_173
  have ghin178 : ¬ ((2 : Int32) < 0 ∨ cl178.slots.size ≤ ((2 : Int32)).toNatClampNeg) := inb_of Sz178 ⟨by decide, by decide⟩
  have ghat178 : cl178.slots[((2 : Int32)).toNatClampNeg]? = some (.long (jb + (9 : Int64))) := Ha178.at ghin178 rfl
  obtain ⟨fs, hr, hrun, hended, hW, hsame⟩ := X177.leave (v := some (.int (1 : Int32))) (fun h => by rw [Bd.returns] at h; cases h)
  refine ⟨_, _, pre0 _ ?_, hrun, hended, _, _, rfl, ?_, ⟨_, rfl⟩, hW, hsame.mono (by decide) (by decide)⟩
  · show Steps p.tables e below (s₁.setTop (mkF m 0 #[.val (.long ja), .second, .val (.long jb), .second, .val (.long jt), .second, .unset, .unset, .unset, .unset] [])) _
    refine st1 _ ?_
    show Steps p.tables e below (T1.setTop (mkF m 3 #[.val (.long ja), .second, .val (.long jb), .second, .val (.long jt), .second, .unset, .unset, .unset, .unset] [(.ref ob1)])) _
    refine XS.dup X1.here hx rfl (hb hby at_3) rfl rfl ?_
    show Steps p.tables e below (T1.setTop (mkF m 4 #[.val (.long ja), .second, .val (.long jb), .second, .val (.long jt), .second, .unset, .unset, .unset, .unset] [(.ref ob1), (.ref ob1)])) _
    refine XT.iconstV X1.here hx rfl (2 : Int32) (hb hby at_4) rfl ?_
    show Steps p.tables e below (T1.setTop (mkF m 5 #[.val (.long ja), .second, .val (.long jb), .second, .val (.long jt), .second, .unset, .unset, .unset, .unset] [(.int (2 : Int32)), (.ref ob1), (.ref ob1)])) _
    refine XT.iconstV X1.here hx rfl (3 : Int32) (hb hby at_5) rfl ?_
    show Steps p.tables e below (T1.setTop (mkF m 6 #[.val (.long ja), .second, .val (.long jb), .second, .val (.long jt), .second, .unset, .unset, .unset, .unset] [(.int (3 : Int32)), (.int (2 : Int32)), (.ref ob1), (.ref ob1)])) _
    refine st2.trans ?_
    show Steps p.tables e below (T2.setTop (mkF m 9 #[.val (.long ja), .second, .val (.long jb), .second, .val (.long jt), .second, .unset, .unset, .unset, .unset] [(.ref ob1)])) _
    refine XS.astore X2.here hx rfl (hb hby at_9) rfl rfl (l' := #[.val (.long ja), .second, .val (.long jb), .second, .val (.long jt), .second, .val (.ref ob1), .unset, .unset, .unset]) rfl ?_
    show Steps p.tables e below (T2.setTop (mkF m 11 #[.val (.long ja), .second, .val (.long jb), .second, .val (.long jt), .second, .val (.ref ob1), .unset, .unset, .unset] [])) _
    refine st3 _ ?_
    show Steps p.tables e below (T3.setTop (mkF m 14 #[.val (.long ja), .second, .val (.long jb), .second, .val (.long jt), .second, .val (.ref ob1), .unset, .unset, .unset] [(.ref ob3)])) _
    refine XS.dup X3.here hx rfl (hb hby at_14) rfl rfl ?_
    show Steps p.tables e below (T3.setTop (mkF m 15 #[.val (.long ja), .second, .val (.long jb), .second, .val (.long jt), .second, .val (.ref ob1), .unset, .unset, .unset] [(.ref ob3), (.ref ob3)])) _
    refine XT.iconstV X3.here hx rfl (2 : Int32) (hb hby at_15) rfl ?_
    show Steps p.tables e below (T3.setTop (mkF m 16 #[.val (.long ja), .second, .val (.long jb), .second, .val (.long jt), .second, .val (.ref ob1), .unset, .unset, .unset] [(.int (2 : Int32)), (.ref ob3), (.ref ob3)])) _
    refine XT.iconstV X3.here hx rfl (3 : Int32) (hb hby at_16) rfl ?_
    show Steps p.tables e below (T3.setTop (mkF m 17 #[.val (.long ja), .second, .val (.long jb), .second, .val (.long jt), .second, .val (.ref ob1), .unset, .unset, .unset] [(.int (3 : Int32)), (.int (2 : Int32)), (.ref ob3), (.ref ob3)])) _
    refine st9.trans ?_
    show Steps p.tables e below (T9.setTop (mkF m 20 #[.val (.long ja), .second, .val (.long jb), .second, .val (.long jt), .second, .val (.ref ob1), .unset, .unset, .unset] [(.ref ob3)])) _
    refine XS.astore X9.here hx rfl (hb hby at_20) rfl rfl (l' := #[.val (.long ja), .second, .val (.long jb), .second, .val (.long jt), .second, .val (.ref ob1), .val (.ref ob3), .unset, .unset]) rfl ?_
    show Steps p.tables e below (T9.setTop (mkF m 22 #[.val (.long ja), .second, .val (.long jb), .second, .val (.long jt), .second, .val (.ref ob1), .val (.ref ob3), .unset, .unset] [])) _
    refine XS.aload X9.here hx rfl (hb hby at_22) rfl rfl ?_
    show Steps p.tables e below (T9.setTop (mkF m 24 #[.val (.long ja), .second, .val (.long jb), .second, .val (.long jt), .second, .val (.ref ob1), .val (.ref ob3), .unset, .unset] [(.ref ob1)])) _
    refine st11 _ ?_
    show Steps p.tables e below (T11.setTop (mkF m 27 #[.val (.long ja), .second, .val (.long jb), .second, .val (.long jt), .second, .val (.ref ob1), .val (.ref ob3), .unset, .unset] [(.ref m0_2)])) _
    refine XT.iconstV X11.here hx rfl (0 : Int32) (hb hby at_27) rfl ?_
    show Steps p.tables e below (T11.setTop (mkF m 28 #[.val (.long ja), .second, .val (.long jb), .second, .val (.long jt), .second, .val (.ref ob1), .val (.ref ob3), .unset, .unset] [(.int (0 : Int32)), (.ref m0_2)])) _
    refine XT.lloadN X11.here hx rfl (hb hby at_28) rfl ?_
    show Steps p.tables e below (T11.setTop (mkF m 29 #[.val (.long ja), .second, .val (.long jb), .second, .val (.long jt), .second, .val (.ref ob1), .val (.ref ob3), .unset, .unset] [(.long ja), (.int (0 : Int32)), (.ref m0_2)])) _
    refine st14 _ ?_
    show Steps p.tables e below (T14.setTop (mkF m 30 #[.val (.long ja), .second, .val (.long jb), .second, .val (.long jt), .second, .val (.ref ob1), .val (.ref ob3), .unset, .unset] [])) _
    refine XS.aload X14.here hx rfl (hb hby at_30) rfl rfl ?_
    show Steps p.tables e below (T14.setTop (mkF m 32 #[.val (.long ja), .second, .val (.long jb), .second, .val (.long jt), .second, .val (.ref ob1), .val (.ref ob3), .unset, .unset] [(.ref ob1)])) _
    refine st16 _ ?_
    show Steps p.tables e below (T16.setTop (mkF m 35 #[.val (.long ja), .second, .val (.long jb), .second, .val (.long jt), .second, .val (.ref ob1), .val (.ref ob3), .unset, .unset] [(.ref m0_2)])) _
    refine XT.iconstV X16.here hx rfl (1 : Int32) (hb hby at_35) rfl ?_
    show Steps p.tables e below (T16.setTop (mkF m 36 #[.val (.long ja), .second, .val (.long jb), .second, .val (.long jt), .second, .val (.ref ob1), .val (.ref ob3), .unset, .unset] [(.int (1 : Int32)), (.ref m0_2)])) _
    refine XT.lloadN X16.here hx rfl (hb hby at_36) rfl ?_
    show Steps p.tables e below (T16.setTop (mkF m 37 #[.val (.long ja), .second, .val (.long jb), .second, .val (.long jt), .second, .val (.ref ob1), .val (.ref ob3), .unset, .unset] [(.long ja), (.int (1 : Int32)), (.ref m0_2)])) _
    refine XT.lconstV X16.here hx rfl (1 : Int64) (hb hby at_37) rfl ?_
    show Steps p.tables e below (T16.setTop (mkF m 38 #[.val (.long ja), .second, .val (.long jb), .second, .val (.long jt), .second, .val (.ref ob1), .val (.ref ob3), .unset, .unset] [(.long (1 : Int64)), (.long ja), (.int (1 : Int32)), (.ref m0_2)])) _
    refine XT.ladd X16.here hx rfl (hb hby at_38) rfl ?_
    show Steps p.tables e below (T16.setTop (mkF m 39 #[.val (.long ja), .second, .val (.long jb), .second, .val (.long jt), .second, .val (.ref ob1), .val (.ref ob3), .unset, .unset] [(.long (ja + (1 : Int64))), (.int (1 : Int32)), (.ref m0_2)])) _
    refine st18 _ ?_
    show Steps p.tables e below (T18.setTop (mkF m 40 #[.val (.long ja), .second, .val (.long jb), .second, .val (.long jt), .second, .val (.ref ob1), .val (.ref ob3), .unset, .unset] [])) _
    refine XS.aload X18.here hx rfl (hb hby at_40) rfl rfl ?_
    show Steps p.tables e below (T18.setTop (mkF m 42 #[.val (.long ja), .second, .val (.long jb), .second, .val (.long jt), .second, .val (.ref ob1), .val (.ref ob3), .unset, .unset] [(.ref ob1)])) _
    refine st20 _ ?_
    show Steps p.tables e below (T20.setTop (mkF m 45 #[.val (.long ja), .second, .val (.long jb), .second, .val (.long jt), .second, .val (.ref ob1), .val (.ref ob3), .unset, .unset] [(.ref m1_2)])) _
    refine XT.iconstV X20.here hx rfl (0 : Int32) (hb hby at_45) rfl ?_
    show Steps p.tables e below (T20.setTop (mkF m 46 #[.val (.long ja), .second, .val (.long jb), .second, .val (.long jt), .second, .val (.ref ob1), .val (.ref ob3), .unset, .unset] [(.int (0 : Int32)), (.ref m1_2)])) _
    refine XT.lloadN X20.here hx rfl (hb hby at_46) rfl ?_
    show Steps p.tables e below (T20.setTop (mkF m 47 #[.val (.long ja), .second, .val (.long jb), .second, .val (.long jt), .second, .val (.ref ob1), .val (.ref ob3), .unset, .unset] [(.long ja), (.int (0 : Int32)), (.ref m1_2)])) _
    refine X20.ldc2J hx hown (mvT hZ (hw _ (List.mem_of_getElem? (i := 20) rfl))) (g := (mkF m 47 #[.val (.long ja), .second, .val (.long jb), .second, .val (.long jt), .second, .val (.ref ob1), .val (.ref ob3), .unset, .unset] [(.long ja), (.int (0 : Int32)), (.ref m1_2)])) rfl (hb hby at_47) ?_
    show Steps p.tables e below (T20.setTop (mkF m 50 #[.val (.long ja), .second, .val (.long jb), .second, .val (.long jt), .second, .val (.ref ob1), .val (.ref ob3), .unset, .unset] [(.long (2 : Int64)), (.long ja), (.int (0 : Int32)), (.ref m1_2)])) _
    refine XT.ladd X20.here hx rfl (hb hby at_50) rfl ?_
    show Steps p.tables e below (T20.setTop (mkF m 51 #[.val (.long ja), .second, .val (.long jb), .second, .val (.long jt), .second, .val (.ref ob1), .val (.ref ob3), .unset, .unset] [(.long (ja + (2 : Int64))), (.int (0 : Int32)), (.ref m1_2)])) _
    refine st23 _ ?_
    show Steps p.tables e below (T23.setTop (mkF m 52 #[.val (.long ja), .second, .val (.long jb), .second, .val (.long jt), .second, .val (.ref ob1), .val (.ref ob3), .unset, .unset] [])) _
    refine XS.aload X23.here hx rfl (hb hby at_52) rfl rfl ?_
    show Steps p.tables e below (T23.setTop (mkF m 54 #[.val (.long ja), .second, .val (.long jb), .second, .val (.long jt), .second, .val (.ref ob1), .val (.ref ob3), .unset, .unset] [(.ref ob1)])) _
    refine st25 _ ?_
    show Steps p.tables e below (T25.setTop (mkF m 57 #[.val (.long ja), .second, .val (.long jb), .second, .val (.long jt), .second, .val (.ref ob1), .val (.ref ob3), .unset, .unset] [(.ref m1_2)])) _
    refine XT.iconstV X25.here hx rfl (1 : Int32) (hb hby at_57) rfl ?_
    show Steps p.tables e below (T25.setTop (mkF m 58 #[.val (.long ja), .second, .val (.long jb), .second, .val (.long jt), .second, .val (.ref ob1), .val (.ref ob3), .unset, .unset] [(.int (1 : Int32)), (.ref m1_2)])) _
    refine XT.lloadN X25.here hx rfl (hb hby at_58) rfl ?_
    show Steps p.tables e below (T25.setTop (mkF m 59 #[.val (.long ja), .second, .val (.long jb), .second, .val (.long jt), .second, .val (.ref ob1), .val (.ref ob3), .unset, .unset] [(.long ja), (.int (1 : Int32)), (.ref m1_2)])) _
    refine X25.ldc2J hx hown (mvT hZ (hw _ (List.mem_of_getElem? (i := 21) rfl))) (g := (mkF m 59 #[.val (.long ja), .second, .val (.long jb), .second, .val (.long jt), .second, .val (.ref ob1), .val (.ref ob3), .unset, .unset] [(.long ja), (.int (1 : Int32)), (.ref m1_2)])) rfl (hb hby at_59) ?_
    show Steps p.tables e below (T25.setTop (mkF m 62 #[.val (.long ja), .second, .val (.long jb), .second, .val (.long jt), .second, .val (.ref ob1), .val (.ref ob3), .unset, .unset] [(.long (3 : Int64)), (.long ja), (.int (1 : Int32)), (.ref m1_2)])) _
    refine XT.ladd X25.here hx rfl (hb hby at_62) rfl ?_
    show Steps p.tables e below (T25.setTop (mkF m 63 #[.val (.long ja), .second, .val (.long jb), .second, .val (.long jt), .second, .val (.ref ob1), .val (.ref ob3), .unset, .unset] [(.long (ja + (3 : Int64))), (.int (1 : Int32)), (.ref m1_2)])) _
    refine st27 _ ?_
    show Steps p.tables e below (T27.setTop (mkF m 64 #[.val (.long ja), .second, .val (.long jb), .second, .val (.long jt), .second, .val (.ref ob1), .val (.ref ob3), .unset, .unset] [])) _
    refine XS.aload X27.here hx rfl (hb hby at_64) rfl rfl ?_
    show Steps p.tables e below (T27.setTop (mkF m 66 #[.val (.long ja), .second, .val (.long jb), .second, .val (.long jt), .second, .val (.ref ob1), .val (.ref ob3), .unset, .unset] [(.ref ob1)])) _
    refine st29 _ ?_
    show Steps p.tables e below (T29.setTop (mkF m 69 #[.val (.long ja), .second, .val (.long jb), .second, .val (.long jt), .second, .val (.ref ob1), .val (.ref ob3), .unset, .unset] [(.ref m2_2)])) _
    refine XT.iconstV X29.here hx rfl (0 : Int32) (hb hby at_69) rfl ?_
    show Steps p.tables e below (T29.setTop (mkF m 70 #[.val (.long ja), .second, .val (.long jb), .second, .val (.long jt), .second, .val (.ref ob1), .val (.ref ob3), .unset, .unset] [(.int (0 : Int32)), (.ref m2_2)])) _
    refine XT.lloadN X29.here hx rfl (hb hby at_70) rfl ?_
    show Steps p.tables e below (T29.setTop (mkF m 71 #[.val (.long ja), .second, .val (.long jb), .second, .val (.long jt), .second, .val (.ref ob1), .val (.ref ob3), .unset, .unset] [(.long ja), (.int (0 : Int32)), (.ref m2_2)])) _
    refine X29.ldc2J hx hown (mvT hZ (hw _ (List.mem_of_getElem? (i := 23) rfl))) (g := (mkF m 71 #[.val (.long ja), .second, .val (.long jb), .second, .val (.long jt), .second, .val (.ref ob1), .val (.ref ob3), .unset, .unset] [(.long ja), (.int (0 : Int32)), (.ref m2_2)])) rfl (hb hby at_71) ?_
    show Steps p.tables e below (T29.setTop (mkF m 74 #[.val (.long ja), .second, .val (.long jb), .second, .val (.long jt), .second, .val (.ref ob1), .val (.ref ob3), .unset, .unset] [(.long (4 : Int64)), (.long ja), (.int (0 : Int32)), (.ref m2_2)])) _
    refine XT.ladd X29.here hx rfl (hb hby at_74) rfl ?_
    show Steps p.tables e below (T29.setTop (mkF m 75 #[.val (.long ja), .second, .val (.long jb), .second, .val (.long jt), .second, .val (.ref ob1), .val (.ref ob3), .unset, .unset] [(.long (ja + (4 : Int64))), (.int (0 : Int32)), (.ref m2_2)])) _
    refine st32 _ ?_
    show Steps p.tables e below (T32.setTop (mkF m 76 #[.val (.long ja), .second, .val (.long jb), .second, .val (.long jt), .second, .val (.ref ob1), .val (.ref ob3), .unset, .unset] [])) _
    refine XS.aload X32.here hx rfl (hb hby at_76) rfl rfl ?_
    show Steps p.tables e below (T32.setTop (mkF m 78 #[.val (.long ja), .second, .val (.long jb), .second, .val (.long jt), .second, .val (.ref ob1), .val (.ref ob3), .unset, .unset] [(.ref ob1)])) _
    refine st34 _ ?_
    show Steps p.tables e below (T34.setTop (mkF m 81 #[.val (.long ja), .second, .val (.long jb), .second, .val (.long jt), .second, .val (.ref ob1), .val (.ref ob3), .unset, .unset] [(.ref m2_2)])) _
    refine XT.iconstV X34.here hx rfl (1 : Int32) (hb hby at_81) rfl ?_
    show Steps p.tables e below (T34.setTop (mkF m 82 #[.val (.long ja), .second, .val (.long jb), .second, .val (.long jt), .second, .val (.ref ob1), .val (.ref ob3), .unset, .unset] [(.int (1 : Int32)), (.ref m2_2)])) _
    refine XT.lloadN X34.here hx rfl (hb hby at_82) rfl ?_
    show Steps p.tables e below (T34.setTop (mkF m 83 #[.val (.long ja), .second, .val (.long jb), .second, .val (.long jt), .second, .val (.ref ob1), .val (.ref ob3), .unset, .unset] [(.long ja), (.int (1 : Int32)), (.ref m2_2)])) _
    refine X34.ldc2J hx hown (mvT hZ (hw _ (List.mem_of_getElem? (i := 24) rfl))) (g := (mkF m 83 #[.val (.long ja), .second, .val (.long jb), .second, .val (.long jt), .second, .val (.ref ob1), .val (.ref ob3), .unset, .unset] [(.long ja), (.int (1 : Int32)), (.ref m2_2)])) rfl (hb hby at_83) ?_
    show Steps p.tables e below (T34.setTop (mkF m 86 #[.val (.long ja), .second, .val (.long jb), .second, .val (.long jt), .second, .val (.ref ob1), .val (.ref ob3), .unset, .unset] [(.long (5 : Int64)), (.long ja), (.int (1 : Int32)), (.ref m2_2)])) _
    refine XT.ladd X34.here hx rfl (hb hby at_86) rfl ?_
    show Steps p.tables e below (T34.setTop (mkF m 87 #[.val (.long ja), .second, .val (.long jb), .second, .val (.long jt), .second, .val (.ref ob1), .val (.ref ob3), .unset, .unset] [(.long (ja + (5 : Int64))), (.int (1 : Int32)), (.ref m2_2)])) _
    refine st36 _ ?_
    show Steps p.tables e below (T36.setTop (mkF m 88 #[.val (.long ja), .second, .val (.long jb), .second, .val (.long jt), .second, .val (.ref ob1), .val (.ref ob3), .unset, .unset] [])) _
    refine XS.aload X36.here hx rfl (hb hby at_88) rfl rfl ?_
    show Steps p.tables e below (T36.setTop (mkF m 90 #[.val (.long ja), .second, .val (.long jb), .second, .val (.long jt), .second, .val (.ref ob1), .val (.ref ob3), .unset, .unset] [(.ref ob1)])) _
    refine st38 _ ?_
    show Steps p.tables e below (T38.setTop (mkF m 93 #[.val (.long ja), .second, .val (.long jb), .second, .val (.long jt), .second, .val (.ref ob1), .val (.ref ob3), .unset, .unset] [(.ref m2_2)])) _
    refine XT.iconstV X38.here hx rfl (2 : Int32) (hb hby at_93) rfl ?_
    show Steps p.tables e below (T38.setTop (mkF m 94 #[.val (.long ja), .second, .val (.long jb), .second, .val (.long jt), .second, .val (.ref ob1), .val (.ref ob3), .unset, .unset] [(.int (2 : Int32)), (.ref m2_2)])) _
    refine XT.lloadN X38.here hx rfl (hb hby at_94) rfl ?_
    show Steps p.tables e below (T38.setTop (mkF m 95 #[.val (.long ja), .second, .val (.long jb), .second, .val (.long jt), .second, .val (.ref ob1), .val (.ref ob3), .unset, .unset] [(.long ja), (.int (2 : Int32)), (.ref m2_2)])) _
    refine X38.ldc2J hx hown (mvT hZ (hw _ (List.mem_of_getElem? (i := 25) rfl))) (g := (mkF m 95 #[.val (.long ja), .second, .val (.long jb), .second, .val (.long jt), .second, .val (.ref ob1), .val (.ref ob3), .unset, .unset] [(.long ja), (.int (2 : Int32)), (.ref m2_2)])) rfl (hb hby at_95) ?_
    show Steps p.tables e below (T38.setTop (mkF m 98 #[.val (.long ja), .second, .val (.long jb), .second, .val (.long jt), .second, .val (.ref ob1), .val (.ref ob3), .unset, .unset] [(.long (6 : Int64)), (.long ja), (.int (2 : Int32)), (.ref m2_2)])) _
    refine XT.ladd X38.here hx rfl (hb hby at_98) rfl ?_
    show Steps p.tables e below (T38.setTop (mkF m 99 #[.val (.long ja), .second, .val (.long jb), .second, .val (.long jt), .second, .val (.ref ob1), .val (.ref ob3), .unset, .unset] [(.long (ja + (6 : Int64))), (.int (2 : Int32)), (.ref m2_2)])) _
    refine st40 _ ?_
    show Steps p.tables e below (T40.setTop (mkF m 100 #[.val (.long ja), .second, .val (.long jb), .second, .val (.long jt), .second, .val (.ref ob1), .val (.ref ob3), .unset, .unset] [])) _
    refine XS.aload X40.here hx rfl (hb hby at_100) rfl rfl ?_
    show Steps p.tables e below (T40.setTop (mkF m 102 #[.val (.long ja), .second, .val (.long jb), .second, .val (.long jt), .second, .val (.ref ob1), .val (.ref ob3), .unset, .unset] [(.ref ob1)])) _
    refine st42 _ ?_
    show Steps p.tables e below (T42.setTop (mkF m 105 #[.val (.long ja), .second, .val (.long jb), .second, .val (.long jt), .second, .val (.ref ob1), .val (.ref ob3), .unset, .unset] [(.ref m3_2)])) _
    refine XT.iconstV X42.here hx rfl (0 : Int32) (hb hby at_105) rfl ?_
    show Steps p.tables e below (T42.setTop (mkF m 106 #[.val (.long ja), .second, .val (.long jb), .second, .val (.long jt), .second, .val (.ref ob1), .val (.ref ob3), .unset, .unset] [(.int (0 : Int32)), (.ref m3_2)])) _
    refine XT.lloadN X42.here hx rfl (hb hby at_106) rfl ?_
    show Steps p.tables e below (T42.setTop (mkF m 107 #[.val (.long ja), .second, .val (.long jb), .second, .val (.long jt), .second, .val (.ref ob1), .val (.ref ob3), .unset, .unset] [(.long ja), (.int (0 : Int32)), (.ref m3_2)])) _
    refine X42.ldc2J hx hown (mvT hZ (hw _ (List.mem_of_getElem? (i := 27) rfl))) (g := (mkF m 107 #[.val (.long ja), .second, .val (.long jb), .second, .val (.long jt), .second, .val (.ref ob1), .val (.ref ob3), .unset, .unset] [(.long ja), (.int (0 : Int32)), (.ref m3_2)])) rfl (hb hby at_107) ?_
    show Steps p.tables e below (T42.setTop (mkF m 110 #[.val (.long ja), .second, .val (.long jb), .second, .val (.long jt), .second, .val (.ref ob1), .val (.ref ob3), .unset, .unset] [(.long (7 : Int64)), (.long ja), (.int (0 : Int32)), (.ref m3_2)])) _
    refine XT.ladd X42.here hx rfl (hb hby at_110) rfl ?_
    show Steps p.tables e below (T42.setTop (mkF m 111 #[.val (.long ja), .second, .val (.long jb), .second, .val (.long jt), .second, .val (.ref ob1), .val (.ref ob3), .unset, .unset] [(.long (ja + (7 : Int64))), (.int (0 : Int32)), (.ref m3_2)])) _
    refine st45 _ ?_
    show Steps p.tables e below (T45.setTop (mkF m 112 #[.val (.long ja), .second, .val (.long jb), .second, .val (.long jt), .second, .val (.ref ob1), .val (.ref ob3), .unset, .unset] [])) _
    refine XS.aload X45.here hx rfl (hb hby at_112) rfl rfl ?_
    show Steps p.tables e below (T45.setTop (mkF m 114 #[.val (.long ja), .second, .val (.long jb), .second, .val (.long jt), .second, .val (.ref ob1), .val (.ref ob3), .unset, .unset] [(.ref ob1)])) _
    refine st47 _ ?_
    show Steps p.tables e below (T47.setTop (mkF m 117 #[.val (.long ja), .second, .val (.long jb), .second, .val (.long jt), .second, .val (.ref ob1), .val (.ref ob3), .unset, .unset] [(.ref m3_2)])) _
    refine XT.iconstV X47.here hx rfl (1 : Int32) (hb hby at_117) rfl ?_
    show Steps p.tables e below (T47.setTop (mkF m 118 #[.val (.long ja), .second, .val (.long jb), .second, .val (.long jt), .second, .val (.ref ob1), .val (.ref ob3), .unset, .unset] [(.int (1 : Int32)), (.ref m3_2)])) _
    refine XT.lloadN X47.here hx rfl (hb hby at_118) rfl ?_
    show Steps p.tables e below (T47.setTop (mkF m 119 #[.val (.long ja), .second, .val (.long jb), .second, .val (.long jt), .second, .val (.ref ob1), .val (.ref ob3), .unset, .unset] [(.long ja), (.int (1 : Int32)), (.ref m3_2)])) _
    refine X47.ldc2J hx hown (mvT hZ (hw _ (List.mem_of_getElem? (i := 28) rfl))) (g := (mkF m 119 #[.val (.long ja), .second, .val (.long jb), .second, .val (.long jt), .second, .val (.ref ob1), .val (.ref ob3), .unset, .unset] [(.long ja), (.int (1 : Int32)), (.ref m3_2)])) rfl (hb hby at_119) ?_
    show Steps p.tables e below (T47.setTop (mkF m 122 #[.val (.long ja), .second, .val (.long jb), .second, .val (.long jt), .second, .val (.ref ob1), .val (.ref ob3), .unset, .unset] [(.long (8 : Int64)), (.long ja), (.int (1 : Int32)), (.ref m3_2)])) _
    refine XT.ladd X47.here hx rfl (hb hby at_122) rfl ?_
    show Steps p.tables e below (T47.setTop (mkF m 123 #[.val (.long ja), .second, .val (.long jb), .second, .val (.long jt), .second, .val (.ref ob1), .val (.ref ob3), .unset, .unset] [(.long (ja + (8 : Int64))), (.int (1 : Int32)), (.ref m3_2)])) _
    refine st49 _ ?_
    show Steps p.tables e below (T49.setTop (mkF m 124 #[.val (.long ja), .second, .val (.long jb), .second, .val (.long jt), .second, .val (.ref ob1), .val (.ref ob3), .unset, .unset] [])) _
    refine XS.aload X49.here hx rfl (hb hby at_124) rfl rfl ?_
    show Steps p.tables e below (T49.setTop (mkF m 126 #[.val (.long ja), .second, .val (.long jb), .second, .val (.long jt), .second, .val (.ref ob1), .val (.ref ob3), .unset, .unset] [(.ref ob1)])) _
    refine st51 _ ?_
    show Steps p.tables e below (T51.setTop (mkF m 129 #[.val (.long ja), .second, .val (.long jb), .second, .val (.long jt), .second, .val (.ref ob1), .val (.ref ob3), .unset, .unset] [(.ref m3_2)])) _
    refine XT.iconstV X51.here hx rfl (2 : Int32) (hb hby at_129) rfl ?_
    show Steps p.tables e below (T51.setTop (mkF m 130 #[.val (.long ja), .second, .val (.long jb), .second, .val (.long jt), .second, .val (.ref ob1), .val (.ref ob3), .unset, .unset] [(.int (2 : Int32)), (.ref m3_2)])) _
    refine XT.lloadN X51.here hx rfl (hb hby at_130) rfl ?_
    show Steps p.tables e below (T51.setTop (mkF m 131 #[.val (.long ja), .second, .val (.long jb), .second, .val (.long jt), .second, .val (.ref ob1), .val (.ref ob3), .unset, .unset] [(.long ja), (.int (2 : Int32)), (.ref m3_2)])) _
    refine X51.ldc2J hx hown (mvT hZ (hw _ (List.mem_of_getElem? (i := 29) rfl))) (g := (mkF m 131 #[.val (.long ja), .second, .val (.long jb), .second, .val (.long jt), .second, .val (.ref ob1), .val (.ref ob3), .unset, .unset] [(.long ja), (.int (2 : Int32)), (.ref m3_2)])) rfl (hb hby at_131) ?_
    show Steps p.tables e below (T51.setTop (mkF m 134 #[.val (.long ja), .second, .val (.long jb), .second, .val (.long jt), .second, .val (.ref ob1), .val (.ref ob3), .unset, .unset] [(.long (9 : Int64)), (.long ja), (.int (2 : Int32)), (.ref m3_2)])) _
    refine XT.ladd X51.here hx rfl (hb hby at_134) rfl ?_
    show Steps p.tables e below (T51.setTop (mkF m 135 #[.val (.long ja), .second, .val (.long jb), .second, .val (.long jt), .second, .val (.ref ob1), .val (.ref ob3), .unset, .unset] [(.long (ja + (9 : Int64))), (.int (2 : Int32)), (.ref m3_2)])) _
    refine st53 _ ?_
    show Steps p.tables e below (T53.setTop (mkF m 136 #[.val (.long ja), .second, .val (.long jb), .second, .val (.long jt), .second, .val (.ref ob1), .val (.ref ob3), .unset, .unset] [])) _
    refine XS.aload X53.here hx rfl (hb hby at_136) rfl rfl ?_
    show Steps p.tables e below (T53.setTop (mkF m 138 #[.val (.long ja), .second, .val (.long jb), .second, .val (.long jt), .second, .val (.ref ob1), .val (.ref ob3), .unset, .unset] [(.ref ob3)])) _
    refine st55 _ ?_
    show Steps p.tables e below (T55.setTop (mkF m 141 #[.val (.long ja), .second, .val (.long jb), .second, .val (.long jt), .second, .val (.ref ob1), .val (.ref ob3), .unset, .unset] [(.ref m0_9)])) _
    refine XT.iconstV X55.here hx rfl (0 : Int32) (hb hby at_141) rfl ?_
    show Steps p.tables e below (T55.setTop (mkF m 142 #[.val (.long ja), .second, .val (.long jb), .second, .val (.long jt), .second, .val (.ref ob1), .val (.ref ob3), .unset, .unset] [(.int (0 : Int32)), (.ref m0_9)])) _
    refine XT.lloadN X55.here hx rfl (hb hby at_142) rfl ?_
    show Steps p.tables e below (T55.setTop (mkF m 143 #[.val (.long ja), .second, .val (.long jb), .second, .val (.long jt), .second, .val (.ref ob1), .val (.ref ob3), .unset, .unset] [(.long jb), (.int (0 : Int32)), (.ref m0_9)])) _
    refine st58 _ ?_
    show Steps p.tables e below (T58.setTop (mkF m 144 #[.val (.long ja), .second, .val (.long jb), .second, .val (.long jt), .second, .val (.ref ob1), .val (.ref ob3), .unset, .unset] [])) _
    refine XS.aload X58.here hx rfl (hb hby at_144) rfl rfl ?_
    show Steps p.tables e below (T58.setTop (mkF m 146 #[.val (.long ja), .second, .val (.long jb), .second, .val (.long jt), .second, .val (.ref ob1), .val (.ref ob3), .unset, .unset] [(.ref ob3)])) _
    refine st60 _ ?_
    show Steps p.tables e below (T60.setTop (mkF m 149 #[.val (.long ja), .second, .val (.long jb), .second, .val (.long jt), .second, .val (.ref ob1), .val (.ref ob3), .unset, .unset] [(.ref m0_9)])) _
    refine XT.iconstV X60.here hx rfl (1 : Int32) (hb hby at_149) rfl ?_
    show Steps p.tables e below (T60.setTop (mkF m 150 #[.val (.long ja), .second, .val (.long jb), .second, .val (.long jt), .second, .val (.ref ob1), .val (.ref ob3), .unset, .unset] [(.int (1 : Int32)), (.ref m0_9)])) _
    refine XT.lloadN X60.here hx rfl (hb hby at_150) rfl ?_
    show Steps p.tables e below (T60.setTop (mkF m 151 #[.val (.long ja), .second, .val (.long jb), .second, .val (.long jt), .second, .val (.ref ob1), .val (.ref ob3), .unset, .unset] [(.long jb), (.int (1 : Int32)), (.ref m0_9)])) _
    refine XT.lconstV X60.here hx rfl (1 : Int64) (hb hby at_151) rfl ?_
    show Steps p.tables e below (T60.setTop (mkF m 152 #[.val (.long ja), .second, .val (.long jb), .second, .val (.long jt), .second, .val (.ref ob1), .val (.ref ob3), .unset, .unset] [(.long (1 : Int64)), (.long jb), (.int (1 : Int32)), (.ref m0_9)])) _
    refine XT.ladd X60.here hx rfl (hb hby at_152) rfl ?_
    show Steps p.tables e below (T60.setTop (mkF m 153 #[.val (.long ja), .second, .val (.long jb), .second, .val (.long jt), .second, .val (.ref ob1), .val (.ref ob3), .unset, .unset] [(.long (jb + (1 : Int64))), (.int (1 : Int32)), (.ref m0_9)])) _
    refine st62 _ ?_
    show Steps p.tables e below (T62.setTop (mkF m 154 #[.val (.long ja), .second, .val (.long jb), .second, .val (.long jt), .second, .val (.ref ob1), .val (.ref ob3), .unset, .unset] [])) _
    refine XS.aload X62.here hx rfl (hb hby at_154) rfl rfl ?_
    show Steps p.tables e below (T62.setTop (mkF m 156 #[.val (.long ja), .second, .val (.long jb), .second, .val (.long jt), .second, .val (.ref ob1), .val (.ref ob3), .unset, .unset] [(.ref ob3)])) _
    refine st64 _ ?_
    show Steps p.tables e below (T64.setTop (mkF m 159 #[.val (.long ja), .second, .val (.long jb), .second, .val (.long jt), .second, .val (.ref ob1), .val (.ref ob3), .unset, .unset] [(.ref m1_9)])) _
    refine XT.iconstV X64.here hx rfl (0 : Int32) (hb hby at_159) rfl ?_
    show Steps p.tables e below (T64.setTop (mkF m 160 #[.val (.long ja), .second, .val (.long jb), .second, .val (.long jt), .second, .val (.ref ob1), .val (.ref ob3), .unset, .unset] [(.int (0 : Int32)), (.ref m1_9)])) _
    refine XT.lloadN X64.here hx rfl (hb hby at_160) rfl ?_
    show Steps p.tables e below (T64.setTop (mkF m 161 #[.val (.long ja), .second, .val (.long jb), .second, .val (.long jt), .second, .val (.ref ob1), .val (.ref ob3), .unset, .unset] [(.long jb), (.int (0 : Int32)), (.ref m1_9)])) _
    refine X64.ldc2J hx hown (mvT hZ (hw _ (List.mem_of_getElem? (i := 20) rfl))) (g := (mkF m 161 #[.val (.long ja), .second, .val (.long jb), .second, .val (.long jt), .second, .val (.ref ob1), .val (.ref ob3), .unset, .unset] [(.long jb), (.int (0 : Int32)), (.ref m1_9)])) rfl (hb hby at_161) ?_
    show Steps p.tables e below (T64.setTop (mkF m 164 #[.val (.long ja), .second, .val (.long jb), .second, .val (.long jt), .second, .val (.ref ob1), .val (.ref ob3), .unset, .unset] [(.long (2 : Int64)), (.long jb), (.int (0 : Int32)), (.ref m1_9)])) _
    refine XT.ladd X64.here hx rfl (hb hby at_164) rfl ?_
    show Steps p.tables e below (T64.setTop (mkF m 165 #[.val (.long ja), .second, .val (.long jb), .second, .val (.long jt), .second, .val (.ref ob1), .val (.ref ob3), .unset, .unset] [(.long (jb + (2 : Int64))), (.int (0 : Int32)), (.ref m1_9)])) _
    refine st67 _ ?_
    show Steps p.tables e below (T67.setTop (mkF m 166 #[.val (.long ja), .second, .val (.long jb), .second, .val (.long jt), .second, .val (.ref ob1), .val (.ref ob3), .unset, .unset] [])) _
    refine XS.aload X67.here hx rfl (hb hby at_166) rfl rfl ?_
    show Steps p.tables e below (T67.setTop (mkF m 168 #[.val (.long ja), .second, .val (.long jb), .second, .val (.long jt), .second, .val (.ref ob1), .val (.ref ob3), .unset, .unset] [(.ref ob3)])) _
    refine st69 _ ?_
    show Steps p.tables e below (T69.setTop (mkF m 171 #[.val (.long ja), .second, .val (.long jb), .second, .val (.long jt), .second, .val (.ref ob1), .val (.ref ob3), .unset, .unset] [(.ref m1_9)])) _
    refine XT.iconstV X69.here hx rfl (1 : Int32) (hb hby at_171) rfl ?_
    show Steps p.tables e below (T69.setTop (mkF m 172 #[.val (.long ja), .second, .val (.long jb), .second, .val (.long jt), .second, .val (.ref ob1), .val (.ref ob3), .unset, .unset] [(.int (1 : Int32)), (.ref m1_9)])) _
    refine XT.lloadN X69.here hx rfl (hb hby at_172) rfl ?_
    show Steps p.tables e below (T69.setTop (mkF m 173 #[.val (.long ja), .second, .val (.long jb), .second, .val (.long jt), .second, .val (.ref ob1), .val (.ref ob3), .unset, .unset] [(.long jb), (.int (1 : Int32)), (.ref m1_9)])) _
    refine X69.ldc2J hx hown (mvT hZ (hw _ (List.mem_of_getElem? (i := 21) rfl))) (g := (mkF m 173 #[.val (.long ja), .second, .val (.long jb), .second, .val (.long jt), .second, .val (.ref ob1), .val (.ref ob3), .unset, .unset] [(.long jb), (.int (1 : Int32)), (.ref m1_9)])) rfl (hb hby at_173) ?_
    show Steps p.tables e below (T69.setTop (mkF m 176 #[.val (.long ja), .second, .val (.long jb), .second, .val (.long jt), .second, .val (.ref ob1), .val (.ref ob3), .unset, .unset] [(.long (3 : Int64)), (.long jb), (.int (1 : Int32)), (.ref m1_9)])) _
    refine XT.ladd X69.here hx rfl (hb hby at_176) rfl ?_
    show Steps p.tables e below (T69.setTop (mkF m 177 #[.val (.long ja), .second, .val (.long jb), .second, .val (.long jt), .second, .val (.ref ob1), .val (.ref ob3), .unset, .unset] [(.long (jb + (3 : Int64))), (.int (1 : Int32)), (.ref m1_9)])) _
    refine st71 _ ?_
    show Steps p.tables e below (T71.setTop (mkF m 178 #[.val (.long ja), .second, .val (.long jb), .second, .val (.long jt), .second, .val (.ref ob1), .val (.ref ob3), .unset, .unset] [])) _
    refine XS.aload X71.here hx rfl (hb hby at_178) rfl rfl ?_
    show Steps p.tables e below (T71.setTop (mkF m 180 #[.val (.long ja), .second, .val (.long jb), .second, .val (.long jt), .second, .val (.ref ob1), .val (.ref ob3), .unset, .unset] [(.ref ob3)])) _
    refine st73 _ ?_
    show Steps p.tables e below (T73.setTop (mkF m 183 #[.val (.long ja), .second, .val (.long jb), .second, .val (.long jt), .second, .val (.ref ob1), .val (.ref ob3), .unset, .unset] [(.ref m2_9)])) _
    refine XT.iconstV X73.here hx rfl (0 : Int32) (hb hby at_183) rfl ?_
    show Steps p.tables e below (T73.setTop (mkF m 184 #[.val (.long ja), .second, .val (.long jb), .second, .val (.long jt), .second, .val (.ref ob1), .val (.ref ob3), .unset, .unset] [(.int (0 : Int32)), (.ref m2_9)])) _
    refine XT.lloadN X73.here hx rfl (hb hby at_184) rfl ?_
    show Steps p.tables e below (T73.setTop (mkF m 185 #[.val (.long ja), .second, .val (.long jb), .second, .val (.long jt), .second, .val (.ref ob1), .val (.ref ob3), .unset, .unset] [(.long jb), (.int (0 : Int32)), (.ref m2_9)])) _
    refine X73.ldc2J hx hown (mvT hZ (hw _ (List.mem_of_getElem? (i := 23) rfl))) (g := (mkF m 185 #[.val (.long ja), .second, .val (.long jb), .second, .val (.long jt), .second, .val (.ref ob1), .val (.ref ob3), .unset, .unset] [(.long jb), (.int (0 : Int32)), (.ref m2_9)])) rfl (hb hby at_185) ?_
    show Steps p.tables e below (T73.setTop (mkF m 188 #[.val (.long ja), .second, .val (.long jb), .second, .val (.long jt), .second, .val (.ref ob1), .val (.ref ob3), .unset, .unset] [(.long (4 : Int64)), (.long jb), (.int (0 : Int32)), (.ref m2_9)])) _
    refine XT.ladd X73.here hx rfl (hb hby at_188) rfl ?_
    show Steps p.tables e below (T73.setTop (mkF m 189 #[.val (.long ja), .second, .val (.long jb), .second, .val (.long jt), .second, .val (.ref ob1), .val (.ref ob3), .unset, .unset] [(.long (jb + (4 : Int64))), (.int (0 : Int32)), (.ref m2_9)])) _
    refine st76 _ ?_
    show Steps p.tables e below (T76.setTop (mkF m 190 #[.val (.long ja), .second, .val (.long jb), .second, .val (.long jt), .second, .val (.ref ob1), .val (.ref ob3), .unset, .unset] [])) _
    refine XS.aload X76.here hx rfl (hb hby at_190) rfl rfl ?_
    show Steps p.tables e below (T76.setTop (mkF m 192 #[.val (.long ja), .second, .val (.long jb), .second, .val (.long jt), .second, .val (.ref ob1), .val (.ref ob3), .unset, .unset] [(.ref ob3)])) _
    refine st78 _ ?_
    show Steps p.tables e below (T78.setTop (mkF m 195 #[.val (.long ja), .second, .val (.long jb), .second, .val (.long jt), .second, .val (.ref ob1), .val (.ref ob3), .unset, .unset] [(.ref m2_9)])) _
    refine XT.iconstV X78.here hx rfl (1 : Int32) (hb hby at_195) rfl ?_
    show Steps p.tables e below (T78.setTop (mkF m 196 #[.val (.long ja), .second, .val (.long jb), .second, .val (.long jt), .second, .val (.ref ob1), .val (.ref ob3), .unset, .unset] [(.int (1 : Int32)), (.ref m2_9)])) _
    refine XT.lloadN X78.here hx rfl (hb hby at_196) rfl ?_
    show Steps p.tables e below (T78.setTop (mkF m 197 #[.val (.long ja), .second, .val (.long jb), .second, .val (.long jt), .second, .val (.ref ob1), .val (.ref ob3), .unset, .unset] [(.long jb), (.int (1 : Int32)), (.ref m2_9)])) _
    refine X78.ldc2J hx hown (mvT hZ (hw _ (List.mem_of_getElem? (i := 24) rfl))) (g := (mkF m 197 #[.val (.long ja), .second, .val (.long jb), .second, .val (.long jt), .second, .val (.ref ob1), .val (.ref ob3), .unset, .unset] [(.long jb), (.int (1 : Int32)), (.ref m2_9)])) rfl (hb hby at_197) ?_
    show Steps p.tables e below (T78.setTop (mkF m 200 #[.val (.long ja), .second, .val (.long jb), .second, .val (.long jt), .second, .val (.ref ob1), .val (.ref ob3), .unset, .unset] [(.long (5 : Int64)), (.long jb), (.int (1 : Int32)), (.ref m2_9)])) _
    refine XT.ladd X78.here hx rfl (hb hby at_200) rfl ?_
    show Steps p.tables e below (T78.setTop (mkF m 201 #[.val (.long ja), .second, .val (.long jb), .second, .val (.long jt), .second, .val (.ref ob1), .val (.ref ob3), .unset, .unset] [(.long (jb + (5 : Int64))), (.int (1 : Int32)), (.ref m2_9)])) _
    refine st80 _ ?_
    show Steps p.tables e below (T80.setTop (mkF m 202 #[.val (.long ja), .second, .val (.long jb), .second, .val (.long jt), .second, .val (.ref ob1), .val (.ref ob3), .unset, .unset] [])) _
    refine XS.aload X80.here hx rfl (hb hby at_202) rfl rfl ?_
    show Steps p.tables e below (T80.setTop (mkF m 204 #[.val (.long ja), .second, .val (.long jb), .second, .val (.long jt), .second, .val (.ref ob1), .val (.ref ob3), .unset, .unset] [(.ref ob3)])) _
    refine st82 _ ?_
    show Steps p.tables e below (T82.setTop (mkF m 207 #[.val (.long ja), .second, .val (.long jb), .second, .val (.long jt), .second, .val (.ref ob1), .val (.ref ob3), .unset, .unset] [(.ref m2_9)])) _
    refine XT.iconstV X82.here hx rfl (2 : Int32) (hb hby at_207) rfl ?_
    show Steps p.tables e below (T82.setTop (mkF m 208 #[.val (.long ja), .second, .val (.long jb), .second, .val (.long jt), .second, .val (.ref ob1), .val (.ref ob3), .unset, .unset] [(.int (2 : Int32)), (.ref m2_9)])) _
    refine XT.lloadN X82.here hx rfl (hb hby at_208) rfl ?_
    show Steps p.tables e below (T82.setTop (mkF m 209 #[.val (.long ja), .second, .val (.long jb), .second, .val (.long jt), .second, .val (.ref ob1), .val (.ref ob3), .unset, .unset] [(.long jb), (.int (2 : Int32)), (.ref m2_9)])) _
    refine X82.ldc2J hx hown (mvT hZ (hw _ (List.mem_of_getElem? (i := 25) rfl))) (g := (mkF m 209 #[.val (.long ja), .second, .val (.long jb), .second, .val (.long jt), .second, .val (.ref ob1), .val (.ref ob3), .unset, .unset] [(.long jb), (.int (2 : Int32)), (.ref m2_9)])) rfl (hb hby at_209) ?_
    show Steps p.tables e below (T82.setTop (mkF m 212 #[.val (.long ja), .second, .val (.long jb), .second, .val (.long jt), .second, .val (.ref ob1), .val (.ref ob3), .unset, .unset] [(.long (6 : Int64)), (.long jb), (.int (2 : Int32)), (.ref m2_9)])) _
    refine XT.ladd X82.here hx rfl (hb hby at_212) rfl ?_
    show Steps p.tables e below (T82.setTop (mkF m 213 #[.val (.long ja), .second, .val (.long jb), .second, .val (.long jt), .second, .val (.ref ob1), .val (.ref ob3), .unset, .unset] [(.long (jb + (6 : Int64))), (.int (2 : Int32)), (.ref m2_9)])) _
    refine st84 _ ?_
    show Steps p.tables e below (T84.setTop (mkF m 214 #[.val (.long ja), .second, .val (.long jb), .second, .val (.long jt), .second, .val (.ref ob1), .val (.ref ob3), .unset, .unset] [])) _
    refine XS.aload X84.here hx rfl (hb hby at_214) rfl rfl ?_
    show Steps p.tables e below (T84.setTop (mkF m 216 #[.val (.long ja), .second, .val (.long jb), .second, .val (.long jt), .second, .val (.ref ob1), .val (.ref ob3), .unset, .unset] [(.ref ob3)])) _
    refine st86 _ ?_
    show Steps p.tables e below (T86.setTop (mkF m 219 #[.val (.long ja), .second, .val (.long jb), .second, .val (.long jt), .second, .val (.ref ob1), .val (.ref ob3), .unset, .unset] [(.ref m3_9)])) _
    refine XT.iconstV X86.here hx rfl (0 : Int32) (hb hby at_219) rfl ?_
    show Steps p.tables e below (T86.setTop (mkF m 220 #[.val (.long ja), .second, .val (.long jb), .second, .val (.long jt), .second, .val (.ref ob1), .val (.ref ob3), .unset, .unset] [(.int (0 : Int32)), (.ref m3_9)])) _
    refine XT.lloadN X86.here hx rfl (hb hby at_220) rfl ?_
    show Steps p.tables e below (T86.setTop (mkF m 221 #[.val (.long ja), .second, .val (.long jb), .second, .val (.long jt), .second, .val (.ref ob1), .val (.ref ob3), .unset, .unset] [(.long jb), (.int (0 : Int32)), (.ref m3_9)])) _
    refine X86.ldc2J hx hown (mvT hZ (hw _ (List.mem_of_getElem? (i := 27) rfl))) (g := (mkF m 221 #[.val (.long ja), .second, .val (.long jb), .second, .val (.long jt), .second, .val (.ref ob1), .val (.ref ob3), .unset, .unset] [(.long jb), (.int (0 : Int32)), (.ref m3_9)])) rfl (hb hby at_221) ?_
    show Steps p.tables e below (T86.setTop (mkF m 224 #[.val (.long ja), .second, .val (.long jb), .second, .val (.long jt), .second, .val (.ref ob1), .val (.ref ob3), .unset, .unset] [(.long (7 : Int64)), (.long jb), (.int (0 : Int32)), (.ref m3_9)])) _
    refine XT.ladd X86.here hx rfl (hb hby at_224) rfl ?_
    show Steps p.tables e below (T86.setTop (mkF m 225 #[.val (.long ja), .second, .val (.long jb), .second, .val (.long jt), .second, .val (.ref ob1), .val (.ref ob3), .unset, .unset] [(.long (jb + (7 : Int64))), (.int (0 : Int32)), (.ref m3_9)])) _
    refine st89 _ ?_
    show Steps p.tables e below (T89.setTop (mkF m 226 #[.val (.long ja), .second, .val (.long jb), .second, .val (.long jt), .second, .val (.ref ob1), .val (.ref ob3), .unset, .unset] [])) _
    refine XS.aload X89.here hx rfl (hb hby at_226) rfl rfl ?_
    show Steps p.tables e below (T89.setTop (mkF m 228 #[.val (.long ja), .second, .val (.long jb), .second, .val (.long jt), .second, .val (.ref ob1), .val (.ref ob3), .unset, .unset] [(.ref ob3)])) _
    refine st91 _ ?_
    show Steps p.tables e below (T91.setTop (mkF m 231 #[.val (.long ja), .second, .val (.long jb), .second, .val (.long jt), .second, .val (.ref ob1), .val (.ref ob3), .unset, .unset] [(.ref m3_9)])) _
    refine XT.iconstV X91.here hx rfl (1 : Int32) (hb hby at_231) rfl ?_
    show Steps p.tables e below (T91.setTop (mkF m 232 #[.val (.long ja), .second, .val (.long jb), .second, .val (.long jt), .second, .val (.ref ob1), .val (.ref ob3), .unset, .unset] [(.int (1 : Int32)), (.ref m3_9)])) _
    refine XT.lloadN X91.here hx rfl (hb hby at_232) rfl ?_
    show Steps p.tables e below (T91.setTop (mkF m 233 #[.val (.long ja), .second, .val (.long jb), .second, .val (.long jt), .second, .val (.ref ob1), .val (.ref ob3), .unset, .unset] [(.long jb), (.int (1 : Int32)), (.ref m3_9)])) _
    refine X91.ldc2J hx hown (mvT hZ (hw _ (List.mem_of_getElem? (i := 28) rfl))) (g := (mkF m 233 #[.val (.long ja), .second, .val (.long jb), .second, .val (.long jt), .second, .val (.ref ob1), .val (.ref ob3), .unset, .unset] [(.long jb), (.int (1 : Int32)), (.ref m3_9)])) rfl (hb hby at_233) ?_
    show Steps p.tables e below (T91.setTop (mkF m 236 #[.val (.long ja), .second, .val (.long jb), .second, .val (.long jt), .second, .val (.ref ob1), .val (.ref ob3), .unset, .unset] [(.long (8 : Int64)), (.long jb), (.int (1 : Int32)), (.ref m3_9)])) _
    refine XT.ladd X91.here hx rfl (hb hby at_236) rfl ?_
    show Steps p.tables e below (T91.setTop (mkF m 237 #[.val (.long ja), .second, .val (.long jb), .second, .val (.long jt), .second, .val (.ref ob1), .val (.ref ob3), .unset, .unset] [(.long (jb + (8 : Int64))), (.int (1 : Int32)), (.ref m3_9)])) _
    refine st93 _ ?_
    show Steps p.tables e below (T93.setTop (mkF m 238 #[.val (.long ja), .second, .val (.long jb), .second, .val (.long jt), .second, .val (.ref ob1), .val (.ref ob3), .unset, .unset] [])) _
    refine XS.aload X93.here hx rfl (hb hby at_238) rfl rfl ?_
    show Steps p.tables e below (T93.setTop (mkF m 240 #[.val (.long ja), .second, .val (.long jb), .second, .val (.long jt), .second, .val (.ref ob1), .val (.ref ob3), .unset, .unset] [(.ref ob3)])) _
    refine st95 _ ?_
    show Steps p.tables e below (T95.setTop (mkF m 243 #[.val (.long ja), .second, .val (.long jb), .second, .val (.long jt), .second, .val (.ref ob1), .val (.ref ob3), .unset, .unset] [(.ref m3_9)])) _
    refine XT.iconstV X95.here hx rfl (2 : Int32) (hb hby at_243) rfl ?_
    show Steps p.tables e below (T95.setTop (mkF m 244 #[.val (.long ja), .second, .val (.long jb), .second, .val (.long jt), .second, .val (.ref ob1), .val (.ref ob3), .unset, .unset] [(.int (2 : Int32)), (.ref m3_9)])) _
    refine XT.lloadN X95.here hx rfl (hb hby at_244) rfl ?_
    show Steps p.tables e below (T95.setTop (mkF m 245 #[.val (.long ja), .second, .val (.long jb), .second, .val (.long jt), .second, .val (.ref ob1), .val (.ref ob3), .unset, .unset] [(.long jb), (.int (2 : Int32)), (.ref m3_9)])) _
    refine X95.ldc2J hx hown (mvT hZ (hw _ (List.mem_of_getElem? (i := 29) rfl))) (g := (mkF m 245 #[.val (.long ja), .second, .val (.long jb), .second, .val (.long jt), .second, .val (.ref ob1), .val (.ref ob3), .unset, .unset] [(.long jb), (.int (2 : Int32)), (.ref m3_9)])) rfl (hb hby at_245) ?_
    show Steps p.tables e below (T95.setTop (mkF m 248 #[.val (.long ja), .second, .val (.long jb), .second, .val (.long jt), .second, .val (.ref ob1), .val (.ref ob3), .unset, .unset] [(.long (9 : Int64)), (.long jb), (.int (2 : Int32)), (.ref m3_9)])) _
    refine XT.ladd X95.here hx rfl (hb hby at_248) rfl ?_
    show Steps p.tables e below (T95.setTop (mkF m 249 #[.val (.long ja), .second, .val (.long jb), .second, .val (.long jt), .second, .val (.ref ob1), .val (.ref ob3), .unset, .unset] [(.long (jb + (9 : Int64))), (.int (2 : Int32)), (.ref m3_9)])) _
    refine st97 _ ?_
    show Steps p.tables e below (T97.setTop (mkF m 250 #[.val (.long ja), .second, .val (.long jb), .second, .val (.long jt), .second, .val (.ref ob1), .val (.ref ob3), .unset, .unset] [])) _
    refine XS.aload X97.here hx rfl (hb hby at_250) rfl rfl ?_
    show Steps p.tables e below (T97.setTop (mkF m 252 #[.val (.long ja), .second, .val (.long jb), .second, .val (.long jt), .second, .val (.ref ob1), .val (.ref ob3), .unset, .unset] [(.ref ob1)])) _
    refine XS.aload X97.here hx rfl (hb hby at_252) rfl rfl ?_
    show Steps p.tables e below (T97.setTop (mkF m 254 #[.val (.long ja), .second, .val (.long jb), .second, .val (.long jt), .second, .val (.ref ob1), .val (.ref ob3), .unset, .unset] [(.ref ob3), (.ref ob1)])) _
    refine XT.lload X97.here hx rfl (hb hby at_254) rfl ?_
    show Steps p.tables e below (T97.setTop (mkF m 256 #[.val (.long ja), .second, .val (.long jb), .second, .val (.long jt), .second, .val (.ref ob1), .val (.ref ob3), .unset, .unset] [(.long jt), (.ref ob3), (.ref ob1)])) _
    refine st116.trans ?_
    show Steps p.tables e below (T116.setTop (mkF m 259 #[.val (.long ja), .second, .val (.long jb), .second, .val (.long jt), .second, .val (.ref ob1), .val (.ref ob3), .unset, .unset] [])) _
    refine XS.aload X116.here hx rfl (hb hby at_259) rfl rfl ?_
    show Steps p.tables e below (T116.setTop (mkF m 261 #[.val (.long ja), .second, .val (.long jb), .second, .val (.long jt), .second, .val (.ref ob1), .val (.ref ob3), .unset, .unset] [(.ref ob1)])) _
    refine st118 _ ?_
    show Steps p.tables e below (T118.setTop (mkF m 264 #[.val (.long ja), .second, .val (.long jb), .second, .val (.long jt), .second, .val (.ref ob1), .val (.ref ob3), .unset, .unset] [(.ref m0_2)])) _
    refine XT.iconstV X118.here hx rfl (0 : Int32) (hb hby at_264) rfl ?_
    show Steps p.tables e below (T118.setTop (mkF m 265 #[.val (.long ja), .second, .val (.long jb), .second, .val (.long jt), .second, .val (.ref ob1), .val (.ref ob3), .unset, .unset] [(.int (0 : Int32)), (.ref m0_2)])) _
    refine X118.laload hx (j := (0 : Int32)) (v := (.long (ja + (jb * jt)))) (by rw [e118]; exact Ar119.1) (State.isArrayOf_alike hZ.alike Ar119.2.1) Ar119.2.2 ghin119 ghat119 (g := (mkF m 265 #[.val (.long ja), .second, .val (.long jb), .second, .val (.long jt), .second, .val (.ref ob1), .val (.ref ob3), .unset, .unset] [(.int (0 : Int32)), (.ref m0_2)])) rfl rfl (hb hby at_265) _ ?_
    show Steps p.tables e below (T118.setTop (mkF m 266 #[.val (.long ja), .second, .val (.long jb), .second, .val (.long jt), .second, .val (.ref ob1), .val (.ref ob3), .unset, .unset] [(.long (ja + (jb * jt)))])) _
    refine XT.lloadN X118.here hx rfl (hb hby at_266) rfl ?_
    show Steps p.tables e below (T118.setTop (mkF m 267 #[.val (.long ja), .second, .val (.long jb), .second, .val (.long jt), .second, .val (.ref ob1), .val (.ref ob3), .unset, .unset] [(.long ja), (.long (ja + (jb * jt)))])) _
    refine XT.lloadN X118.here hx rfl (hb hby at_267) rfl ?_
    show Steps p.tables e below (T118.setTop (mkF m 268 #[.val (.long ja), .second, .val (.long jb), .second, .val (.long jt), .second, .val (.ref ob1), .val (.ref ob3), .unset, .unset] [(.long jb), (.long ja), (.long (ja + (jb * jt)))])) _
    refine XT.lload X118.here hx rfl (hb hby at_268) rfl ?_
    show Steps p.tables e below (T118.setTop (mkF m 270 #[.val (.long ja), .second, .val (.long jb), .second, .val (.long jt), .second, .val (.ref ob1), .val (.ref ob3), .unset, .unset] [(.long jt), (.long jb), (.long ja), (.long (ja + (jb * jt)))])) _
    refine XT.iconstV X118.here hx rfl (0 : Int32) (hb hby at_270) rfl ?_
    show Steps p.tables e below (T118.setTop (mkF m 271 #[.val (.long ja), .second, .val (.long jb), .second, .val (.long jt), .second, .val (.ref ob1), .val (.ref ob3), .unset, .unset] [(.int (0 : Int32)), (.long jt), (.long jb), (.long ja), (.long (ja + (jb * jt)))])) _
    refine st120 _ ?_
    show Steps p.tables e below (T120.setTop (mkF m 274 #[.val (.long ja), .second, .val (.long jb), .second, .val (.long jt), .second, .val (.ref ob1), .val (.ref ob3), .unset, .unset] [(.long ((ja + ((0 : Int32).toInt64)) + ((jb + ((0 : Int32).toInt64)) * jt))), (.long (ja + (jb * jt)))])) _
    refine XT.lcmp X120.here hx rfl (hb hby at_274) rfl ?_
    show Steps p.tables e below (T120.setTop (mkF m 275 #[.val (.long ja), .second, .val (.long jb), .second, .val (.long jt), .second, .val (.ref ob1), .val (.ref ob3), .unset, .unset] [(.int (XT.cmpL (ja + (jb * jt)) ((ja + ((0 : Int32).toInt64)) + ((jb + ((0 : Int32).toInt64)) * jt))))])) _
    refine XS.ifNo X120.here hx rfl (hb hby at_275) rfl (XT.ll_ne_f (own_exp0 _ _ _)) ?_
    show Steps p.tables e below (T120.setTop (mkF m 278 #[.val (.long ja), .second, .val (.long jb), .second, .val (.long jt), .second, .val (.ref ob1), .val (.ref ob3), .unset, .unset] [])) _
    refine XS.aload X120.here hx rfl (hb hby at_278) rfl rfl ?_
    show Steps p.tables e below (T120.setTop (mkF m 280 #[.val (.long ja), .second, .val (.long jb), .second, .val (.long jt), .second, .val (.ref ob1), .val (.ref ob3), .unset, .unset] [(.ref ob1)])) _
    refine st121 _ ?_
    show Steps p.tables e below (T121.setTop (mkF m 283 #[.val (.long ja), .second, .val (.long jb), .second, .val (.long jt), .second, .val (.ref ob1), .val (.ref ob3), .unset, .unset] [(.ref m0_2)])) _
    refine XT.iconstV X121.here hx rfl (1 : Int32) (hb hby at_283) rfl ?_
    show Steps p.tables e below (T121.setTop (mkF m 284 #[.val (.long ja), .second, .val (.long jb), .second, .val (.long jt), .second, .val (.ref ob1), .val (.ref ob3), .unset, .unset] [(.int (1 : Int32)), (.ref m0_2)])) _
    refine X121.laload hx (j := (1 : Int32)) (v := (.long ((ja + (1 : Int64)) + ((jb + (1 : Int64)) * jt)))) (by rw [e121]; exact Ar122.1) (State.isArrayOf_alike hZ.alike Ar122.2.1) Ar122.2.2 ghin122 ghat122 (g := (mkF m 284 #[.val (.long ja), .second, .val (.long jb), .second, .val (.long jt), .second, .val (.ref ob1), .val (.ref ob3), .unset, .unset] [(.int (1 : Int32)), (.ref m0_2)])) rfl rfl (hb hby at_284) _ ?_
    show Steps p.tables e below (T121.setTop (mkF m 285 #[.val (.long ja), .second, .val (.long jb), .second, .val (.long jt), .second, .val (.ref ob1), .val (.ref ob3), .unset, .unset] [(.long ((ja + (1 : Int64)) + ((jb + (1 : Int64)) * jt)))])) _
    refine XT.lloadN X121.here hx rfl (hb hby at_285) rfl ?_
    show Steps p.tables e below (T121.setTop (mkF m 286 #[.val (.long ja), .second, .val (.long jb), .second, .val (.long jt), .second, .val (.ref ob1), .val (.ref ob3), .unset, .unset] [(.long ja), (.long ((ja + (1 : Int64)) + ((jb + (1 : Int64)) * jt)))])) _
    refine XT.lloadN X121.here hx rfl (hb hby at_286) rfl ?_
    show Steps p.tables e below (T121.setTop (mkF m 287 #[.val (.long ja), .second, .val (.long jb), .second, .val (.long jt), .second, .val (.ref ob1), .val (.ref ob3), .unset, .unset] [(.long jb), (.long ja), (.long ((ja + (1 : Int64)) + ((jb + (1 : Int64)) * jt)))])) _
    refine XT.lload X121.here hx rfl (hb hby at_287) rfl ?_
    show Steps p.tables e below (T121.setTop (mkF m 289 #[.val (.long ja), .second, .val (.long jb), .second, .val (.long jt), .second, .val (.ref ob1), .val (.ref ob3), .unset, .unset] [(.long jt), (.long jb), (.long ja), (.long ((ja + (1 : Int64)) + ((jb + (1 : Int64)) * jt)))])) _
    refine XT.iconstV X121.here hx rfl (1 : Int32) (hb hby at_289) rfl ?_
    show Steps p.tables e below (T121.setTop (mkF m 290 #[.val (.long ja), .second, .val (.long jb), .second, .val (.long jt), .second, .val (.ref ob1), .val (.ref ob3), .unset, .unset] [(.int (1 : Int32)), (.long jt), (.long jb), (.long ja), (.long ((ja + (1 : Int64)) + ((jb + (1 : Int64)) * jt)))])) _
    refine st123 _ ?_
    show Steps p.tables e below (T123.setTop (mkF m 293 #[.val (.long ja), .second, .val (.long jb), .second, .val (.long jt), .second, .val (.ref ob1), .val (.ref ob3), .unset, .unset] [(.long ((ja + ((1 : Int32).toInt64)) + ((jb + ((1 : Int32).toInt64)) * jt))), (.long ((ja + (1 : Int64)) + ((jb + (1 : Int64)) * jt)))])) _
    refine XT.lcmp X123.here hx rfl (hb hby at_293) rfl ?_
    show Steps p.tables e below (T123.setTop (mkF m 294 #[.val (.long ja), .second, .val (.long jb), .second, .val (.long jt), .second, .val (.ref ob1), .val (.ref ob3), .unset, .unset] [(.int (XT.cmpL ((ja + (1 : Int64)) + ((jb + (1 : Int64)) * jt)) ((ja + ((1 : Int32).toInt64)) + ((jb + ((1 : Int32).toInt64)) * jt))))])) _
    refine XS.ifNo X123.here hx rfl (hb hby at_294) rfl (XT.ll_ne_f rfl) ?_
    show Steps p.tables e below (T123.setTop (mkF m 297 #[.val (.long ja), .second, .val (.long jb), .second, .val (.long jt), .second, .val (.ref ob1), .val (.ref ob3), .unset, .unset] [])) _
    refine XS.aload X123.here hx rfl (hb hby at_297) rfl rfl ?_
    show Steps p.tables e below (T123.setTop (mkF m 299 #[.val (.long ja), .second, .val (.long jb), .second, .val (.long jt), .second, .val (.ref ob1), .val (.ref ob3), .unset, .unset] [(.ref ob1)])) _
    refine st125 _ ?_
    show Steps p.tables e below (T125.setTop (mkF m 302 #[.val (.long ja), .second, .val (.long jb), .second, .val (.long jt), .second, .val (.ref ob1), .val (.ref ob3), .unset, .unset] [(.ref m1_2)])) _
    refine XT.iconstV X125.here hx rfl (0 : Int32) (hb hby at_302) rfl ?_
    show Steps p.tables e below (T125.setTop (mkF m 303 #[.val (.long ja), .second, .val (.long jb), .second, .val (.long jt), .second, .val (.ref ob1), .val (.ref ob3), .unset, .unset] [(.int (0 : Int32)), (.ref m1_2)])) _
    refine X125.laload hx (j := (0 : Int32)) (v := (.long ((ja + (2 : Int64)) + ((jb + (2 : Int64)) * jt)))) (by rw [e125]; exact Ar126.1) (State.isArrayOf_alike hZ.alike Ar126.2.1) Ar126.2.2 ghin126 ghat126 (g := (mkF m 303 #[.val (.long ja), .second, .val (.long jb), .second, .val (.long jt), .second, .val (.ref ob1), .val (.ref ob3), .unset, .unset] [(.int (0 : Int32)), (.ref m1_2)])) rfl rfl (hb hby at_303) _ ?_
    show Steps p.tables e below (T125.setTop (mkF m 304 #[.val (.long ja), .second, .val (.long jb), .second, .val (.long jt), .second, .val (.ref ob1), .val (.ref ob3), .unset, .unset] [(.long ((ja + (2 : Int64)) + ((jb + (2 : Int64)) * jt)))])) _
    refine XT.lloadN X125.here hx rfl (hb hby at_304) rfl ?_
    show Steps p.tables e below (T125.setTop (mkF m 305 #[.val (.long ja), .second, .val (.long jb), .second, .val (.long jt), .second, .val (.ref ob1), .val (.ref ob3), .unset, .unset] [(.long ja), (.long ((ja + (2 : Int64)) + ((jb + (2 : Int64)) * jt)))])) _
    refine XT.lloadN X125.here hx rfl (hb hby at_305) rfl ?_
    show Steps p.tables e below (T125.setTop (mkF m 306 #[.val (.long ja), .second, .val (.long jb), .second, .val (.long jt), .second, .val (.ref ob1), .val (.ref ob3), .unset, .unset] [(.long jb), (.long ja), (.long ((ja + (2 : Int64)) + ((jb + (2 : Int64)) * jt)))])) _
    refine XT.lload X125.here hx rfl (hb hby at_306) rfl ?_
    show Steps p.tables e below (T125.setTop (mkF m 308 #[.val (.long ja), .second, .val (.long jb), .second, .val (.long jt), .second, .val (.ref ob1), .val (.ref ob3), .unset, .unset] [(.long jt), (.long jb), (.long ja), (.long ((ja + (2 : Int64)) + ((jb + (2 : Int64)) * jt)))])) _
    refine XT.iconstV X125.here hx rfl (2 : Int32) (hb hby at_308) rfl ?_
    show Steps p.tables e below (T125.setTop (mkF m 309 #[.val (.long ja), .second, .val (.long jb), .second, .val (.long jt), .second, .val (.ref ob1), .val (.ref ob3), .unset, .unset] [(.int (2 : Int32)), (.long jt), (.long jb), (.long ja), (.long ((ja + (2 : Int64)) + ((jb + (2 : Int64)) * jt)))])) _
    refine st127 _ ?_
    show Steps p.tables e below (T127.setTop (mkF m 312 #[.val (.long ja), .second, .val (.long jb), .second, .val (.long jt), .second, .val (.ref ob1), .val (.ref ob3), .unset, .unset] [(.long ((ja + ((2 : Int32).toInt64)) + ((jb + ((2 : Int32).toInt64)) * jt))), (.long ((ja + (2 : Int64)) + ((jb + (2 : Int64)) * jt)))])) _
    refine XT.lcmp X127.here hx rfl (hb hby at_312) rfl ?_
    show Steps p.tables e below (T127.setTop (mkF m 313 #[.val (.long ja), .second, .val (.long jb), .second, .val (.long jt), .second, .val (.ref ob1), .val (.ref ob3), .unset, .unset] [(.int (XT.cmpL ((ja + (2 : Int64)) + ((jb + (2 : Int64)) * jt)) ((ja + ((2 : Int32).toInt64)) + ((jb + ((2 : Int32).toInt64)) * jt))))])) _
    refine XS.ifNo X127.here hx rfl (hb hby at_313) rfl (XT.ll_ne_f rfl) ?_
    show Steps p.tables e below (T127.setTop (mkF m 316 #[.val (.long ja), .second, .val (.long jb), .second, .val (.long jt), .second, .val (.ref ob1), .val (.ref ob3), .unset, .unset] [])) _
    refine XS.aload X127.here hx rfl (hb hby at_316) rfl rfl ?_
    show Steps p.tables e below (T127.setTop (mkF m 318 #[.val (.long ja), .second, .val (.long jb), .second, .val (.long jt), .second, .val (.ref ob1), .val (.ref ob3), .unset, .unset] [(.ref ob1)])) _
    refine st128 _ ?_
    show Steps p.tables e below (T128.setTop (mkF m 321 #[.val (.long ja), .second, .val (.long jb), .second, .val (.long jt), .second, .val (.ref ob1), .val (.ref ob3), .unset, .unset] [(.ref m1_2)])) _
    refine XT.iconstV X128.here hx rfl (1 : Int32) (hb hby at_321) rfl ?_
    show Steps p.tables e below (T128.setTop (mkF m 322 #[.val (.long ja), .second, .val (.long jb), .second, .val (.long jt), .second, .val (.ref ob1), .val (.ref ob3), .unset, .unset] [(.int (1 : Int32)), (.ref m1_2)])) _
    refine X128.laload hx (j := (1 : Int32)) (v := (.long ((ja + (3 : Int64)) + ((jb + (3 : Int64)) * jt)))) (by rw [e128]; exact Ar129.1) (State.isArrayOf_alike hZ.alike Ar129.2.1) Ar129.2.2 ghin129 ghat129 (g := (mkF m 322 #[.val (.long ja), .second, .val (.long jb), .second, .val (.long jt), .second, .val (.ref ob1), .val (.ref ob3), .unset, .unset] [(.int (1 : Int32)), (.ref m1_2)])) rfl rfl (hb hby at_322) _ ?_
    show Steps p.tables e below (T128.setTop (mkF m 323 #[.val (.long ja), .second, .val (.long jb), .second, .val (.long jt), .second, .val (.ref ob1), .val (.ref ob3), .unset, .unset] [(.long ((ja + (3 : Int64)) + ((jb + (3 : Int64)) * jt)))])) _
    refine XT.lloadN X128.here hx rfl (hb hby at_323) rfl ?_
    show Steps p.tables e below (T128.setTop (mkF m 324 #[.val (.long ja), .second, .val (.long jb), .second, .val (.long jt), .second, .val (.ref ob1), .val (.ref ob3), .unset, .unset] [(.long ja), (.long ((ja + (3 : Int64)) + ((jb + (3 : Int64)) * jt)))])) _
    refine XT.lloadN X128.here hx rfl (hb hby at_324) rfl ?_
    show Steps p.tables e below (T128.setTop (mkF m 325 #[.val (.long ja), .second, .val (.long jb), .second, .val (.long jt), .second, .val (.ref ob1), .val (.ref ob3), .unset, .unset] [(.long jb), (.long ja), (.long ((ja + (3 : Int64)) + ((jb + (3 : Int64)) * jt)))])) _
    refine XT.lload X128.here hx rfl (hb hby at_325) rfl ?_
    show Steps p.tables e below (T128.setTop (mkF m 327 #[.val (.long ja), .second, .val (.long jb), .second, .val (.long jt), .second, .val (.ref ob1), .val (.ref ob3), .unset, .unset] [(.long jt), (.long jb), (.long ja), (.long ((ja + (3 : Int64)) + ((jb + (3 : Int64)) * jt)))])) _
    refine XT.iconstV X128.here hx rfl (3 : Int32) (hb hby at_327) rfl ?_
    show Steps p.tables e below (T128.setTop (mkF m 328 #[.val (.long ja), .second, .val (.long jb), .second, .val (.long jt), .second, .val (.ref ob1), .val (.ref ob3), .unset, .unset] [(.int (3 : Int32)), (.long jt), (.long jb), (.long ja), (.long ((ja + (3 : Int64)) + ((jb + (3 : Int64)) * jt)))])) _
    refine st130 _ ?_
    show Steps p.tables e below (T130.setTop (mkF m 331 #[.val (.long ja), .second, .val (.long jb), .second, .val (.long jt), .second, .val (.ref ob1), .val (.ref ob3), .unset, .unset] [(.long ((ja + ((3 : Int32).toInt64)) + ((jb + ((3 : Int32).toInt64)) * jt))), (.long ((ja + (3 : Int64)) + ((jb + (3 : Int64)) * jt)))])) _
    refine XT.lcmp X130.here hx rfl (hb hby at_331) rfl ?_
    show Steps p.tables e below (T130.setTop (mkF m 332 #[.val (.long ja), .second, .val (.long jb), .second, .val (.long jt), .second, .val (.ref ob1), .val (.ref ob3), .unset, .unset] [(.int (XT.cmpL ((ja + (3 : Int64)) + ((jb + (3 : Int64)) * jt)) ((ja + ((3 : Int32).toInt64)) + ((jb + ((3 : Int32).toInt64)) * jt))))])) _
    refine XS.ifNo X130.here hx rfl (hb hby at_332) rfl (XT.ll_ne_f rfl) ?_
    show Steps p.tables e below (T130.setTop (mkF m 335 #[.val (.long ja), .second, .val (.long jb), .second, .val (.long jt), .second, .val (.ref ob1), .val (.ref ob3), .unset, .unset] [])) _
    refine XS.aload X130.here hx rfl (hb hby at_335) rfl rfl ?_
    show Steps p.tables e below (T130.setTop (mkF m 337 #[.val (.long ja), .second, .val (.long jb), .second, .val (.long jt), .second, .val (.ref ob1), .val (.ref ob3), .unset, .unset] [(.ref ob1)])) _
    refine st132 _ ?_
    show Steps p.tables e below (T132.setTop (mkF m 340 #[.val (.long ja), .second, .val (.long jb), .second, .val (.long jt), .second, .val (.ref ob1), .val (.ref ob3), .unset, .unset] [(.ref m2_2)])) _
    refine XT.iconstV X132.here hx rfl (0 : Int32) (hb hby at_340) rfl ?_
    show Steps p.tables e below (T132.setTop (mkF m 341 #[.val (.long ja), .second, .val (.long jb), .second, .val (.long jt), .second, .val (.ref ob1), .val (.ref ob3), .unset, .unset] [(.int (0 : Int32)), (.ref m2_2)])) _
    refine X132.laload hx (j := (0 : Int32)) (v := (.long ((ja + (4 : Int64)) + ((jb + (4 : Int64)) * jt)))) (by rw [e132]; exact Ar133.1) (State.isArrayOf_alike hZ.alike Ar133.2.1) Ar133.2.2 ghin133 ghat133 (g := (mkF m 341 #[.val (.long ja), .second, .val (.long jb), .second, .val (.long jt), .second, .val (.ref ob1), .val (.ref ob3), .unset, .unset] [(.int (0 : Int32)), (.ref m2_2)])) rfl rfl (hb hby at_341) _ ?_
    show Steps p.tables e below (T132.setTop (mkF m 342 #[.val (.long ja), .second, .val (.long jb), .second, .val (.long jt), .second, .val (.ref ob1), .val (.ref ob3), .unset, .unset] [(.long ((ja + (4 : Int64)) + ((jb + (4 : Int64)) * jt)))])) _
    refine XT.lloadN X132.here hx rfl (hb hby at_342) rfl ?_
    show Steps p.tables e below (T132.setTop (mkF m 343 #[.val (.long ja), .second, .val (.long jb), .second, .val (.long jt), .second, .val (.ref ob1), .val (.ref ob3), .unset, .unset] [(.long ja), (.long ((ja + (4 : Int64)) + ((jb + (4 : Int64)) * jt)))])) _
    refine XT.lloadN X132.here hx rfl (hb hby at_343) rfl ?_
    show Steps p.tables e below (T132.setTop (mkF m 344 #[.val (.long ja), .second, .val (.long jb), .second, .val (.long jt), .second, .val (.ref ob1), .val (.ref ob3), .unset, .unset] [(.long jb), (.long ja), (.long ((ja + (4 : Int64)) + ((jb + (4 : Int64)) * jt)))])) _
    refine XT.lload X132.here hx rfl (hb hby at_344) rfl ?_
    show Steps p.tables e below (T132.setTop (mkF m 346 #[.val (.long ja), .second, .val (.long jb), .second, .val (.long jt), .second, .val (.ref ob1), .val (.ref ob3), .unset, .unset] [(.long jt), (.long jb), (.long ja), (.long ((ja + (4 : Int64)) + ((jb + (4 : Int64)) * jt)))])) _
    refine XT.iconstV X132.here hx rfl (4 : Int32) (hb hby at_346) rfl ?_
    show Steps p.tables e below (T132.setTop (mkF m 347 #[.val (.long ja), .second, .val (.long jb), .second, .val (.long jt), .second, .val (.ref ob1), .val (.ref ob3), .unset, .unset] [(.int (4 : Int32)), (.long jt), (.long jb), (.long ja), (.long ((ja + (4 : Int64)) + ((jb + (4 : Int64)) * jt)))])) _
    refine st134 _ ?_
    show Steps p.tables e below (T134.setTop (mkF m 350 #[.val (.long ja), .second, .val (.long jb), .second, .val (.long jt), .second, .val (.ref ob1), .val (.ref ob3), .unset, .unset] [(.long ((ja + ((4 : Int32).toInt64)) + ((jb + ((4 : Int32).toInt64)) * jt))), (.long ((ja + (4 : Int64)) + ((jb + (4 : Int64)) * jt)))])) _
    refine XT.lcmp X134.here hx rfl (hb hby at_350) rfl ?_
    show Steps p.tables e below (T134.setTop (mkF m 351 #[.val (.long ja), .second, .val (.long jb), .second, .val (.long jt), .second, .val (.ref ob1), .val (.ref ob3), .unset, .unset] [(.int (XT.cmpL ((ja + (4 : Int64)) + ((jb + (4 : Int64)) * jt)) ((ja + ((4 : Int32).toInt64)) + ((jb + ((4 : Int32).toInt64)) * jt))))])) _
    refine XS.ifNo X134.here hx rfl (hb hby at_351) rfl (XT.ll_ne_f rfl) ?_
    show Steps p.tables e below (T134.setTop (mkF m 354 #[.val (.long ja), .second, .val (.long jb), .second, .val (.long jt), .second, .val (.ref ob1), .val (.ref ob3), .unset, .unset] [])) _
    refine XS.aload X134.here hx rfl (hb hby at_354) rfl rfl ?_
    show Steps p.tables e below (T134.setTop (mkF m 356 #[.val (.long ja), .second, .val (.long jb), .second, .val (.long jt), .second, .val (.ref ob1), .val (.ref ob3), .unset, .unset] [(.ref ob1)])) _
    refine st135 _ ?_
    show Steps p.tables e below (T135.setTop (mkF m 359 #[.val (.long ja), .second, .val (.long jb), .second, .val (.long jt), .second, .val (.ref ob1), .val (.ref ob3), .unset, .unset] [(.ref m2_2)])) _
    refine XT.iconstV X135.here hx rfl (1 : Int32) (hb hby at_359) rfl ?_
    show Steps p.tables e below (T135.setTop (mkF m 360 #[.val (.long ja), .second, .val (.long jb), .second, .val (.long jt), .second, .val (.ref ob1), .val (.ref ob3), .unset, .unset] [(.int (1 : Int32)), (.ref m2_2)])) _
    refine X135.laload hx (j := (1 : Int32)) (v := (.long ((ja + (5 : Int64)) + ((jb + (5 : Int64)) * jt)))) (by rw [e135]; exact Ar136.1) (State.isArrayOf_alike hZ.alike Ar136.2.1) Ar136.2.2 ghin136 ghat136 (g := (mkF m 360 #[.val (.long ja), .second, .val (.long jb), .second, .val (.long jt), .second, .val (.ref ob1), .val (.ref ob3), .unset, .unset] [(.int (1 : Int32)), (.ref m2_2)])) rfl rfl (hb hby at_360) _ ?_
    show Steps p.tables e below (T135.setTop (mkF m 361 #[.val (.long ja), .second, .val (.long jb), .second, .val (.long jt), .second, .val (.ref ob1), .val (.ref ob3), .unset, .unset] [(.long ((ja + (5 : Int64)) + ((jb + (5 : Int64)) * jt)))])) _
    refine XT.lloadN X135.here hx rfl (hb hby at_361) rfl ?_
    show Steps p.tables e below (T135.setTop (mkF m 362 #[.val (.long ja), .second, .val (.long jb), .second, .val (.long jt), .second, .val (.ref ob1), .val (.ref ob3), .unset, .unset] [(.long ja), (.long ((ja + (5 : Int64)) + ((jb + (5 : Int64)) * jt)))])) _
    refine XT.lloadN X135.here hx rfl (hb hby at_362) rfl ?_
    show Steps p.tables e below (T135.setTop (mkF m 363 #[.val (.long ja), .second, .val (.long jb), .second, .val (.long jt), .second, .val (.ref ob1), .val (.ref ob3), .unset, .unset] [(.long jb), (.long ja), (.long ((ja + (5 : Int64)) + ((jb + (5 : Int64)) * jt)))])) _
    refine XT.lload X135.here hx rfl (hb hby at_363) rfl ?_
    show Steps p.tables e below (T135.setTop (mkF m 365 #[.val (.long ja), .second, .val (.long jb), .second, .val (.long jt), .second, .val (.ref ob1), .val (.ref ob3), .unset, .unset] [(.long jt), (.long jb), (.long ja), (.long ((ja + (5 : Int64)) + ((jb + (5 : Int64)) * jt)))])) _
    refine XT.iconstV X135.here hx rfl (5 : Int32) (hb hby at_365) rfl ?_
    show Steps p.tables e below (T135.setTop (mkF m 366 #[.val (.long ja), .second, .val (.long jb), .second, .val (.long jt), .second, .val (.ref ob1), .val (.ref ob3), .unset, .unset] [(.int (5 : Int32)), (.long jt), (.long jb), (.long ja), (.long ((ja + (5 : Int64)) + ((jb + (5 : Int64)) * jt)))])) _
    refine st137 _ ?_
    show Steps p.tables e below (T137.setTop (mkF m 369 #[.val (.long ja), .second, .val (.long jb), .second, .val (.long jt), .second, .val (.ref ob1), .val (.ref ob3), .unset, .unset] [(.long ((ja + ((5 : Int32).toInt64)) + ((jb + ((5 : Int32).toInt64)) * jt))), (.long ((ja + (5 : Int64)) + ((jb + (5 : Int64)) * jt)))])) _
    refine XT.lcmp X137.here hx rfl (hb hby at_369) rfl ?_
    show Steps p.tables e below (T137.setTop (mkF m 370 #[.val (.long ja), .second, .val (.long jb), .second, .val (.long jt), .second, .val (.ref ob1), .val (.ref ob3), .unset, .unset] [(.int (XT.cmpL ((ja + (5 : Int64)) + ((jb + (5 : Int64)) * jt)) ((ja + ((5 : Int32).toInt64)) + ((jb + ((5 : Int32).toInt64)) * jt))))])) _
    refine XS.ifNo X137.here hx rfl (hb hby at_370) rfl (XT.ll_ne_f rfl) ?_
    show Steps p.tables e below (T137.setTop (mkF m 373 #[.val (.long ja), .second, .val (.long jb), .second, .val (.long jt), .second, .val (.ref ob1), .val (.ref ob3), .unset, .unset] [])) _
    refine XS.aload X137.here hx rfl (hb hby at_373) rfl rfl ?_
    show Steps p.tables e below (T137.setTop (mkF m 375 #[.val (.long ja), .second, .val (.long jb), .second, .val (.long jt), .second, .val (.ref ob1), .val (.ref ob3), .unset, .unset] [(.ref ob1)])) _
    refine st138 _ ?_
    show Steps p.tables e below (T138.setTop (mkF m 378 #[.val (.long ja), .second, .val (.long jb), .second, .val (.long jt), .second, .val (.ref ob1), .val (.ref ob3), .unset, .unset] [(.ref m2_2)])) _
    refine XT.iconstV X138.here hx rfl (2 : Int32) (hb hby at_378) rfl ?_
    show Steps p.tables e below (T138.setTop (mkF m 379 #[.val (.long ja), .second, .val (.long jb), .second, .val (.long jt), .second, .val (.ref ob1), .val (.ref ob3), .unset, .unset] [(.int (2 : Int32)), (.ref m2_2)])) _
    refine X138.laload hx (j := (2 : Int32)) (v := (.long ((ja + (6 : Int64)) + ((jb + (6 : Int64)) * jt)))) (by rw [e138]; exact Ar139.1) (State.isArrayOf_alike hZ.alike Ar139.2.1) Ar139.2.2 ghin139 ghat139 (g := (mkF m 379 #[.val (.long ja), .second, .val (.long jb), .second, .val (.long jt), .second, .val (.ref ob1), .val (.ref ob3), .unset, .unset] [(.int (2 : Int32)), (.ref m2_2)])) rfl rfl (hb hby at_379) _ ?_
    show Steps p.tables e below (T138.setTop (mkF m 380 #[.val (.long ja), .second, .val (.long jb), .second, .val (.long jt), .second, .val (.ref ob1), .val (.ref ob3), .unset, .unset] [(.long ((ja + (6 : Int64)) + ((jb + (6 : Int64)) * jt)))])) _
    refine XT.lloadN X138.here hx rfl (hb hby at_380) rfl ?_
    show Steps p.tables e below (T138.setTop (mkF m 381 #[.val (.long ja), .second, .val (.long jb), .second, .val (.long jt), .second, .val (.ref ob1), .val (.ref ob3), .unset, .unset] [(.long ja), (.long ((ja + (6 : Int64)) + ((jb + (6 : Int64)) * jt)))])) _
    refine XT.lloadN X138.here hx rfl (hb hby at_381) rfl ?_
    show Steps p.tables e below (T138.setTop (mkF m 382 #[.val (.long ja), .second, .val (.long jb), .second, .val (.long jt), .second, .val (.ref ob1), .val (.ref ob3), .unset, .unset] [(.long jb), (.long ja), (.long ((ja + (6 : Int64)) + ((jb + (6 : Int64)) * jt)))])) _
    refine XT.lload X138.here hx rfl (hb hby at_382) rfl ?_
    show Steps p.tables e below (T138.setTop (mkF m 384 #[.val (.long ja), .second, .val (.long jb), .second, .val (.long jt), .second, .val (.ref ob1), .val (.ref ob3), .unset, .unset] [(.long jt), (.long jb), (.long ja), (.long ((ja + (6 : Int64)) + ((jb + (6 : Int64)) * jt)))])) _
    refine XT.bipushV X138.here hx rfl (6 : Int32) (hb hby at_384) rfl ?_
    show Steps p.tables e below (T138.setTop (mkF m 386 #[.val (.long ja), .second, .val (.long jb), .second, .val (.long jt), .second, .val (.ref ob1), .val (.ref ob3), .unset, .unset] [(.int (6 : Int32)), (.long jt), (.long jb), (.long ja), (.long ((ja + (6 : Int64)) + ((jb + (6 : Int64)) * jt)))])) _
    refine st140 _ ?_
    show Steps p.tables e below (T140.setTop (mkF m 389 #[.val (.long ja), .second, .val (.long jb), .second, .val (.long jt), .second, .val (.ref ob1), .val (.ref ob3), .unset, .unset] [(.long ((ja + ((6 : Int32).toInt64)) + ((jb + ((6 : Int32).toInt64)) * jt))), (.long ((ja + (6 : Int64)) + ((jb + (6 : Int64)) * jt)))])) _
    refine XT.lcmp X140.here hx rfl (hb hby at_389) rfl ?_
    show Steps p.tables e below (T140.setTop (mkF m 390 #[.val (.long ja), .second, .val (.long jb), .second, .val (.long jt), .second, .val (.ref ob1), .val (.ref ob3), .unset, .unset] [(.int (XT.cmpL ((ja + (6 : Int64)) + ((jb + (6 : Int64)) * jt)) ((ja + ((6 : Int32).toInt64)) + ((jb + ((6 : Int32).toInt64)) * jt))))])) _
    refine XS.ifNo X140.here hx rfl (hb hby at_390) rfl (XT.ll_ne_f rfl) ?_
    show Steps p.tables e below (T140.setTop (mkF m 393 #[.val (.long ja), .second, .val (.long jb), .second, .val (.long jt), .second, .val (.ref ob1), .val (.ref ob3), .unset, .unset] [])) _
    refine XS.aload X140.here hx rfl (hb hby at_393) rfl rfl ?_
    show Steps p.tables e below (T140.setTop (mkF m 395 #[.val (.long ja), .second, .val (.long jb), .second, .val (.long jt), .second, .val (.ref ob1), .val (.ref ob3), .unset, .unset] [(.ref ob1)])) _
    refine st142 _ ?_
    show Steps p.tables e below (T142.setTop (mkF m 398 #[.val (.long ja), .second, .val (.long jb), .second, .val (.long jt), .second, .val (.ref ob1), .val (.ref ob3), .unset, .unset] [(.ref m3_2)])) _
    refine XT.iconstV X142.here hx rfl (0 : Int32) (hb hby at_398) rfl ?_
    show Steps p.tables e below (T142.setTop (mkF m 399 #[.val (.long ja), .second, .val (.long jb), .second, .val (.long jt), .second, .val (.ref ob1), .val (.ref ob3), .unset, .unset] [(.int (0 : Int32)), (.ref m3_2)])) _
    refine X142.laload hx (j := (0 : Int32)) (v := (.long ((ja + (7 : Int64)) + ((jb + (7 : Int64)) * jt)))) (by rw [e142]; exact Ar143.1) (State.isArrayOf_alike hZ.alike Ar143.2.1) Ar143.2.2 ghin143 ghat143 (g := (mkF m 399 #[.val (.long ja), .second, .val (.long jb), .second, .val (.long jt), .second, .val (.ref ob1), .val (.ref ob3), .unset, .unset] [(.int (0 : Int32)), (.ref m3_2)])) rfl rfl (hb hby at_399) _ ?_
    show Steps p.tables e below (T142.setTop (mkF m 400 #[.val (.long ja), .second, .val (.long jb), .second, .val (.long jt), .second, .val (.ref ob1), .val (.ref ob3), .unset, .unset] [(.long ((ja + (7 : Int64)) + ((jb + (7 : Int64)) * jt)))])) _
    refine XT.lloadN X142.here hx rfl (hb hby at_400) rfl ?_
    show Steps p.tables e below (T142.setTop (mkF m 401 #[.val (.long ja), .second, .val (.long jb), .second, .val (.long jt), .second, .val (.ref ob1), .val (.ref ob3), .unset, .unset] [(.long ja), (.long ((ja + (7 : Int64)) + ((jb + (7 : Int64)) * jt)))])) _
    refine XT.lloadN X142.here hx rfl (hb hby at_401) rfl ?_
    show Steps p.tables e below (T142.setTop (mkF m 402 #[.val (.long ja), .second, .val (.long jb), .second, .val (.long jt), .second, .val (.ref ob1), .val (.ref ob3), .unset, .unset] [(.long jb), (.long ja), (.long ((ja + (7 : Int64)) + ((jb + (7 : Int64)) * jt)))])) _
    refine XT.lload X142.here hx rfl (hb hby at_402) rfl ?_
    show Steps p.tables e below (T142.setTop (mkF m 404 #[.val (.long ja), .second, .val (.long jb), .second, .val (.long jt), .second, .val (.ref ob1), .val (.ref ob3), .unset, .unset] [(.long jt), (.long jb), (.long ja), (.long ((ja + (7 : Int64)) + ((jb + (7 : Int64)) * jt)))])) _
    refine XT.bipushV X142.here hx rfl (7 : Int32) (hb hby at_404) rfl ?_
    show Steps p.tables e below (T142.setTop (mkF m 406 #[.val (.long ja), .second, .val (.long jb), .second, .val (.long jt), .second, .val (.ref ob1), .val (.ref ob3), .unset, .unset] [(.int (7 : Int32)), (.long jt), (.long jb), (.long ja), (.long ((ja + (7 : Int64)) + ((jb + (7 : Int64)) * jt)))])) _
    refine st144 _ ?_
    show Steps p.tables e below (T144.setTop (mkF m 409 #[.val (.long ja), .second, .val (.long jb), .second, .val (.long jt), .second, .val (.ref ob1), .val (.ref ob3), .unset, .unset] [(.long ((ja + ((7 : Int32).toInt64)) + ((jb + ((7 : Int32).toInt64)) * jt))), (.long ((ja + (7 : Int64)) + ((jb + (7 : Int64)) * jt)))])) _
    refine XT.lcmp X144.here hx rfl (hb hby at_409) rfl ?_
    show Steps p.tables e below (T144.setTop (mkF m 410 #[.val (.long ja), .second, .val (.long jb), .second, .val (.long jt), .second, .val (.ref ob1), .val (.ref ob3), .unset, .unset] [(.int (XT.cmpL ((ja + (7 : Int64)) + ((jb + (7 : Int64)) * jt)) ((ja + ((7 : Int32).toInt64)) + ((jb + ((7 : Int32).toInt64)) * jt))))])) _
    refine XS.ifNo X144.here hx rfl (hb hby at_410) rfl (XT.ll_ne_f rfl) ?_
    show Steps p.tables e below (T144.setTop (mkF m 413 #[.val (.long ja), .second, .val (.long jb), .second, .val (.long jt), .second, .val (.ref ob1), .val (.ref ob3), .unset, .unset] [])) _
    refine XS.aload X144.here hx rfl (hb hby at_413) rfl rfl ?_
    show Steps p.tables e below (T144.setTop (mkF m 415 #[.val (.long ja), .second, .val (.long jb), .second, .val (.long jt), .second, .val (.ref ob1), .val (.ref ob3), .unset, .unset] [(.ref ob1)])) _
    refine st145 _ ?_
    show Steps p.tables e below (T145.setTop (mkF m 418 #[.val (.long ja), .second, .val (.long jb), .second, .val (.long jt), .second, .val (.ref ob1), .val (.ref ob3), .unset, .unset] [(.ref m3_2)])) _
    refine XT.iconstV X145.here hx rfl (1 : Int32) (hb hby at_418) rfl ?_
    show Steps p.tables e below (T145.setTop (mkF m 419 #[.val (.long ja), .second, .val (.long jb), .second, .val (.long jt), .second, .val (.ref ob1), .val (.ref ob3), .unset, .unset] [(.int (1 : Int32)), (.ref m3_2)])) _
    refine X145.laload hx (j := (1 : Int32)) (v := (.long ((ja + (8 : Int64)) + ((jb + (8 : Int64)) * jt)))) (by rw [e145]; exact Ar146.1) (State.isArrayOf_alike hZ.alike Ar146.2.1) Ar146.2.2 ghin146 ghat146 (g := (mkF m 419 #[.val (.long ja), .second, .val (.long jb), .second, .val (.long jt), .second, .val (.ref ob1), .val (.ref ob3), .unset, .unset] [(.int (1 : Int32)), (.ref m3_2)])) rfl rfl (hb hby at_419) _ ?_
    show Steps p.tables e below (T145.setTop (mkF m 420 #[.val (.long ja), .second, .val (.long jb), .second, .val (.long jt), .second, .val (.ref ob1), .val (.ref ob3), .unset, .unset] [(.long ((ja + (8 : Int64)) + ((jb + (8 : Int64)) * jt)))])) _
    refine XT.lloadN X145.here hx rfl (hb hby at_420) rfl ?_
    show Steps p.tables e below (T145.setTop (mkF m 421 #[.val (.long ja), .second, .val (.long jb), .second, .val (.long jt), .second, .val (.ref ob1), .val (.ref ob3), .unset, .unset] [(.long ja), (.long ((ja + (8 : Int64)) + ((jb + (8 : Int64)) * jt)))])) _
    refine XT.lloadN X145.here hx rfl (hb hby at_421) rfl ?_
    show Steps p.tables e below (T145.setTop (mkF m 422 #[.val (.long ja), .second, .val (.long jb), .second, .val (.long jt), .second, .val (.ref ob1), .val (.ref ob3), .unset, .unset] [(.long jb), (.long ja), (.long ((ja + (8 : Int64)) + ((jb + (8 : Int64)) * jt)))])) _
    refine XT.lload X145.here hx rfl (hb hby at_422) rfl ?_
    show Steps p.tables e below (T145.setTop (mkF m 424 #[.val (.long ja), .second, .val (.long jb), .second, .val (.long jt), .second, .val (.ref ob1), .val (.ref ob3), .unset, .unset] [(.long jt), (.long jb), (.long ja), (.long ((ja + (8 : Int64)) + ((jb + (8 : Int64)) * jt)))])) _
    refine XT.bipushV X145.here hx rfl (8 : Int32) (hb hby at_424) rfl ?_
    show Steps p.tables e below (T145.setTop (mkF m 426 #[.val (.long ja), .second, .val (.long jb), .second, .val (.long jt), .second, .val (.ref ob1), .val (.ref ob3), .unset, .unset] [(.int (8 : Int32)), (.long jt), (.long jb), (.long ja), (.long ((ja + (8 : Int64)) + ((jb + (8 : Int64)) * jt)))])) _
    refine st147 _ ?_
    show Steps p.tables e below (T147.setTop (mkF m 429 #[.val (.long ja), .second, .val (.long jb), .second, .val (.long jt), .second, .val (.ref ob1), .val (.ref ob3), .unset, .unset] [(.long ((ja + ((8 : Int32).toInt64)) + ((jb + ((8 : Int32).toInt64)) * jt))), (.long ((ja + (8 : Int64)) + ((jb + (8 : Int64)) * jt)))])) _
    refine XT.lcmp X147.here hx rfl (hb hby at_429) rfl ?_
    show Steps p.tables e below (T147.setTop (mkF m 430 #[.val (.long ja), .second, .val (.long jb), .second, .val (.long jt), .second, .val (.ref ob1), .val (.ref ob3), .unset, .unset] [(.int (XT.cmpL ((ja + (8 : Int64)) + ((jb + (8 : Int64)) * jt)) ((ja + ((8 : Int32).toInt64)) + ((jb + ((8 : Int32).toInt64)) * jt))))])) _
    refine XS.ifNo X147.here hx rfl (hb hby at_430) rfl (XT.ll_ne_f rfl) ?_
    show Steps p.tables e below (T147.setTop (mkF m 433 #[.val (.long ja), .second, .val (.long jb), .second, .val (.long jt), .second, .val (.ref ob1), .val (.ref ob3), .unset, .unset] [])) _
    refine XS.aload X147.here hx rfl (hb hby at_433) rfl rfl ?_
    show Steps p.tables e below (T147.setTop (mkF m 435 #[.val (.long ja), .second, .val (.long jb), .second, .val (.long jt), .second, .val (.ref ob1), .val (.ref ob3), .unset, .unset] [(.ref ob1)])) _
    refine st148 _ ?_
    show Steps p.tables e below (T148.setTop (mkF m 438 #[.val (.long ja), .second, .val (.long jb), .second, .val (.long jt), .second, .val (.ref ob1), .val (.ref ob3), .unset, .unset] [(.ref m3_2)])) _
    refine XT.iconstV X148.here hx rfl (2 : Int32) (hb hby at_438) rfl ?_
    show Steps p.tables e below (T148.setTop (mkF m 439 #[.val (.long ja), .second, .val (.long jb), .second, .val (.long jt), .second, .val (.ref ob1), .val (.ref ob3), .unset, .unset] [(.int (2 : Int32)), (.ref m3_2)])) _
    refine X148.laload hx (j := (2 : Int32)) (v := (.long ((ja + (9 : Int64)) + ((jb + (9 : Int64)) * jt)))) (by rw [e148]; exact Ar149.1) (State.isArrayOf_alike hZ.alike Ar149.2.1) Ar149.2.2 ghin149 ghat149 (g := (mkF m 439 #[.val (.long ja), .second, .val (.long jb), .second, .val (.long jt), .second, .val (.ref ob1), .val (.ref ob3), .unset, .unset] [(.int (2 : Int32)), (.ref m3_2)])) rfl rfl (hb hby at_439) _ ?_
    show Steps p.tables e below (T148.setTop (mkF m 440 #[.val (.long ja), .second, .val (.long jb), .second, .val (.long jt), .second, .val (.ref ob1), .val (.ref ob3), .unset, .unset] [(.long ((ja + (9 : Int64)) + ((jb + (9 : Int64)) * jt)))])) _
    refine XT.lloadN X148.here hx rfl (hb hby at_440) rfl ?_
    show Steps p.tables e below (T148.setTop (mkF m 441 #[.val (.long ja), .second, .val (.long jb), .second, .val (.long jt), .second, .val (.ref ob1), .val (.ref ob3), .unset, .unset] [(.long ja), (.long ((ja + (9 : Int64)) + ((jb + (9 : Int64)) * jt)))])) _
    refine XT.lloadN X148.here hx rfl (hb hby at_441) rfl ?_
    show Steps p.tables e below (T148.setTop (mkF m 442 #[.val (.long ja), .second, .val (.long jb), .second, .val (.long jt), .second, .val (.ref ob1), .val (.ref ob3), .unset, .unset] [(.long jb), (.long ja), (.long ((ja + (9 : Int64)) + ((jb + (9 : Int64)) * jt)))])) _
    refine XT.lload X148.here hx rfl (hb hby at_442) rfl ?_
    show Steps p.tables e below (T148.setTop (mkF m 444 #[.val (.long ja), .second, .val (.long jb), .second, .val (.long jt), .second, .val (.ref ob1), .val (.ref ob3), .unset, .unset] [(.long jt), (.long jb), (.long ja), (.long ((ja + (9 : Int64)) + ((jb + (9 : Int64)) * jt)))])) _
    refine XT.bipushV X148.here hx rfl (9 : Int32) (hb hby at_444) rfl ?_
    show Steps p.tables e below (T148.setTop (mkF m 446 #[.val (.long ja), .second, .val (.long jb), .second, .val (.long jt), .second, .val (.ref ob1), .val (.ref ob3), .unset, .unset] [(.int (9 : Int32)), (.long jt), (.long jb), (.long ja), (.long ((ja + (9 : Int64)) + ((jb + (9 : Int64)) * jt)))])) _
    refine st150 _ ?_
    show Steps p.tables e below (T150.setTop (mkF m 449 #[.val (.long ja), .second, .val (.long jb), .second, .val (.long jt), .second, .val (.ref ob1), .val (.ref ob3), .unset, .unset] [(.long ((ja + ((9 : Int32).toInt64)) + ((jb + ((9 : Int32).toInt64)) * jt))), (.long ((ja + (9 : Int64)) + ((jb + (9 : Int64)) * jt)))])) _
    refine XT.lcmp X150.here hx rfl (hb hby at_449) rfl ?_
    show Steps p.tables e below (T150.setTop (mkF m 450 #[.val (.long ja), .second, .val (.long jb), .second, .val (.long jt), .second, .val (.ref ob1), .val (.ref ob3), .unset, .unset] [(.int (XT.cmpL ((ja + (9 : Int64)) + ((jb + (9 : Int64)) * jt)) ((ja + ((9 : Int32).toInt64)) + ((jb + ((9 : Int32).toInt64)) * jt))))])) _
    refine XS.ifNo X150.here hx rfl (hb hby at_450) rfl (XT.ll_ne_f rfl) ?_
    show Steps p.tables e below (T150.setTop (mkF m 453 #[.val (.long ja), .second, .val (.long jb), .second, .val (.long jt), .second, .val (.ref ob1), .val (.ref ob3), .unset, .unset] [])) _
    refine XT.iconstV X150.here hx rfl (1 : Int32) (hb hby at_453) rfl ?_
    show Steps p.tables e below (T150.setTop (mkF m 454 #[.val (.long ja), .second, .val (.long jb), .second, .val (.long jt), .second, .val (.ref ob1), .val (.ref ob3), .unset, .unset] [(.int (1 : Int32))])) _
    refine XS.goto X150.here hx rfl (pc0 := 454) (pc' := 458) rfl (hb hby at_454) (by decide) (by decide) ?_
    show Steps p.tables e below (T150.setTop (mkF m 458 #[.val (.long ja), .second, .val (.long jb), .second, .val (.long jt), .second, .val (.ref ob1), .val (.ref ob3), .unset, .unset] [(.int (1 : Int32))])) _
    refine XS.istore X150.here hx rfl (hb hby at_458) rfl (l' := #[.val (.long ja), .second, .val (.long jb), .second, .val (.long jt), .second, .val (.ref ob1), .val (.ref ob3), .val (.int (1 : Int32)), .unset]) rfl ?_
    show Steps p.tables e below (T150.setTop (mkF m 460 #[.val (.long ja), .second, .val (.long jb), .second, .val (.long jt), .second, .val (.ref ob1), .val (.ref ob3), .val (.int (1 : Int32)), .unset] [])) _
    refine XS.aload X150.here hx rfl (hb hby at_460) rfl rfl ?_
    show Steps p.tables e below (T150.setTop (mkF m 462 #[.val (.long ja), .second, .val (.long jb), .second, .val (.long jt), .second, .val (.ref ob1), .val (.ref ob3), .val (.int (1 : Int32)), .unset] [(.ref ob3)])) _
    refine st152 _ ?_
    show Steps p.tables e below (T152.setTop (mkF m 465 #[.val (.long ja), .second, .val (.long jb), .second, .val (.long jt), .second, .val (.ref ob1), .val (.ref ob3), .val (.int (1 : Int32)), .unset] [(.ref m0_9)])) _
    refine XT.iconstV X152.here hx rfl (0 : Int32) (hb hby at_465) rfl ?_
    show Steps p.tables e below (T152.setTop (mkF m 466 #[.val (.long ja), .second, .val (.long jb), .second, .val (.long jt), .second, .val (.ref ob1), .val (.ref ob3), .val (.int (1 : Int32)), .unset] [(.int (0 : Int32)), (.ref m0_9)])) _
    refine X152.laload hx (j := (0 : Int32)) (v := (.long jb)) (by rw [e152]; exact Ar154.1) (State.isArrayOf_alike hZ.alike Ar154.2.1) Ar154.2.2 ghin154 ghat154 (g := (mkF m 466 #[.val (.long ja), .second, .val (.long jb), .second, .val (.long jt), .second, .val (.ref ob1), .val (.ref ob3), .val (.int (1 : Int32)), .unset] [(.int (0 : Int32)), (.ref m0_9)])) rfl rfl (hb hby at_466) _ ?_
    show Steps p.tables e below (T152.setTop (mkF m 467 #[.val (.long ja), .second, .val (.long jb), .second, .val (.long jt), .second, .val (.ref ob1), .val (.ref ob3), .val (.int (1 : Int32)), .unset] [(.long jb)])) _
    refine XT.lloadN X152.here hx rfl (hb hby at_467) rfl ?_
    show Steps p.tables e below (T152.setTop (mkF m 468 #[.val (.long ja), .second, .val (.long jb), .second, .val (.long jt), .second, .val (.ref ob1), .val (.ref ob3), .val (.int (1 : Int32)), .unset] [(.long jb), (.long jb)])) _
    refine XT.lcmp X152.here hx rfl (hb hby at_468) rfl ?_
    show Steps p.tables e below (T152.setTop (mkF m 469 #[.val (.long ja), .second, .val (.long jb), .second, .val (.long jt), .second, .val (.ref ob1), .val (.ref ob3), .val (.int (1 : Int32)), .unset] [(.int (XT.cmpL jb jb))])) _
    refine XS.ifNo X152.here hx rfl (hb hby at_469) rfl (XT.ll_ne_f rfl) ?_
    show Steps p.tables e below (T152.setTop (mkF m 472 #[.val (.long ja), .second, .val (.long jb), .second, .val (.long jt), .second, .val (.ref ob1), .val (.ref ob3), .val (.int (1 : Int32)), .unset] [])) _
    refine XS.aload X152.here hx rfl (hb hby at_472) rfl rfl ?_
    show Steps p.tables e below (T152.setTop (mkF m 474 #[.val (.long ja), .second, .val (.long jb), .second, .val (.long jt), .second, .val (.ref ob1), .val (.ref ob3), .val (.int (1 : Int32)), .unset] [(.ref ob3)])) _
    refine st155 _ ?_
    show Steps p.tables e below (T155.setTop (mkF m 477 #[.val (.long ja), .second, .val (.long jb), .second, .val (.long jt), .second, .val (.ref ob1), .val (.ref ob3), .val (.int (1 : Int32)), .unset] [(.ref m0_9)])) _
    refine XT.iconstV X155.here hx rfl (1 : Int32) (hb hby at_477) rfl ?_
    show Steps p.tables e below (T155.setTop (mkF m 478 #[.val (.long ja), .second, .val (.long jb), .second, .val (.long jt), .second, .val (.ref ob1), .val (.ref ob3), .val (.int (1 : Int32)), .unset] [(.int (1 : Int32)), (.ref m0_9)])) _
    refine X155.laload hx (j := (1 : Int32)) (v := (.long (jb + (1 : Int64)))) (by rw [e155]; exact Ar156.1) (State.isArrayOf_alike hZ.alike Ar156.2.1) Ar156.2.2 ghin156 ghat156 (g := (mkF m 478 #[.val (.long ja), .second, .val (.long jb), .second, .val (.long jt), .second, .val (.ref ob1), .val (.ref ob3), .val (.int (1 : Int32)), .unset] [(.int (1 : Int32)), (.ref m0_9)])) rfl rfl (hb hby at_478) _ ?_
    show Steps p.tables e below (T155.setTop (mkF m 479 #[.val (.long ja), .second, .val (.long jb), .second, .val (.long jt), .second, .val (.ref ob1), .val (.ref ob3), .val (.int (1 : Int32)), .unset] [(.long (jb + (1 : Int64)))])) _
    refine XT.lloadN X155.here hx rfl (hb hby at_479) rfl ?_
    show Steps p.tables e below (T155.setTop (mkF m 480 #[.val (.long ja), .second, .val (.long jb), .second, .val (.long jt), .second, .val (.ref ob1), .val (.ref ob3), .val (.int (1 : Int32)), .unset] [(.long jb), (.long (jb + (1 : Int64)))])) _
    refine XT.lconstV X155.here hx rfl (1 : Int64) (hb hby at_480) rfl ?_
    show Steps p.tables e below (T155.setTop (mkF m 481 #[.val (.long ja), .second, .val (.long jb), .second, .val (.long jt), .second, .val (.ref ob1), .val (.ref ob3), .val (.int (1 : Int32)), .unset] [(.long (1 : Int64)), (.long jb), (.long (jb + (1 : Int64)))])) _
    refine XT.ladd X155.here hx rfl (hb hby at_481) rfl ?_
    show Steps p.tables e below (T155.setTop (mkF m 482 #[.val (.long ja), .second, .val (.long jb), .second, .val (.long jt), .second, .val (.ref ob1), .val (.ref ob3), .val (.int (1 : Int32)), .unset] [(.long (jb + (1 : Int64))), (.long (jb + (1 : Int64)))])) _
    refine XT.lcmp X155.here hx rfl (hb hby at_482) rfl ?_
    show Steps p.tables e below (T155.setTop (mkF m 483 #[.val (.long ja), .second, .val (.long jb), .second, .val (.long jt), .second, .val (.ref ob1), .val (.ref ob3), .val (.int (1 : Int32)), .unset] [(.int (XT.cmpL (jb + (1 : Int64)) (jb + (1 : Int64))))])) _
    refine XS.ifNo X155.here hx rfl (hb hby at_483) rfl (XT.ll_ne_f rfl) ?_
    show Steps p.tables e below (T155.setTop (mkF m 486 #[.val (.long ja), .second, .val (.long jb), .second, .val (.long jt), .second, .val (.ref ob1), .val (.ref ob3), .val (.int (1 : Int32)), .unset] [])) _
    refine XS.aload X155.here hx rfl (hb hby at_486) rfl rfl ?_
    show Steps p.tables e below (T155.setTop (mkF m 488 #[.val (.long ja), .second, .val (.long jb), .second, .val (.long jt), .second, .val (.ref ob1), .val (.ref ob3), .val (.int (1 : Int32)), .unset] [(.ref ob3)])) _
    refine st158 _ ?_
    show Steps p.tables e below (T158.setTop (mkF m 491 #[.val (.long ja), .second, .val (.long jb), .second, .val (.long jt), .second, .val (.ref ob1), .val (.ref ob3), .val (.int (1 : Int32)), .unset] [(.ref m1_9)])) _
    refine XT.iconstV X158.here hx rfl (0 : Int32) (hb hby at_491) rfl ?_
    show Steps p.tables e below (T158.setTop (mkF m 492 #[.val (.long ja), .second, .val (.long jb), .second, .val (.long jt), .second, .val (.ref ob1), .val (.ref ob3), .val (.int (1 : Int32)), .unset] [(.int (0 : Int32)), (.ref m1_9)])) _
    refine X158.laload hx (j := (0 : Int32)) (v := (.long (jb + (2 : Int64)))) (by rw [e158]; exact Ar160.1) (State.isArrayOf_alike hZ.alike Ar160.2.1) Ar160.2.2 ghin160 ghat160 (g := (mkF m 492 #[.val (.long ja), .second, .val (.long jb), .second, .val (.long jt), .second, .val (.ref ob1), .val (.ref ob3), .val (.int (1 : Int32)), .unset] [(.int (0 : Int32)), (.ref m1_9)])) rfl rfl (hb hby at_492) _ ?_
    show Steps p.tables e below (T158.setTop (mkF m 493 #[.val (.long ja), .second, .val (.long jb), .second, .val (.long jt), .second, .val (.ref ob1), .val (.ref ob3), .val (.int (1 : Int32)), .unset] [(.long (jb + (2 : Int64)))])) _
    refine XT.lloadN X158.here hx rfl (hb hby at_493) rfl ?_
    show Steps p.tables e below (T158.setTop (mkF m 494 #[.val (.long ja), .second, .val (.long jb), .second, .val (.long jt), .second, .val (.ref ob1), .val (.ref ob3), .val (.int (1 : Int32)), .unset] [(.long jb), (.long (jb + (2 : Int64)))])) _
    refine X158.ldc2J hx hown (mvT hZ (hw _ (List.mem_of_getElem? (i := 20) rfl))) (g := (mkF m 494 #[.val (.long ja), .second, .val (.long jb), .second, .val (.long jt), .second, .val (.ref ob1), .val (.ref ob3), .val (.int (1 : Int32)), .unset] [(.long jb), (.long (jb + (2 : Int64)))])) rfl (hb hby at_494) ?_
    show Steps p.tables e below (T158.setTop (mkF m 497 #[.val (.long ja), .second, .val (.long jb), .second, .val (.long jt), .second, .val (.ref ob1), .val (.ref ob3), .val (.int (1 : Int32)), .unset] [(.long (2 : Int64)), (.long jb), (.long (jb + (2 : Int64)))])) _
    refine XT.ladd X158.here hx rfl (hb hby at_497) rfl ?_
    show Steps p.tables e below (T158.setTop (mkF m 498 #[.val (.long ja), .second, .val (.long jb), .second, .val (.long jt), .second, .val (.ref ob1), .val (.ref ob3), .val (.int (1 : Int32)), .unset] [(.long (jb + (2 : Int64))), (.long (jb + (2 : Int64)))])) _
    refine XT.lcmp X158.here hx rfl (hb hby at_498) rfl ?_
    show Steps p.tables e below (T158.setTop (mkF m 499 #[.val (.long ja), .second, .val (.long jb), .second, .val (.long jt), .second, .val (.ref ob1), .val (.ref ob3), .val (.int (1 : Int32)), .unset] [(.int (XT.cmpL (jb + (2 : Int64)) (jb + (2 : Int64))))])) _
    refine XS.ifNo X158.here hx rfl (hb hby at_499) rfl (XT.ll_ne_f rfl) ?_
    show Steps p.tables e below (T158.setTop (mkF m 502 #[.val (.long ja), .second, .val (.long jb), .second, .val (.long jt), .second, .val (.ref ob1), .val (.ref ob3), .val (.int (1 : Int32)), .unset] [])) _
    refine XS.aload X158.here hx rfl (hb hby at_502) rfl rfl ?_
    show Steps p.tables e below (T158.setTop (mkF m 504 #[.val (.long ja), .second, .val (.long jb), .second, .val (.long jt), .second, .val (.ref ob1), .val (.ref ob3), .val (.int (1 : Int32)), .unset] [(.ref ob3)])) _
    refine st161 _ ?_
    show Steps p.tables e below (T161.setTop (mkF m 507 #[.val (.long ja), .second, .val (.long jb), .second, .val (.long jt), .second, .val (.ref ob1), .val (.ref ob3), .val (.int (1 : Int32)), .unset] [(.ref m1_9)])) _
    refine XT.iconstV X161.here hx rfl (1 : Int32) (hb hby at_507) rfl ?_
    show Steps p.tables e below (T161.setTop (mkF m 508 #[.val (.long ja), .second, .val (.long jb), .second, .val (.long jt), .second, .val (.ref ob1), .val (.ref ob3), .val (.int (1 : Int32)), .unset] [(.int (1 : Int32)), (.ref m1_9)])) _
    refine X161.laload hx (j := (1 : Int32)) (v := (.long (jb + (3 : Int64)))) (by rw [e161]; exact Ar162.1) (State.isArrayOf_alike hZ.alike Ar162.2.1) Ar162.2.2 ghin162 ghat162 (g := (mkF m 508 #[.val (.long ja), .second, .val (.long jb), .second, .val (.long jt), .second, .val (.ref ob1), .val (.ref ob3), .val (.int (1 : Int32)), .unset] [(.int (1 : Int32)), (.ref m1_9)])) rfl rfl (hb hby at_508) _ ?_
    show Steps p.tables e below (T161.setTop (mkF m 509 #[.val (.long ja), .second, .val (.long jb), .second, .val (.long jt), .second, .val (.ref ob1), .val (.ref ob3), .val (.int (1 : Int32)), .unset] [(.long (jb + (3 : Int64)))])) _
    refine XT.lloadN X161.here hx rfl (hb hby at_509) rfl ?_
    show Steps p.tables e below (T161.setTop (mkF m 510 #[.val (.long ja), .second, .val (.long jb), .second, .val (.long jt), .second, .val (.ref ob1), .val (.ref ob3), .val (.int (1 : Int32)), .unset] [(.long jb), (.long (jb + (3 : Int64)))])) _
    refine X161.ldc2J hx hown (mvT hZ (hw _ (List.mem_of_getElem? (i := 21) rfl))) (g := (mkF m 510 #[.val (.long ja), .second, .val (.long jb), .second, .val (.long jt), .second, .val (.ref ob1), .val (.ref ob3), .val (.int (1 : Int32)), .unset] [(.long jb), (.long (jb + (3 : Int64)))])) rfl (hb hby at_510) ?_
    show Steps p.tables e below (T161.setTop (mkF m 513 #[.val (.long ja), .second, .val (.long jb), .second, .val (.long jt), .second, .val (.ref ob1), .val (.ref ob3), .val (.int (1 : Int32)), .unset] [(.long (3 : Int64)), (.long jb), (.long (jb + (3 : Int64)))])) _
    refine XT.ladd X161.here hx rfl (hb hby at_513) rfl ?_
    show Steps p.tables e below (T161.setTop (mkF m 514 #[.val (.long ja), .second, .val (.long jb), .second, .val (.long jt), .second, .val (.ref ob1), .val (.ref ob3), .val (.int (1 : Int32)), .unset] [(.long (jb + (3 : Int64))), (.long (jb + (3 : Int64)))])) _
    refine XT.lcmp X161.here hx rfl (hb hby at_514) rfl ?_
    show Steps p.tables e below (T161.setTop (mkF m 515 #[.val (.long ja), .second, .val (.long jb), .second, .val (.long jt), .second, .val (.ref ob1), .val (.ref ob3), .val (.int (1 : Int32)), .unset] [(.int (XT.cmpL (jb + (3 : Int64)) (jb + (3 : Int64))))])) _
    refine XS.ifNo X161.here hx rfl (hb hby at_515) rfl (XT.ll_ne_f rfl) ?_
    show Steps p.tables e below (T161.setTop (mkF m 518 #[.val (.long ja), .second, .val (.long jb), .second, .val (.long jt), .second, .val (.ref ob1), .val (.ref ob3), .val (.int (1 : Int32)), .unset] [])) _
    refine XS.aload X161.here hx rfl (hb hby at_518) rfl rfl ?_
    show Steps p.tables e below (T161.setTop (mkF m 520 #[.val (.long ja), .second, .val (.long jb), .second, .val (.long jt), .second, .val (.ref ob1), .val (.ref ob3), .val (.int (1 : Int32)), .unset] [(.ref ob3)])) _
    refine st164 _ ?_
    show Steps p.tables e below (T164.setTop (mkF m 523 #[.val (.long ja), .second, .val (.long jb), .second, .val (.long jt), .second, .val (.ref ob1), .val (.ref ob3), .val (.int (1 : Int32)), .unset] [(.ref m2_9)])) _
    refine XT.iconstV X164.here hx rfl (0 : Int32) (hb hby at_523) rfl ?_
    show Steps p.tables e below (T164.setTop (mkF m 524 #[.val (.long ja), .second, .val (.long jb), .second, .val (.long jt), .second, .val (.ref ob1), .val (.ref ob3), .val (.int (1 : Int32)), .unset] [(.int (0 : Int32)), (.ref m2_9)])) _
    refine X164.laload hx (j := (0 : Int32)) (v := (.long (jb + (4 : Int64)))) (by rw [e164]; exact Ar166.1) (State.isArrayOf_alike hZ.alike Ar166.2.1) Ar166.2.2 ghin166 ghat166 (g := (mkF m 524 #[.val (.long ja), .second, .val (.long jb), .second, .val (.long jt), .second, .val (.ref ob1), .val (.ref ob3), .val (.int (1 : Int32)), .unset] [(.int (0 : Int32)), (.ref m2_9)])) rfl rfl (hb hby at_524) _ ?_
    show Steps p.tables e below (T164.setTop (mkF m 525 #[.val (.long ja), .second, .val (.long jb), .second, .val (.long jt), .second, .val (.ref ob1), .val (.ref ob3), .val (.int (1 : Int32)), .unset] [(.long (jb + (4 : Int64)))])) _
    refine XT.lloadN X164.here hx rfl (hb hby at_525) rfl ?_
    show Steps p.tables e below (T164.setTop (mkF m 526 #[.val (.long ja), .second, .val (.long jb), .second, .val (.long jt), .second, .val (.ref ob1), .val (.ref ob3), .val (.int (1 : Int32)), .unset] [(.long jb), (.long (jb + (4 : Int64)))])) _
    refine X164.ldc2J hx hown (mvT hZ (hw _ (List.mem_of_getElem? (i := 23) rfl))) (g := (mkF m 526 #[.val (.long ja), .second, .val (.long jb), .second, .val (.long jt), .second, .val (.ref ob1), .val (.ref ob3), .val (.int (1 : Int32)), .unset] [(.long jb), (.long (jb + (4 : Int64)))])) rfl (hb hby at_526) ?_
    show Steps p.tables e below (T164.setTop (mkF m 529 #[.val (.long ja), .second, .val (.long jb), .second, .val (.long jt), .second, .val (.ref ob1), .val (.ref ob3), .val (.int (1 : Int32)), .unset] [(.long (4 : Int64)), (.long jb), (.long (jb + (4 : Int64)))])) _
    refine XT.ladd X164.here hx rfl (hb hby at_529) rfl ?_
    show Steps p.tables e below (T164.setTop (mkF m 530 #[.val (.long ja), .second, .val (.long jb), .second, .val (.long jt), .second, .val (.ref ob1), .val (.ref ob3), .val (.int (1 : Int32)), .unset] [(.long (jb + (4 : Int64))), (.long (jb + (4 : Int64)))])) _
    refine XT.lcmp X164.here hx rfl (hb hby at_530) rfl ?_
    show Steps p.tables e below (T164.setTop (mkF m 531 #[.val (.long ja), .second, .val (.long jb), .second, .val (.long jt), .second, .val (.ref ob1), .val (.ref ob3), .val (.int (1 : Int32)), .unset] [(.int (XT.cmpL (jb + (4 : Int64)) (jb + (4 : Int64))))])) _
    refine XS.ifNo X164.here hx rfl (hb hby at_531) rfl (XT.ll_ne_f rfl) ?_
    show Steps p.tables e below (T164.setTop (mkF m 534 #[.val (.long ja), .second, .val (.long jb), .second, .val (.long jt), .second, .val (.ref ob1), .val (.ref ob3), .val (.int (1 : Int32)), .unset] [])) _
    refine XS.aload X164.here hx rfl (hb hby at_534) rfl rfl ?_
    show Steps p.tables e below (T164.setTop (mkF m 536 #[.val (.long ja), .second, .val (.long jb), .second, .val (.long jt), .second, .val (.ref ob1), .val (.ref ob3), .val (.int (1 : Int32)), .unset] [(.ref ob3)])) _
    refine st167 _ ?_
    show Steps p.tables e below (T167.setTop (mkF m 539 #[.val (.long ja), .second, .val (.long jb), .second, .val (.long jt), .second, .val (.ref ob1), .val (.ref ob3), .val (.int (1 : Int32)), .unset] [(.ref m2_9)])) _
    refine XT.iconstV X167.here hx rfl (1 : Int32) (hb hby at_539) rfl ?_
    show Steps p.tables e below (T167.setTop (mkF m 540 #[.val (.long ja), .second, .val (.long jb), .second, .val (.long jt), .second, .val (.ref ob1), .val (.ref ob3), .val (.int (1 : Int32)), .unset] [(.int (1 : Int32)), (.ref m2_9)])) _
    refine X167.laload hx (j := (1 : Int32)) (v := (.long (jb + (5 : Int64)))) (by rw [e167]; exact Ar168.1) (State.isArrayOf_alike hZ.alike Ar168.2.1) Ar168.2.2 ghin168 ghat168 (g := (mkF m 540 #[.val (.long ja), .second, .val (.long jb), .second, .val (.long jt), .second, .val (.ref ob1), .val (.ref ob3), .val (.int (1 : Int32)), .unset] [(.int (1 : Int32)), (.ref m2_9)])) rfl rfl (hb hby at_540) _ ?_
    show Steps p.tables e below (T167.setTop (mkF m 541 #[.val (.long ja), .second, .val (.long jb), .second, .val (.long jt), .second, .val (.ref ob1), .val (.ref ob3), .val (.int (1 : Int32)), .unset] [(.long (jb + (5 : Int64)))])) _
    refine XT.lloadN X167.here hx rfl (hb hby at_541) rfl ?_
    show Steps p.tables e below (T167.setTop (mkF m 542 #[.val (.long ja), .second, .val (.long jb), .second, .val (.long jt), .second, .val (.ref ob1), .val (.ref ob3), .val (.int (1 : Int32)), .unset] [(.long jb), (.long (jb + (5 : Int64)))])) _
    refine X167.ldc2J hx hown (mvT hZ (hw _ (List.mem_of_getElem? (i := 24) rfl))) (g := (mkF m 542 #[.val (.long ja), .second, .val (.long jb), .second, .val (.long jt), .second, .val (.ref ob1), .val (.ref ob3), .val (.int (1 : Int32)), .unset] [(.long jb), (.long (jb + (5 : Int64)))])) rfl (hb hby at_542) ?_
    show Steps p.tables e below (T167.setTop (mkF m 545 #[.val (.long ja), .second, .val (.long jb), .second, .val (.long jt), .second, .val (.ref ob1), .val (.ref ob3), .val (.int (1 : Int32)), .unset] [(.long (5 : Int64)), (.long jb), (.long (jb + (5 : Int64)))])) _
    refine XT.ladd X167.here hx rfl (hb hby at_545) rfl ?_
    show Steps p.tables e below (T167.setTop (mkF m 546 #[.val (.long ja), .second, .val (.long jb), .second, .val (.long jt), .second, .val (.ref ob1), .val (.ref ob3), .val (.int (1 : Int32)), .unset] [(.long (jb + (5 : Int64))), (.long (jb + (5 : Int64)))])) _
    refine XT.lcmp X167.here hx rfl (hb hby at_546) rfl ?_
    show Steps p.tables e below (T167.setTop (mkF m 547 #[.val (.long ja), .second, .val (.long jb), .second, .val (.long jt), .second, .val (.ref ob1), .val (.ref ob3), .val (.int (1 : Int32)), .unset] [(.int (XT.cmpL (jb + (5 : Int64)) (jb + (5 : Int64))))])) _
    refine XS.ifNo X167.here hx rfl (hb hby at_547) rfl (XT.ll_ne_f rfl) ?_
    show Steps p.tables e below (T167.setTop (mkF m 550 #[.val (.long ja), .second, .val (.long jb), .second, .val (.long jt), .second, .val (.ref ob1), .val (.ref ob3), .val (.int (1 : Int32)), .unset] [])) _
    refine XS.aload X167.here hx rfl (hb hby at_550) rfl rfl ?_
    show Steps p.tables e below (T167.setTop (mkF m 552 #[.val (.long ja), .second, .val (.long jb), .second, .val (.long jt), .second, .val (.ref ob1), .val (.ref ob3), .val (.int (1 : Int32)), .unset] [(.ref ob3)])) _
    refine st169 _ ?_
    show Steps p.tables e below (T169.setTop (mkF m 555 #[.val (.long ja), .second, .val (.long jb), .second, .val (.long jt), .second, .val (.ref ob1), .val (.ref ob3), .val (.int (1 : Int32)), .unset] [(.ref m2_9)])) _
    refine XT.iconstV X169.here hx rfl (2 : Int32) (hb hby at_555) rfl ?_
    show Steps p.tables e below (T169.setTop (mkF m 556 #[.val (.long ja), .second, .val (.long jb), .second, .val (.long jt), .second, .val (.ref ob1), .val (.ref ob3), .val (.int (1 : Int32)), .unset] [(.int (2 : Int32)), (.ref m2_9)])) _
    refine X169.laload hx (j := (2 : Int32)) (v := (.long (jb + (6 : Int64)))) (by rw [e169]; exact Ar170.1) (State.isArrayOf_alike hZ.alike Ar170.2.1) Ar170.2.2 ghin170 ghat170 (g := (mkF m 556 #[.val (.long ja), .second, .val (.long jb), .second, .val (.long jt), .second, .val (.ref ob1), .val (.ref ob3), .val (.int (1 : Int32)), .unset] [(.int (2 : Int32)), (.ref m2_9)])) rfl rfl (hb hby at_556) _ ?_
    show Steps p.tables e below (T169.setTop (mkF m 557 #[.val (.long ja), .second, .val (.long jb), .second, .val (.long jt), .second, .val (.ref ob1), .val (.ref ob3), .val (.int (1 : Int32)), .unset] [(.long (jb + (6 : Int64)))])) _
    refine XT.lloadN X169.here hx rfl (hb hby at_557) rfl ?_
    show Steps p.tables e below (T169.setTop (mkF m 558 #[.val (.long ja), .second, .val (.long jb), .second, .val (.long jt), .second, .val (.ref ob1), .val (.ref ob3), .val (.int (1 : Int32)), .unset] [(.long jb), (.long (jb + (6 : Int64)))])) _
    refine X169.ldc2J hx hown (mvT hZ (hw _ (List.mem_of_getElem? (i := 25) rfl))) (g := (mkF m 558 #[.val (.long ja), .second, .val (.long jb), .second, .val (.long jt), .second, .val (.ref ob1), .val (.ref ob3), .val (.int (1 : Int32)), .unset] [(.long jb), (.long (jb + (6 : Int64)))])) rfl (hb hby at_558) ?_
    show Steps p.tables e below (T169.setTop (mkF m 561 #[.val (.long ja), .second, .val (.long jb), .second, .val (.long jt), .second, .val (.ref ob1), .val (.ref ob3), .val (.int (1 : Int32)), .unset] [(.long (6 : Int64)), (.long jb), (.long (jb + (6 : Int64)))])) _
    refine XT.ladd X169.here hx rfl (hb hby at_561) rfl ?_
    show Steps p.tables e below (T169.setTop (mkF m 562 #[.val (.long ja), .second, .val (.long jb), .second, .val (.long jt), .second, .val (.ref ob1), .val (.ref ob3), .val (.int (1 : Int32)), .unset] [(.long (jb + (6 : Int64))), (.long (jb + (6 : Int64)))])) _
    refine XT.lcmp X169.here hx rfl (hb hby at_562) rfl ?_
    show Steps p.tables e below (T169.setTop (mkF m 563 #[.val (.long ja), .second, .val (.long jb), .second, .val (.long jt), .second, .val (.ref ob1), .val (.ref ob3), .val (.int (1 : Int32)), .unset] [(.int (XT.cmpL (jb + (6 : Int64)) (jb + (6 : Int64))))])) _
    refine XS.ifNo X169.here hx rfl (hb hby at_563) rfl (XT.ll_ne_f rfl) ?_
    show Steps p.tables e below (T169.setTop (mkF m 566 #[.val (.long ja), .second, .val (.long jb), .second, .val (.long jt), .second, .val (.ref ob1), .val (.ref ob3), .val (.int (1 : Int32)), .unset] [])) _
    refine XS.aload X169.here hx rfl (hb hby at_566) rfl rfl ?_
    show Steps p.tables e below (T169.setTop (mkF m 568 #[.val (.long ja), .second, .val (.long jb), .second, .val (.long jt), .second, .val (.ref ob1), .val (.ref ob3), .val (.int (1 : Int32)), .unset] [(.ref ob3)])) _
    refine st172 _ ?_
    show Steps p.tables e below (T172.setTop (mkF m 571 #[.val (.long ja), .second, .val (.long jb), .second, .val (.long jt), .second, .val (.ref ob1), .val (.ref ob3), .val (.int (1 : Int32)), .unset] [(.ref m3_9)])) _
    refine XT.iconstV X172.here hx rfl (0 : Int32) (hb hby at_571) rfl ?_
    show Steps p.tables e below (T172.setTop (mkF m 572 #[.val (.long ja), .second, .val (.long jb), .second, .val (.long jt), .second, .val (.ref ob1), .val (.ref ob3), .val (.int (1 : Int32)), .unset] [(.int (0 : Int32)), (.ref m3_9)])) _
    refine X172.laload hx (j := (0 : Int32)) (v := (.long (jb + (7 : Int64)))) (by rw [e172]; exact Ar174.1) (State.isArrayOf_alike hZ.alike Ar174.2.1) Ar174.2.2 ghin174 ghat174 (g := (mkF m 572 #[.val (.long ja), .second, .val (.long jb), .second, .val (.long jt), .second, .val (.ref ob1), .val (.ref ob3), .val (.int (1 : Int32)), .unset] [(.int (0 : Int32)), (.ref m3_9)])) rfl rfl (hb hby at_572) _ ?_
    show Steps p.tables e below (T172.setTop (mkF m 573 #[.val (.long ja), .second, .val (.long jb), .second, .val (.long jt), .second, .val (.ref ob1), .val (.ref ob3), .val (.int (1 : Int32)), .unset] [(.long (jb + (7 : Int64)))])) _
    refine XT.lloadN X172.here hx rfl (hb hby at_573) rfl ?_
    show Steps p.tables e below (T172.setTop (mkF m 574 #[.val (.long ja), .second, .val (.long jb), .second, .val (.long jt), .second, .val (.ref ob1), .val (.ref ob3), .val (.int (1 : Int32)), .unset] [(.long jb), (.long (jb + (7 : Int64)))])) _
    refine X172.ldc2J hx hown (mvT hZ (hw _ (List.mem_of_getElem? (i := 27) rfl))) (g := (mkF m 574 #[.val (.long ja), .second, .val (.long jb), .second, .val (.long jt), .second, .val (.ref ob1), .val (.ref ob3), .val (.int (1 : Int32)), .unset] [(.long jb), (.long (jb + (7 : Int64)))])) rfl (hb hby at_574) ?_
    show Steps p.tables e below (T172.setTop (mkF m 577 #[.val (.long ja), .second, .val (.long jb), .second, .val (.long jt), .second, .val (.ref ob1), .val (.ref ob3), .val (.int (1 : Int32)), .unset] [(.long (7 : Int64)), (.long jb), (.long (jb + (7 : Int64)))])) _
    refine XT.ladd X172.here hx rfl (hb hby at_577) rfl ?_
    show Steps p.tables e below (T172.setTop (mkF m 578 #[.val (.long ja), .second, .val (.long jb), .second, .val (.long jt), .second, .val (.ref ob1), .val (.ref ob3), .val (.int (1 : Int32)), .unset] [(.long (jb + (7 : Int64))), (.long (jb + (7 : Int64)))])) _
    refine XT.lcmp X172.here hx rfl (hb hby at_578) rfl ?_
    show Steps p.tables e below (T172.setTop (mkF m 579 #[.val (.long ja), .second, .val (.long jb), .second, .val (.long jt), .second, .val (.ref ob1), .val (.ref ob3), .val (.int (1 : Int32)), .unset] [(.int (XT.cmpL (jb + (7 : Int64)) (jb + (7 : Int64))))])) _
    refine XS.ifNo X172.here hx rfl (hb hby at_579) rfl (XT.ll_ne_f rfl) ?_
    show Steps p.tables e below (T172.setTop (mkF m 582 #[.val (.long ja), .second, .val (.long jb), .second, .val (.long jt), .second, .val (.ref ob1), .val (.ref ob3), .val (.int (1 : Int32)), .unset] [])) _
    refine XS.aload X172.here hx rfl (hb hby at_582) rfl rfl ?_
    show Steps p.tables e below (T172.setTop (mkF m 584 #[.val (.long ja), .second, .val (.long jb), .second, .val (.long jt), .second, .val (.ref ob1), .val (.ref ob3), .val (.int (1 : Int32)), .unset] [(.ref ob3)])) _
    refine st175 _ ?_
    show Steps p.tables e below (T175.setTop (mkF m 587 #[.val (.long ja), .second, .val (.long jb), .second, .val (.long jt), .second, .val (.ref ob1), .val (.ref ob3), .val (.int (1 : Int32)), .unset] [(.ref m3_9)])) _
    refine XT.iconstV X175.here hx rfl (1 : Int32) (hb hby at_587) rfl ?_
    show Steps p.tables e below (T175.setTop (mkF m 588 #[.val (.long ja), .second, .val (.long jb), .second, .val (.long jt), .second, .val (.ref ob1), .val (.ref ob3), .val (.int (1 : Int32)), .unset] [(.int (1 : Int32)), (.ref m3_9)])) _
    refine X175.laload hx (j := (1 : Int32)) (v := (.long (jb + (8 : Int64)))) (by rw [e175]; exact Ar176.1) (State.isArrayOf_alike hZ.alike Ar176.2.1) Ar176.2.2 ghin176 ghat176 (g := (mkF m 588 #[.val (.long ja), .second, .val (.long jb), .second, .val (.long jt), .second, .val (.ref ob1), .val (.ref ob3), .val (.int (1 : Int32)), .unset] [(.int (1 : Int32)), (.ref m3_9)])) rfl rfl (hb hby at_588) _ ?_
    show Steps p.tables e below (T175.setTop (mkF m 589 #[.val (.long ja), .second, .val (.long jb), .second, .val (.long jt), .second, .val (.ref ob1), .val (.ref ob3), .val (.int (1 : Int32)), .unset] [(.long (jb + (8 : Int64)))])) _
    refine XT.lloadN X175.here hx rfl (hb hby at_589) rfl ?_
    show Steps p.tables e below (T175.setTop (mkF m 590 #[.val (.long ja), .second, .val (.long jb), .second, .val (.long jt), .second, .val (.ref ob1), .val (.ref ob3), .val (.int (1 : Int32)), .unset] [(.long jb), (.long (jb + (8 : Int64)))])) _
    refine X175.ldc2J hx hown (mvT hZ (hw _ (List.mem_of_getElem? (i := 28) rfl))) (g := (mkF m 590 #[.val (.long ja), .second, .val (.long jb), .second, .val (.long jt), .second, .val (.ref ob1), .val (.ref ob3), .val (.int (1 : Int32)), .unset] [(.long jb), (.long (jb + (8 : Int64)))])) rfl (hb hby at_590) ?_
    show Steps p.tables e below (T175.setTop (mkF m 593 #[.val (.long ja), .second, .val (.long jb), .second, .val (.long jt), .second, .val (.ref ob1), .val (.ref ob3), .val (.int (1 : Int32)), .unset] [(.long (8 : Int64)), (.long jb), (.long (jb + (8 : Int64)))])) _
    refine XT.ladd X175.here hx rfl (hb hby at_593) rfl ?_
    show Steps p.tables e below (T175.setTop (mkF m 594 #[.val (.long ja), .second, .val (.long jb), .second, .val (.long jt), .second, .val (.ref ob1), .val (.ref ob3), .val (.int (1 : Int32)), .unset] [(.long (jb + (8 : Int64))), (.long (jb + (8 : Int64)))])) _
    refine XT.lcmp X175.here hx rfl (hb hby at_594) rfl ?_
    show Steps p.tables e below (T175.setTop (mkF m 595 #[.val (.long ja), .second, .val (.long jb), .second, .val (.long jt), .second, .val (.ref ob1), .val (.ref ob3), .val (.int (1 : Int32)), .unset] [(.int (XT.cmpL (jb + (8 : Int64)) (jb + (8 : Int64))))])) _
    refine XS.ifNo X175.here hx rfl (hb hby at_595) rfl (XT.ll_ne_f rfl) ?_
    show Steps p.tables e below (T175.setTop (mkF m 598 #[.val (.long ja), .second, .val (.long jb), .second, .val (.long jt), .second, .val (.ref ob1), .val (.ref ob3), .val (.int (1 : Int32)), .unset] [])) _
    refine XS.aload X175.here hx rfl (hb hby at_598) rfl rfl ?_
    show Steps p.tables e below (T175.setTop (mkF m 600 #[.val (.long ja), .second, .val (.long jb), .second, .val (.long jt), .second, .val (.ref ob1), .val (.ref ob3), .val (.int (1 : Int32)), .unset] [(.ref ob3)])) _
    refine st177 _ ?_
    show Steps p.tables e below (T177.setTop (mkF m 603 #[.val (.long ja), .second, .val (.long jb), .second, .val (.long jt), .second, .val (.ref ob1), .val (.ref ob3), .val (.int (1 : Int32)), .unset] [(.ref m3_9)])) _
    refine XT.iconstV X177.here hx rfl (2 : Int32) (hb hby at_603) rfl ?_
    show Steps p.tables e below (T177.setTop (mkF m 604 #[.val (.long ja), .second, .val (.long jb), .second, .val (.long jt), .second, .val (.ref ob1), .val (.ref ob3), .val (.int (1 : Int32)), .unset] [(.int (2 : Int32)), (.ref m3_9)])) _
    refine X177.laload hx (j := (2 : Int32)) (v := (.long (jb + (9 : Int64)))) (by rw [e177]; exact Ar178.1) (State.isArrayOf_alike hZ.alike Ar178.2.1) Ar178.2.2 ghin178 ghat178 (g := (mkF m 604 #[.val (.long ja), .second, .val (.long jb), .second, .val (.long jt), .second, .val (.ref ob1), .val (.ref ob3), .val (.int (1 : Int32)), .unset] [(.int (2 : Int32)), (.ref m3_9)])) rfl rfl (hb hby at_604) _ ?_
    show Steps p.tables e below (T177.setTop (mkF m 605 #[.val (.long ja), .second, .val (.long jb), .second, .val (.long jt), .second, .val (.ref ob1), .val (.ref ob3), .val (.int (1 : Int32)), .unset] [(.long (jb + (9 : Int64)))])) _
    refine XT.lloadN X177.here hx rfl (hb hby at_605) rfl ?_
    show Steps p.tables e below (T177.setTop (mkF m 606 #[.val (.long ja), .second, .val (.long jb), .second, .val (.long jt), .second, .val (.ref ob1), .val (.ref ob3), .val (.int (1 : Int32)), .unset] [(.long jb), (.long (jb + (9 : Int64)))])) _
    refine X177.ldc2J hx hown (mvT hZ (hw _ (List.mem_of_getElem? (i := 29) rfl))) (g := (mkF m 606 #[.val (.long ja), .second, .val (.long jb), .second, .val (.long jt), .second, .val (.ref ob1), .val (.ref ob3), .val (.int (1 : Int32)), .unset] [(.long jb), (.long (jb + (9 : Int64)))])) rfl (hb hby at_606) ?_
    show Steps p.tables e below (T177.setTop (mkF m 609 #[.val (.long ja), .second, .val (.long jb), .second, .val (.long jt), .second, .val (.ref ob1), .val (.ref ob3), .val (.int (1 : Int32)), .unset] [(.long (9 : Int64)), (.long jb), (.long (jb + (9 : Int64)))])) _
    refine XT.ladd X177.here hx rfl (hb hby at_609) rfl ?_
    show Steps p.tables e below (T177.setTop (mkF m 610 #[.val (.long ja), .second, .val (.long jb), .second, .val (.long jt), .second, .val (.ref ob1), .val (.ref ob3), .val (.int (1 : Int32)), .unset] [(.long (jb + (9 : Int64))), (.long (jb + (9 : Int64)))])) _
    refine XT.lcmp X177.here hx rfl (hb hby at_610) rfl ?_
    show Steps p.tables e below (T177.setTop (mkF m 611 #[.val (.long ja), .second, .val (.long jb), .second, .val (.long jt), .second, .val (.ref ob1), .val (.ref ob3), .val (.int (1 : Int32)), .unset] [(.int (XT.cmpL (jb + (9 : Int64)) (jb + (9 : Int64))))])) _
    refine XS.ifNo X177.here hx rfl (hb hby at_611) rfl (XT.ll_ne_f rfl) ?_
    show Steps p.tables e below (T177.setTop (mkF m 614 #[.val (.long ja), .second, .val (.long jb), .second, .val (.long jt), .second, .val (.ref ob1), .val (.ref ob3), .val (.int (1 : Int32)), .unset] [])) _
    refine XT.iconstV X177.here hx rfl (1 : Int32) (hb hby at_614) rfl ?_
    show Steps p.tables e below (T177.setTop (mkF m 615 #[.val (.long ja), .second, .val (.long jb), .second, .val (.long jt), .second, .val (.ref ob1), .val (.ref ob3), .val (.int (1 : Int32)), .unset] [(.int (1 : Int32))])) _
    refine XS.goto X177.here hx rfl (pc0 := 615) (pc' := 619) rfl (hb hby at_615) (by decide) (by decide) ?_
    show Steps p.tables e below (T177.setTop (mkF m 619 #[.val (.long ja), .second, .val (.long jb), .second, .val (.long jt), .second, .val (.ref ob1), .val (.ref ob3), .val (.int (1 : Int32)), .unset] [(.int (1 : Int32))])) _
    refine XS.istore X177.here hx rfl (hb hby at_619) rfl (l' := #[.val (.long ja), .second, .val (.long jb), .second, .val (.long jt), .second, .val (.ref ob1), .val (.ref ob3), .val (.int (1 : Int32)), .val (.int (1 : Int32))]) rfl ?_
    show Steps p.tables e below (T177.setTop (mkF m 621 #[.val (.long ja), .second, .val (.long jb), .second, .val (.long jt), .second, .val (.ref ob1), .val (.ref ob3), .val (.int (1 : Int32)), .val (.int (1 : Int32))] [])) _
    refine XS.iload X177.here hx rfl (hb hby at_621) rfl ?_
    show Steps p.tables e below (T177.setTop (mkF m 623 #[.val (.long ja), .second, .val (.long jb), .second, .val (.long jt), .second, .val (.ref ob1), .val (.ref ob3), .val (.int (1 : Int32)), .val (.int (1 : Int32))] [(.int (1 : Int32))])) _
    refine XS.ifNo X177.here hx rfl (hb hby at_623) rfl (XT.i0_eq_f (by decide)) ?_
    show Steps p.tables e below (T177.setTop (mkF m 626 #[.val (.long ja), .second, .val (.long jb), .second, .val (.long jt), .second, .val (.ref ob1), .val (.ref ob3), .val (.int (1 : Int32)), .val (.int (1 : Int32))] [])) _
    refine XS.iload X177.here hx rfl (hb hby at_626) rfl ?_
    show Steps p.tables e below (T177.setTop (mkF m 628 #[.val (.long ja), .second, .val (.long jb), .second, .val (.long jt), .second, .val (.ref ob1), .val (.ref ob3), .val (.int (1 : Int32)), .val (.int (1 : Int32))] [(.int (1 : Int32))])) _
    refine XS.ifNo X177.here hx rfl (hb hby at_628) rfl (XT.i0_eq_f (by decide)) ?_
    show Steps p.tables e below (T177.setTop (mkF m 631 #[.val (.long ja), .second, .val (.long jb), .second, .val (.long jt), .second, .val (.ref ob1), .val (.ref ob3), .val (.int (1 : Int32)), .val (.int (1 : Int32))] [])) _
    refine XT.iconstV X177.here hx rfl (1 : Int32) (hb hby at_631) rfl ?_
    show Steps p.tables e below (T177.setTop (mkF m 632 #[.val (.long ja), .second, .val (.long jb), .second, .val (.long jt), .second, .val (.ref ob1), .val (.ref ob3), .val (.int (1 : Int32)), .val (.int (1 : Int32))] [(.int (1 : Int32))])) _
    refine XS.goto X177.here hx rfl (pc0 := 632) (pc' := 636) rfl (hb hby at_632) (by decide) (by decide) ?_
    show Steps p.tables e below (T177.setTop (mkF m 636 #[.val (.long ja), .second, .val (.long jb), .second, .val (.long jt), .second, .val (.ref ob1), .val (.ref ob3), .val (.int (1 : Int32)), .val (.int (1 : Int32))] [(.int (1 : Int32))])) _
    exact retN X177 hx (t := .boolean) Bd.returns (by simp) (hb hby at_636) hr
  · show own_Q0 Z ja jb jt h0 n0 _ T177.heap _
    exact ⟨rfl, N150⟩
set_option maxRecDepth 65536 in
set_option maxHeartbeats 40000000 in
theorem comes_1 {Post : Tables → Env → Array Value → State → Outcome → State → Prop} (hpost : ∀ tb e args s v u, (limb_1_1.after args s (.returned v) u = true ∧ limb_1_2.after args s (.returned v) u = true ∧ True) → FrameEnd s (.returned v) u (Jvm.fieldLocs frame_1_writes args s ++ Jvm.arrayLocs frame_1_arrays args s ++ Jvm.staticLocs frame_1_statics s) 32 128 → Post tb e args s (.returned v) u) :
    ArmFor flags0 classFile x code maxLocals ret World_1 tables_1 room_1 Calls_1 rest_1 Pre_1 Post := by
  intro l hfl _ _ p e ha hc hk s m args below hf hA hF happ hP
  obtain ⟨hcalls, hrest, hpre⟩ := hP
  obtain ⟨-, -, -, hnamed, -, -, -, hat⟩ := (Spec.applies_iff hf).mp happ
  obtain ⟨hg, hn⟩ := and_e (Cond.before_iff.mp (show (Jvm.Cond.and given_1 narrow_1).before args s = true from hpre))
  obtain ⟨gc, gr0⟩ := and_e hg
  obtain ⟨ga0, gr1⟩ := and_e gr0
  obtain ⟨ga1, gr2⟩ := and_e gr1
  obtain ⟨w0, w1, w2, rfl⟩ : ∃ w0 w1 w2 : Value, args = #[w0, w1, w2] := by
    have hs : args.size = 3 := by simpa [Cond.value, given_1] using gc
    obtain ⟨L⟩ := args
    match L, hs with
    | [w0, w1, w2], _ => exact ⟨w0, w1, w2, rfl⟩
  have hw := fun d (hd : d ∈ tables_1) => atoms_spec (ws := Jvm.Cond.code x code maxLocals ret :: tables_1) hat d (List.mem_cons_of_mem _ hd)
  obtain ⟨i0, ei0⟩ := isL_v ga0
  obtain rfl : w0 = (.long i0) := Option.some.inj ei0
  obtain ⟨i1, ei1⟩ := isL_v ga1
  obtain rfl : w1 = (.long i1) := Option.some.inj ei1
  obtain ⟨i2, ei2⟩ := isL_v gr2
  obtain rfl : w2 = (.long i2) := Option.some.inj ei2
  obtain ⟨n, o, h1, h2, h3, _, L, rfl, ⟨rfl, N⟩, hq⟩ := own_rm0 l s _ hw tables_1 i0 i1 i2 s.heap s.heap.size (Nat.le_refl _) p e ha hc hk s m _ below hf ((Spec.applies_iff_loose hf).mp happ).1 ⟨rfl, State.Warmed39.refl s, rfl⟩ trivial
  refine ⟨n, _, h1, h2, h3, hpost _ _ _ _ _ _ ⟨Cond.after_iff.mpr rfl, Cond.after_iff.mpr (eq_i res_at (Term.int_eval (1)) rfl), trivial⟩ ⟨hq.1, hq.2.1, (hq.2.2.sift fun y hy => Or.inr (N y hy)).mono (by decide) (by decide)⟩⟩
theorem main_1_1 : Claimed_1_1 := comes_1 fun _ _ _ _ _ _ h hF => ⟨h.1, hF⟩
theorem main_1_2 : Claimed_1_2 := comes_1 fun _ _ _ _ _ _ h hF => ⟨h.2.1, hF⟩
end Jvm.Pilot.@@N@@
namespace Jvm.Pilot.@@N@@
open Jvm Jvm.ClassFile Sem Op Lib Jvm.Free Jvm.Stand Jvm.Pilot.@@N@@.Jvm.D
/-! MADE BY PROGRAM (witnessworld.py) out of the Statement's table words and the real class files: 11 classes; the members and pool entries that the words name. The judged class is class 1, her method 2. -/
namespace start1
open Jvm.ClassFile
def u (s : String) : CpInfo := .utf8 (stringToUtf16 s)
/-- a pool by its gaps: so many unusable entries, then the entry; so many at the end -/
def gap : Nat → List CpInfo → List CpInfo
  | 0, r => r
  | n + 1, r => .unusable :: gap n r
def poolList (es : List (Nat × CpInfo)) (last : Nat) : List CpInfo := es.foldr (fun e r => gap e.1 (e.2 :: r)) (gap last [])
def pool (es : List (Nat × CpInfo)) (last : Nat) : Array CpInfo := ⟨poolList es last⟩
def fileOf (pool : Array CpInfo) (this : Nat) (attrs : Array Attribute := #[]) (ms : Array MethodInfo := #[]) (fl : Nat := 33) (sup : Nat := 0) (ifs : Array Nat := #[]) (fds : Array FieldInfo := #[]) : ClassFile where
  minorVersion := 0
  majorVersion := 65
  constantPool := pool
  accessFlags := fl
  thisClass := this
  superClass := sup
  interfaces := ifs
  fields := fds
  methods := ms
  attributes := attrs
def plain (name : String) (sup : Option ClassId) : Class where
  name := name
  kind := .ordinary
  loader := none
  accessFlags := 33
  super := sup
  interfaces := #[]
  cf := none
  fields := #[]
  methods := #[]
  instanceTypes := #[]
  staticTypes := #[]
  resolved := #[]
  callSites := []
  init := .initialized
  statics := none
  mirror := none

def pool0 : Array CpInfo := pool [(5, u "<init>"), (0, u "()V"), (1, .class_ 10), (1, u "java/lang/Object")] 113

def k0c0 : Code := { maxStack := 0, maxLocals := 1, code := object_method_1_code, exceptionTable := #[], attributes := #[] }
def k0m0 : Method := { name := "<init>", desc := "()V", sig := { parameters := [], returnType := none }, accessFlags := 1, code := some k0c0 }
/-- java/lang/Object -/
def k0 : Class := { plain "java/lang/Object" none with
  accessFlags := 33
  interfaces := #[]
  cf := some (fileOf pool0 8 #[] #[{ accessFlags := 1, nameIndex := 5, descriptorIndex := 6, attributes := #[] }] 33 0 #[] #[])
  fields := #[]
  methods := #[k0m0]
  instanceTypes := #[]
  staticTypes := #[]
  resolved := Array.replicate 124 none
  statics := none }

def pool1 : Array CpInfo := pool [(2, .class_ 4), (1, u "java/lang/Object"), (0, u "<init>"), (0, u "()V"), (0, .class_ 8), (0, u "com/example/tracegauge/tracegauge/TraceTokens$Deviations"), (0, .methodref 7 10), (0, .nameAndType 5 11), (0, u "(II)V"), (0, .fieldref 7 13), (0, .nameAndType 14 15), (0, u "missing"), (0, u "[J"), (0, .fieldref 7 17), (0, .nameAndType 18 15), (0, u "remaining"), (0, .long 2), (1, .long 3), (1, .fieldref 7 24), (0, .nameAndType 25 15), (0, u "forced"), (0, .long 4), (1, .long 5), (1, .long 6), (1, .fieldref 7 33), (0, .nameAndType 34 15), (0, u "violated"), (0, .long 7), (1, .long 8), (1, .long 9), (1, .methodref 7 42), (0, .nameAndType 43 44), (0, u "add"), (0, u "(Lcom/example/tracegauge/tracegauge/TraceTokens$Deviations;J)V"), (0, .methodref 46 47), (0, .class_ 48), (0, .nameAndType 49 50), (0, u "com/example/tracegauge/tracegauge/TraceTokensAddPinLaw"), (0, u "exp"), (0, u "(JJJI)J"), (2, u "law"), (0, u "(JJJ)Z")] 7

def k1m0 : Method := { name := "<init>", desc := "()V", sig := { parameters := [], returnType := none }, accessFlags := 1, code := none }
def k1c1 : Code := { maxStack := 6, maxLocals := 7, code := method_2_code, exceptionTable := #[], attributes := #[] }
def k1m1 : Method := { name := "exp", desc := "(JJJI)J", sig := { parameters := [.long, .long, .long, .int], returnType := some .long }, accessFlags := 10, code := some k1c1 }
def k1c2 : Code := { maxStack := 9, maxLocals := 10, code := code, exceptionTable := #[], attributes := #[] }
def k1m2 : Method := { name := "law", desc := "(JJJ)Z", sig := { parameters := [.long, .long, .long], returnType := some .boolean }, accessFlags := 9, code := some k1c2 }
/-- com/example/tracegauge/tracegauge/TraceTokensAddPinLaw -/
def k1 : Class := { plain "com/example/tracegauge/tracegauge/TraceTokensAddPinLaw" (some 0) with
  accessFlags := 49
  interfaces := #[]
  cf := some (fileOf pool1 46 #[] #[{ accessFlags := 1, nameIndex := 5, descriptorIndex := 6, attributes := #[] }, { accessFlags := 10, nameIndex := 49, descriptorIndex := 50, attributes := #[] }, { accessFlags := 9, nameIndex := 53, descriptorIndex := 54, attributes := #[] }] 49 2 #[] #[])
  fields := #[]
  methods := #[k1m0, k1m1, k1m2]
  instanceTypes := #[]
  staticTypes := #[]
  resolved := Array.replicate 62 none
  statics := none }

def pool2 : Array CpInfo := pool [(1, .methodref 2 3), (0, .class_ 4), (0, .nameAndType 5 6), (0, u "java/lang/Object"), (0, u "<init>"), (0, u "()V"), (0, .fieldref 8 9), (0, .class_ 10), (0, .nameAndType 11 12), (0, u "com/example/tracegauge/tracegauge/TraceTokens$Deviations"), (0, u "missing"), (0, u "[J"), (0, .fieldref 8 14), (0, .nameAndType 15 12), (0, u "remaining"), (0, .fieldref 8 17), (0, .nameAndType 18 12), (0, u "forced"), (0, .fieldref 8 20), (0, .nameAndType 21 12), (0, u "violated"), (0, u "(II)V"), (2, u "add"), (0, u "(Lcom/example/tracegauge/tracegauge/TraceTokens$Deviations;J)V"), (4, .class_ 32), (0, u "com/example/tracegauge/tracegauge/TraceTokens")] 2

def k2c0 : Code := { maxStack := 2, maxLocals := 3, code := prog_143_method_1_code, exceptionTable := #[], attributes := #[] }
def k2m0 : Method := { name := "<init>", desc := "(II)V", sig := { parameters := [.int, .int], returnType := none }, accessFlags := 0, code := some k2c0 }
def k2c1 : Code := { maxStack := 8, maxLocals := 5, code := prog_143_method_2_code, exceptionTable := #[], attributes := #[] }
def k2m1 : Method := { name := "add", desc := "(Lcom/example/tracegauge/tracegauge/TraceTokens$Deviations;J)V", sig := { parameters := [(.object "com/example/tracegauge/tracegauge/TraceTokens$Deviations"), .long], returnType := none }, accessFlags := 0, code := some k2c1 }
/-- com/example/tracegauge/tracegauge/TraceTokens$Deviations -/
def k2 : Class := { plain "com/example/tracegauge/tracegauge/TraceTokens$Deviations" (some 0) with
  accessFlags := 48
  interfaces := #[]
  cf := some (fileOf pool2 8 #[.nestHost 31] #[{ accessFlags := 0, nameIndex := 5, descriptorIndex := 22, attributes := #[] }, { accessFlags := 0, nameIndex := 25, descriptorIndex := 26, attributes := #[] }] 48 2 #[] #[{ accessFlags := 16, nameIndex := 11, descriptorIndex := 12, attributes := #[] }, { accessFlags := 16, nameIndex := 15, descriptorIndex := 12, attributes := #[] }, { accessFlags := 16, nameIndex := 18, descriptorIndex := 12, attributes := #[] }, { accessFlags := 16, nameIndex := 21, descriptorIndex := 12, attributes := #[] }])
  fields := #[{ name := "missing", type := (.array .long), accessFlags := 16, slot := 0, constantValue := 0 }, { name := "remaining", type := (.array .long), accessFlags := 16, slot := 1, constantValue := 0 }, { name := "forced", type := (.array .long), accessFlags := 16, slot := 2, constantValue := 0 }, { name := "violated", type := (.array .long), accessFlags := 16, slot := 3, constantValue := 0 }]
  methods := #[k2m0, k2m1]
  instanceTypes := #[(.array .long), (.array .long), (.array .long), (.array .long)]
  staticTypes := #[]
  resolved := Array.replicate 35 none
  statics := none }

def pool3 : Array CpInfo := pool [(1, u "java/lang/Cloneable"), (0, .class_ 1), (0, u "java/lang/Object"), (0, .class_ 3)] 3

/-- java/lang/Cloneable -/
def k3 : Class := { plain "java/lang/Cloneable" (some 0) with
  accessFlags := 1537
  interfaces := #[]
  cf := some (fileOf pool3 2 #[] #[] 1537 4 #[] #[])
  fields := #[]
  methods := #[]
  instanceTypes := #[]
  staticTypes := #[]
  resolved := Array.replicate 8 none
  statics := none }

def pool4 : Array CpInfo := pool [(1, u "java/io/Serializable"), (0, .class_ 1), (0, u "java/lang/Object"), (0, .class_ 3)] 3

/-- java/io/Serializable -/
def k4 : Class := { plain "java/io/Serializable" (some 0) with
  accessFlags := 1537
  interfaces := #[]
  cf := some (fileOf pool4 2 #[] #[] 1537 4 #[] #[])
  fields := #[]
  methods := #[]
  instanceTypes := #[]
  staticTypes := #[]
  resolved := Array.replicate 8 none
  statics := none }

/-- the primitive byte -/
def k5 : Class := { plain "byte" none with kind := .primitive 'B', accessFlags := 0x411 }
/-- [B -/
def k6 : Class := { plain "[B" (some 0) with kind := .array 5 .byte, interfaces := #[3, 4], accessFlags := 1041 }

/-- the primitive int -/
def k7 : Class := { plain "int" none with kind := .primitive 'I', accessFlags := 0x411 }
/-- [I -/
def k8 : Class := { plain "[I" (some 0) with kind := .array 7 .int, interfaces := #[3, 4], accessFlags := 1041 }

/-- the primitive long -/
def k9 : Class := { plain "long" none with kind := .primitive 'J', accessFlags := 0x411 }
/-- [J -/
def k10 : Class := { plain "[J" (some 0) with kind := .array 9 .long, interfaces := #[3, 4], accessFlags := 1041 }

def heap : Heap := #[]
def classes : Array Class := #[k0, k1, k2, k3, k4, k5, k6, k7, k8, k9, k10]
def interned : List (Array UInt16 × Addr) := []
def slotsUsed : Nat := 0
def theMethod : MethodId := ⟨1, 2⟩
def args0 : Array Value := #[.long 5, .long 5, .long 5]
def aboutOver (below : List Frame) : State where
  vm := { classes := classes, interned := interned.toArray }
  heap := heap
  slotsUsed := slotsUsed
  threads := #[{ frames := .invoking theMethod args0 :: below }]
def below0 : List Frame := [.native { method := ⟨0, 0⟩, args := #[] }]
def about1 : State := aboutOver below0
def p0 : Program := .bare "" "" ""
def e0 : Env := launch0.env 0 0 0
theorem w_frames : about1.frames = Frame.invoking theMethod args0 :: below0 := rfl
set_option maxRecDepth 65536 in
theorem w_args : argsFit about1.vm theMethod args0 = true := by decide +kernel
set_option maxRecDepth 65536 in
theorem w_heap : heapFits about1 = true := by decide +kernel
set_option maxRecDepth 65536 in
theorem w_runnable : about1.curStatus? = some .runnable := by decide +kernel
set_option maxRecDepth 65536 in
theorem w_alone : about1.alone = true := by decide +kernel
set_option maxRecDepth 65536 in
theorem w_named : about1.methodNamed? x = some theMethod := by decide +kernel
set_option maxRecDepth 65536 in
theorem w_hears : about1.hears theMethod below0 = true := by decide +kernel
set_option maxRecDepth 65536 in
theorem w_ripe : about1.ripe theMethod args0 below0 = true := by decide +kernel
theorem w_running : about1.status = .running := rfl
set_option maxRecDepth 65536 in
theorem w_room : about1.hasRoom e0.platform room_1 = true :=
  launch0.hasRoom_least _ room_1 (by decide +kernel) (by decide +kernel) (by decide +kernel) (by decide +kernel) (by decide +kernel) (by decide +kernel)
theorem allAtoms_all (ts : List Jvm.Cond) (a : Array Jvm.Value) (st : Jvm.State) : (allAtoms ts).before a st = ts.all (fun c => c.before a st) := by
  induction ts with
  | nil => rfl
  | cons c t ih =>
    show (Jvm.Cond.and c (allAtoms t)).before a st = _
    rw [Jvm.Cond.before_and, ih, List.all_cons]
def words1 : List Jvm.Cond := Jvm.Cond.code x code maxLocals ret :: tables_1
/-- a 'code' word, met by the world's own term for the bytes: nothing is compared byte by byte -/
theorem code_word {y : MethodName} {bytes : ByteArray} {mx : Nat} {rt : Option FieldType} {a : Array Value} {s : State} {m : MethodId} {meth : Method} {c : Code} (h1 : s.methodNamed? y = some m) (h2 : s.vm.method? m = some meth) (h3 : meth.code = some c) (h4 : c.code = bytes)
    (h5 : (c.maxLocals == mx && c.exceptionTable.isEmpty && decide (c.maxStack ≤ mostOperands) && decide (meth.sig.returnType = rt) && !meth.locks && decide (parseMethodDescriptor y.desc = some meth.sig)) = true) : (Jvm.Cond.code y bytes mx rt).before a s = true := by
  simp only [Bool.and_eq_true, beq_iff_eq, Bool.not_eq_true', decide_eq_true_eq] at h5
  obtain ⟨⟨⟨⟨⟨g1, g2⟩, g3⟩, g4⟩, g5⟩, g6⟩ := h5
  simp [Cond.before, Cond.holds, Cond.value, h1, h2, h3, h4, g1, g2, g3, g4, g5, g6]
def isCode : Jvm.Cond → Bool
  | .code _ _ _ _ => true
  | _ => false
theorem all_split {L : List Jvm.Cond} {P : Jvm.Cond → Bool} (h1 : L.all (fun c => isCode c || P c) = true) (h2 : ∀ c ∈ L.filter isCode, P c = true) : L.all P = true := by
  refine List.all_eq_true.mpr fun c hc => ?_
  have h := List.all_eq_true.mp h1 c hc
  rcases Bool.eq_false_or_eq_true (isCode c) with hi | hi
  · exact h2 c (List.mem_filter.mpr ⟨hc, hi⟩)
  · simpa [hi] using h
set_option maxRecDepth 65536 in
theorem w_c0 : (Jvm.Cond.code x code maxLocals ret).before args0 about1 = true := code_word (m := ⟨1, 2⟩) (meth := k1m2) (c := k1c2) (by decide +kernel) rfl rfl rfl (by decide +kernel)
set_option maxRecDepth 65536 in
theorem w_c1 : (Jvm.Cond.code ({ cls := "com/example/tracegauge/tracegauge/TraceTokens$Deviations", name := "<init>", desc := "(II)V" } : Jvm.MethodName) prog_143_method_1_code (3 : Nat) (Option.none : Option Jvm.ClassFile.FieldType)).before args0 about1 = true := code_word (m := ⟨2, 0⟩) (meth := k2m0) (c := k2c0) (by decide +kernel) rfl rfl rfl (by decide +kernel)
set_option maxRecDepth 65536 in
theorem w_c2 : (Jvm.Cond.code ({ cls := "java/lang/Object", name := "<init>", desc := "()V" } : Jvm.MethodName) object_method_1_code (1 : Nat) (Option.none : Option Jvm.ClassFile.FieldType)).before args0 about1 = true := code_word (m := ⟨0, 0⟩) (meth := k0m0) (c := k0c0) (by decide +kernel) rfl rfl rfl (by decide +kernel)
set_option maxRecDepth 65536 in
theorem w_c3 : (Jvm.Cond.code ({ cls := "com/example/tracegauge/tracegauge/TraceTokens$Deviations", name := "add", desc := "(Lcom/example/tracegauge/tracegauge/TraceTokens$Deviations;J)V" } : Jvm.MethodName) prog_143_method_2_code (5 : Nat) (Option.none : Option Jvm.ClassFile.FieldType)).before args0 about1 = true := code_word (m := ⟨2, 1⟩) (meth := k2m1) (c := k2c1) (by decide +kernel) rfl rfl rfl (by decide +kernel)
set_option maxRecDepth 65536 in
theorem w_c4 : (Jvm.Cond.code ({ cls := "com/example/tracegauge/tracegauge/TraceTokensAddPinLaw", name := "exp", desc := "(JJJI)J" } : Jvm.MethodName) method_2_code (7 : Nat) (Option.some Jvm.ClassFile.FieldType.long)).before args0 about1 = true := code_word (m := ⟨1, 1⟩) (meth := k1m1) (c := k1c1) (by decide +kernel) rfl rfl rfl (by decide +kernel)
def codes1 : List Jvm.Cond := [Jvm.Cond.code x code maxLocals ret, Jvm.Cond.code ({ cls := "com/example/tracegauge/tracegauge/TraceTokens$Deviations", name := "<init>", desc := "(II)V" } : Jvm.MethodName) prog_143_method_1_code (3 : Nat) (Option.none : Option Jvm.ClassFile.FieldType), Jvm.Cond.code ({ cls := "java/lang/Object", name := "<init>", desc := "()V" } : Jvm.MethodName) object_method_1_code (1 : Nat) (Option.none : Option Jvm.ClassFile.FieldType), Jvm.Cond.code ({ cls := "com/example/tracegauge/tracegauge/TraceTokens$Deviations", name := "add", desc := "(Lcom/example/tracegauge/tracegauge/TraceTokens$Deviations;J)V" } : Jvm.MethodName) prog_143_method_2_code (5 : Nat) (Option.none : Option Jvm.ClassFile.FieldType), Jvm.Cond.code ({ cls := "com/example/tracegauge/tracegauge/TraceTokensAddPinLaw", name := "exp", desc := "(JJJI)J" } : Jvm.MethodName) method_2_code (7 : Nat) (Option.some Jvm.ClassFile.FieldType.long)]
set_option maxRecDepth 65536 in
theorem codes_eq : words1.filter isCode = codes1 := rfl
theorem w_codes : ∀ c ∈ words1.filter isCode, c.before args0 about1 = true := by
  rw [codes_eq]
  intro c hc
  simp only [codes1, List.mem_cons, List.not_mem_nil, or_false] at hc
  rcases hc with rfl | rfl | rfl | rfl | rfl
  · exact w_c0
  · exact w_c1
  · exact w_c2
  · exact w_c3
  · exact w_c4
set_option maxRecDepth 65536 in
theorem w_t1 : (words1.take 24).all (fun c => isCode c || c.before args0 about1) = true := by decide +kernel
set_option maxRecDepth 65536 in
theorem w_t2 : (words1.drop 24).all (fun c => isCode c || c.before args0 about1) = true := by decide +kernel
theorem w_tables : (allAtoms (Jvm.Cond.code x code maxLocals ret :: tables_1)).before args0 about1 = true := by
  rw [allAtoms_all]
  show words1.all (fun c => c.before args0 about1) = true
  refine all_split ?_ w_codes
  rw [← List.take_append_drop 24 words1, List.all_append, w_t1, w_t2]
  rfl
set_option maxRecDepth 65536 in
theorem w_case : (Jvm.Cond.and given_1 narrow_1).before args0 about1 = true := by decide +kernel
theorem w_applies : (headSpec (Jvm.Cond.code x code maxLocals ret :: tables_1) room_1).applies x e0.platform about1 = true :=
  (Spec.applies_iff w_frames).mpr ⟨w_running, w_runnable, w_alone, w_named, w_hears, w_ripe, w_room, w_tables⟩
theorem atStart : AtStart classFile x code maxLocals ret World_1 tables_1 room_1 Calls_1 rest_1 Pre_1 launch0 p0 e0 about1 theMethod args0 below0 :=
  ⟨lists_1, trivial, launch0.admits_env _ _ _, launch0.least_env, fairChoices_fair.cas, fairChoices_fair.clock, w_frames, w_args, w_heap, w_applies, trivial, trivial, w_case⟩
end start1
theorem witness_1 : WitnessClaimed_1 := ⟨start1.p0, start1.e0, start1.about1, start1.theMethod, start1.args0, start1.below0, start1.atStart⟩
end Jvm.Pilot.@@N@@
