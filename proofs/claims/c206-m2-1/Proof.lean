import JvmDerived
import JvmDerived.Pilot.@@N@@Statement
import JvmDerived.Pilot.@@N@@Code
set_option linter.unusedVariables false
set_option linter.unusedSimpArgs false
namespace Jvm.Pilot.@@N@@
open Jvm Jvm.ClassFile Sem Op Lib Jvm.Free Jvm.Stand Jvm.LawKit Jvm.RoadKit Bundle Jvm.Pilot.@@N@@.Jvm.D
theorem own_pd0 : parseMethodDescriptor "()V" = some ⟨[], none⟩ := by decide +kernel
theorem own_pd1 : parseMethodDescriptor "(IIIIII)V" = some ⟨[.int, .int, .int, .int, .int, .int], none⟩ := by decide +kernel
theorem own_pd2 : parseMethodDescriptor "(Ljava/lang/Object;)Z" = some ⟨[(.object "java/lang/Object")], some .boolean⟩ := by decide +kernel
theorem own_pd3 : parseMethodDescriptor "(IIIIIIII)V" = some ⟨[.int, .int, .int, .int, .int, .int, .int, .int], none⟩ := by decide +kernel
theorem own_d2_0 : decode jdk_30_method_1_code 0 = .ok (.aload_n 0, 1) := by decide +kernel
theorem own_d2_1 : decode jdk_30_method_1_code 1 = .ok (.invokespecial 1, 3) := by decide +kernel
theorem own_d2_4 : decode jdk_30_method_1_code 4 = .ok (.return_, 1) := by decide +kernel
theorem own_pn2 : plainName "java/lang/Record" = true := by first | (simp [plainName, overriddenIn]; done) | decide +kernel
theorem own_ef2 (m : MethodId) (a : Addr) : entryFrame m #[(.ref a)] 1 = mkF m 0 #[.val (.ref a)] [] := by first | (simp [entryFrame, mkF, argsToLocals, Value.category]; done) | rfl
def own_Q2 (Z : State) (a : Addr) (h0 : Heap) (n0 : Nat) (v : Option Value) (h : Heap) (L : List Loc) : Prop := (v = none) ∧ (Fr n0 L) ∧ (h = h0)
set_option maxRecDepth 65536 in
set_option maxHeartbeats 40000000 in
theorem own_rm2 (l : Launch) (Z : State) (a0 : Array Value) (hw : ∀ d ∈ tables_1, d.before a0 Z = true) (ws : List Jvm.Cond) (a : Addr) (h0 : Heap) (n0 : Nat) (Z0 : n0 ≤ h0.size)  :
    MetFree l (⟨"java/lang/Record", "<init>", "()V"⟩ : MethodName) (head1 (Jvm.Cond.code (⟨"java/lang/Record", "<init>", "()V"⟩ : MethodName) jdk_30_method_1_code 1 none :: ws) ({ frames := 1, cells := 0, slots := 0, locals := 12 } : Room)) (fun ar_ U_ => ar_ = #[(.ref a)] ∧ Z.Warmed39 U_.vm ∧ U_.heap = h0) (fun _ _ _ _ _ => True) (fun _ U_ o_ U_' => ∃ v_ L_, o_ = .returned v_ ∧ own_Q2 Z a h0 n0 v_ U_'.heap L_ ∧ FrameEnd U_ o_ U_' L_ ({ frames := 1, cells := 0, slots := 0, locals := 12 } : Room).cells ({ frames := 1, cells := 0, slots := 0, locals := 12 } : Room).slots) := by
  refine MetFree.of_bodySF (plainFor_of_name own_pn2) hisR ?_
  intro p e s m args below meth c s₁ Bd hml0 hP hK
  obtain ⟨rfl, hZ, hh⟩ := hP
  have hx := Bd.exec
  have hby := Bd.bytes
  have hml : c.maxLocals = 1 := hml0
  have hown : s.vm.findClass "java/lang/Record" = some m.cls := findClass_of_methodNamed Bd.named
  have hnm := (name_of_methodNamed Bd.named Bd.method).1
  have X0 : Stand p l e ({ frames := 1, cells := 0, slots := 0, locals := 12 } : Room) s m #[(.ref a)] below meth c s₁ [] 0 0 := Stand.of_body Bd
  have e0 : s₁.heap = h0 := by rw [← hh, Bd.state]; rfl
  have N0 := Fr.nil n0
  have pre0 : ∀ t, Steps p.tables e below (s₁.setTop (mkF m 0 #[.val (.ref a)] [])) t → Steps p.tables e below (s₁.setTop (entryFrame m #[(.ref a)] 1)) t := fun t k => castTop (own_ef2 m a) k
  obtain ⟨T1, X1, e1, st1⟩ := initO X0 hx hZ hown (hw _ (List.mem_of_getElem? (i := 11) rfl)) (hw _ (List.mem_of_getElem? (i := 12) rfl)) (hw _ (List.mem_of_getElem? (i := 13) rfl)) e0 (g := (mkF m 1 #[.val (.ref a)] [(.ref a)])) rfl (by rw [hml]; rfl) rfl (hb hby own_d2_1) (by decide) (W := 0) (by show 2 * 0 + _ ≤ _; exact Nat.le_of_eq rfl) (by decide)
  obtain ⟨fs, hr, hrun, hended, hW, hsame⟩ := X1.leave (v := none) (fun _ => rfl)
  refine ⟨_, _, pre0 _ ?_, hrun, hended, _, _, rfl, ?_, ⟨_, rfl⟩, hW, hsame.mono (by decide) (by decide)⟩
  · show Steps p.tables e below (s₁.setTop (mkF m 0 #[.val (.ref a)] [])) _
    refine XS.aloadN X0.here hx rfl (hb hby own_d2_0) rfl rfl ?_
    show Steps p.tables e below (s₁.setTop (mkF m 1 #[.val (.ref a)] [(.ref a)])) _
    refine st1 _ ?_
    show Steps p.tables e below (T1.setTop (mkF m 4 #[.val (.ref a)] [])) _
    exact X1.returnOut hx Bd.returns (hb hby own_d2_4) hr
  · show own_Q2 Z a h0 n0 _ T1.heap _
    exact ⟨rfl, N0, e1⟩
theorem own_d1_0 : decode prog_26_method_1_code 0 = .ok (.aload_n 0, 1) := by decide +kernel
theorem own_d1_1 : decode prog_26_method_1_code 1 = .ok (.invokespecial 1, 3) := by decide +kernel
theorem own_d1_4 : decode prog_26_method_1_code 4 = .ok (.aload_n 0, 1) := by decide +kernel
theorem own_d1_5 : decode prog_26_method_1_code 5 = .ok (.iload_n 1, 1) := by decide +kernel
theorem own_d1_6 : decode prog_26_method_1_code 6 = .ok (.putfield 7, 3) := by decide +kernel
theorem own_d1_9 : decode prog_26_method_1_code 9 = .ok (.aload_n 0, 1) := by decide +kernel
theorem own_d1_10 : decode prog_26_method_1_code 10 = .ok (.iload_n 2, 1) := by decide +kernel
theorem own_d1_11 : decode prog_26_method_1_code 11 = .ok (.putfield 13, 3) := by decide +kernel
theorem own_d1_14 : decode prog_26_method_1_code 14 = .ok (.aload_n 0, 1) := by decide +kernel
theorem own_d1_15 : decode prog_26_method_1_code 15 = .ok (.iload_n 3, 1) := by decide +kernel
theorem own_d1_16 : decode prog_26_method_1_code 16 = .ok (.putfield 16, 3) := by decide +kernel
theorem own_d1_19 : decode prog_26_method_1_code 19 = .ok (.aload_n 0, 1) := by decide +kernel
theorem own_d1_20 : decode prog_26_method_1_code 20 = .ok (.iload 4, 2) := by decide +kernel
theorem own_d1_22 : decode prog_26_method_1_code 22 = .ok (.putfield 19, 3) := by decide +kernel
theorem own_d1_25 : decode prog_26_method_1_code 25 = .ok (.aload_n 0, 1) := by decide +kernel
theorem own_d1_26 : decode prog_26_method_1_code 26 = .ok (.iload 5, 2) := by decide +kernel
theorem own_d1_28 : decode prog_26_method_1_code 28 = .ok (.putfield 22, 3) := by decide +kernel
theorem own_d1_31 : decode prog_26_method_1_code 31 = .ok (.aload_n 0, 1) := by decide +kernel
theorem own_d1_32 : decode prog_26_method_1_code 32 = .ok (.iload 6, 2) := by decide +kernel
theorem own_d1_34 : decode prog_26_method_1_code 34 = .ok (.putfield 25, 3) := by decide +kernel
theorem own_d1_37 : decode prog_26_method_1_code 37 = .ok (.return_, 1) := by decide +kernel
theorem own_pn1 : plainName "com/example/traversim/traversim/aodv/Packet$Rrep" = true := by first | (simp [plainName, overriddenIn]; done) | decide +kernel
theorem own_ef1 (m : MethodId) (a1 : Addr) (x0 : Int32) (x1 : Int32) (x2 : Int32) (x3 : Int32) (x4 : Int32) (x5 : Int32) : entryFrame m #[(.ref a1), (.int x0), (.int x1), (.int x2), (.int x3), (.int x4), (.int x5)] 7 = mkF m 0 #[.val (.ref a1), .val (.int x0), .val (.int x1), .val (.int x2), .val (.int x3), .val (.int x4), .val (.int x5)] [] := by first | (simp [entryFrame, mkF, argsToLocals, Value.category]; done) | rfl
def own_Q1 (Z : State) (a1 : Addr) (x0 : Int32) (x1 : Int32) (x2 : Int32) (x3 : Int32) (x4 : Int32) (x5 : Int32) (u_from : Value) (u_to : Value) (u_orig : Value) (u_dst : Value) (u_seqno : Value) (u_hops : Value) (h0 : Heap) (n0 : Nat) (v : Option Value) (h : Heap) (L : List Loc) : Prop := (v = none) ∧ (Fr n0 L) ∧ (Keep h0 h [a1]) ∧ (Exa Z h a1 "com/example/traversim/traversim/aodv/Packet$Rrep") ∧ (Fld Z h a1 "com/example/traversim/traversim/aodv/Packet$Rrep" "from" "I" (.int x0)) ∧ (Fld Z h a1 "com/example/traversim/traversim/aodv/Packet$Rrep" "to" "I" (.int x1)) ∧ (Fld Z h a1 "com/example/traversim/traversim/aodv/Packet$Rrep" "orig" "I" (.int x2)) ∧ (Fld Z h a1 "com/example/traversim/traversim/aodv/Packet$Rrep" "dst" "I" (.int x3)) ∧ (Fld Z h a1 "com/example/traversim/traversim/aodv/Packet$Rrep" "seqno" "I" (.int x4)) ∧ (Fld Z h a1 "com/example/traversim/traversim/aodv/Packet$Rrep" "hops" "I" (.int x5))
set_option maxRecDepth 65536 in
set_option maxHeartbeats 40000000 in
theorem own_rm1 (l : Launch) (Z : State) (a0 : Array Value) (hw : ∀ d ∈ tables_1, d.before a0 Z = true) (ws : List Jvm.Cond) (a1 : Addr) (x0 : Int32) (x1 : Int32) (x2 : Int32) (x3 : Int32) (x4 : Int32) (x5 : Int32) (u_from : Value) (u_to : Value) (u_orig : Value) (u_dst : Value) (u_seqno : Value) (u_hops : Value) (h0 : Heap) (n0 : Nat) (Z0 : n0 ≤ h0.size) (P_E_a1 : Exa Z h0 a1 "com/example/traversim/traversim/aodv/Packet$Rrep") (P_F_a1_from : Fld Z h0 a1 "com/example/traversim/traversim/aodv/Packet$Rrep" "from" "I" u_from) (P_F_a1_to : Fld Z h0 a1 "com/example/traversim/traversim/aodv/Packet$Rrep" "to" "I" u_to) (P_F_a1_orig : Fld Z h0 a1 "com/example/traversim/traversim/aodv/Packet$Rrep" "orig" "I" u_orig) (P_F_a1_dst : Fld Z h0 a1 "com/example/traversim/traversim/aodv/Packet$Rrep" "dst" "I" u_dst) (P_F_a1_seqno : Fld Z h0 a1 "com/example/traversim/traversim/aodv/Packet$Rrep" "seqno" "I" u_seqno) (P_F_a1_hops : Fld Z h0 a1 "com/example/traversim/traversim/aodv/Packet$Rrep" "hops" "I" u_hops) (g_a1 : n0 ≤ a1) :
    MetFree l (⟨"com/example/traversim/traversim/aodv/Packet$Rrep", "<init>", "(IIIIII)V"⟩ : MethodName) (head1 (Jvm.Cond.code (⟨"com/example/traversim/traversim/aodv/Packet$Rrep", "<init>", "(IIIIII)V"⟩ : MethodName) prog_26_method_1_code 7 none :: ws) ({ frames := 2, cells := 0, slots := 0, locals := 24 } : Room)) (fun ar_ U_ => ar_ = #[(.ref a1), (.int x0), (.int x1), (.int x2), (.int x3), (.int x4), (.int x5)] ∧ Z.Warmed39 U_.vm ∧ U_.heap = h0) (fun _ _ _ _ _ => True) (fun _ U_ o_ U_' => ∃ v_ L_, o_ = .returned v_ ∧ own_Q1 Z a1 x0 x1 x2 x3 x4 x5 u_from u_to u_orig u_dst u_seqno u_hops h0 n0 v_ U_'.heap L_ ∧ FrameEnd U_ o_ U_' L_ ({ frames := 2, cells := 0, slots := 0, locals := 24 } : Room).cells ({ frames := 2, cells := 0, slots := 0, locals := 24 } : Room).slots) := by
  refine MetFree.of_bodySF (plainFor_of_name own_pn1) hisR ?_
  intro p e s m args below meth c s₁ Bd hml0 hP hK
  obtain ⟨rfl, hZ, hh⟩ := hP
  have hx := Bd.exec
  have hby := Bd.bytes
  have hml : c.maxLocals = 7 := hml0
  have hown : s.vm.findClass "com/example/traversim/traversim/aodv/Packet$Rrep" = some m.cls := findClass_of_methodNamed Bd.named
  have hnm := (name_of_methodNamed Bd.named Bd.method).1
  have X0 : Stand p l e ({ frames := 2, cells := 0, slots := 0, locals := 24 } : Room) s m #[(.ref a1), (.int x0), (.int x1), (.int x2), (.int x3), (.int x4), (.int x5)] below meth c s₁ [] 0 0 := Stand.of_body Bd
  have e0 : s₁.heap = h0 := by rw [← hh, Bd.state]; rfl
  have N0 := Fr.nil n0
  have pre0 : ∀ t, Steps p.tables e below (s₁.setTop (mkF m 0 #[.val (.ref a1), .val (.int x0), .val (.int x1), .val (.int x2), .val (.int x3), .val (.int x4), .val (.int x5)] [])) t → Steps p.tables e below (s₁.setTop (entryFrame m #[(.ref a1), (.int x0), (.int x1), (.int x2), (.int x3), (.int x4), (.int x5)] 7)) t := fun t k => castTop (own_ef1 m a1 x0 x1 x2 x3 x4 x5) k
  obtain ⟨_, _, ⟨T1, tL1, tk1, tn1⟩, -, X1, ⟨Lc1, hQ1, tl1, ty1, tz1⟩, st1⟩ := X0.specialBack hx (y := (⟨"java/lang/Record", "<init>", "()V"⟩ : MethodName)) rfl hown (mvT hZ (hw _ (List.mem_of_getElem? (i := 6) rfl))) (mvT hZ (hw _ (List.mem_of_getElem? (i := 7) rfl))) (mvT hZ (hw _ (List.mem_of_getElem? (i := 10) rfl))) (by decide) (backOf (W := 0) (own_rm2 l Z a0 hw [] a1 h0 n0 Z0 ) hZ (hw _ (List.mem_of_getElem? (i := 10) rfl)) (hw _ (List.mem_of_getElem? (i := 9) rfl)) (by decide) (by decide)) (g := (mkF m 1 #[.val (.ref a1), .val (.int x0), .val (.int x1), .val (.int x2), .val (.int x3), .val (.int x4), .val (.int x5)] [(.ref a1)])) rfl (by rw [hml]; rfl) (Steps.refl _) (a := a1) (argsL := []) (rest := []) (lenOf own_pd0 rfl) rfl (by show 2 * 0 + _ ≤ _; exact Nat.le_of_eq rfl) (hb hby own_d1_1) (fun _ _ => ⟨rfl, e0, (by decide : 0 + 0 ≤ _), (by decide : 0 + 0 ≤ _)⟩)
  dsimp only [Pt.U, Pt.locs, Pt.cells, Pt.slots] at X1 tl1 ty1 tz1 st1 hQ1
  rw [tl1, ty1, tz1] at X1
  obtain ⟨rfl, Nq1, K1⟩ := hQ1
  have N1 := Fr.app N0 Nq1
  obtain ⟨T2, h2, X2, e2, W2, st2⟩ := putF X1 hx hZ hown (host := "") (Or.inl (hw _ (List.mem_of_getElem? (i := 14) rfl))) Via.refl K1 P_F_a1_from P_E_a1 (Or.inr ⟨(hw _ (List.mem_of_getElem? (i := 15) rfl)), rfl, hnm⟩) (hw _ (List.mem_of_getElem? (i := 1) rfl)) (ty := .int) (by decide) rfl rfl (g := (mkF m 6 #[.val (.ref a1), .val (.int x0), .val (.int x1), .val (.int x2), .val (.int x3), .val (.int x4), .val (.int x5)] [(.int x0), (.ref a1)])) rfl rfl (hb hby own_d1_6)
  have Fw2 : Fld Z h2 a1 "com/example/traversim/traversim/aodv/Packet$Rrep" "from" "I" (.int x0) := Fld.same W2 P_F_a1_from
  have K2 : Keep h0 h2 [a1] := (Keep.refl h0 [a1]).wr W2 (Or.inl (List.mem_of_getElem? (i := 0) rfl))
  have N2 := Fr.snoc X2 N1 g_a1
  have FF_a1_to_3 : Fld Z h2 a1 "com/example/traversim/traversim/aodv/Packet$Rrep" "to" "I" u_to := (P_F_a1_to.other W2 (Or.inr (slot_ne (Or.inr (hw _ (List.mem_of_getElem? (i := 17) rfl))) (Or.inr (hw _ (List.mem_of_getElem? (i := 15) rfl))) (by decide) (t := .int) (t' := .int) (by decide) (by decide))))
  have FE_a1_4 : Exa Z h2 a1 "com/example/traversim/traversim/aodv/Packet$Rrep" := (P_E_a1.wr W2)
  obtain ⟨T5, h5, X5, e5, W5, st5⟩ := putF X2 hx hZ hown (host := "") (Or.inl (hw _ (List.mem_of_getElem? (i := 16) rfl))) Via.refl e2 FF_a1_to_3 FE_a1_4 (Or.inr ⟨(hw _ (List.mem_of_getElem? (i := 17) rfl)), rfl, hnm⟩) (hw _ (List.mem_of_getElem? (i := 1) rfl)) (ty := .int) (by decide) rfl rfl (g := (mkF m 11 #[.val (.ref a1), .val (.int x0), .val (.int x1), .val (.int x2), .val (.int x3), .val (.int x4), .val (.int x5)] [(.int x1), (.ref a1)])) rfl rfl (hb hby own_d1_11)
  have Fw5 : Fld Z h5 a1 "com/example/traversim/traversim/aodv/Packet$Rrep" "to" "I" (.int x1) := Fld.same W5 FF_a1_to_3
  have K5 : Keep h0 h5 [a1] := K2.wr W5 (Or.inl (List.mem_of_getElem? (i := 0) rfl))
  have N5 := Fr.snoc X5 N2 g_a1
  have FF_a1_orig_6 : Fld Z h5 a1 "com/example/traversim/traversim/aodv/Packet$Rrep" "orig" "I" u_orig := ((P_F_a1_orig.other W2 (Or.inr (slot_ne (Or.inr (hw _ (List.mem_of_getElem? (i := 19) rfl))) (Or.inr (hw _ (List.mem_of_getElem? (i := 15) rfl))) (by decide) (t := .int) (t' := .int) (by decide) (by decide)))).other W5 (Or.inr (slot_ne (Or.inr (hw _ (List.mem_of_getElem? (i := 19) rfl))) (Or.inr (hw _ (List.mem_of_getElem? (i := 17) rfl))) (by decide) (t := .int) (t' := .int) (by decide) (by decide))))
  have FE_a1_7 : Exa Z h5 a1 "com/example/traversim/traversim/aodv/Packet$Rrep" := (FE_a1_4.wr W5)
  obtain ⟨T8, h8, X8, e8, W8, st8⟩ := putF X5 hx hZ hown (host := "") (Or.inl (hw _ (List.mem_of_getElem? (i := 18) rfl))) Via.refl e5 FF_a1_orig_6 FE_a1_7 (Or.inr ⟨(hw _ (List.mem_of_getElem? (i := 19) rfl)), rfl, hnm⟩) (hw _ (List.mem_of_getElem? (i := 1) rfl)) (ty := .int) (by decide) rfl rfl (g := (mkF m 16 #[.val (.ref a1), .val (.int x0), .val (.int x1), .val (.int x2), .val (.int x3), .val (.int x4), .val (.int x5)] [(.int x2), (.ref a1)])) rfl rfl (hb hby own_d1_16)
  have Fw8 : Fld Z h8 a1 "com/example/traversim/traversim/aodv/Packet$Rrep" "orig" "I" (.int x2) := Fld.same W8 FF_a1_orig_6
  have K8 : Keep h0 h8 [a1] := K5.wr W8 (Or.inl (List.mem_of_getElem? (i := 0) rfl))
  have N8 := Fr.snoc X8 N5 g_a1
  have FF_a1_dst_9 : Fld Z h8 a1 "com/example/traversim/traversim/aodv/Packet$Rrep" "dst" "I" u_dst := (((P_F_a1_dst.other W2 (Or.inr (slot_ne (Or.inr (hw _ (List.mem_of_getElem? (i := 21) rfl))) (Or.inr (hw _ (List.mem_of_getElem? (i := 15) rfl))) (by decide) (t := .int) (t' := .int) (by decide) (by decide)))).other W5 (Or.inr (slot_ne (Or.inr (hw _ (List.mem_of_getElem? (i := 21) rfl))) (Or.inr (hw _ (List.mem_of_getElem? (i := 17) rfl))) (by decide) (t := .int) (t' := .int) (by decide) (by decide)))).other W8 (Or.inr (slot_ne (Or.inr (hw _ (List.mem_of_getElem? (i := 21) rfl))) (Or.inr (hw _ (List.mem_of_getElem? (i := 19) rfl))) (by decide) (t := .int) (t' := .int) (by decide) (by decide))))
  have FE_a1_10 : Exa Z h8 a1 "com/example/traversim/traversim/aodv/Packet$Rrep" := (FE_a1_7.wr W8)
  obtain ⟨T11, h11, X11, e11, W11, st11⟩ := putF X8 hx hZ hown (host := "") (Or.inl (hw _ (List.mem_of_getElem? (i := 20) rfl))) Via.refl e8 FF_a1_dst_9 FE_a1_10 (Or.inr ⟨(hw _ (List.mem_of_getElem? (i := 21) rfl)), rfl, hnm⟩) (hw _ (List.mem_of_getElem? (i := 1) rfl)) (ty := .int) (by decide) rfl rfl (g := (mkF m 22 #[.val (.ref a1), .val (.int x0), .val (.int x1), .val (.int x2), .val (.int x3), .val (.int x4), .val (.int x5)] [(.int x3), (.ref a1)])) rfl rfl (hb hby own_d1_22)
  have Fw11 : Fld Z h11 a1 "com/example/traversim/traversim/aodv/Packet$Rrep" "dst" "I" (.int x3) := Fld.same W11 FF_a1_dst_9
  have K11 : Keep h0 h11 [a1] := K8.wr W11 (Or.inl (List.mem_of_getElem? (i := 0) rfl))
  have N11 := Fr.snoc X11 N8 g_a1
  have FF_a1_seqno_12 : Fld Z h11 a1 "com/example/traversim/traversim/aodv/Packet$Rrep" "seqno" "I" u_seqno := ((((P_F_a1_seqno.other W2 (Or.inr (slot_ne (Or.inr (hw _ (List.mem_of_getElem? (i := 23) rfl))) (Or.inr (hw _ (List.mem_of_getElem? (i := 15) rfl))) (by decide) (t := .int) (t' := .int) (by decide) (by decide)))).other W5 (Or.inr (slot_ne (Or.inr (hw _ (List.mem_of_getElem? (i := 23) rfl))) (Or.inr (hw _ (List.mem_of_getElem? (i := 17) rfl))) (by decide) (t := .int) (t' := .int) (by decide) (by decide)))).other W8 (Or.inr (slot_ne (Or.inr (hw _ (List.mem_of_getElem? (i := 23) rfl))) (Or.inr (hw _ (List.mem_of_getElem? (i := 19) rfl))) (by decide) (t := .int) (t' := .int) (by decide) (by decide)))).other W11 (Or.inr (slot_ne (Or.inr (hw _ (List.mem_of_getElem? (i := 23) rfl))) (Or.inr (hw _ (List.mem_of_getElem? (i := 21) rfl))) (by decide) (t := .int) (t' := .int) (by decide) (by decide))))
  have FE_a1_13 : Exa Z h11 a1 "com/example/traversim/traversim/aodv/Packet$Rrep" := (FE_a1_10.wr W11)
  obtain ⟨T14, h14, X14, e14, W14, st14⟩ := putF X11 hx hZ hown (host := "") (Or.inl (hw _ (List.mem_of_getElem? (i := 22) rfl))) Via.refl e11 FF_a1_seqno_12 FE_a1_13 (Or.inr ⟨(hw _ (List.mem_of_getElem? (i := 23) rfl)), rfl, hnm⟩) (hw _ (List.mem_of_getElem? (i := 1) rfl)) (ty := .int) (by decide) rfl rfl (g := (mkF m 28 #[.val (.ref a1), .val (.int x0), .val (.int x1), .val (.int x2), .val (.int x3), .val (.int x4), .val (.int x5)] [(.int x4), (.ref a1)])) rfl rfl (hb hby own_d1_28)
  have Fw14 : Fld Z h14 a1 "com/example/traversim/traversim/aodv/Packet$Rrep" "seqno" "I" (.int x4) := Fld.same W14 FF_a1_seqno_12
  have K14 : Keep h0 h14 [a1] := K11.wr W14 (Or.inl (List.mem_of_getElem? (i := 0) rfl))
  have N14 := Fr.snoc X14 N11 g_a1
  have FF_a1_hops_15 : Fld Z h14 a1 "com/example/traversim/traversim/aodv/Packet$Rrep" "hops" "I" u_hops := (((((P_F_a1_hops.other W2 (Or.inr (slot_ne (Or.inr (hw _ (List.mem_of_getElem? (i := 25) rfl))) (Or.inr (hw _ (List.mem_of_getElem? (i := 15) rfl))) (by decide) (t := .int) (t' := .int) (by decide) (by decide)))).other W5 (Or.inr (slot_ne (Or.inr (hw _ (List.mem_of_getElem? (i := 25) rfl))) (Or.inr (hw _ (List.mem_of_getElem? (i := 17) rfl))) (by decide) (t := .int) (t' := .int) (by decide) (by decide)))).other W8 (Or.inr (slot_ne (Or.inr (hw _ (List.mem_of_getElem? (i := 25) rfl))) (Or.inr (hw _ (List.mem_of_getElem? (i := 19) rfl))) (by decide) (t := .int) (t' := .int) (by decide) (by decide)))).other W11 (Or.inr (slot_ne (Or.inr (hw _ (List.mem_of_getElem? (i := 25) rfl))) (Or.inr (hw _ (List.mem_of_getElem? (i := 21) rfl))) (by decide) (t := .int) (t' := .int) (by decide) (by decide)))).other W14 (Or.inr (slot_ne (Or.inr (hw _ (List.mem_of_getElem? (i := 25) rfl))) (Or.inr (hw _ (List.mem_of_getElem? (i := 23) rfl))) (by decide) (t := .int) (t' := .int) (by decide) (by decide))))
  have FE_a1_16 : Exa Z h14 a1 "com/example/traversim/traversim/aodv/Packet$Rrep" := (FE_a1_13.wr W14)
  obtain ⟨T17, h17, X17, e17, W17, st17⟩ := putF X14 hx hZ hown (host := "") (Or.inl (hw _ (List.mem_of_getElem? (i := 24) rfl))) Via.refl e14 FF_a1_hops_15 FE_a1_16 (Or.inr ⟨(hw _ (List.mem_of_getElem? (i := 25) rfl)), rfl, hnm⟩) (hw _ (List.mem_of_getElem? (i := 1) rfl)) (ty := .int) (by decide) rfl rfl (g := (mkF m 34 #[.val (.ref a1), .val (.int x0), .val (.int x1), .val (.int x2), .val (.int x3), .val (.int x4), .val (.int x5)] [(.int x5), (.ref a1)])) rfl rfl (hb hby own_d1_34)
  have Fw17 : Fld Z h17 a1 "com/example/traversim/traversim/aodv/Packet$Rrep" "hops" "I" (.int x5) := Fld.same W17 FF_a1_hops_15
  have K17 : Keep h0 h17 [a1] := K14.wr W17 (Or.inl (List.mem_of_getElem? (i := 0) rfl))
  have N17 := Fr.snoc X17 N14 g_a1
  obtain ⟨fs, hr, hrun, hended, hW, hsame⟩ := X17.leave (v := none) (fun _ => rfl)
  refine ⟨_, _, pre0 _ ?_, hrun, hended, _, _, rfl, ?_, ⟨_, rfl⟩, hW, hsame.mono (by decide) (by decide)⟩
  · show Steps p.tables e below (s₁.setTop (mkF m 0 #[.val (.ref a1), .val (.int x0), .val (.int x1), .val (.int x2), .val (.int x3), .val (.int x4), .val (.int x5)] [])) _
    refine XS.aloadN X0.here hx rfl (hb hby own_d1_0) rfl rfl ?_
    show Steps p.tables e below (s₁.setTop (mkF m 1 #[.val (.ref a1), .val (.int x0), .val (.int x1), .val (.int x2), .val (.int x3), .val (.int x4), .val (.int x5)] [(.ref a1)])) _
    refine st1.trans ?_
    show Steps p.tables e below (T1.setTop (mkF m 4 #[.val (.ref a1), .val (.int x0), .val (.int x1), .val (.int x2), .val (.int x3), .val (.int x4), .val (.int x5)] [])) _
    refine XS.aloadN X1.here hx rfl (hb hby own_d1_4) rfl rfl ?_
    show Steps p.tables e below (T1.setTop (mkF m 5 #[.val (.ref a1), .val (.int x0), .val (.int x1), .val (.int x2), .val (.int x3), .val (.int x4), .val (.int x5)] [(.ref a1)])) _
    refine XS.iloadN X1.here hx rfl (hb hby own_d1_5) rfl ?_
    show Steps p.tables e below (T1.setTop (mkF m 6 #[.val (.ref a1), .val (.int x0), .val (.int x1), .val (.int x2), .val (.int x3), .val (.int x4), .val (.int x5)] [(.int x0), (.ref a1)])) _
    refine st2 _ ?_
    show Steps p.tables e below (T2.setTop (mkF m 9 #[.val (.ref a1), .val (.int x0), .val (.int x1), .val (.int x2), .val (.int x3), .val (.int x4), .val (.int x5)] [])) _
    refine XS.aloadN X2.here hx rfl (hb hby own_d1_9) rfl rfl ?_
    show Steps p.tables e below (T2.setTop (mkF m 10 #[.val (.ref a1), .val (.int x0), .val (.int x1), .val (.int x2), .val (.int x3), .val (.int x4), .val (.int x5)] [(.ref a1)])) _
    refine XS.iloadN X2.here hx rfl (hb hby own_d1_10) rfl ?_
    show Steps p.tables e below (T2.setTop (mkF m 11 #[.val (.ref a1), .val (.int x0), .val (.int x1), .val (.int x2), .val (.int x3), .val (.int x4), .val (.int x5)] [(.int x1), (.ref a1)])) _
    refine st5 _ ?_
    show Steps p.tables e below (T5.setTop (mkF m 14 #[.val (.ref a1), .val (.int x0), .val (.int x1), .val (.int x2), .val (.int x3), .val (.int x4), .val (.int x5)] [])) _
    refine XS.aloadN X5.here hx rfl (hb hby own_d1_14) rfl rfl ?_
    show Steps p.tables e below (T5.setTop (mkF m 15 #[.val (.ref a1), .val (.int x0), .val (.int x1), .val (.int x2), .val (.int x3), .val (.int x4), .val (.int x5)] [(.ref a1)])) _
    refine XS.iloadN X5.here hx rfl (hb hby own_d1_15) rfl ?_
    show Steps p.tables e below (T5.setTop (mkF m 16 #[.val (.ref a1), .val (.int x0), .val (.int x1), .val (.int x2), .val (.int x3), .val (.int x4), .val (.int x5)] [(.int x2), (.ref a1)])) _
    refine st8 _ ?_
    show Steps p.tables e below (T8.setTop (mkF m 19 #[.val (.ref a1), .val (.int x0), .val (.int x1), .val (.int x2), .val (.int x3), .val (.int x4), .val (.int x5)] [])) _
    refine XS.aloadN X8.here hx rfl (hb hby own_d1_19) rfl rfl ?_
    show Steps p.tables e below (T8.setTop (mkF m 20 #[.val (.ref a1), .val (.int x0), .val (.int x1), .val (.int x2), .val (.int x3), .val (.int x4), .val (.int x5)] [(.ref a1)])) _
    refine XS.iload X8.here hx rfl (hb hby own_d1_20) rfl ?_
    show Steps p.tables e below (T8.setTop (mkF m 22 #[.val (.ref a1), .val (.int x0), .val (.int x1), .val (.int x2), .val (.int x3), .val (.int x4), .val (.int x5)] [(.int x3), (.ref a1)])) _
    refine st11 _ ?_
    show Steps p.tables e below (T11.setTop (mkF m 25 #[.val (.ref a1), .val (.int x0), .val (.int x1), .val (.int x2), .val (.int x3), .val (.int x4), .val (.int x5)] [])) _
    refine XS.aloadN X11.here hx rfl (hb hby own_d1_25) rfl rfl ?_
    show Steps p.tables e below (T11.setTop (mkF m 26 #[.val (.ref a1), .val (.int x0), .val (.int x1), .val (.int x2), .val (.int x3), .val (.int x4), .val (.int x5)] [(.ref a1)])) _
    refine XS.iload X11.here hx rfl (hb hby own_d1_26) rfl ?_
    show Steps p.tables e below (T11.setTop (mkF m 28 #[.val (.ref a1), .val (.int x0), .val (.int x1), .val (.int x2), .val (.int x3), .val (.int x4), .val (.int x5)] [(.int x4), (.ref a1)])) _
    refine st14 _ ?_
    show Steps p.tables e below (T14.setTop (mkF m 31 #[.val (.ref a1), .val (.int x0), .val (.int x1), .val (.int x2), .val (.int x3), .val (.int x4), .val (.int x5)] [])) _
    refine XS.aloadN X14.here hx rfl (hb hby own_d1_31) rfl rfl ?_
    show Steps p.tables e below (T14.setTop (mkF m 32 #[.val (.ref a1), .val (.int x0), .val (.int x1), .val (.int x2), .val (.int x3), .val (.int x4), .val (.int x5)] [(.ref a1)])) _
    refine XS.iload X14.here hx rfl (hb hby own_d1_32) rfl ?_
    show Steps p.tables e below (T14.setTop (mkF m 34 #[.val (.ref a1), .val (.int x0), .val (.int x1), .val (.int x2), .val (.int x3), .val (.int x4), .val (.int x5)] [(.int x5), (.ref a1)])) _
    refine st17 _ ?_
    show Steps p.tables e below (T17.setTop (mkF m 37 #[.val (.ref a1), .val (.int x0), .val (.int x1), .val (.int x2), .val (.int x3), .val (.int x4), .val (.int x5)] [])) _
    exact X17.returnOut hx Bd.returns (hb hby own_d1_37) hr
  · show own_Q1 Z a1 x0 x1 x2 x3 x4 x5 u_from u_to u_orig u_dst u_seqno u_hops h0 n0 _ T17.heap _
    rw [e17]
    have FE_a1_18 : Exa Z h17 a1 "com/example/traversim/traversim/aodv/Packet$Rrep" := (FE_a1_16.wr W17)
    have FF_a1_from_19 : Fld Z h17 a1 "com/example/traversim/traversim/aodv/Packet$Rrep" "from" "I" (.int x0) := (((((Fw2.other W5 (Or.inr (slot_ne (Or.inr (hw _ (List.mem_of_getElem? (i := 15) rfl))) (Or.inr (hw _ (List.mem_of_getElem? (i := 17) rfl))) (by decide) (t := .int) (t' := .int) (by decide) (by decide)))).other W8 (Or.inr (slot_ne (Or.inr (hw _ (List.mem_of_getElem? (i := 15) rfl))) (Or.inr (hw _ (List.mem_of_getElem? (i := 19) rfl))) (by decide) (t := .int) (t' := .int) (by decide) (by decide)))).other W11 (Or.inr (slot_ne (Or.inr (hw _ (List.mem_of_getElem? (i := 15) rfl))) (Or.inr (hw _ (List.mem_of_getElem? (i := 21) rfl))) (by decide) (t := .int) (t' := .int) (by decide) (by decide)))).other W14 (Or.inr (slot_ne (Or.inr (hw _ (List.mem_of_getElem? (i := 15) rfl))) (Or.inr (hw _ (List.mem_of_getElem? (i := 23) rfl))) (by decide) (t := .int) (t' := .int) (by decide) (by decide)))).other W17 (Or.inr (slot_ne (Or.inr (hw _ (List.mem_of_getElem? (i := 15) rfl))) (Or.inr (hw _ (List.mem_of_getElem? (i := 25) rfl))) (by decide) (t := .int) (t' := .int) (by decide) (by decide))))
    have FF_a1_to_20 : Fld Z h17 a1 "com/example/traversim/traversim/aodv/Packet$Rrep" "to" "I" (.int x1) := ((((Fw5.other W8 (Or.inr (slot_ne (Or.inr (hw _ (List.mem_of_getElem? (i := 17) rfl))) (Or.inr (hw _ (List.mem_of_getElem? (i := 19) rfl))) (by decide) (t := .int) (t' := .int) (by decide) (by decide)))).other W11 (Or.inr (slot_ne (Or.inr (hw _ (List.mem_of_getElem? (i := 17) rfl))) (Or.inr (hw _ (List.mem_of_getElem? (i := 21) rfl))) (by decide) (t := .int) (t' := .int) (by decide) (by decide)))).other W14 (Or.inr (slot_ne (Or.inr (hw _ (List.mem_of_getElem? (i := 17) rfl))) (Or.inr (hw _ (List.mem_of_getElem? (i := 23) rfl))) (by decide) (t := .int) (t' := .int) (by decide) (by decide)))).other W17 (Or.inr (slot_ne (Or.inr (hw _ (List.mem_of_getElem? (i := 17) rfl))) (Or.inr (hw _ (List.mem_of_getElem? (i := 25) rfl))) (by decide) (t := .int) (t' := .int) (by decide) (by decide))))
    have FF_a1_orig_21 : Fld Z h17 a1 "com/example/traversim/traversim/aodv/Packet$Rrep" "orig" "I" (.int x2) := (((Fw8.other W11 (Or.inr (slot_ne (Or.inr (hw _ (List.mem_of_getElem? (i := 19) rfl))) (Or.inr (hw _ (List.mem_of_getElem? (i := 21) rfl))) (by decide) (t := .int) (t' := .int) (by decide) (by decide)))).other W14 (Or.inr (slot_ne (Or.inr (hw _ (List.mem_of_getElem? (i := 19) rfl))) (Or.inr (hw _ (List.mem_of_getElem? (i := 23) rfl))) (by decide) (t := .int) (t' := .int) (by decide) (by decide)))).other W17 (Or.inr (slot_ne (Or.inr (hw _ (List.mem_of_getElem? (i := 19) rfl))) (Or.inr (hw _ (List.mem_of_getElem? (i := 25) rfl))) (by decide) (t := .int) (t' := .int) (by decide) (by decide))))
    have FF_a1_dst_22 : Fld Z h17 a1 "com/example/traversim/traversim/aodv/Packet$Rrep" "dst" "I" (.int x3) := ((Fw11.other W14 (Or.inr (slot_ne (Or.inr (hw _ (List.mem_of_getElem? (i := 21) rfl))) (Or.inr (hw _ (List.mem_of_getElem? (i := 23) rfl))) (by decide) (t := .int) (t' := .int) (by decide) (by decide)))).other W17 (Or.inr (slot_ne (Or.inr (hw _ (List.mem_of_getElem? (i := 21) rfl))) (Or.inr (hw _ (List.mem_of_getElem? (i := 25) rfl))) (by decide) (t := .int) (t' := .int) (by decide) (by decide))))
    have FF_a1_seqno_23 : Fld Z h17 a1 "com/example/traversim/traversim/aodv/Packet$Rrep" "seqno" "I" (.int x4) := (Fw14.other W17 (Or.inr (slot_ne (Or.inr (hw _ (List.mem_of_getElem? (i := 23) rfl))) (Or.inr (hw _ (List.mem_of_getElem? (i := 25) rfl))) (by decide) (t := .int) (t' := .int) (by decide) (by decide))))
    exact ⟨rfl, N17, K17, FE_a1_18, FF_a1_from_19, FF_a1_to_20, FF_a1_orig_21, FF_a1_dst_22, FF_a1_seqno_23, Fw17⟩
theorem own_d5_0 : decode prog_27_method_1_code 0 = .ok (.aload_n 0, 1) := by decide +kernel
theorem own_d5_1 : decode prog_27_method_1_code 1 = .ok (.invokespecial 1, 3) := by decide +kernel
theorem own_d5_4 : decode prog_27_method_1_code 4 = .ok (.aload_n 0, 1) := by decide +kernel
theorem own_d5_5 : decode prog_27_method_1_code 5 = .ok (.iload_n 1, 1) := by decide +kernel
theorem own_d5_6 : decode prog_27_method_1_code 6 = .ok (.putfield 7, 3) := by decide +kernel
theorem own_d5_9 : decode prog_27_method_1_code 9 = .ok (.aload_n 0, 1) := by decide +kernel
theorem own_d5_10 : decode prog_27_method_1_code 10 = .ok (.iload_n 2, 1) := by decide +kernel
theorem own_d5_11 : decode prog_27_method_1_code 11 = .ok (.putfield 13, 3) := by decide +kernel
theorem own_d5_14 : decode prog_27_method_1_code 14 = .ok (.aload_n 0, 1) := by decide +kernel
theorem own_d5_15 : decode prog_27_method_1_code 15 = .ok (.iload_n 3, 1) := by decide +kernel
theorem own_d5_16 : decode prog_27_method_1_code 16 = .ok (.putfield 16, 3) := by decide +kernel
theorem own_d5_19 : decode prog_27_method_1_code 19 = .ok (.aload_n 0, 1) := by decide +kernel
theorem own_d5_20 : decode prog_27_method_1_code 20 = .ok (.iload 4, 2) := by decide +kernel
theorem own_d5_22 : decode prog_27_method_1_code 22 = .ok (.putfield 19, 3) := by decide +kernel
theorem own_d5_25 : decode prog_27_method_1_code 25 = .ok (.aload_n 0, 1) := by decide +kernel
theorem own_d5_26 : decode prog_27_method_1_code 26 = .ok (.iload 5, 2) := by decide +kernel
theorem own_d5_28 : decode prog_27_method_1_code 28 = .ok (.putfield 22, 3) := by decide +kernel
theorem own_d5_31 : decode prog_27_method_1_code 31 = .ok (.aload_n 0, 1) := by decide +kernel
theorem own_d5_32 : decode prog_27_method_1_code 32 = .ok (.iload 6, 2) := by decide +kernel
theorem own_d5_34 : decode prog_27_method_1_code 34 = .ok (.putfield 25, 3) := by decide +kernel
theorem own_d5_37 : decode prog_27_method_1_code 37 = .ok (.aload_n 0, 1) := by decide +kernel
theorem own_d5_38 : decode prog_27_method_1_code 38 = .ok (.iload 7, 2) := by decide +kernel
theorem own_d5_40 : decode prog_27_method_1_code 40 = .ok (.putfield 28, 3) := by decide +kernel
theorem own_d5_43 : decode prog_27_method_1_code 43 = .ok (.aload_n 0, 1) := by decide +kernel
theorem own_d5_44 : decode prog_27_method_1_code 44 = .ok (.iload 8, 2) := by decide +kernel
theorem own_d5_46 : decode prog_27_method_1_code 46 = .ok (.putfield 31, 3) := by decide +kernel
theorem own_d5_49 : decode prog_27_method_1_code 49 = .ok (.return_, 1) := by decide +kernel
theorem own_pn5 : plainName "com/example/traversim/traversim/aodv/Packet$Rreq" = true := by first | (simp [plainName, overriddenIn]; done) | decide +kernel
theorem own_ef5 (m : MethodId) (a1 : Addr) (x0 : Int32) (x1 : Int32) (x2 : Int32) (x3 : Int32) (x4 : Int32) (x5 : Int32) (x6 : Int32) (x7 : Int32) : entryFrame m #[(.ref a1), (.int x0), (.int x1), (.int x2), (.int x3), (.int x4), (.int x5), (.int x6), (.int x7)] 9 = mkF m 0 #[.val (.ref a1), .val (.int x0), .val (.int x1), .val (.int x2), .val (.int x3), .val (.int x4), .val (.int x5), .val (.int x6), .val (.int x7)] [] := by first | (simp [entryFrame, mkF, argsToLocals, Value.category]; done) | rfl
def own_Q5 (Z : State) (a1 : Addr) (x0 : Int32) (x1 : Int32) (x2 : Int32) (x3 : Int32) (x4 : Int32) (x5 : Int32) (x6 : Int32) (x7 : Int32) (u_from : Value) (u_to : Value) (u_orig : Value) (u_bid : Value) (u_hops : Value) (u_dst : Value) (u_dstseq : Value) (u_origseq : Value) (h0 : Heap) (n0 : Nat) (v : Option Value) (h : Heap) (L : List Loc) : Prop := (v = none) ∧ (Fr n0 L) ∧ (Keep h0 h [a1]) ∧ (Exa Z h a1 "com/example/traversim/traversim/aodv/Packet$Rreq") ∧ (Fld Z h a1 "com/example/traversim/traversim/aodv/Packet$Rreq" "from" "I" (.int x0)) ∧ (Fld Z h a1 "com/example/traversim/traversim/aodv/Packet$Rreq" "to" "I" (.int x1)) ∧ (Fld Z h a1 "com/example/traversim/traversim/aodv/Packet$Rreq" "orig" "I" (.int x2)) ∧ (Fld Z h a1 "com/example/traversim/traversim/aodv/Packet$Rreq" "bid" "I" (.int x3)) ∧ (Fld Z h a1 "com/example/traversim/traversim/aodv/Packet$Rreq" "hops" "I" (.int x4)) ∧ (Fld Z h a1 "com/example/traversim/traversim/aodv/Packet$Rreq" "dst" "I" (.int x5)) ∧ (Fld Z h a1 "com/example/traversim/traversim/aodv/Packet$Rreq" "dstseq" "I" (.int x6)) ∧ (Fld Z h a1 "com/example/traversim/traversim/aodv/Packet$Rreq" "origseq" "I" (.int x7))
set_option maxRecDepth 65536 in
set_option maxHeartbeats 40000000 in
theorem own_rm5 (l : Launch) (Z : State) (a0 : Array Value) (hw : ∀ d ∈ tables_1, d.before a0 Z = true) (ws : List Jvm.Cond) (a1 : Addr) (x0 : Int32) (x1 : Int32) (x2 : Int32) (x3 : Int32) (x4 : Int32) (x5 : Int32) (x6 : Int32) (x7 : Int32) (u_from : Value) (u_to : Value) (u_orig : Value) (u_bid : Value) (u_hops : Value) (u_dst : Value) (u_dstseq : Value) (u_origseq : Value) (h0 : Heap) (n0 : Nat) (Z0 : n0 ≤ h0.size) (P_E_a1 : Exa Z h0 a1 "com/example/traversim/traversim/aodv/Packet$Rreq") (P_F_a1_from : Fld Z h0 a1 "com/example/traversim/traversim/aodv/Packet$Rreq" "from" "I" u_from) (P_F_a1_to : Fld Z h0 a1 "com/example/traversim/traversim/aodv/Packet$Rreq" "to" "I" u_to) (P_F_a1_orig : Fld Z h0 a1 "com/example/traversim/traversim/aodv/Packet$Rreq" "orig" "I" u_orig) (P_F_a1_bid : Fld Z h0 a1 "com/example/traversim/traversim/aodv/Packet$Rreq" "bid" "I" u_bid) (P_F_a1_hops : Fld Z h0 a1 "com/example/traversim/traversim/aodv/Packet$Rreq" "hops" "I" u_hops) (P_F_a1_dst : Fld Z h0 a1 "com/example/traversim/traversim/aodv/Packet$Rreq" "dst" "I" u_dst) (P_F_a1_dstseq : Fld Z h0 a1 "com/example/traversim/traversim/aodv/Packet$Rreq" "dstseq" "I" u_dstseq) (P_F_a1_origseq : Fld Z h0 a1 "com/example/traversim/traversim/aodv/Packet$Rreq" "origseq" "I" u_origseq) (g_a1 : n0 ≤ a1) :
    MetFree l (⟨"com/example/traversim/traversim/aodv/Packet$Rreq", "<init>", "(IIIIIIII)V"⟩ : MethodName) (head1 (Jvm.Cond.code (⟨"com/example/traversim/traversim/aodv/Packet$Rreq", "<init>", "(IIIIIIII)V"⟩ : MethodName) prog_27_method_1_code 9 none :: ws) ({ frames := 2, cells := 0, slots := 0, locals := 24 } : Room)) (fun ar_ U_ => ar_ = #[(.ref a1), (.int x0), (.int x1), (.int x2), (.int x3), (.int x4), (.int x5), (.int x6), (.int x7)] ∧ Z.Warmed39 U_.vm ∧ U_.heap = h0) (fun _ _ _ _ _ => True) (fun _ U_ o_ U_' => ∃ v_ L_, o_ = .returned v_ ∧ own_Q5 Z a1 x0 x1 x2 x3 x4 x5 x6 x7 u_from u_to u_orig u_bid u_hops u_dst u_dstseq u_origseq h0 n0 v_ U_'.heap L_ ∧ FrameEnd U_ o_ U_' L_ ({ frames := 2, cells := 0, slots := 0, locals := 24 } : Room).cells ({ frames := 2, cells := 0, slots := 0, locals := 24 } : Room).slots) := by
  refine MetFree.of_bodySF (plainFor_of_name own_pn5) hisR ?_
  intro p e s m args below meth c s₁ Bd hml0 hP hK
  obtain ⟨rfl, hZ, hh⟩ := hP
  have hx := Bd.exec
  have hby := Bd.bytes
  have hml : c.maxLocals = 9 := hml0
  have hown : s.vm.findClass "com/example/traversim/traversim/aodv/Packet$Rreq" = some m.cls := findClass_of_methodNamed Bd.named
  have hnm := (name_of_methodNamed Bd.named Bd.method).1
  have X0 : Stand p l e ({ frames := 2, cells := 0, slots := 0, locals := 24 } : Room) s m #[(.ref a1), (.int x0), (.int x1), (.int x2), (.int x3), (.int x4), (.int x5), (.int x6), (.int x7)] below meth c s₁ [] 0 0 := Stand.of_body Bd
  have e0 : s₁.heap = h0 := by rw [← hh, Bd.state]; rfl
  have N0 := Fr.nil n0
  have pre0 : ∀ t, Steps p.tables e below (s₁.setTop (mkF m 0 #[.val (.ref a1), .val (.int x0), .val (.int x1), .val (.int x2), .val (.int x3), .val (.int x4), .val (.int x5), .val (.int x6), .val (.int x7)] [])) t → Steps p.tables e below (s₁.setTop (entryFrame m #[(.ref a1), (.int x0), (.int x1), (.int x2), (.int x3), (.int x4), (.int x5), (.int x6), (.int x7)] 9)) t := fun t k => castTop (own_ef5 m a1 x0 x1 x2 x3 x4 x5 x6 x7) k
  obtain ⟨_, _, ⟨T1, tL1, tk1, tn1⟩, -, X1, ⟨Lc1, hQ1, tl1, ty1, tz1⟩, st1⟩ := X0.specialBack hx (y := (⟨"java/lang/Record", "<init>", "()V"⟩ : MethodName)) rfl hown (mvT hZ (hw _ (List.mem_of_getElem? (i := 43) rfl))) (mvT hZ (hw _ (List.mem_of_getElem? (i := 7) rfl))) (mvT hZ (hw _ (List.mem_of_getElem? (i := 10) rfl))) (by decide) (backOf (W := 0) (own_rm2 l Z a0 hw [] a1 h0 n0 Z0 ) hZ (hw _ (List.mem_of_getElem? (i := 10) rfl)) (hw _ (List.mem_of_getElem? (i := 9) rfl)) (by decide) (by decide)) (g := (mkF m 1 #[.val (.ref a1), .val (.int x0), .val (.int x1), .val (.int x2), .val (.int x3), .val (.int x4), .val (.int x5), .val (.int x6), .val (.int x7)] [(.ref a1)])) rfl (by rw [hml]; rfl) (Steps.refl _) (a := a1) (argsL := []) (rest := []) (lenOf own_pd0 rfl) rfl (by show 2 * 0 + _ ≤ _; exact Nat.le_of_eq rfl) (hb hby own_d5_1) (fun _ _ => ⟨rfl, e0, (by decide : 0 + 0 ≤ _), (by decide : 0 + 0 ≤ _)⟩)
  dsimp only [Pt.U, Pt.locs, Pt.cells, Pt.slots] at X1 tl1 ty1 tz1 st1 hQ1
  rw [tl1, ty1, tz1] at X1
  obtain ⟨rfl, Nq1, K1⟩ := hQ1
  have N1 := Fr.app N0 Nq1
  obtain ⟨T2, h2, X2, e2, W2, st2⟩ := putF X1 hx hZ hown (host := "") (Or.inl (hw _ (List.mem_of_getElem? (i := 44) rfl))) Via.refl K1 P_F_a1_from P_E_a1 (Or.inr ⟨(hw _ (List.mem_of_getElem? (i := 45) rfl)), rfl, hnm⟩) (hw _ (List.mem_of_getElem? (i := 38) rfl)) (ty := .int) (by decide) rfl rfl (g := (mkF m 6 #[.val (.ref a1), .val (.int x0), .val (.int x1), .val (.int x2), .val (.int x3), .val (.int x4), .val (.int x5), .val (.int x6), .val (.int x7)] [(.int x0), (.ref a1)])) rfl rfl (hb hby own_d5_6)
  have Fw2 : Fld Z h2 a1 "com/example/traversim/traversim/aodv/Packet$Rreq" "from" "I" (.int x0) := Fld.same W2 P_F_a1_from
  have K2 : Keep h0 h2 [a1] := (Keep.refl h0 [a1]).wr W2 (Or.inl (List.mem_of_getElem? (i := 0) rfl))
  have N2 := Fr.snoc X2 N1 g_a1
  have FF_a1_to_3 : Fld Z h2 a1 "com/example/traversim/traversim/aodv/Packet$Rreq" "to" "I" u_to := (P_F_a1_to.other W2 (Or.inr (slot_ne (Or.inr (hw _ (List.mem_of_getElem? (i := 47) rfl))) (Or.inr (hw _ (List.mem_of_getElem? (i := 45) rfl))) (by decide) (t := .int) (t' := .int) (by decide) (by decide))))
  have FE_a1_4 : Exa Z h2 a1 "com/example/traversim/traversim/aodv/Packet$Rreq" := (P_E_a1.wr W2)
  obtain ⟨T5, h5, X5, e5, W5, st5⟩ := putF X2 hx hZ hown (host := "") (Or.inl (hw _ (List.mem_of_getElem? (i := 46) rfl))) Via.refl e2 FF_a1_to_3 FE_a1_4 (Or.inr ⟨(hw _ (List.mem_of_getElem? (i := 47) rfl)), rfl, hnm⟩) (hw _ (List.mem_of_getElem? (i := 38) rfl)) (ty := .int) (by decide) rfl rfl (g := (mkF m 11 #[.val (.ref a1), .val (.int x0), .val (.int x1), .val (.int x2), .val (.int x3), .val (.int x4), .val (.int x5), .val (.int x6), .val (.int x7)] [(.int x1), (.ref a1)])) rfl rfl (hb hby own_d5_11)
  have Fw5 : Fld Z h5 a1 "com/example/traversim/traversim/aodv/Packet$Rreq" "to" "I" (.int x1) := Fld.same W5 FF_a1_to_3
  have K5 : Keep h0 h5 [a1] := K2.wr W5 (Or.inl (List.mem_of_getElem? (i := 0) rfl))
  have N5 := Fr.snoc X5 N2 g_a1
  have FF_a1_orig_6 : Fld Z h5 a1 "com/example/traversim/traversim/aodv/Packet$Rreq" "orig" "I" u_orig := ((P_F_a1_orig.other W2 (Or.inr (slot_ne (Or.inr (hw _ (List.mem_of_getElem? (i := 49) rfl))) (Or.inr (hw _ (List.mem_of_getElem? (i := 45) rfl))) (by decide) (t := .int) (t' := .int) (by decide) (by decide)))).other W5 (Or.inr (slot_ne (Or.inr (hw _ (List.mem_of_getElem? (i := 49) rfl))) (Or.inr (hw _ (List.mem_of_getElem? (i := 47) rfl))) (by decide) (t := .int) (t' := .int) (by decide) (by decide))))
  have FE_a1_7 : Exa Z h5 a1 "com/example/traversim/traversim/aodv/Packet$Rreq" := (FE_a1_4.wr W5)
  obtain ⟨T8, h8, X8, e8, W8, st8⟩ := putF X5 hx hZ hown (host := "") (Or.inl (hw _ (List.mem_of_getElem? (i := 48) rfl))) Via.refl e5 FF_a1_orig_6 FE_a1_7 (Or.inr ⟨(hw _ (List.mem_of_getElem? (i := 49) rfl)), rfl, hnm⟩) (hw _ (List.mem_of_getElem? (i := 38) rfl)) (ty := .int) (by decide) rfl rfl (g := (mkF m 16 #[.val (.ref a1), .val (.int x0), .val (.int x1), .val (.int x2), .val (.int x3), .val (.int x4), .val (.int x5), .val (.int x6), .val (.int x7)] [(.int x2), (.ref a1)])) rfl rfl (hb hby own_d5_16)
  have Fw8 : Fld Z h8 a1 "com/example/traversim/traversim/aodv/Packet$Rreq" "orig" "I" (.int x2) := Fld.same W8 FF_a1_orig_6
  have K8 : Keep h0 h8 [a1] := K5.wr W8 (Or.inl (List.mem_of_getElem? (i := 0) rfl))
  have N8 := Fr.snoc X8 N5 g_a1
  have FF_a1_bid_9 : Fld Z h8 a1 "com/example/traversim/traversim/aodv/Packet$Rreq" "bid" "I" u_bid := (((P_F_a1_bid.other W2 (Or.inr (slot_ne (Or.inr (hw _ (List.mem_of_getElem? (i := 51) rfl))) (Or.inr (hw _ (List.mem_of_getElem? (i := 45) rfl))) (by decide) (t := .int) (t' := .int) (by decide) (by decide)))).other W5 (Or.inr (slot_ne (Or.inr (hw _ (List.mem_of_getElem? (i := 51) rfl))) (Or.inr (hw _ (List.mem_of_getElem? (i := 47) rfl))) (by decide) (t := .int) (t' := .int) (by decide) (by decide)))).other W8 (Or.inr (slot_ne (Or.inr (hw _ (List.mem_of_getElem? (i := 51) rfl))) (Or.inr (hw _ (List.mem_of_getElem? (i := 49) rfl))) (by decide) (t := .int) (t' := .int) (by decide) (by decide))))
  have FE_a1_10 : Exa Z h8 a1 "com/example/traversim/traversim/aodv/Packet$Rreq" := (FE_a1_7.wr W8)
  obtain ⟨T11, h11, X11, e11, W11, st11⟩ := putF X8 hx hZ hown (host := "") (Or.inl (hw _ (List.mem_of_getElem? (i := 50) rfl))) Via.refl e8 FF_a1_bid_9 FE_a1_10 (Or.inr ⟨(hw _ (List.mem_of_getElem? (i := 51) rfl)), rfl, hnm⟩) (hw _ (List.mem_of_getElem? (i := 38) rfl)) (ty := .int) (by decide) rfl rfl (g := (mkF m 22 #[.val (.ref a1), .val (.int x0), .val (.int x1), .val (.int x2), .val (.int x3), .val (.int x4), .val (.int x5), .val (.int x6), .val (.int x7)] [(.int x3), (.ref a1)])) rfl rfl (hb hby own_d5_22)
  have Fw11 : Fld Z h11 a1 "com/example/traversim/traversim/aodv/Packet$Rreq" "bid" "I" (.int x3) := Fld.same W11 FF_a1_bid_9
  have K11 : Keep h0 h11 [a1] := K8.wr W11 (Or.inl (List.mem_of_getElem? (i := 0) rfl))
  have N11 := Fr.snoc X11 N8 g_a1
  have FF_a1_hops_12 : Fld Z h11 a1 "com/example/traversim/traversim/aodv/Packet$Rreq" "hops" "I" u_hops := ((((P_F_a1_hops.other W2 (Or.inr (slot_ne (Or.inr (hw _ (List.mem_of_getElem? (i := 53) rfl))) (Or.inr (hw _ (List.mem_of_getElem? (i := 45) rfl))) (by decide) (t := .int) (t' := .int) (by decide) (by decide)))).other W5 (Or.inr (slot_ne (Or.inr (hw _ (List.mem_of_getElem? (i := 53) rfl))) (Or.inr (hw _ (List.mem_of_getElem? (i := 47) rfl))) (by decide) (t := .int) (t' := .int) (by decide) (by decide)))).other W8 (Or.inr (slot_ne (Or.inr (hw _ (List.mem_of_getElem? (i := 53) rfl))) (Or.inr (hw _ (List.mem_of_getElem? (i := 49) rfl))) (by decide) (t := .int) (t' := .int) (by decide) (by decide)))).other W11 (Or.inr (slot_ne (Or.inr (hw _ (List.mem_of_getElem? (i := 53) rfl))) (Or.inr (hw _ (List.mem_of_getElem? (i := 51) rfl))) (by decide) (t := .int) (t' := .int) (by decide) (by decide))))
  have FE_a1_13 : Exa Z h11 a1 "com/example/traversim/traversim/aodv/Packet$Rreq" := (FE_a1_10.wr W11)
  obtain ⟨T14, h14, X14, e14, W14, st14⟩ := putF X11 hx hZ hown (host := "") (Or.inl (hw _ (List.mem_of_getElem? (i := 52) rfl))) Via.refl e11 FF_a1_hops_12 FE_a1_13 (Or.inr ⟨(hw _ (List.mem_of_getElem? (i := 53) rfl)), rfl, hnm⟩) (hw _ (List.mem_of_getElem? (i := 38) rfl)) (ty := .int) (by decide) rfl rfl (g := (mkF m 28 #[.val (.ref a1), .val (.int x0), .val (.int x1), .val (.int x2), .val (.int x3), .val (.int x4), .val (.int x5), .val (.int x6), .val (.int x7)] [(.int x4), (.ref a1)])) rfl rfl (hb hby own_d5_28)
  have Fw14 : Fld Z h14 a1 "com/example/traversim/traversim/aodv/Packet$Rreq" "hops" "I" (.int x4) := Fld.same W14 FF_a1_hops_12
  have K14 : Keep h0 h14 [a1] := K11.wr W14 (Or.inl (List.mem_of_getElem? (i := 0) rfl))
  have N14 := Fr.snoc X14 N11 g_a1
  have FF_a1_dst_15 : Fld Z h14 a1 "com/example/traversim/traversim/aodv/Packet$Rreq" "dst" "I" u_dst := (((((P_F_a1_dst.other W2 (Or.inr (slot_ne (Or.inr (hw _ (List.mem_of_getElem? (i := 55) rfl))) (Or.inr (hw _ (List.mem_of_getElem? (i := 45) rfl))) (by decide) (t := .int) (t' := .int) (by decide) (by decide)))).other W5 (Or.inr (slot_ne (Or.inr (hw _ (List.mem_of_getElem? (i := 55) rfl))) (Or.inr (hw _ (List.mem_of_getElem? (i := 47) rfl))) (by decide) (t := .int) (t' := .int) (by decide) (by decide)))).other W8 (Or.inr (slot_ne (Or.inr (hw _ (List.mem_of_getElem? (i := 55) rfl))) (Or.inr (hw _ (List.mem_of_getElem? (i := 49) rfl))) (by decide) (t := .int) (t' := .int) (by decide) (by decide)))).other W11 (Or.inr (slot_ne (Or.inr (hw _ (List.mem_of_getElem? (i := 55) rfl))) (Or.inr (hw _ (List.mem_of_getElem? (i := 51) rfl))) (by decide) (t := .int) (t' := .int) (by decide) (by decide)))).other W14 (Or.inr (slot_ne (Or.inr (hw _ (List.mem_of_getElem? (i := 55) rfl))) (Or.inr (hw _ (List.mem_of_getElem? (i := 53) rfl))) (by decide) (t := .int) (t' := .int) (by decide) (by decide))))
  have FE_a1_16 : Exa Z h14 a1 "com/example/traversim/traversim/aodv/Packet$Rreq" := (FE_a1_13.wr W14)
  obtain ⟨T17, h17, X17, e17, W17, st17⟩ := putF X14 hx hZ hown (host := "") (Or.inl (hw _ (List.mem_of_getElem? (i := 54) rfl))) Via.refl e14 FF_a1_dst_15 FE_a1_16 (Or.inr ⟨(hw _ (List.mem_of_getElem? (i := 55) rfl)), rfl, hnm⟩) (hw _ (List.mem_of_getElem? (i := 38) rfl)) (ty := .int) (by decide) rfl rfl (g := (mkF m 34 #[.val (.ref a1), .val (.int x0), .val (.int x1), .val (.int x2), .val (.int x3), .val (.int x4), .val (.int x5), .val (.int x6), .val (.int x7)] [(.int x5), (.ref a1)])) rfl rfl (hb hby own_d5_34)
  have Fw17 : Fld Z h17 a1 "com/example/traversim/traversim/aodv/Packet$Rreq" "dst" "I" (.int x5) := Fld.same W17 FF_a1_dst_15
  have K17 : Keep h0 h17 [a1] := K14.wr W17 (Or.inl (List.mem_of_getElem? (i := 0) rfl))
  have N17 := Fr.snoc X17 N14 g_a1
  have FF_a1_dstseq_18 : Fld Z h17 a1 "com/example/traversim/traversim/aodv/Packet$Rreq" "dstseq" "I" u_dstseq := ((((((P_F_a1_dstseq.other W2 (Or.inr (slot_ne (Or.inr (hw _ (List.mem_of_getElem? (i := 57) rfl))) (Or.inr (hw _ (List.mem_of_getElem? (i := 45) rfl))) (by decide) (t := .int) (t' := .int) (by decide) (by decide)))).other W5 (Or.inr (slot_ne (Or.inr (hw _ (List.mem_of_getElem? (i := 57) rfl))) (Or.inr (hw _ (List.mem_of_getElem? (i := 47) rfl))) (by decide) (t := .int) (t' := .int) (by decide) (by decide)))).other W8 (Or.inr (slot_ne (Or.inr (hw _ (List.mem_of_getElem? (i := 57) rfl))) (Or.inr (hw _ (List.mem_of_getElem? (i := 49) rfl))) (by decide) (t := .int) (t' := .int) (by decide) (by decide)))).other W11 (Or.inr (slot_ne (Or.inr (hw _ (List.mem_of_getElem? (i := 57) rfl))) (Or.inr (hw _ (List.mem_of_getElem? (i := 51) rfl))) (by decide) (t := .int) (t' := .int) (by decide) (by decide)))).other W14 (Or.inr (slot_ne (Or.inr (hw _ (List.mem_of_getElem? (i := 57) rfl))) (Or.inr (hw _ (List.mem_of_getElem? (i := 53) rfl))) (by decide) (t := .int) (t' := .int) (by decide) (by decide)))).other W17 (Or.inr (slot_ne (Or.inr (hw _ (List.mem_of_getElem? (i := 57) rfl))) (Or.inr (hw _ (List.mem_of_getElem? (i := 55) rfl))) (by decide) (t := .int) (t' := .int) (by decide) (by decide))))
  have FE_a1_19 : Exa Z h17 a1 "com/example/traversim/traversim/aodv/Packet$Rreq" := (FE_a1_16.wr W17)
  obtain ⟨T20, h20, X20, e20, W20, st20⟩ := putF X17 hx hZ hown (host := "") (Or.inl (hw _ (List.mem_of_getElem? (i := 56) rfl))) Via.refl e17 FF_a1_dstseq_18 FE_a1_19 (Or.inr ⟨(hw _ (List.mem_of_getElem? (i := 57) rfl)), rfl, hnm⟩) (hw _ (List.mem_of_getElem? (i := 38) rfl)) (ty := .int) (by decide) rfl rfl (g := (mkF m 40 #[.val (.ref a1), .val (.int x0), .val (.int x1), .val (.int x2), .val (.int x3), .val (.int x4), .val (.int x5), .val (.int x6), .val (.int x7)] [(.int x6), (.ref a1)])) rfl rfl (hb hby own_d5_40)
  have Fw20 : Fld Z h20 a1 "com/example/traversim/traversim/aodv/Packet$Rreq" "dstseq" "I" (.int x6) := Fld.same W20 FF_a1_dstseq_18
  have K20 : Keep h0 h20 [a1] := K17.wr W20 (Or.inl (List.mem_of_getElem? (i := 0) rfl))
  have N20 := Fr.snoc X20 N17 g_a1
  have FF_a1_origseq_21 : Fld Z h20 a1 "com/example/traversim/traversim/aodv/Packet$Rreq" "origseq" "I" u_origseq := (((((((P_F_a1_origseq.other W2 (Or.inr (slot_ne (Or.inr (hw _ (List.mem_of_getElem? (i := 59) rfl))) (Or.inr (hw _ (List.mem_of_getElem? (i := 45) rfl))) (by decide) (t := .int) (t' := .int) (by decide) (by decide)))).other W5 (Or.inr (slot_ne (Or.inr (hw _ (List.mem_of_getElem? (i := 59) rfl))) (Or.inr (hw _ (List.mem_of_getElem? (i := 47) rfl))) (by decide) (t := .int) (t' := .int) (by decide) (by decide)))).other W8 (Or.inr (slot_ne (Or.inr (hw _ (List.mem_of_getElem? (i := 59) rfl))) (Or.inr (hw _ (List.mem_of_getElem? (i := 49) rfl))) (by decide) (t := .int) (t' := .int) (by decide) (by decide)))).other W11 (Or.inr (slot_ne (Or.inr (hw _ (List.mem_of_getElem? (i := 59) rfl))) (Or.inr (hw _ (List.mem_of_getElem? (i := 51) rfl))) (by decide) (t := .int) (t' := .int) (by decide) (by decide)))).other W14 (Or.inr (slot_ne (Or.inr (hw _ (List.mem_of_getElem? (i := 59) rfl))) (Or.inr (hw _ (List.mem_of_getElem? (i := 53) rfl))) (by decide) (t := .int) (t' := .int) (by decide) (by decide)))).other W17 (Or.inr (slot_ne (Or.inr (hw _ (List.mem_of_getElem? (i := 59) rfl))) (Or.inr (hw _ (List.mem_of_getElem? (i := 55) rfl))) (by decide) (t := .int) (t' := .int) (by decide) (by decide)))).other W20 (Or.inr (slot_ne (Or.inr (hw _ (List.mem_of_getElem? (i := 59) rfl))) (Or.inr (hw _ (List.mem_of_getElem? (i := 57) rfl))) (by decide) (t := .int) (t' := .int) (by decide) (by decide))))
  have FE_a1_22 : Exa Z h20 a1 "com/example/traversim/traversim/aodv/Packet$Rreq" := (FE_a1_19.wr W20)
  obtain ⟨T23, h23, X23, e23, W23, st23⟩ := putF X20 hx hZ hown (host := "") (Or.inl (hw _ (List.mem_of_getElem? (i := 58) rfl))) Via.refl e20 FF_a1_origseq_21 FE_a1_22 (Or.inr ⟨(hw _ (List.mem_of_getElem? (i := 59) rfl)), rfl, hnm⟩) (hw _ (List.mem_of_getElem? (i := 38) rfl)) (ty := .int) (by decide) rfl rfl (g := (mkF m 46 #[.val (.ref a1), .val (.int x0), .val (.int x1), .val (.int x2), .val (.int x3), .val (.int x4), .val (.int x5), .val (.int x6), .val (.int x7)] [(.int x7), (.ref a1)])) rfl rfl (hb hby own_d5_46)
  have Fw23 : Fld Z h23 a1 "com/example/traversim/traversim/aodv/Packet$Rreq" "origseq" "I" (.int x7) := Fld.same W23 FF_a1_origseq_21
  have K23 : Keep h0 h23 [a1] := K20.wr W23 (Or.inl (List.mem_of_getElem? (i := 0) rfl))
  have N23 := Fr.snoc X23 N20 g_a1
  obtain ⟨fs, hr, hrun, hended, hW, hsame⟩ := X23.leave (v := none) (fun _ => rfl)
  refine ⟨_, _, pre0 _ ?_, hrun, hended, _, _, rfl, ?_, ⟨_, rfl⟩, hW, hsame.mono (by decide) (by decide)⟩
  · show Steps p.tables e below (s₁.setTop (mkF m 0 #[.val (.ref a1), .val (.int x0), .val (.int x1), .val (.int x2), .val (.int x3), .val (.int x4), .val (.int x5), .val (.int x6), .val (.int x7)] [])) _
    refine XS.aloadN X0.here hx rfl (hb hby own_d5_0) rfl rfl ?_
    show Steps p.tables e below (s₁.setTop (mkF m 1 #[.val (.ref a1), .val (.int x0), .val (.int x1), .val (.int x2), .val (.int x3), .val (.int x4), .val (.int x5), .val (.int x6), .val (.int x7)] [(.ref a1)])) _
    refine st1.trans ?_
    show Steps p.tables e below (T1.setTop (mkF m 4 #[.val (.ref a1), .val (.int x0), .val (.int x1), .val (.int x2), .val (.int x3), .val (.int x4), .val (.int x5), .val (.int x6), .val (.int x7)] [])) _
    refine XS.aloadN X1.here hx rfl (hb hby own_d5_4) rfl rfl ?_
    show Steps p.tables e below (T1.setTop (mkF m 5 #[.val (.ref a1), .val (.int x0), .val (.int x1), .val (.int x2), .val (.int x3), .val (.int x4), .val (.int x5), .val (.int x6), .val (.int x7)] [(.ref a1)])) _
    refine XS.iloadN X1.here hx rfl (hb hby own_d5_5) rfl ?_
    show Steps p.tables e below (T1.setTop (mkF m 6 #[.val (.ref a1), .val (.int x0), .val (.int x1), .val (.int x2), .val (.int x3), .val (.int x4), .val (.int x5), .val (.int x6), .val (.int x7)] [(.int x0), (.ref a1)])) _
    refine st2 _ ?_
    show Steps p.tables e below (T2.setTop (mkF m 9 #[.val (.ref a1), .val (.int x0), .val (.int x1), .val (.int x2), .val (.int x3), .val (.int x4), .val (.int x5), .val (.int x6), .val (.int x7)] [])) _
    refine XS.aloadN X2.here hx rfl (hb hby own_d5_9) rfl rfl ?_
    show Steps p.tables e below (T2.setTop (mkF m 10 #[.val (.ref a1), .val (.int x0), .val (.int x1), .val (.int x2), .val (.int x3), .val (.int x4), .val (.int x5), .val (.int x6), .val (.int x7)] [(.ref a1)])) _
    refine XS.iloadN X2.here hx rfl (hb hby own_d5_10) rfl ?_
    show Steps p.tables e below (T2.setTop (mkF m 11 #[.val (.ref a1), .val (.int x0), .val (.int x1), .val (.int x2), .val (.int x3), .val (.int x4), .val (.int x5), .val (.int x6), .val (.int x7)] [(.int x1), (.ref a1)])) _
    refine st5 _ ?_
    show Steps p.tables e below (T5.setTop (mkF m 14 #[.val (.ref a1), .val (.int x0), .val (.int x1), .val (.int x2), .val (.int x3), .val (.int x4), .val (.int x5), .val (.int x6), .val (.int x7)] [])) _
    refine XS.aloadN X5.here hx rfl (hb hby own_d5_14) rfl rfl ?_
    show Steps p.tables e below (T5.setTop (mkF m 15 #[.val (.ref a1), .val (.int x0), .val (.int x1), .val (.int x2), .val (.int x3), .val (.int x4), .val (.int x5), .val (.int x6), .val (.int x7)] [(.ref a1)])) _
    refine XS.iloadN X5.here hx rfl (hb hby own_d5_15) rfl ?_
    show Steps p.tables e below (T5.setTop (mkF m 16 #[.val (.ref a1), .val (.int x0), .val (.int x1), .val (.int x2), .val (.int x3), .val (.int x4), .val (.int x5), .val (.int x6), .val (.int x7)] [(.int x2), (.ref a1)])) _
    refine st8 _ ?_
    show Steps p.tables e below (T8.setTop (mkF m 19 #[.val (.ref a1), .val (.int x0), .val (.int x1), .val (.int x2), .val (.int x3), .val (.int x4), .val (.int x5), .val (.int x6), .val (.int x7)] [])) _
    refine XS.aloadN X8.here hx rfl (hb hby own_d5_19) rfl rfl ?_
    show Steps p.tables e below (T8.setTop (mkF m 20 #[.val (.ref a1), .val (.int x0), .val (.int x1), .val (.int x2), .val (.int x3), .val (.int x4), .val (.int x5), .val (.int x6), .val (.int x7)] [(.ref a1)])) _
    refine XS.iload X8.here hx rfl (hb hby own_d5_20) rfl ?_
    show Steps p.tables e below (T8.setTop (mkF m 22 #[.val (.ref a1), .val (.int x0), .val (.int x1), .val (.int x2), .val (.int x3), .val (.int x4), .val (.int x5), .val (.int x6), .val (.int x7)] [(.int x3), (.ref a1)])) _
    refine st11 _ ?_
    show Steps p.tables e below (T11.setTop (mkF m 25 #[.val (.ref a1), .val (.int x0), .val (.int x1), .val (.int x2), .val (.int x3), .val (.int x4), .val (.int x5), .val (.int x6), .val (.int x7)] [])) _
    refine XS.aloadN X11.here hx rfl (hb hby own_d5_25) rfl rfl ?_
    show Steps p.tables e below (T11.setTop (mkF m 26 #[.val (.ref a1), .val (.int x0), .val (.int x1), .val (.int x2), .val (.int x3), .val (.int x4), .val (.int x5), .val (.int x6), .val (.int x7)] [(.ref a1)])) _
    refine XS.iload X11.here hx rfl (hb hby own_d5_26) rfl ?_
    show Steps p.tables e below (T11.setTop (mkF m 28 #[.val (.ref a1), .val (.int x0), .val (.int x1), .val (.int x2), .val (.int x3), .val (.int x4), .val (.int x5), .val (.int x6), .val (.int x7)] [(.int x4), (.ref a1)])) _
    refine st14 _ ?_
    show Steps p.tables e below (T14.setTop (mkF m 31 #[.val (.ref a1), .val (.int x0), .val (.int x1), .val (.int x2), .val (.int x3), .val (.int x4), .val (.int x5), .val (.int x6), .val (.int x7)] [])) _
    refine XS.aloadN X14.here hx rfl (hb hby own_d5_31) rfl rfl ?_
    show Steps p.tables e below (T14.setTop (mkF m 32 #[.val (.ref a1), .val (.int x0), .val (.int x1), .val (.int x2), .val (.int x3), .val (.int x4), .val (.int x5), .val (.int x6), .val (.int x7)] [(.ref a1)])) _
    refine XS.iload X14.here hx rfl (hb hby own_d5_32) rfl ?_
    show Steps p.tables e below (T14.setTop (mkF m 34 #[.val (.ref a1), .val (.int x0), .val (.int x1), .val (.int x2), .val (.int x3), .val (.int x4), .val (.int x5), .val (.int x6), .val (.int x7)] [(.int x5), (.ref a1)])) _
    refine st17 _ ?_
    show Steps p.tables e below (T17.setTop (mkF m 37 #[.val (.ref a1), .val (.int x0), .val (.int x1), .val (.int x2), .val (.int x3), .val (.int x4), .val (.int x5), .val (.int x6), .val (.int x7)] [])) _
    refine XS.aloadN X17.here hx rfl (hb hby own_d5_37) rfl rfl ?_
    show Steps p.tables e below (T17.setTop (mkF m 38 #[.val (.ref a1), .val (.int x0), .val (.int x1), .val (.int x2), .val (.int x3), .val (.int x4), .val (.int x5), .val (.int x6), .val (.int x7)] [(.ref a1)])) _
    refine XS.iload X17.here hx rfl (hb hby own_d5_38) rfl ?_
    show Steps p.tables e below (T17.setTop (mkF m 40 #[.val (.ref a1), .val (.int x0), .val (.int x1), .val (.int x2), .val (.int x3), .val (.int x4), .val (.int x5), .val (.int x6), .val (.int x7)] [(.int x6), (.ref a1)])) _
    refine st20 _ ?_
    show Steps p.tables e below (T20.setTop (mkF m 43 #[.val (.ref a1), .val (.int x0), .val (.int x1), .val (.int x2), .val (.int x3), .val (.int x4), .val (.int x5), .val (.int x6), .val (.int x7)] [])) _
    refine XS.aloadN X20.here hx rfl (hb hby own_d5_43) rfl rfl ?_
    show Steps p.tables e below (T20.setTop (mkF m 44 #[.val (.ref a1), .val (.int x0), .val (.int x1), .val (.int x2), .val (.int x3), .val (.int x4), .val (.int x5), .val (.int x6), .val (.int x7)] [(.ref a1)])) _
    refine XS.iload X20.here hx rfl (hb hby own_d5_44) rfl ?_
    show Steps p.tables e below (T20.setTop (mkF m 46 #[.val (.ref a1), .val (.int x0), .val (.int x1), .val (.int x2), .val (.int x3), .val (.int x4), .val (.int x5), .val (.int x6), .val (.int x7)] [(.int x7), (.ref a1)])) _
    refine st23 _ ?_
    show Steps p.tables e below (T23.setTop (mkF m 49 #[.val (.ref a1), .val (.int x0), .val (.int x1), .val (.int x2), .val (.int x3), .val (.int x4), .val (.int x5), .val (.int x6), .val (.int x7)] [])) _
    exact X23.returnOut hx Bd.returns (hb hby own_d5_49) hr
  · show own_Q5 Z a1 x0 x1 x2 x3 x4 x5 x6 x7 u_from u_to u_orig u_bid u_hops u_dst u_dstseq u_origseq h0 n0 _ T23.heap _
    rw [e23]
    have FE_a1_24 : Exa Z h23 a1 "com/example/traversim/traversim/aodv/Packet$Rreq" := (FE_a1_22.wr W23)
    have FF_a1_from_25 : Fld Z h23 a1 "com/example/traversim/traversim/aodv/Packet$Rreq" "from" "I" (.int x0) := (((((((Fw2.other W5 (Or.inr (slot_ne (Or.inr (hw _ (List.mem_of_getElem? (i := 45) rfl))) (Or.inr (hw _ (List.mem_of_getElem? (i := 47) rfl))) (by decide) (t := .int) (t' := .int) (by decide) (by decide)))).other W8 (Or.inr (slot_ne (Or.inr (hw _ (List.mem_of_getElem? (i := 45) rfl))) (Or.inr (hw _ (List.mem_of_getElem? (i := 49) rfl))) (by decide) (t := .int) (t' := .int) (by decide) (by decide)))).other W11 (Or.inr (slot_ne (Or.inr (hw _ (List.mem_of_getElem? (i := 45) rfl))) (Or.inr (hw _ (List.mem_of_getElem? (i := 51) rfl))) (by decide) (t := .int) (t' := .int) (by decide) (by decide)))).other W14 (Or.inr (slot_ne (Or.inr (hw _ (List.mem_of_getElem? (i := 45) rfl))) (Or.inr (hw _ (List.mem_of_getElem? (i := 53) rfl))) (by decide) (t := .int) (t' := .int) (by decide) (by decide)))).other W17 (Or.inr (slot_ne (Or.inr (hw _ (List.mem_of_getElem? (i := 45) rfl))) (Or.inr (hw _ (List.mem_of_getElem? (i := 55) rfl))) (by decide) (t := .int) (t' := .int) (by decide) (by decide)))).other W20 (Or.inr (slot_ne (Or.inr (hw _ (List.mem_of_getElem? (i := 45) rfl))) (Or.inr (hw _ (List.mem_of_getElem? (i := 57) rfl))) (by decide) (t := .int) (t' := .int) (by decide) (by decide)))).other W23 (Or.inr (slot_ne (Or.inr (hw _ (List.mem_of_getElem? (i := 45) rfl))) (Or.inr (hw _ (List.mem_of_getElem? (i := 59) rfl))) (by decide) (t := .int) (t' := .int) (by decide) (by decide))))
    have FF_a1_to_26 : Fld Z h23 a1 "com/example/traversim/traversim/aodv/Packet$Rreq" "to" "I" (.int x1) := ((((((Fw5.other W8 (Or.inr (slot_ne (Or.inr (hw _ (List.mem_of_getElem? (i := 47) rfl))) (Or.inr (hw _ (List.mem_of_getElem? (i := 49) rfl))) (by decide) (t := .int) (t' := .int) (by decide) (by decide)))).other W11 (Or.inr (slot_ne (Or.inr (hw _ (List.mem_of_getElem? (i := 47) rfl))) (Or.inr (hw _ (List.mem_of_getElem? (i := 51) rfl))) (by decide) (t := .int) (t' := .int) (by decide) (by decide)))).other W14 (Or.inr (slot_ne (Or.inr (hw _ (List.mem_of_getElem? (i := 47) rfl))) (Or.inr (hw _ (List.mem_of_getElem? (i := 53) rfl))) (by decide) (t := .int) (t' := .int) (by decide) (by decide)))).other W17 (Or.inr (slot_ne (Or.inr (hw _ (List.mem_of_getElem? (i := 47) rfl))) (Or.inr (hw _ (List.mem_of_getElem? (i := 55) rfl))) (by decide) (t := .int) (t' := .int) (by decide) (by decide)))).other W20 (Or.inr (slot_ne (Or.inr (hw _ (List.mem_of_getElem? (i := 47) rfl))) (Or.inr (hw _ (List.mem_of_getElem? (i := 57) rfl))) (by decide) (t := .int) (t' := .int) (by decide) (by decide)))).other W23 (Or.inr (slot_ne (Or.inr (hw _ (List.mem_of_getElem? (i := 47) rfl))) (Or.inr (hw _ (List.mem_of_getElem? (i := 59) rfl))) (by decide) (t := .int) (t' := .int) (by decide) (by decide))))
    have FF_a1_orig_27 : Fld Z h23 a1 "com/example/traversim/traversim/aodv/Packet$Rreq" "orig" "I" (.int x2) := (((((Fw8.other W11 (Or.inr (slot_ne (Or.inr (hw _ (List.mem_of_getElem? (i := 49) rfl))) (Or.inr (hw _ (List.mem_of_getElem? (i := 51) rfl))) (by decide) (t := .int) (t' := .int) (by decide) (by decide)))).other W14 (Or.inr (slot_ne (Or.inr (hw _ (List.mem_of_getElem? (i := 49) rfl))) (Or.inr (hw _ (List.mem_of_getElem? (i := 53) rfl))) (by decide) (t := .int) (t' := .int) (by decide) (by decide)))).other W17 (Or.inr (slot_ne (Or.inr (hw _ (List.mem_of_getElem? (i := 49) rfl))) (Or.inr (hw _ (List.mem_of_getElem? (i := 55) rfl))) (by decide) (t := .int) (t' := .int) (by decide) (by decide)))).other W20 (Or.inr (slot_ne (Or.inr (hw _ (List.mem_of_getElem? (i := 49) rfl))) (Or.inr (hw _ (List.mem_of_getElem? (i := 57) rfl))) (by decide) (t := .int) (t' := .int) (by decide) (by decide)))).other W23 (Or.inr (slot_ne (Or.inr (hw _ (List.mem_of_getElem? (i := 49) rfl))) (Or.inr (hw _ (List.mem_of_getElem? (i := 59) rfl))) (by decide) (t := .int) (t' := .int) (by decide) (by decide))))
    have FF_a1_bid_28 : Fld Z h23 a1 "com/example/traversim/traversim/aodv/Packet$Rreq" "bid" "I" (.int x3) := ((((Fw11.other W14 (Or.inr (slot_ne (Or.inr (hw _ (List.mem_of_getElem? (i := 51) rfl))) (Or.inr (hw _ (List.mem_of_getElem? (i := 53) rfl))) (by decide) (t := .int) (t' := .int) (by decide) (by decide)))).other W17 (Or.inr (slot_ne (Or.inr (hw _ (List.mem_of_getElem? (i := 51) rfl))) (Or.inr (hw _ (List.mem_of_getElem? (i := 55) rfl))) (by decide) (t := .int) (t' := .int) (by decide) (by decide)))).other W20 (Or.inr (slot_ne (Or.inr (hw _ (List.mem_of_getElem? (i := 51) rfl))) (Or.inr (hw _ (List.mem_of_getElem? (i := 57) rfl))) (by decide) (t := .int) (t' := .int) (by decide) (by decide)))).other W23 (Or.inr (slot_ne (Or.inr (hw _ (List.mem_of_getElem? (i := 51) rfl))) (Or.inr (hw _ (List.mem_of_getElem? (i := 59) rfl))) (by decide) (t := .int) (t' := .int) (by decide) (by decide))))
    have FF_a1_hops_29 : Fld Z h23 a1 "com/example/traversim/traversim/aodv/Packet$Rreq" "hops" "I" (.int x4) := (((Fw14.other W17 (Or.inr (slot_ne (Or.inr (hw _ (List.mem_of_getElem? (i := 53) rfl))) (Or.inr (hw _ (List.mem_of_getElem? (i := 55) rfl))) (by decide) (t := .int) (t' := .int) (by decide) (by decide)))).other W20 (Or.inr (slot_ne (Or.inr (hw _ (List.mem_of_getElem? (i := 53) rfl))) (Or.inr (hw _ (List.mem_of_getElem? (i := 57) rfl))) (by decide) (t := .int) (t' := .int) (by decide) (by decide)))).other W23 (Or.inr (slot_ne (Or.inr (hw _ (List.mem_of_getElem? (i := 53) rfl))) (Or.inr (hw _ (List.mem_of_getElem? (i := 59) rfl))) (by decide) (t := .int) (t' := .int) (by decide) (by decide))))
    have FF_a1_dst_30 : Fld Z h23 a1 "com/example/traversim/traversim/aodv/Packet$Rreq" "dst" "I" (.int x5) := ((Fw17.other W20 (Or.inr (slot_ne (Or.inr (hw _ (List.mem_of_getElem? (i := 55) rfl))) (Or.inr (hw _ (List.mem_of_getElem? (i := 57) rfl))) (by decide) (t := .int) (t' := .int) (by decide) (by decide)))).other W23 (Or.inr (slot_ne (Or.inr (hw _ (List.mem_of_getElem? (i := 55) rfl))) (Or.inr (hw _ (List.mem_of_getElem? (i := 59) rfl))) (by decide) (t := .int) (t' := .int) (by decide) (by decide))))
    have FF_a1_dstseq_31 : Fld Z h23 a1 "com/example/traversim/traversim/aodv/Packet$Rreq" "dstseq" "I" (.int x6) := (Fw20.other W23 (Or.inr (slot_ne (Or.inr (hw _ (List.mem_of_getElem? (i := 57) rfl))) (Or.inr (hw _ (List.mem_of_getElem? (i := 59) rfl))) (by decide) (t := .int) (t' := .int) (by decide) (by decide))))
    exact ⟨rfl, N23, K23, FE_a1_24, FF_a1_from_25, FF_a1_to_26, FF_a1_orig_27, FF_a1_bid_28, FF_a1_hops_29, FF_a1_dst_30, FF_a1_dstseq_31, Fw23⟩
def own_eq (x0 x1 x2 x3 x4 x5 y0 y1 y2 y3 y4 y5 : Int32) : Int32 := if x0 = y0 ∧ x1 = y1 ∧ x2 = y2 ∧ x3 = y3 ∧ x4 = y4 ∧ x5 = y5 then (1 : Int32) else (0 : Int32)
theorem own_d4_0 : decode prog_26_method_6_code 0 = .ok (.aload_n 1, 1) := by decide +kernel
theorem own_d4_1 : decode prog_26_method_6_code 1 = .ok (.instanceof 8, 3) := by decide +kernel
theorem own_d4_4 : decode prog_26_method_6_code 4 = .ok (.ifCond .eq 78, 3) := by decide +kernel
theorem own_d4_7 : decode prog_26_method_6_code 7 = .ok (.aload_n 1, 1) := by decide +kernel
theorem own_d4_8 : decode prog_26_method_6_code 8 = .ok (.checkcast 8, 3) := by decide +kernel
theorem own_d4_11 : decode prog_26_method_6_code 11 = .ok (.astore_n 2, 1) := by decide +kernel
theorem own_d4_12 : decode prog_26_method_6_code 12 = .ok (.aload_n 0, 1) := by decide +kernel
theorem own_d4_13 : decode prog_26_method_6_code 13 = .ok (.getfield 7, 3) := by decide +kernel
theorem own_d4_16 : decode prog_26_method_6_code 16 = .ok (.aload_n 2, 1) := by decide +kernel
theorem own_d4_17 : decode prog_26_method_6_code 17 = .ok (.getfield 7, 3) := by decide +kernel
theorem own_d4_20 : decode prog_26_method_6_code 20 = .ok (.if_icmp .ne 62, 3) := by decide +kernel
theorem own_d4_23 : decode prog_26_method_6_code 23 = .ok (.aload_n 0, 1) := by decide +kernel
theorem own_d4_24 : decode prog_26_method_6_code 24 = .ok (.getfield 13, 3) := by decide +kernel
theorem own_d4_27 : decode prog_26_method_6_code 27 = .ok (.aload_n 2, 1) := by decide +kernel
theorem own_d4_28 : decode prog_26_method_6_code 28 = .ok (.getfield 13, 3) := by decide +kernel
theorem own_d4_31 : decode prog_26_method_6_code 31 = .ok (.if_icmp .ne 51, 3) := by decide +kernel
theorem own_d4_34 : decode prog_26_method_6_code 34 = .ok (.aload_n 0, 1) := by decide +kernel
theorem own_d4_35 : decode prog_26_method_6_code 35 = .ok (.getfield 16, 3) := by decide +kernel
theorem own_d4_38 : decode prog_26_method_6_code 38 = .ok (.aload_n 2, 1) := by decide +kernel
theorem own_d4_39 : decode prog_26_method_6_code 39 = .ok (.getfield 16, 3) := by decide +kernel
theorem own_d4_42 : decode prog_26_method_6_code 42 = .ok (.if_icmp .ne 40, 3) := by decide +kernel
theorem own_d4_45 : decode prog_26_method_6_code 45 = .ok (.aload_n 0, 1) := by decide +kernel
theorem own_d4_46 : decode prog_26_method_6_code 46 = .ok (.getfield 19, 3) := by decide +kernel
theorem own_d4_49 : decode prog_26_method_6_code 49 = .ok (.aload_n 2, 1) := by decide +kernel
theorem own_d4_50 : decode prog_26_method_6_code 50 = .ok (.getfield 19, 3) := by decide +kernel
theorem own_d4_53 : decode prog_26_method_6_code 53 = .ok (.if_icmp .ne 29, 3) := by decide +kernel
theorem own_d4_56 : decode prog_26_method_6_code 56 = .ok (.aload_n 0, 1) := by decide +kernel
theorem own_d4_57 : decode prog_26_method_6_code 57 = .ok (.getfield 22, 3) := by decide +kernel
theorem own_d4_60 : decode prog_26_method_6_code 60 = .ok (.aload_n 2, 1) := by decide +kernel
theorem own_d4_61 : decode prog_26_method_6_code 61 = .ok (.getfield 22, 3) := by decide +kernel
theorem own_d4_64 : decode prog_26_method_6_code 64 = .ok (.if_icmp .ne 18, 3) := by decide +kernel
theorem own_d4_67 : decode prog_26_method_6_code 67 = .ok (.aload_n 0, 1) := by decide +kernel
theorem own_d4_68 : decode prog_26_method_6_code 68 = .ok (.getfield 25, 3) := by decide +kernel
theorem own_d4_71 : decode prog_26_method_6_code 71 = .ok (.aload_n 2, 1) := by decide +kernel
theorem own_d4_72 : decode prog_26_method_6_code 72 = .ok (.getfield 25, 3) := by decide +kernel
theorem own_d4_75 : decode prog_26_method_6_code 75 = .ok (.if_icmp .ne 7, 3) := by decide +kernel
theorem own_d4_78 : decode prog_26_method_6_code 78 = .ok (.iconst 1, 1) := by decide +kernel
theorem own_d4_79 : decode prog_26_method_6_code 79 = .ok (.goto 4, 3) := by decide +kernel
theorem own_d4_82 : decode prog_26_method_6_code 82 = .ok (.iconst 0, 1) := by decide +kernel
theorem own_d4_83 : decode prog_26_method_6_code 83 = .ok (.ireturn, 1) := by decide +kernel
theorem own_pn4 : plainName "com/example/traversim/traversim/aodv/Packet$Rrep" = true := by first | (simp [plainName, overriddenIn]; done) | decide +kernel
theorem own_ef4 (m : MethodId) (a1 : Addr) (a2 : Addr) : entryFrame m #[(.ref a1), (.ref a2)] 3 = mkF m 0 #[.val (.ref a1), .val (.ref a2), .unset] [] := by first | (simp [entryFrame, mkF, argsToLocals, Value.category]; done) | rfl
def own_Q4 (Z : State) (a1 : Addr) (a2 : Addr) (x0 : Int32) (x1 : Int32) (x2 : Int32) (x3 : Int32) (x4 : Int32) (x5 : Int32) (y0 : Int32) (y1 : Int32) (y2 : Int32) (y3 : Int32) (y4 : Int32) (y5 : Int32) (h0 : Heap) (n0 : Nat) (v : Option Value) (h : Heap) (L : List Loc) : Prop := (v = some (.int (own_eq x0 x1 x2 x3 x4 x5 y0 y1 y2 y3 y4 y5))) ∧ (Fr n0 L) ∧ (h = h0)
set_option maxRecDepth 65536 in
set_option maxHeartbeats 40000000 in
theorem own_rm4 (l : Launch) (Z : State) (a0 : Array Value) (hw : ∀ d ∈ tables_1, d.before a0 Z = true) (ws : List Jvm.Cond) (a1 : Addr) (a2 : Addr) (x0 : Int32) (x1 : Int32) (x2 : Int32) (x3 : Int32) (x4 : Int32) (x5 : Int32) (y0 : Int32) (y1 : Int32) (y2 : Int32) (y3 : Int32) (y4 : Int32) (y5 : Int32) (h0 : Heap) (n0 : Nat) (Z0 : n0 ≤ h0.size) (P_E_a1 : Exa Z h0 a1 "com/example/traversim/traversim/aodv/Packet$Rrep") (P_F_a1_from : Fld Z h0 a1 "com/example/traversim/traversim/aodv/Packet$Rrep" "from" "I" (.int x0)) (P_F_a1_to : Fld Z h0 a1 "com/example/traversim/traversim/aodv/Packet$Rrep" "to" "I" (.int x1)) (P_F_a1_orig : Fld Z h0 a1 "com/example/traversim/traversim/aodv/Packet$Rrep" "orig" "I" (.int x2)) (P_F_a1_dst : Fld Z h0 a1 "com/example/traversim/traversim/aodv/Packet$Rrep" "dst" "I" (.int x3)) (P_F_a1_seqno : Fld Z h0 a1 "com/example/traversim/traversim/aodv/Packet$Rrep" "seqno" "I" (.int x4)) (P_F_a1_hops : Fld Z h0 a1 "com/example/traversim/traversim/aodv/Packet$Rrep" "hops" "I" (.int x5)) (P_E_a2 : Exa Z h0 a2 "com/example/traversim/traversim/aodv/Packet$Rrep") (P_F_a2_from : Fld Z h0 a2 "com/example/traversim/traversim/aodv/Packet$Rrep" "from" "I" (.int y0)) (P_F_a2_to : Fld Z h0 a2 "com/example/traversim/traversim/aodv/Packet$Rrep" "to" "I" (.int y1)) (P_F_a2_orig : Fld Z h0 a2 "com/example/traversim/traversim/aodv/Packet$Rrep" "orig" "I" (.int y2)) (P_F_a2_dst : Fld Z h0 a2 "com/example/traversim/traversim/aodv/Packet$Rrep" "dst" "I" (.int y3)) (P_F_a2_seqno : Fld Z h0 a2 "com/example/traversim/traversim/aodv/Packet$Rrep" "seqno" "I" (.int y4)) (P_F_a2_hops : Fld Z h0 a2 "com/example/traversim/traversim/aodv/Packet$Rrep" "hops" "I" (.int y5)) :
    MetFree l (⟨"com/example/traversim/traversim/aodv/Packet$Rrep", "equals", "(Ljava/lang/Object;)Z"⟩ : MethodName) (head1 (Jvm.Cond.code (⟨"com/example/traversim/traversim/aodv/Packet$Rrep", "equals", "(Ljava/lang/Object;)Z"⟩ : MethodName) prog_26_method_6_code 3 (some .boolean) :: ws) ({ frames := 0, cells := 0, slots := 0, locals := 0 } : Room)) (fun ar_ U_ => ar_ = #[(.ref a1), (.ref a2)] ∧ Z.Warmed39 U_.vm ∧ U_.heap = h0) (fun _ _ _ _ _ => True) (fun _ U_ o_ U_' => ∃ v_ L_, o_ = .returned v_ ∧ own_Q4 Z a1 a2 x0 x1 x2 x3 x4 x5 y0 y1 y2 y3 y4 y5 h0 n0 v_ U_'.heap L_ ∧ FrameEnd U_ o_ U_' L_ ({ frames := 0, cells := 0, slots := 0, locals := 0 } : Room).cells ({ frames := 0, cells := 0, slots := 0, locals := 0 } : Room).slots) := by
  refine MetFree.of_bodySF (plainFor_of_name own_pn4) hisR ?_
  intro p e s m args below meth c s₁ Bd hml0 hP hK
  obtain ⟨rfl, hZ, hh⟩ := hP
  have hx := Bd.exec
  have hby := Bd.bytes
  have hml : c.maxLocals = 3 := hml0
  have hown : s.vm.findClass "com/example/traversim/traversim/aodv/Packet$Rrep" = some m.cls := findClass_of_methodNamed Bd.named
  have hnm := (name_of_methodNamed Bd.named Bd.method).1
  have X0 : Stand p l e ({ frames := 0, cells := 0, slots := 0, locals := 0 } : Room) s m #[(.ref a1), (.ref a2)] below meth c s₁ [] 0 0 := Stand.of_body Bd
  have e0 : s₁.heap = h0 := by rw [← hh, Bd.state]; rfl
  have N0 := Fr.nil n0
  have pre0 : ∀ t, Steps p.tables e below (s₁.setTop (mkF m 0 #[.val (.ref a1), .val (.ref a2), .unset] [])) t → Steps p.tables e below (s₁.setTop (entryFrame m #[(.ref a1), (.ref a2)] 3)) t := fun t k => castTop (own_ef4 m a1 a2) k
  obtain ⟨T1, X1, e1, st1⟩ := instY X0 hx hZ hown (hw _ (List.mem_of_getElem? (i := 31) rfl)) e0 (Ins.self P_E_a2) (g := (mkF m 1 #[.val (.ref a1), .val (.ref a2), .unset] [(.ref a2)])) rfl rfl (hb hby own_d4_1)
  obtain ⟨T2, X2, e2, st2⟩ := castY X1 hx hZ hown (hw _ (List.mem_of_getElem? (i := 31) rfl)) e1 (Ins.self P_E_a2) (g := (mkF m 8 #[.val (.ref a1), .val (.ref a2), .unset] [(.ref a2)])) rfl rfl (hb hby own_d4_8)
  obtain ⟨T3, X3, e3, st3⟩ := getF X2 hx hZ hown (host := "") (Or.inl (hw _ (List.mem_of_getElem? (i := 14) rfl))) Via.refl e2 P_F_a1_from (g := (mkF m 13 #[.val (.ref a1), .val (.ref a2), .val (.ref a2)] [(.ref a1)])) rfl rfl (hb hby own_d4_13)
  obtain ⟨T4, X4, e4, st4⟩ := getF X3 hx hZ hown (host := "") (Or.inl (hw _ (List.mem_of_getElem? (i := 14) rfl))) Via.refl e3 P_F_a2_from (g := (mkF m 17 #[.val (.ref a1), .val (.ref a2), .val (.ref a2)] [(.ref a2), (.int x0)])) rfl rfl (hb hby own_d4_17)
  have pre5 : ∀ t, Steps p.tables e below (T4.setTop (mkF m 20 #[.val (.ref a1), .val (.ref a2), .val (.ref a2)] [(.int y0), (.int x0)])) t → Steps p.tables e below (s₁.setTop (entryFrame m #[(.ref a1), (.ref a2)] 3)) t := fun t k => pre0 t (by
    show Steps p.tables e below (s₁.setTop (mkF m 0 #[.val (.ref a1), .val (.ref a2), .unset] [])) _
    refine XS.aloadN X0.here hx rfl (hb hby own_d4_0) rfl rfl ?_
    show Steps p.tables e below (s₁.setTop (mkF m 1 #[.val (.ref a1), .val (.ref a2), .unset] [(.ref a2)])) _
    refine st1 _ ?_
    show Steps p.tables e below (T1.setTop (mkF m 4 #[.val (.ref a1), .val (.ref a2), .unset] [(.int (1 : Int32))])) _
    refine XS.ifNo X1.here hx rfl (hb hby own_d4_4) rfl (XT.i0_eq_f (by decide)) ?_
    show Steps p.tables e below (T1.setTop (mkF m 7 #[.val (.ref a1), .val (.ref a2), .unset] [])) _
    refine XS.aloadN X1.here hx rfl (hb hby own_d4_7) rfl rfl ?_
    show Steps p.tables e below (T1.setTop (mkF m 8 #[.val (.ref a1), .val (.ref a2), .unset] [(.ref a2)])) _
    refine st2 _ ?_
    show Steps p.tables e below (T2.setTop (mkF m 11 #[.val (.ref a1), .val (.ref a2), .unset] [(.ref a2)])) _
    refine XS.astoreN X2.here hx rfl (hb hby own_d4_11) rfl rfl (l' := #[.val (.ref a1), .val (.ref a2), .val (.ref a2)]) rfl ?_
    show Steps p.tables e below (T2.setTop (mkF m 12 #[.val (.ref a1), .val (.ref a2), .val (.ref a2)] [])) _
    refine XS.aloadN X2.here hx rfl (hb hby own_d4_12) rfl rfl ?_
    show Steps p.tables e below (T2.setTop (mkF m 13 #[.val (.ref a1), .val (.ref a2), .val (.ref a2)] [(.ref a1)])) _
    refine st3 _ ?_
    show Steps p.tables e below (T3.setTop (mkF m 16 #[.val (.ref a1), .val (.ref a2), .val (.ref a2)] [(.int x0)])) _
    refine XS.aloadN X3.here hx rfl (hb hby own_d4_16) rfl rfl ?_
    show Steps p.tables e below (T3.setTop (mkF m 17 #[.val (.ref a1), .val (.ref a2), .val (.ref a2)] [(.ref a2), (.int x0)])) _
    refine st4 _ ?_
    exact k)
  by_cases he0 : x0 = y0
  · obtain ⟨T6, X6, e6, st6⟩ := getF X4 hx hZ hown (host := "") (Or.inl (hw _ (List.mem_of_getElem? (i := 16) rfl))) Via.refl e4 P_F_a1_to (g := (mkF m 24 #[.val (.ref a1), .val (.ref a2), .val (.ref a2)] [(.ref a1)])) rfl rfl (hb hby own_d4_24)
    obtain ⟨T7, X7, e7, st7⟩ := getF X6 hx hZ hown (host := "") (Or.inl (hw _ (List.mem_of_getElem? (i := 16) rfl))) Via.refl e6 P_F_a2_to (g := (mkF m 28 #[.val (.ref a1), .val (.ref a2), .val (.ref a2)] [(.ref a2), (.int x1)])) rfl rfl (hb hby own_d4_28)
    have pre8 : ∀ t, Steps p.tables e below (T7.setTop (mkF m 31 #[.val (.ref a1), .val (.ref a2), .val (.ref a2)] [(.int y1), (.int x1)])) t → Steps p.tables e below (s₁.setTop (entryFrame m #[(.ref a1), (.ref a2)] 3)) t := fun t k => pre5 t (by
      show Steps p.tables e below (T4.setTop (mkF m 20 #[.val (.ref a1), .val (.ref a2), .val (.ref a2)] [(.int y0), (.int x0)])) _
      refine XS.icmpNo X4.here hx rfl (hb hby own_d4_20) rfl (XT.ii_ne_f he0) ?_
      show Steps p.tables e below (T4.setTop (mkF m 23 #[.val (.ref a1), .val (.ref a2), .val (.ref a2)] [])) _
      refine XS.aloadN X4.here hx rfl (hb hby own_d4_23) rfl rfl ?_
      show Steps p.tables e below (T4.setTop (mkF m 24 #[.val (.ref a1), .val (.ref a2), .val (.ref a2)] [(.ref a1)])) _
      refine st6 _ ?_
      show Steps p.tables e below (T6.setTop (mkF m 27 #[.val (.ref a1), .val (.ref a2), .val (.ref a2)] [(.int x1)])) _
      refine XS.aloadN X6.here hx rfl (hb hby own_d4_27) rfl rfl ?_
      show Steps p.tables e below (T6.setTop (mkF m 28 #[.val (.ref a1), .val (.ref a2), .val (.ref a2)] [(.ref a2), (.int x1)])) _
      refine st7 _ ?_
      exact k)
    by_cases he1 : x1 = y1
    · obtain ⟨T9, X9, e9, st9⟩ := getF X7 hx hZ hown (host := "") (Or.inl (hw _ (List.mem_of_getElem? (i := 18) rfl))) Via.refl e7 P_F_a1_orig (g := (mkF m 35 #[.val (.ref a1), .val (.ref a2), .val (.ref a2)] [(.ref a1)])) rfl rfl (hb hby own_d4_35)
      obtain ⟨T10, X10, e10, st10⟩ := getF X9 hx hZ hown (host := "") (Or.inl (hw _ (List.mem_of_getElem? (i := 18) rfl))) Via.refl e9 P_F_a2_orig (g := (mkF m 39 #[.val (.ref a1), .val (.ref a2), .val (.ref a2)] [(.ref a2), (.int x2)])) rfl rfl (hb hby own_d4_39)
      have pre11 : ∀ t, Steps p.tables e below (T10.setTop (mkF m 42 #[.val (.ref a1), .val (.ref a2), .val (.ref a2)] [(.int y2), (.int x2)])) t → Steps p.tables e below (s₁.setTop (entryFrame m #[(.ref a1), (.ref a2)] 3)) t := fun t k => pre8 t (by
        show Steps p.tables e below (T7.setTop (mkF m 31 #[.val (.ref a1), .val (.ref a2), .val (.ref a2)] [(.int y1), (.int x1)])) _
        refine XS.icmpNo X7.here hx rfl (hb hby own_d4_31) rfl (XT.ii_ne_f he1) ?_
        show Steps p.tables e below (T7.setTop (mkF m 34 #[.val (.ref a1), .val (.ref a2), .val (.ref a2)] [])) _
        refine XS.aloadN X7.here hx rfl (hb hby own_d4_34) rfl rfl ?_
        show Steps p.tables e below (T7.setTop (mkF m 35 #[.val (.ref a1), .val (.ref a2), .val (.ref a2)] [(.ref a1)])) _
        refine st9 _ ?_
        show Steps p.tables e below (T9.setTop (mkF m 38 #[.val (.ref a1), .val (.ref a2), .val (.ref a2)] [(.int x2)])) _
        refine XS.aloadN X9.here hx rfl (hb hby own_d4_38) rfl rfl ?_
        show Steps p.tables e below (T9.setTop (mkF m 39 #[.val (.ref a1), .val (.ref a2), .val (.ref a2)] [(.ref a2), (.int x2)])) _
        refine st10 _ ?_
        exact k)
      by_cases he2 : x2 = y2
      · obtain ⟨T12, X12, e12, st12⟩ := getF X10 hx hZ hown (host := "") (Or.inl (hw _ (List.mem_of_getElem? (i := 20) rfl))) Via.refl e10 P_F_a1_dst (g := (mkF m 46 #[.val (.ref a1), .val (.ref a2), .val (.ref a2)] [(.ref a1)])) rfl rfl (hb hby own_d4_46)
        obtain ⟨T13, X13, e13, st13⟩ := getF X12 hx hZ hown (host := "") (Or.inl (hw _ (List.mem_of_getElem? (i := 20) rfl))) Via.refl e12 P_F_a2_dst (g := (mkF m 50 #[.val (.ref a1), .val (.ref a2), .val (.ref a2)] [(.ref a2), (.int x3)])) rfl rfl (hb hby own_d4_50)
        have pre14 : ∀ t, Steps p.tables e below (T13.setTop (mkF m 53 #[.val (.ref a1), .val (.ref a2), .val (.ref a2)] [(.int y3), (.int x3)])) t → Steps p.tables e below (s₁.setTop (entryFrame m #[(.ref a1), (.ref a2)] 3)) t := fun t k => pre11 t (by
          show Steps p.tables e below (T10.setTop (mkF m 42 #[.val (.ref a1), .val (.ref a2), .val (.ref a2)] [(.int y2), (.int x2)])) _
          refine XS.icmpNo X10.here hx rfl (hb hby own_d4_42) rfl (XT.ii_ne_f he2) ?_
          show Steps p.tables e below (T10.setTop (mkF m 45 #[.val (.ref a1), .val (.ref a2), .val (.ref a2)] [])) _
          refine XS.aloadN X10.here hx rfl (hb hby own_d4_45) rfl rfl ?_
          show Steps p.tables e below (T10.setTop (mkF m 46 #[.val (.ref a1), .val (.ref a2), .val (.ref a2)] [(.ref a1)])) _
          refine st12 _ ?_
          show Steps p.tables e below (T12.setTop (mkF m 49 #[.val (.ref a1), .val (.ref a2), .val (.ref a2)] [(.int x3)])) _
          refine XS.aloadN X12.here hx rfl (hb hby own_d4_49) rfl rfl ?_
          show Steps p.tables e below (T12.setTop (mkF m 50 #[.val (.ref a1), .val (.ref a2), .val (.ref a2)] [(.ref a2), (.int x3)])) _
          refine st13 _ ?_
          exact k)
        by_cases he3 : x3 = y3
        · obtain ⟨T15, X15, e15, st15⟩ := getF X13 hx hZ hown (host := "") (Or.inl (hw _ (List.mem_of_getElem? (i := 22) rfl))) Via.refl e13 P_F_a1_seqno (g := (mkF m 57 #[.val (.ref a1), .val (.ref a2), .val (.ref a2)] [(.ref a1)])) rfl rfl (hb hby own_d4_57)
          obtain ⟨T16, X16, e16, st16⟩ := getF X15 hx hZ hown (host := "") (Or.inl (hw _ (List.mem_of_getElem? (i := 22) rfl))) Via.refl e15 P_F_a2_seqno (g := (mkF m 61 #[.val (.ref a1), .val (.ref a2), .val (.ref a2)] [(.ref a2), (.int x4)])) rfl rfl (hb hby own_d4_61)
          have pre17 : ∀ t, Steps p.tables e below (T16.setTop (mkF m 64 #[.val (.ref a1), .val (.ref a2), .val (.ref a2)] [(.int y4), (.int x4)])) t → Steps p.tables e below (s₁.setTop (entryFrame m #[(.ref a1), (.ref a2)] 3)) t := fun t k => pre14 t (by
            show Steps p.tables e below (T13.setTop (mkF m 53 #[.val (.ref a1), .val (.ref a2), .val (.ref a2)] [(.int y3), (.int x3)])) _
            refine XS.icmpNo X13.here hx rfl (hb hby own_d4_53) rfl (XT.ii_ne_f he3) ?_
            show Steps p.tables e below (T13.setTop (mkF m 56 #[.val (.ref a1), .val (.ref a2), .val (.ref a2)] [])) _
            refine XS.aloadN X13.here hx rfl (hb hby own_d4_56) rfl rfl ?_
            show Steps p.tables e below (T13.setTop (mkF m 57 #[.val (.ref a1), .val (.ref a2), .val (.ref a2)] [(.ref a1)])) _
            refine st15 _ ?_
            show Steps p.tables e below (T15.setTop (mkF m 60 #[.val (.ref a1), .val (.ref a2), .val (.ref a2)] [(.int x4)])) _
            refine XS.aloadN X15.here hx rfl (hb hby own_d4_60) rfl rfl ?_
            show Steps p.tables e below (T15.setTop (mkF m 61 #[.val (.ref a1), .val (.ref a2), .val (.ref a2)] [(.ref a2), (.int x4)])) _
            refine st16 _ ?_
            exact k)
          by_cases he4 : x4 = y4
          · obtain ⟨T18, X18, e18, st18⟩ := getF X16 hx hZ hown (host := "") (Or.inl (hw _ (List.mem_of_getElem? (i := 24) rfl))) Via.refl e16 P_F_a1_hops (g := (mkF m 68 #[.val (.ref a1), .val (.ref a2), .val (.ref a2)] [(.ref a1)])) rfl rfl (hb hby own_d4_68)
            obtain ⟨T19, X19, e19, st19⟩ := getF X18 hx hZ hown (host := "") (Or.inl (hw _ (List.mem_of_getElem? (i := 24) rfl))) Via.refl e18 P_F_a2_hops (g := (mkF m 72 #[.val (.ref a1), .val (.ref a2), .val (.ref a2)] [(.ref a2), (.int x5)])) rfl rfl (hb hby own_d4_72)
            have pre20 : ∀ t, Steps p.tables e below (T19.setTop (mkF m 75 #[.val (.ref a1), .val (.ref a2), .val (.ref a2)] [(.int y5), (.int x5)])) t → Steps p.tables e below (s₁.setTop (entryFrame m #[(.ref a1), (.ref a2)] 3)) t := fun t k => pre17 t (by
              show Steps p.tables e below (T16.setTop (mkF m 64 #[.val (.ref a1), .val (.ref a2), .val (.ref a2)] [(.int y4), (.int x4)])) _
              refine XS.icmpNo X16.here hx rfl (hb hby own_d4_64) rfl (XT.ii_ne_f he4) ?_
              show Steps p.tables e below (T16.setTop (mkF m 67 #[.val (.ref a1), .val (.ref a2), .val (.ref a2)] [])) _
              refine XS.aloadN X16.here hx rfl (hb hby own_d4_67) rfl rfl ?_
              show Steps p.tables e below (T16.setTop (mkF m 68 #[.val (.ref a1), .val (.ref a2), .val (.ref a2)] [(.ref a1)])) _
              refine st18 _ ?_
              show Steps p.tables e below (T18.setTop (mkF m 71 #[.val (.ref a1), .val (.ref a2), .val (.ref a2)] [(.int x5)])) _
              refine XS.aloadN X18.here hx rfl (hb hby own_d4_71) rfl rfl ?_
              show Steps p.tables e below (T18.setTop (mkF m 72 #[.val (.ref a1), .val (.ref a2), .val (.ref a2)] [(.ref a2), (.int x5)])) _
              refine st19 _ ?_
              exact k)
            by_cases he5 : x5 = y5
            · obtain ⟨fs, hr, hrun, hended, hW, hsame⟩ := X19.leave (v := some (.int (1 : Int32))) (fun h => by rw [Bd.returns] at h; cases h)
              refine ⟨_, _, pre20 _ ?_, hrun, hended, _, _, rfl, ?_, ⟨_, rfl⟩, hW, hsame.mono (by decide) (by decide)⟩
              · show Steps p.tables e below (T19.setTop (mkF m 75 #[.val (.ref a1), .val (.ref a2), .val (.ref a2)] [(.int y5), (.int x5)])) _
                refine XS.icmpNo X19.here hx rfl (hb hby own_d4_75) rfl (XT.ii_ne_f he5) ?_
                show Steps p.tables e below (T19.setTop (mkF m 78 #[.val (.ref a1), .val (.ref a2), .val (.ref a2)] [])) _
                refine XT.iconstV X19.here hx rfl (1 : Int32) (hb hby own_d4_78) rfl ?_
                show Steps p.tables e below (T19.setTop (mkF m 79 #[.val (.ref a1), .val (.ref a2), .val (.ref a2)] [(.int (1 : Int32))])) _
                refine XS.goto X19.here hx rfl (pc0 := 79) (pc' := 83) rfl (hb hby own_d4_79) (by decide) (by decide) ?_
                show Steps p.tables e below (T19.setTop (mkF m 83 #[.val (.ref a1), .val (.ref a2), .val (.ref a2)] [(.int (1 : Int32))])) _
                exact retN X19 hx (t := .boolean) Bd.returns (by simp) (hb hby own_d4_83) hr
              · show own_Q4 Z a1 a2 x0 x1 x2 x3 x4 x5 y0 y1 y2 y3 y4 y5 h0 n0 _ T19.heap _
                exact ⟨by unfold own_eq; rw [if_pos ⟨he0, he1, he2, he3, he4, he5⟩], N0, e19⟩
            · obtain ⟨fs, hr, hrun, hended, hW, hsame⟩ := X19.leave (v := some (.int (0 : Int32))) (fun h => by rw [Bd.returns] at h; cases h)
              refine ⟨_, _, pre20 _ ?_, hrun, hended, _, _, rfl, ?_, ⟨_, rfl⟩, hW, hsame.mono (by decide) (by decide)⟩
              · show Steps p.tables e below (T19.setTop (mkF m 75 #[.val (.ref a1), .val (.ref a2), .val (.ref a2)] [(.int y5), (.int x5)])) _
                refine XS.icmpYes X19.here hx rfl (pc0 := 75) (pc' := 82) rfl (hb hby own_d4_75) rfl (XT.ii_ne_t he5) (by decide) (by decide) ?_
                show Steps p.tables e below (T19.setTop (mkF m 82 #[.val (.ref a1), .val (.ref a2), .val (.ref a2)] [])) _
                refine XT.iconstV X19.here hx rfl (0 : Int32) (hb hby own_d4_82) rfl ?_
                show Steps p.tables e below (T19.setTop (mkF m 83 #[.val (.ref a1), .val (.ref a2), .val (.ref a2)] [(.int (0 : Int32))])) _
                exact retN X19 hx (t := .boolean) Bd.returns (by simp) (hb hby own_d4_83) hr
              · show own_Q4 Z a1 a2 x0 x1 x2 x3 x4 x5 y0 y1 y2 y3 y4 y5 h0 n0 _ T19.heap _
                exact ⟨by unfold own_eq; rw [if_neg (fun q => he5 q.2.2.2.2.2)], N0, e19⟩
          · obtain ⟨fs, hr, hrun, hended, hW, hsame⟩ := X16.leave (v := some (.int (0 : Int32))) (fun h => by rw [Bd.returns] at h; cases h)
            refine ⟨_, _, pre17 _ ?_, hrun, hended, _, _, rfl, ?_, ⟨_, rfl⟩, hW, hsame.mono (by decide) (by decide)⟩
            · show Steps p.tables e below (T16.setTop (mkF m 64 #[.val (.ref a1), .val (.ref a2), .val (.ref a2)] [(.int y4), (.int x4)])) _
              refine XS.icmpYes X16.here hx rfl (pc0 := 64) (pc' := 82) rfl (hb hby own_d4_64) rfl (XT.ii_ne_t he4) (by decide) (by decide) ?_
              show Steps p.tables e below (T16.setTop (mkF m 82 #[.val (.ref a1), .val (.ref a2), .val (.ref a2)] [])) _
              refine XT.iconstV X16.here hx rfl (0 : Int32) (hb hby own_d4_82) rfl ?_
              show Steps p.tables e below (T16.setTop (mkF m 83 #[.val (.ref a1), .val (.ref a2), .val (.ref a2)] [(.int (0 : Int32))])) _
              exact retN X16 hx (t := .boolean) Bd.returns (by simp) (hb hby own_d4_83) hr
            · show own_Q4 Z a1 a2 x0 x1 x2 x3 x4 x5 y0 y1 y2 y3 y4 y5 h0 n0 _ T16.heap _
              exact ⟨by unfold own_eq; rw [if_neg (fun q => he4 q.2.2.2.2.1)], N0, e16⟩
        · obtain ⟨fs, hr, hrun, hended, hW, hsame⟩ := X13.leave (v := some (.int (0 : Int32))) (fun h => by rw [Bd.returns] at h; cases h)
          refine ⟨_, _, pre14 _ ?_, hrun, hended, _, _, rfl, ?_, ⟨_, rfl⟩, hW, hsame.mono (by decide) (by decide)⟩
          · show Steps p.tables e below (T13.setTop (mkF m 53 #[.val (.ref a1), .val (.ref a2), .val (.ref a2)] [(.int y3), (.int x3)])) _
            refine XS.icmpYes X13.here hx rfl (pc0 := 53) (pc' := 82) rfl (hb hby own_d4_53) rfl (XT.ii_ne_t he3) (by decide) (by decide) ?_
            show Steps p.tables e below (T13.setTop (mkF m 82 #[.val (.ref a1), .val (.ref a2), .val (.ref a2)] [])) _
            refine XT.iconstV X13.here hx rfl (0 : Int32) (hb hby own_d4_82) rfl ?_
            show Steps p.tables e below (T13.setTop (mkF m 83 #[.val (.ref a1), .val (.ref a2), .val (.ref a2)] [(.int (0 : Int32))])) _
            exact retN X13 hx (t := .boolean) Bd.returns (by simp) (hb hby own_d4_83) hr
          · show own_Q4 Z a1 a2 x0 x1 x2 x3 x4 x5 y0 y1 y2 y3 y4 y5 h0 n0 _ T13.heap _
            exact ⟨by unfold own_eq; rw [if_neg (fun q => he3 q.2.2.2.1)], N0, e13⟩
      · obtain ⟨fs, hr, hrun, hended, hW, hsame⟩ := X10.leave (v := some (.int (0 : Int32))) (fun h => by rw [Bd.returns] at h; cases h)
        refine ⟨_, _, pre11 _ ?_, hrun, hended, _, _, rfl, ?_, ⟨_, rfl⟩, hW, hsame.mono (by decide) (by decide)⟩
        · show Steps p.tables e below (T10.setTop (mkF m 42 #[.val (.ref a1), .val (.ref a2), .val (.ref a2)] [(.int y2), (.int x2)])) _
          refine XS.icmpYes X10.here hx rfl (pc0 := 42) (pc' := 82) rfl (hb hby own_d4_42) rfl (XT.ii_ne_t he2) (by decide) (by decide) ?_
          show Steps p.tables e below (T10.setTop (mkF m 82 #[.val (.ref a1), .val (.ref a2), .val (.ref a2)] [])) _
          refine XT.iconstV X10.here hx rfl (0 : Int32) (hb hby own_d4_82) rfl ?_
          show Steps p.tables e below (T10.setTop (mkF m 83 #[.val (.ref a1), .val (.ref a2), .val (.ref a2)] [(.int (0 : Int32))])) _
          exact retN X10 hx (t := .boolean) Bd.returns (by simp) (hb hby own_d4_83) hr
        · show own_Q4 Z a1 a2 x0 x1 x2 x3 x4 x5 y0 y1 y2 y3 y4 y5 h0 n0 _ T10.heap _
          exact ⟨by unfold own_eq; rw [if_neg (fun q => he2 q.2.2.1)], N0, e10⟩
    · obtain ⟨fs, hr, hrun, hended, hW, hsame⟩ := X7.leave (v := some (.int (0 : Int32))) (fun h => by rw [Bd.returns] at h; cases h)
      refine ⟨_, _, pre8 _ ?_, hrun, hended, _, _, rfl, ?_, ⟨_, rfl⟩, hW, hsame.mono (by decide) (by decide)⟩
      · show Steps p.tables e below (T7.setTop (mkF m 31 #[.val (.ref a1), .val (.ref a2), .val (.ref a2)] [(.int y1), (.int x1)])) _
        refine XS.icmpYes X7.here hx rfl (pc0 := 31) (pc' := 82) rfl (hb hby own_d4_31) rfl (XT.ii_ne_t he1) (by decide) (by decide) ?_
        show Steps p.tables e below (T7.setTop (mkF m 82 #[.val (.ref a1), .val (.ref a2), .val (.ref a2)] [])) _
        refine XT.iconstV X7.here hx rfl (0 : Int32) (hb hby own_d4_82) rfl ?_
        show Steps p.tables e below (T7.setTop (mkF m 83 #[.val (.ref a1), .val (.ref a2), .val (.ref a2)] [(.int (0 : Int32))])) _
        exact retN X7 hx (t := .boolean) Bd.returns (by simp) (hb hby own_d4_83) hr
      · show own_Q4 Z a1 a2 x0 x1 x2 x3 x4 x5 y0 y1 y2 y3 y4 y5 h0 n0 _ T7.heap _
        exact ⟨by unfold own_eq; rw [if_neg (fun q => he1 q.2.1)], N0, e7⟩
  · obtain ⟨fs, hr, hrun, hended, hW, hsame⟩ := X4.leave (v := some (.int (0 : Int32))) (fun h => by rw [Bd.returns] at h; cases h)
    refine ⟨_, _, pre5 _ ?_, hrun, hended, _, _, rfl, ?_, ⟨_, rfl⟩, hW, hsame.mono (by decide) (by decide)⟩
    · show Steps p.tables e below (T4.setTop (mkF m 20 #[.val (.ref a1), .val (.ref a2), .val (.ref a2)] [(.int y0), (.int x0)])) _
      refine XS.icmpYes X4.here hx rfl (pc0 := 20) (pc' := 82) rfl (hb hby own_d4_20) rfl (XT.ii_ne_t he0) (by decide) (by decide) ?_
      show Steps p.tables e below (T4.setTop (mkF m 82 #[.val (.ref a1), .val (.ref a2), .val (.ref a2)] [])) _
      refine XT.iconstV X4.here hx rfl (0 : Int32) (hb hby own_d4_82) rfl ?_
      show Steps p.tables e below (T4.setTop (mkF m 83 #[.val (.ref a1), .val (.ref a2), .val (.ref a2)] [(.int (0 : Int32))])) _
      exact retN X4 hx (t := .boolean) Bd.returns (by simp) (hb hby own_d4_83) hr
    · show own_Q4 Z a1 a2 x0 x1 x2 x3 x4 x5 y0 y1 y2 y3 y4 y5 h0 n0 _ T4.heap _
      exact ⟨by unfold own_eq; rw [if_neg (fun q => he0 q.1)], N0, e4⟩
theorem own_ef4b (m : MethodId) (a1 : Addr) (a2 : Addr) : entryFrame m #[(.ref a1), (.ref a2)] 3 = mkF m 0 #[.val (.ref a1), .val (.ref a2), .unset] [] := by first | (simp [entryFrame, mkF, argsToLocals, Value.category]; done) | rfl
def own_Q4b (Z : State) (a1 : Addr) (a2 : Addr) (h0 : Heap) (n0 : Nat) (v : Option Value) (h : Heap) (L : List Loc) : Prop := (v = some (.int (0 : Int32))) ∧ (Fr n0 L) ∧ (h = h0)
set_option maxRecDepth 65536 in
set_option maxHeartbeats 40000000 in
theorem own_rm4b (l : Launch) (Z : State) (a0 : Array Value) (hw : ∀ d ∈ tables_1, d.before a0 Z = true) (ws : List Jvm.Cond) (a1 : Addr) (a2 : Addr) (h0 : Heap) (n0 : Nat) (Z0 : n0 ≤ h0.size) (P_E_a2 : Exa Z h0 a2 "com/example/traversim/traversim/aodv/Packet$Rreq") :
    MetFree l (⟨"com/example/traversim/traversim/aodv/Packet$Rrep", "equals", "(Ljava/lang/Object;)Z"⟩ : MethodName) (head1 (Jvm.Cond.code (⟨"com/example/traversim/traversim/aodv/Packet$Rrep", "equals", "(Ljava/lang/Object;)Z"⟩ : MethodName) prog_26_method_6_code 3 (some .boolean) :: ws) ({ frames := 0, cells := 0, slots := 0, locals := 0 } : Room)) (fun ar_ U_ => ar_ = #[(.ref a1), (.ref a2)] ∧ Z.Warmed39 U_.vm ∧ U_.heap = h0) (fun _ _ _ _ _ => True) (fun _ U_ o_ U_' => ∃ v_ L_, o_ = .returned v_ ∧ own_Q4b Z a1 a2 h0 n0 v_ U_'.heap L_ ∧ FrameEnd U_ o_ U_' L_ ({ frames := 0, cells := 0, slots := 0, locals := 0 } : Room).cells ({ frames := 0, cells := 0, slots := 0, locals := 0 } : Room).slots) := by
  refine MetFree.of_bodySF (plainFor_of_name own_pn4) hisR ?_
  intro p e s m args below meth c s₁ Bd hml0 hP hK
  obtain ⟨rfl, hZ, hh⟩ := hP
  have hx := Bd.exec
  have hby := Bd.bytes
  have hml : c.maxLocals = 3 := hml0
  have hown : s.vm.findClass "com/example/traversim/traversim/aodv/Packet$Rrep" = some m.cls := findClass_of_methodNamed Bd.named
  have hnm := (name_of_methodNamed Bd.named Bd.method).1
  have X0 : Stand p l e ({ frames := 0, cells := 0, slots := 0, locals := 0 } : Room) s m #[(.ref a1), (.ref a2)] below meth c s₁ [] 0 0 := Stand.of_body Bd
  have e0 : s₁.heap = h0 := by rw [← hh, Bd.state]; rfl
  have N0 := Fr.nil n0
  have pre0 : ∀ t, Steps p.tables e below (s₁.setTop (mkF m 0 #[.val (.ref a1), .val (.ref a2), .unset] [])) t → Steps p.tables e below (s₁.setTop (entryFrame m #[(.ref a1), (.ref a2)] 3)) t := fun t k => castTop (own_ef4b m a1 a2) k
  obtain ⟨T1, X1, e1, st1⟩ := instNo X0 hx hZ hown (hw _ (List.mem_of_getElem? (i := 31) rfl)) e0 P_E_a2 (NS.no (hw _ (List.mem_of_getElem? (i := 60) rfl)) (hw _ (List.mem_of_getElem? (i := 67) rfl)) (NS.step (hw _ (List.mem_of_getElem? (i := 60) rfl)) (NS.step (hw _ (List.mem_of_getElem? (i := 61) rfl)) (NS.root (hw _ (List.mem_of_getElem? (i := 62) rfl)) (hw _ (List.mem_of_getElem? (i := 67) rfl)) (by decide)) (by decide)) (by decide)) (by decide)) (g := (mkF m 1 #[.val (.ref a1), .val (.ref a2), .unset] [(.ref a2)])) rfl rfl (hb hby own_d4_1)
  obtain ⟨fs, hr, hrun, hended, hW, hsame⟩ := X1.leave (v := some (.int (0 : Int32))) (fun h => by rw [Bd.returns] at h; cases h)
  refine ⟨_, _, pre0 _ ?_, hrun, hended, _, _, rfl, ?_, ⟨_, rfl⟩, hW, hsame.mono (by decide) (by decide)⟩
  · show Steps p.tables e below (s₁.setTop (mkF m 0 #[.val (.ref a1), .val (.ref a2), .unset] [])) _
    refine XS.aloadN X0.here hx rfl (hb hby own_d4_0) rfl rfl ?_
    show Steps p.tables e below (s₁.setTop (mkF m 1 #[.val (.ref a1), .val (.ref a2), .unset] [(.ref a2)])) _
    refine st1 _ ?_
    show Steps p.tables e below (T1.setTop (mkF m 4 #[.val (.ref a1), .val (.ref a2), .unset] [(.int (0 : Int32))])) _
    refine XS.ifYes X1.here hx rfl (pc0 := 4) (pc' := 82) rfl (hb hby own_d4_4) rfl (XT.i0_eq_t rfl) (by decide) (by decide) ?_
    show Steps p.tables e below (T1.setTop (mkF m 82 #[.val (.ref a1), .val (.ref a2), .unset] [])) _
    refine XT.iconstV X1.here hx rfl (0 : Int32) (hb hby own_d4_82) rfl ?_
    show Steps p.tables e below (T1.setTop (mkF m 83 #[.val (.ref a1), .val (.ref a2), .unset] [(.int (0 : Int32))])) _
    exact retN X1 hx (t := .boolean) Bd.returns (by simp) (hb hby own_d4_83) hr
  · show own_Q4b Z a1 a2 h0 n0 _ T1.heap _
    exact ⟨rfl, N0, e1⟩
theorem own_ef4n (m : MethodId) (a1 : Addr) : entryFrame m #[(.ref a1), .null] 3 = mkF m 0 #[.val (.ref a1), .val .null, .unset] [] := by first | (simp [entryFrame, mkF, argsToLocals, Value.category]; done) | rfl
def own_Q4n (Z : State) (a1 : Addr) (h0 : Heap) (n0 : Nat) (v : Option Value) (h : Heap) (L : List Loc) : Prop := (v = some (.int (0 : Int32))) ∧ (Fr n0 L) ∧ (h = h0)
set_option maxRecDepth 65536 in
set_option maxHeartbeats 40000000 in
theorem own_rm4n (l : Launch) (Z : State) (a0 : Array Value) (hw : ∀ d ∈ tables_1, d.before a0 Z = true) (ws : List Jvm.Cond) (a1 : Addr) (h0 : Heap) (n0 : Nat) (Z0 : n0 ≤ h0.size)  :
    MetFree l (⟨"com/example/traversim/traversim/aodv/Packet$Rrep", "equals", "(Ljava/lang/Object;)Z"⟩ : MethodName) (head1 (Jvm.Cond.code (⟨"com/example/traversim/traversim/aodv/Packet$Rrep", "equals", "(Ljava/lang/Object;)Z"⟩ : MethodName) prog_26_method_6_code 3 (some .boolean) :: ws) ({ frames := 0, cells := 0, slots := 0, locals := 0 } : Room)) (fun ar_ U_ => ar_ = #[(.ref a1), .null] ∧ Z.Warmed39 U_.vm ∧ U_.heap = h0) (fun _ _ _ _ _ => True) (fun _ U_ o_ U_' => ∃ v_ L_, o_ = .returned v_ ∧ own_Q4n Z a1 h0 n0 v_ U_'.heap L_ ∧ FrameEnd U_ o_ U_' L_ ({ frames := 0, cells := 0, slots := 0, locals := 0 } : Room).cells ({ frames := 0, cells := 0, slots := 0, locals := 0 } : Room).slots) := by
  refine MetFree.of_bodySF (plainFor_of_name own_pn4) hisR ?_
  intro p e s m args below meth c s₁ Bd hml0 hP hK
  obtain ⟨rfl, hZ, hh⟩ := hP
  have hx := Bd.exec
  have hby := Bd.bytes
  have hml : c.maxLocals = 3 := hml0
  have hown : s.vm.findClass "com/example/traversim/traversim/aodv/Packet$Rrep" = some m.cls := findClass_of_methodNamed Bd.named
  have hnm := (name_of_methodNamed Bd.named Bd.method).1
  have X0 : Stand p l e ({ frames := 0, cells := 0, slots := 0, locals := 0 } : Room) s m #[(.ref a1), .null] below meth c s₁ [] 0 0 := Stand.of_body Bd
  have e0 : s₁.heap = h0 := by rw [← hh, Bd.state]; rfl
  have N0 := Fr.nil n0
  have pre0 : ∀ t, Steps p.tables e below (s₁.setTop (mkF m 0 #[.val (.ref a1), .val .null, .unset] [])) t → Steps p.tables e below (s₁.setTop (entryFrame m #[(.ref a1), .null] 3)) t := fun t k => castTop (own_ef4n m a1) k
  obtain ⟨fs, hr, hrun, hended, hW, hsame⟩ := X0.leave (v := some (.int (0 : Int32))) (fun h => by rw [Bd.returns] at h; cases h)
  refine ⟨_, _, pre0 _ ?_, hrun, hended, _, _, rfl, ?_, ⟨_, rfl⟩, hW, hsame.mono (by decide) (by decide)⟩
  · show Steps p.tables e below (s₁.setTop (mkF m 0 #[.val (.ref a1), .val .null, .unset] [])) _
    refine XS.aloadN X0.here hx rfl (hb hby own_d4_0) rfl rfl ?_
    show Steps p.tables e below (s₁.setTop (mkF m 1 #[.val (.ref a1), .val .null, .unset] [.null])) _
    refine X0.instanceofNull hx (g := (mkF m 1 #[.val (.ref a1), .val .null, .unset] [.null])) rfl rfl (hb hby own_d4_1) _ ?_
    show Steps p.tables e below (s₁.setTop (mkF m 4 #[.val (.ref a1), .val .null, .unset] [(.int (0 : Int32))])) _
    refine XS.ifYes X0.here hx rfl (pc0 := 4) (pc' := 82) rfl (hb hby own_d4_4) rfl (XT.i0_eq_t rfl) (by decide) (by decide) ?_
    show Steps p.tables e below (s₁.setTop (mkF m 82 #[.val (.ref a1), .val .null, .unset] [])) _
    refine XT.iconstV X0.here hx rfl (0 : Int32) (hb hby own_d4_82) rfl ?_
    show Steps p.tables e below (s₁.setTop (mkF m 83 #[.val (.ref a1), .val .null, .unset] [(.int (0 : Int32))])) _
    exact retN X0 hx (t := .boolean) Bd.returns (by simp) (hb hby own_d4_83) hr
  · show own_Q4n Z a1 h0 n0 _ s₁.heap _
    exact ⟨rfl, N0, e0⟩
theorem own_d6_0 : decode prog_27_method_7_code 0 = .ok (.aload_n 1, 1) := by decide +kernel
theorem own_d6_1 : decode prog_27_method_7_code 1 = .ok (.instanceof 8, 3) := by decide +kernel
theorem own_d6_4 : decode prog_27_method_7_code 4 = .ok (.ifCond .eq 100, 3) := by decide +kernel
theorem own_d6_7 : decode prog_27_method_7_code 7 = .ok (.aload_n 1, 1) := by decide +kernel
theorem own_d6_8 : decode prog_27_method_7_code 8 = .ok (.checkcast 8, 3) := by decide +kernel
theorem own_d6_11 : decode prog_27_method_7_code 11 = .ok (.astore_n 2, 1) := by decide +kernel
theorem own_d6_12 : decode prog_27_method_7_code 12 = .ok (.aload_n 0, 1) := by decide +kernel
theorem own_d6_13 : decode prog_27_method_7_code 13 = .ok (.getfield 7, 3) := by decide +kernel
theorem own_d6_16 : decode prog_27_method_7_code 16 = .ok (.aload_n 2, 1) := by decide +kernel
theorem own_d6_17 : decode prog_27_method_7_code 17 = .ok (.getfield 7, 3) := by decide +kernel
theorem own_d6_20 : decode prog_27_method_7_code 20 = .ok (.if_icmp .ne 84, 3) := by decide +kernel
theorem own_d6_23 : decode prog_27_method_7_code 23 = .ok (.aload_n 0, 1) := by decide +kernel
theorem own_d6_24 : decode prog_27_method_7_code 24 = .ok (.getfield 13, 3) := by decide +kernel
theorem own_d6_27 : decode prog_27_method_7_code 27 = .ok (.aload_n 2, 1) := by decide +kernel
theorem own_d6_28 : decode prog_27_method_7_code 28 = .ok (.getfield 13, 3) := by decide +kernel
theorem own_d6_31 : decode prog_27_method_7_code 31 = .ok (.if_icmp .ne 73, 3) := by decide +kernel
theorem own_d6_34 : decode prog_27_method_7_code 34 = .ok (.aload_n 0, 1) := by decide +kernel
theorem own_d6_35 : decode prog_27_method_7_code 35 = .ok (.getfield 16, 3) := by decide +kernel
theorem own_d6_38 : decode prog_27_method_7_code 38 = .ok (.aload_n 2, 1) := by decide +kernel
theorem own_d6_39 : decode prog_27_method_7_code 39 = .ok (.getfield 16, 3) := by decide +kernel
theorem own_d6_42 : decode prog_27_method_7_code 42 = .ok (.if_icmp .ne 62, 3) := by decide +kernel
theorem own_d6_45 : decode prog_27_method_7_code 45 = .ok (.aload_n 0, 1) := by decide +kernel
theorem own_d6_46 : decode prog_27_method_7_code 46 = .ok (.getfield 19, 3) := by decide +kernel
theorem own_d6_49 : decode prog_27_method_7_code 49 = .ok (.aload_n 2, 1) := by decide +kernel
theorem own_d6_50 : decode prog_27_method_7_code 50 = .ok (.getfield 19, 3) := by decide +kernel
theorem own_d6_53 : decode prog_27_method_7_code 53 = .ok (.if_icmp .ne 51, 3) := by decide +kernel
theorem own_d6_56 : decode prog_27_method_7_code 56 = .ok (.aload_n 0, 1) := by decide +kernel
theorem own_d6_57 : decode prog_27_method_7_code 57 = .ok (.getfield 22, 3) := by decide +kernel
theorem own_d6_60 : decode prog_27_method_7_code 60 = .ok (.aload_n 2, 1) := by decide +kernel
theorem own_d6_61 : decode prog_27_method_7_code 61 = .ok (.getfield 22, 3) := by decide +kernel
theorem own_d6_64 : decode prog_27_method_7_code 64 = .ok (.if_icmp .ne 40, 3) := by decide +kernel
theorem own_d6_67 : decode prog_27_method_7_code 67 = .ok (.aload_n 0, 1) := by decide +kernel
theorem own_d6_68 : decode prog_27_method_7_code 68 = .ok (.getfield 25, 3) := by decide +kernel
theorem own_d6_71 : decode prog_27_method_7_code 71 = .ok (.aload_n 2, 1) := by decide +kernel
theorem own_d6_72 : decode prog_27_method_7_code 72 = .ok (.getfield 25, 3) := by decide +kernel
theorem own_d6_75 : decode prog_27_method_7_code 75 = .ok (.if_icmp .ne 29, 3) := by decide +kernel
theorem own_d6_78 : decode prog_27_method_7_code 78 = .ok (.aload_n 0, 1) := by decide +kernel
theorem own_d6_79 : decode prog_27_method_7_code 79 = .ok (.getfield 28, 3) := by decide +kernel
theorem own_d6_82 : decode prog_27_method_7_code 82 = .ok (.aload_n 2, 1) := by decide +kernel
theorem own_d6_83 : decode prog_27_method_7_code 83 = .ok (.getfield 28, 3) := by decide +kernel
theorem own_d6_86 : decode prog_27_method_7_code 86 = .ok (.if_icmp .ne 18, 3) := by decide +kernel
theorem own_d6_89 : decode prog_27_method_7_code 89 = .ok (.aload_n 0, 1) := by decide +kernel
theorem own_d6_90 : decode prog_27_method_7_code 90 = .ok (.getfield 31, 3) := by decide +kernel
theorem own_d6_93 : decode prog_27_method_7_code 93 = .ok (.aload_n 2, 1) := by decide +kernel
theorem own_d6_94 : decode prog_27_method_7_code 94 = .ok (.getfield 31, 3) := by decide +kernel
theorem own_d6_97 : decode prog_27_method_7_code 97 = .ok (.if_icmp .ne 7, 3) := by decide +kernel
theorem own_d6_100 : decode prog_27_method_7_code 100 = .ok (.iconst 1, 1) := by decide +kernel
theorem own_d6_101 : decode prog_27_method_7_code 101 = .ok (.goto 4, 3) := by decide +kernel
theorem own_d6_104 : decode prog_27_method_7_code 104 = .ok (.iconst 0, 1) := by decide +kernel
theorem own_d6_105 : decode prog_27_method_7_code 105 = .ok (.ireturn, 1) := by decide +kernel
theorem own_pn6 : plainName "com/example/traversim/traversim/aodv/Packet$Rreq" = true := by first | (simp [plainName, overriddenIn]; done) | decide +kernel
theorem own_ef6b (m : MethodId) (a1 : Addr) (a2 : Addr) : entryFrame m #[(.ref a1), (.ref a2)] 3 = mkF m 0 #[.val (.ref a1), .val (.ref a2), .unset] [] := by first | (simp [entryFrame, mkF, argsToLocals, Value.category]; done) | rfl
def own_Q6b (Z : State) (a1 : Addr) (a2 : Addr) (h0 : Heap) (n0 : Nat) (v : Option Value) (h : Heap) (L : List Loc) : Prop := (v = some (.int (0 : Int32))) ∧ (Fr n0 L) ∧ (h = h0)
set_option maxRecDepth 65536 in
set_option maxHeartbeats 40000000 in
theorem own_rm6b (l : Launch) (Z : State) (a0 : Array Value) (hw : ∀ d ∈ tables_1, d.before a0 Z = true) (ws : List Jvm.Cond) (a1 : Addr) (a2 : Addr) (h0 : Heap) (n0 : Nat) (Z0 : n0 ≤ h0.size) (P_E_a2 : Exa Z h0 a2 "com/example/traversim/traversim/aodv/Packet$Rrep") :
    MetFree l (⟨"com/example/traversim/traversim/aodv/Packet$Rreq", "equals", "(Ljava/lang/Object;)Z"⟩ : MethodName) (head1 (Jvm.Cond.code (⟨"com/example/traversim/traversim/aodv/Packet$Rreq", "equals", "(Ljava/lang/Object;)Z"⟩ : MethodName) prog_27_method_7_code 3 (some .boolean) :: ws) ({ frames := 0, cells := 0, slots := 0, locals := 0 } : Room)) (fun ar_ U_ => ar_ = #[(.ref a1), (.ref a2)] ∧ Z.Warmed39 U_.vm ∧ U_.heap = h0) (fun _ _ _ _ _ => True) (fun _ U_ o_ U_' => ∃ v_ L_, o_ = .returned v_ ∧ own_Q6b Z a1 a2 h0 n0 v_ U_'.heap L_ ∧ FrameEnd U_ o_ U_' L_ ({ frames := 0, cells := 0, slots := 0, locals := 0 } : Room).cells ({ frames := 0, cells := 0, slots := 0, locals := 0 } : Room).slots) := by
  refine MetFree.of_bodySF (plainFor_of_name own_pn6) hisR ?_
  intro p e s m args below meth c s₁ Bd hml0 hP hK
  obtain ⟨rfl, hZ, hh⟩ := hP
  have hx := Bd.exec
  have hby := Bd.bytes
  have hml : c.maxLocals = 3 := hml0
  have hown : s.vm.findClass "com/example/traversim/traversim/aodv/Packet$Rreq" = some m.cls := findClass_of_methodNamed Bd.named
  have hnm := (name_of_methodNamed Bd.named Bd.method).1
  have X0 : Stand p l e ({ frames := 0, cells := 0, slots := 0, locals := 0 } : Room) s m #[(.ref a1), (.ref a2)] below meth c s₁ [] 0 0 := Stand.of_body Bd
  have e0 : s₁.heap = h0 := by rw [← hh, Bd.state]; rfl
  have N0 := Fr.nil n0
  have pre0 : ∀ t, Steps p.tables e below (s₁.setTop (mkF m 0 #[.val (.ref a1), .val (.ref a2), .unset] [])) t → Steps p.tables e below (s₁.setTop (entryFrame m #[(.ref a1), (.ref a2)] 3)) t := fun t k => castTop (own_ef6b m a1 a2) k
  obtain ⟨T1, X1, e1, st1⟩ := instNo X0 hx hZ hown (hw _ (List.mem_of_getElem? (i := 66) rfl)) e0 P_E_a2 (NS.no (hw _ (List.mem_of_getElem? (i := 67) rfl)) (hw _ (List.mem_of_getElem? (i := 60) rfl)) (NS.step (hw _ (List.mem_of_getElem? (i := 67) rfl)) (NS.step (hw _ (List.mem_of_getElem? (i := 61) rfl)) (NS.root (hw _ (List.mem_of_getElem? (i := 62) rfl)) (hw _ (List.mem_of_getElem? (i := 60) rfl)) (by decide)) (by decide)) (by decide)) (by decide)) (g := (mkF m 1 #[.val (.ref a1), .val (.ref a2), .unset] [(.ref a2)])) rfl rfl (hb hby own_d6_1)
  obtain ⟨fs, hr, hrun, hended, hW, hsame⟩ := X1.leave (v := some (.int (0 : Int32))) (fun h => by rw [Bd.returns] at h; cases h)
  refine ⟨_, _, pre0 _ ?_, hrun, hended, _, _, rfl, ?_, ⟨_, rfl⟩, hW, hsame.mono (by decide) (by decide)⟩
  · show Steps p.tables e below (s₁.setTop (mkF m 0 #[.val (.ref a1), .val (.ref a2), .unset] [])) _
    refine XS.aloadN X0.here hx rfl (hb hby own_d6_0) rfl rfl ?_
    show Steps p.tables e below (s₁.setTop (mkF m 1 #[.val (.ref a1), .val (.ref a2), .unset] [(.ref a2)])) _
    refine st1 _ ?_
    show Steps p.tables e below (T1.setTop (mkF m 4 #[.val (.ref a1), .val (.ref a2), .unset] [(.int (0 : Int32))])) _
    refine XS.ifYes X1.here hx rfl (pc0 := 4) (pc' := 104) rfl (hb hby own_d6_4) rfl (XT.i0_eq_t rfl) (by decide) (by decide) ?_
    show Steps p.tables e below (T1.setTop (mkF m 104 #[.val (.ref a1), .val (.ref a2), .unset] [])) _
    refine XT.iconstV X1.here hx rfl (0 : Int32) (hb hby own_d6_104) rfl ?_
    show Steps p.tables e below (T1.setTop (mkF m 105 #[.val (.ref a1), .val (.ref a2), .unset] [(.int (0 : Int32))])) _
    exact retN X1 hx (t := .boolean) Bd.returns (by simp) (hb hby own_d6_105) hr
  · show own_Q6b Z a1 a2 h0 n0 _ T1.heap _
    exact ⟨rfl, N0, e1⟩
theorem own_fld (kk : Int32) : (kk &&& (7 : Int32)) = 0 ∨ (kk &&& (7 : Int32)) = 1 ∨ (kk &&& (7 : Int32)) = 2 ∨ (kk &&& (7 : Int32)) = 3 ∨ (kk &&& (7 : Int32)) = 4 ∨ (kk &&& (7 : Int32)) = 5 ∨ (kk &&& (7 : Int32)) = 6 ∨ (kk &&& (7 : Int32)) = 7 := by
  have h := c_mask kk (7 : Int32) 3 (by decide) (by decide)
  have h8 : (((2 ^ 3 : Nat)) : Int) = 8 := by decide
  rw [h8] at h
  simp only [← Int32.toInt_inj, h]
  have e0 : (0 : Int32).toInt = 0 := by decide
  have e1 : (1 : Int32).toInt = 1 := by decide
  have e2 : (2 : Int32).toInt = 2 := by decide
  have e3 : (3 : Int32).toInt = 3 := by decide
  have e4 : (4 : Int32).toInt = 4 := by decide
  have e5 : (5 : Int32).toInt = 5 := by decide
  have e6 : (6 : Int32).toInt = 6 := by decide
  have e7 : (7 : Int32).toInt = 7 := by decide
  rw [e0, e1, e2, e3, e4, e5, e6, e7]
  omega
theorem own_ad (x d : Int32) (h : ¬ d = 0) : ¬ x = x + d := by grind
theorem own_dnz (z : Int32) : ¬ (if z = 0 then (1 : Int32) else z) = 0 := by
  by_cases h : z = 0
  · rw [if_pos h]; decide
  · rw [if_neg h]; exact h
theorem own_eq_all (x0 x1 x2 x3 x4 x5 y0 y1 y2 y3 y4 y5 : Int32) (h : x0 = y0 ∧ x1 = y1 ∧ x2 = y2 ∧ x3 = y3 ∧ x4 = y4 ∧ x5 = y5) : own_eq x0 x1 x2 x3 x4 x5 y0 y1 y2 y3 y4 y5 = 1 := by unfold own_eq; rw [if_pos h]
theorem own_eq_not (x0 x1 x2 x3 x4 x5 y0 y1 y2 y3 y4 y5 : Int32) (h : ¬ (x0 = y0 ∧ x1 = y1 ∧ x2 = y2 ∧ x3 = y3 ∧ x4 = y4 ∧ x5 = y5)) : own_eq x0 x1 x2 x3 x4 x5 y0 y1 y2 y3 y4 y5 = 0 := by unfold own_eq; rw [if_neg h]
theorem own_two (fd dd x0 x1 x2 x3 x4 x5 y0 y1 y2 y3 y4 y5 : Int32) (hf : fd = 0 ∨ fd = 1 ∨ fd = 2 ∨ fd = 3 ∨ fd = 4 ∨ fd = 5 ∨ fd = 6 ∨ fd = 7) (h7 : ¬ fd = (7 : Int32)) (hd : ¬ dd = 0) (hy0 : y0 = x0 + (if fd = 0 then dd else (0 : Int32))) (hy1 : y1 = x1 + (if fd = (1 : Int32) then dd else (0 : Int32))) (hy2 : y2 = x2 + (if fd = (2 : Int32) then dd else (0 : Int32))) (hy3 : y3 = x3 + (if fd = (3 : Int32) then dd else (0 : Int32))) (hy4 : y4 = x4 + (if fd = (4 : Int32) then dd else (0 : Int32))) (hy5 : y5 = x5 + (if fd = (5 : Int32) then dd else (0 : Int32))) :
    own_eq x0 x1 x2 x3 x4 x5 y0 y1 y2 y3 y4 y5 = (if fd = (6 : Int32) then (1 : Int32) else (0 : Int32)) ∧ own_eq y0 y1 y2 y3 y4 y5 x0 x1 x2 x3 x4 x5 = (if fd = (6 : Int32) then (1 : Int32) else (0 : Int32)) := by
  by_cases h6 : fd = 6
  · rw [if_pos h6]
    subst h6
    have g0 : y0 = x0 := by rw [hy0, if_neg (by decide), Int32.add_zero]
    have g1 : y1 = x1 := by rw [hy1, if_neg (by decide), Int32.add_zero]
    have g2 : y2 = x2 := by rw [hy2, if_neg (by decide), Int32.add_zero]
    have g3 : y3 = x3 := by rw [hy3, if_neg (by decide), Int32.add_zero]
    have g4 : y4 = x4 := by rw [hy4, if_neg (by decide), Int32.add_zero]
    have g5 : y5 = x5 := by rw [hy5, if_neg (by decide), Int32.add_zero]
    exact ⟨own_eq_all _ _ _ _ _ _ _ _ _ _ _ _ ⟨g0.symm, g1.symm, g2.symm, g3.symm, g4.symm, g5.symm⟩, own_eq_all _ _ _ _ _ _ _ _ _ _ _ _ ⟨g0, g1, g2, g3, g4, g5⟩⟩
  · rw [if_neg h6]
    rcases hf with rfl | rfl | rfl | rfl | rfl | rfl | rfl | rfl
    · rw [if_pos rfl] at hy0
      exact ⟨own_eq_not _ _ _ _ _ _ _ _ _ _ _ _ (fun q => own_ad x0 dd hd (q.1.trans hy0)), own_eq_not _ _ _ _ _ _ _ _ _ _ _ _ (fun q => own_ad x0 dd hd (q.1.symm.trans hy0))⟩
    · rw [if_pos rfl] at hy1
      exact ⟨own_eq_not _ _ _ _ _ _ _ _ _ _ _ _ (fun q => own_ad x1 dd hd (q.2.1.trans hy1)), own_eq_not _ _ _ _ _ _ _ _ _ _ _ _ (fun q => own_ad x1 dd hd (q.2.1.symm.trans hy1))⟩
    · rw [if_pos rfl] at hy2
      exact ⟨own_eq_not _ _ _ _ _ _ _ _ _ _ _ _ (fun q => own_ad x2 dd hd (q.2.2.1.trans hy2)), own_eq_not _ _ _ _ _ _ _ _ _ _ _ _ (fun q => own_ad x2 dd hd (q.2.2.1.symm.trans hy2))⟩
    · rw [if_pos rfl] at hy3
      exact ⟨own_eq_not _ _ _ _ _ _ _ _ _ _ _ _ (fun q => own_ad x3 dd hd (q.2.2.2.1.trans hy3)), own_eq_not _ _ _ _ _ _ _ _ _ _ _ _ (fun q => own_ad x3 dd hd (q.2.2.2.1.symm.trans hy3))⟩
    · rw [if_pos rfl] at hy4
      exact ⟨own_eq_not _ _ _ _ _ _ _ _ _ _ _ _ (fun q => own_ad x4 dd hd (q.2.2.2.2.1.trans hy4)), own_eq_not _ _ _ _ _ _ _ _ _ _ _ _ (fun q => own_ad x4 dd hd (q.2.2.2.2.1.symm.trans hy4))⟩
    · rw [if_pos rfl] at hy5
      exact ⟨own_eq_not _ _ _ _ _ _ _ _ _ _ _ _ (fun q => own_ad x5 dd hd (q.2.2.2.2.2.trans hy5)), own_eq_not _ _ _ _ _ _ _ _ _ _ _ _ (fun q => own_ad x5 dd hd (q.2.2.2.2.2.symm.trans hy5))⟩
    · exact absurd rfl h6
    · exact absurd rfl h7
theorem own_eq_self (x0 x1 x2 x3 x4 x5 : Int32) : ¬ own_eq x0 x1 x2 x3 x4 x5 x0 x1 x2 x3 x4 x5 = 0 := by rw [own_eq_all _ _ _ _ _ _ _ _ _ _ _ _ ⟨rfl, rfl, rfl, rfl, rfl, rfl⟩]; decide
theorem own_pn0 : plainName "com/example/traversim/traversim/aodv/RrepEqualsPinLaw" = true := by first | (simp [plainName, overriddenIn]; done) | decide +kernel
theorem own_ef0 (m : MethodId) (ja : Int64) (jb : Int64) (jc : Int64) (kk : Int32) (dl : Int32) : entryFrame m #[(.long ja), (.long jb), (.long jc), (.int kk), (.int dl)] maxLocals = mkF m 0 #[.val (.long ja), .second, .val (.long jb), .second, .val (.long jc), .second, .val (.int kk), .val (.int dl), .unset, .unset, .unset, .unset, .unset, .unset, .unset, .unset, .unset, .unset, .unset, .unset, .unset, .unset, .unset, .unset, .unset, .unset] [] := by first | (simp [entryFrame, mkF, argsToLocals, Value.category, maxLocals]; done) | rfl
def own_Q0 (Z : State) (ja : Int64) (jb : Int64) (jc : Int64) (kk : Int32) (dl : Int32) (h0 : Heap) (n0 : Nat) (v : Option Value) (h : Heap) (L : List Loc) : Prop := (v = some (.int (1 : Int32))) ∧ (Fr n0 L)
set_option maxRecDepth 65536 in
set_option maxHeartbeats 40000000 in
theorem own_rm0 (l : Launch) (Z : State) (a0 : Array Value) (hw : ∀ d ∈ tables_1, d.before a0 Z = true) (ws : List Jvm.Cond) (ja : Int64) (jb : Int64) (jc : Int64) (kk : Int32) (dl : Int32) (h0 : Heap) (n0 : Nat) (Z0 : n0 ≤ h0.size)  :
    MetFree l x (head1 (Jvm.Cond.code x code maxLocals ret :: ws) room_1) (fun ar_ U_ => ar_ = #[(.long ja), (.long jb), (.long jc), (.int kk), (.int dl)] ∧ Z.Warmed39 U_.vm ∧ U_.heap = h0) (fun _ _ _ _ _ => True) (fun _ U_ o_ U_' => ∃ v_ L_, o_ = .returned v_ ∧ own_Q0 Z ja jb jc kk dl h0 n0 v_ U_'.heap L_ ∧ FrameEnd U_ o_ U_' L_ room_1.cells room_1.slots) := by
  refine MetFree.of_bodySF (plainFor_of_name own_pn0) hisR ?_
  intro p e s m args below meth c s₁ Bd hml0 hP hK
  obtain ⟨rfl, hZ, hh⟩ := hP
  have hx := Bd.exec
  have hby := Bd.bytes
  have hml : c.maxLocals = 26 := hml0
  have hown : s.vm.findClass "com/example/traversim/traversim/aodv/RrepEqualsPinLaw" = some m.cls := findClass_of_methodNamed Bd.named
  have hnm := (name_of_methodNamed Bd.named Bd.method).1
  have X0 : Stand p l e room_1 s m #[(.long ja), (.long jb), (.long jc), (.int kk), (.int dl)] below meth c s₁ [] 0 0 := Stand.of_body Bd
  have e0 : s₁.heap = h0 := by rw [← hh, Bd.state]; rfl
  have N0 := Fr.nil n0
  have pre0 : ∀ t, Steps p.tables e below (s₁.setTop (mkF m 0 #[.val (.long ja), .second, .val (.long jb), .second, .val (.long jc), .second, .val (.int kk), .val (.int dl), .unset, .unset, .unset, .unset, .unset, .unset, .unset, .unset, .unset, .unset, .unset, .unset, .unset, .unset, .unset, .unset, .unset, .unset] [])) t → Steps p.tables e below (s₁.setTop (entryFrame m #[(.long ja), (.long jb), (.long jc), (.int kk), (.int dl)] maxLocals)) t := fun t k => castTop (own_ef0 m ja jb jc kk dl) k
  have pre1 : ∀ t, Steps p.tables e below (s₁.setTop (mkF m 7 #[.val (.long ja), .second, .val (.long jb), .second, .val (.long jc), .second, .val (.int kk), .val (.int dl), .val (.int ((XT.ushrL ja (32 : Int32)).toInt32)), .unset, .unset, .unset, .unset, .unset, .unset, .unset, .unset, .unset, .unset, .unset, .unset, .unset, .unset, .unset, .unset, .unset] [])) t → Steps p.tables e below (s₁.setTop (entryFrame m #[(.long ja), (.long jb), (.long jc), (.int kk), (.int dl)] maxLocals)) t := fun t k => pre0 t (by
    show Steps p.tables e below (s₁.setTop (mkF m 0 #[.val (.long ja), .second, .val (.long jb), .second, .val (.long jc), .second, .val (.int kk), .val (.int dl), .unset, .unset, .unset, .unset, .unset, .unset, .unset, .unset, .unset, .unset, .unset, .unset, .unset, .unset, .unset, .unset, .unset, .unset] [])) _
    refine XT.lloadN X0.here hx rfl (hb hby at_0) rfl ?_
    show Steps p.tables e below (s₁.setTop (mkF m 1 #[.val (.long ja), .second, .val (.long jb), .second, .val (.long jc), .second, .val (.int kk), .val (.int dl), .unset, .unset, .unset, .unset, .unset, .unset, .unset, .unset, .unset, .unset, .unset, .unset, .unset, .unset, .unset, .unset, .unset, .unset] [(.long ja)])) _
    refine XT.bipushV X0.here hx rfl (32 : Int32) (hb hby at_1) rfl ?_
    show Steps p.tables e below (s₁.setTop (mkF m 3 #[.val (.long ja), .second, .val (.long jb), .second, .val (.long jc), .second, .val (.int kk), .val (.int dl), .unset, .unset, .unset, .unset, .unset, .unset, .unset, .unset, .unset, .unset, .unset, .unset, .unset, .unset, .unset, .unset, .unset, .unset] [(.int (32 : Int32)), (.long ja)])) _
    refine XT.lushr X0.here hx rfl (hb hby at_3) rfl ?_
    show Steps p.tables e below (s₁.setTop (mkF m 4 #[.val (.long ja), .second, .val (.long jb), .second, .val (.long jc), .second, .val (.int kk), .val (.int dl), .unset, .unset, .unset, .unset, .unset, .unset, .unset, .unset, .unset, .unset, .unset, .unset, .unset, .unset, .unset, .unset, .unset, .unset] [(.long (XT.ushrL ja (32 : Int32)))])) _
    refine XT.l2i X0.here hx rfl (hb hby at_4) rfl ?_
    show Steps p.tables e below (s₁.setTop (mkF m 5 #[.val (.long ja), .second, .val (.long jb), .second, .val (.long jc), .second, .val (.int kk), .val (.int dl), .unset, .unset, .unset, .unset, .unset, .unset, .unset, .unset, .unset, .unset, .unset, .unset, .unset, .unset, .unset, .unset, .unset, .unset] [(.int ((XT.ushrL ja (32 : Int32)).toInt32))])) _
    refine XS.istore X0.here hx rfl (hb hby at_5) rfl (l' := #[.val (.long ja), .second, .val (.long jb), .second, .val (.long jc), .second, .val (.int kk), .val (.int dl), .val (.int ((XT.ushrL ja (32 : Int32)).toInt32)), .unset, .unset, .unset, .unset, .unset, .unset, .unset, .unset, .unset, .unset, .unset, .unset, .unset, .unset, .unset, .unset, .unset]) rfl ?_
    exact k)
  obtain ⟨x0, q_x0⟩ : ∃ z : Int32, z = ((XT.ushrL ja (32 : Int32)).toInt32) := ⟨_, rfl⟩
  rw [← q_x0] at pre1
  have pre2 : ∀ t, Steps p.tables e below (s₁.setTop (mkF m 11 #[.val (.long ja), .second, .val (.long jb), .second, .val (.long jc), .second, .val (.int kk), .val (.int dl), .val (.int x0), .val (.int (ja.toInt32)), .unset, .unset, .unset, .unset, .unset, .unset, .unset, .unset, .unset, .unset, .unset, .unset, .unset, .unset, .unset, .unset] [])) t → Steps p.tables e below (s₁.setTop (entryFrame m #[(.long ja), (.long jb), (.long jc), (.int kk), (.int dl)] maxLocals)) t := fun t k => pre1 t (by
    show Steps p.tables e below (s₁.setTop (mkF m 7 #[.val (.long ja), .second, .val (.long jb), .second, .val (.long jc), .second, .val (.int kk), .val (.int dl), .val (.int x0), .unset, .unset, .unset, .unset, .unset, .unset, .unset, .unset, .unset, .unset, .unset, .unset, .unset, .unset, .unset, .unset, .unset] [])) _
    refine XT.lloadN X0.here hx rfl (hb hby at_7) rfl ?_
    show Steps p.tables e below (s₁.setTop (mkF m 8 #[.val (.long ja), .second, .val (.long jb), .second, .val (.long jc), .second, .val (.int kk), .val (.int dl), .val (.int x0), .unset, .unset, .unset, .unset, .unset, .unset, .unset, .unset, .unset, .unset, .unset, .unset, .unset, .unset, .unset, .unset, .unset] [(.long ja)])) _
    refine XT.l2i X0.here hx rfl (hb hby at_8) rfl ?_
    show Steps p.tables e below (s₁.setTop (mkF m 9 #[.val (.long ja), .second, .val (.long jb), .second, .val (.long jc), .second, .val (.int kk), .val (.int dl), .val (.int x0), .unset, .unset, .unset, .unset, .unset, .unset, .unset, .unset, .unset, .unset, .unset, .unset, .unset, .unset, .unset, .unset, .unset] [(.int (ja.toInt32))])) _
    refine XS.istore X0.here hx rfl (hb hby at_9) rfl (l' := #[.val (.long ja), .second, .val (.long jb), .second, .val (.long jc), .second, .val (.int kk), .val (.int dl), .val (.int x0), .val (.int (ja.toInt32)), .unset, .unset, .unset, .unset, .unset, .unset, .unset, .unset, .unset, .unset, .unset, .unset, .unset, .unset, .unset, .unset]) rfl ?_
    exact k)
  obtain ⟨x1, q_x1⟩ : ∃ z : Int32, z = (ja.toInt32) := ⟨_, rfl⟩
  rw [← q_x1] at pre2
  have pre3 : ∀ t, Steps p.tables e below (s₁.setTop (mkF m 18 #[.val (.long ja), .second, .val (.long jb), .second, .val (.long jc), .second, .val (.int kk), .val (.int dl), .val (.int x0), .val (.int x1), .val (.int ((XT.ushrL jb (32 : Int32)).toInt32)), .unset, .unset, .unset, .unset, .unset, .unset, .unset, .unset, .unset, .unset, .unset, .unset, .unset, .unset, .unset] [])) t → Steps p.tables e below (s₁.setTop (entryFrame m #[(.long ja), (.long jb), (.long jc), (.int kk), (.int dl)] maxLocals)) t := fun t k => pre2 t (by
    show Steps p.tables e below (s₁.setTop (mkF m 11 #[.val (.long ja), .second, .val (.long jb), .second, .val (.long jc), .second, .val (.int kk), .val (.int dl), .val (.int x0), .val (.int x1), .unset, .unset, .unset, .unset, .unset, .unset, .unset, .unset, .unset, .unset, .unset, .unset, .unset, .unset, .unset, .unset] [])) _
    refine XT.lloadN X0.here hx rfl (hb hby at_11) rfl ?_
    show Steps p.tables e below (s₁.setTop (mkF m 12 #[.val (.long ja), .second, .val (.long jb), .second, .val (.long jc), .second, .val (.int kk), .val (.int dl), .val (.int x0), .val (.int x1), .unset, .unset, .unset, .unset, .unset, .unset, .unset, .unset, .unset, .unset, .unset, .unset, .unset, .unset, .unset, .unset] [(.long jb)])) _
    refine XT.bipushV X0.here hx rfl (32 : Int32) (hb hby at_12) rfl ?_
    show Steps p.tables e below (s₁.setTop (mkF m 14 #[.val (.long ja), .second, .val (.long jb), .second, .val (.long jc), .second, .val (.int kk), .val (.int dl), .val (.int x0), .val (.int x1), .unset, .unset, .unset, .unset, .unset, .unset, .unset, .unset, .unset, .unset, .unset, .unset, .unset, .unset, .unset, .unset] [(.int (32 : Int32)), (.long jb)])) _
    refine XT.lushr X0.here hx rfl (hb hby at_14) rfl ?_
    show Steps p.tables e below (s₁.setTop (mkF m 15 #[.val (.long ja), .second, .val (.long jb), .second, .val (.long jc), .second, .val (.int kk), .val (.int dl), .val (.int x0), .val (.int x1), .unset, .unset, .unset, .unset, .unset, .unset, .unset, .unset, .unset, .unset, .unset, .unset, .unset, .unset, .unset, .unset] [(.long (XT.ushrL jb (32 : Int32)))])) _
    refine XT.l2i X0.here hx rfl (hb hby at_15) rfl ?_
    show Steps p.tables e below (s₁.setTop (mkF m 16 #[.val (.long ja), .second, .val (.long jb), .second, .val (.long jc), .second, .val (.int kk), .val (.int dl), .val (.int x0), .val (.int x1), .unset, .unset, .unset, .unset, .unset, .unset, .unset, .unset, .unset, .unset, .unset, .unset, .unset, .unset, .unset, .unset] [(.int ((XT.ushrL jb (32 : Int32)).toInt32))])) _
    refine XS.istore X0.here hx rfl (hb hby at_16) rfl (l' := #[.val (.long ja), .second, .val (.long jb), .second, .val (.long jc), .second, .val (.int kk), .val (.int dl), .val (.int x0), .val (.int x1), .val (.int ((XT.ushrL jb (32 : Int32)).toInt32)), .unset, .unset, .unset, .unset, .unset, .unset, .unset, .unset, .unset, .unset, .unset, .unset, .unset, .unset, .unset]) rfl ?_
    exact k)
  obtain ⟨x2, q_x2⟩ : ∃ z : Int32, z = ((XT.ushrL jb (32 : Int32)).toInt32) := ⟨_, rfl⟩
  rw [← q_x2] at pre3
  have pre4 : ∀ t, Steps p.tables e below (s₁.setTop (mkF m 22 #[.val (.long ja), .second, .val (.long jb), .second, .val (.long jc), .second, .val (.int kk), .val (.int dl), .val (.int x0), .val (.int x1), .val (.int x2), .val (.int (jb.toInt32)), .unset, .unset, .unset, .unset, .unset, .unset, .unset, .unset, .unset, .unset, .unset, .unset, .unset, .unset] [])) t → Steps p.tables e below (s₁.setTop (entryFrame m #[(.long ja), (.long jb), (.long jc), (.int kk), (.int dl)] maxLocals)) t := fun t k => pre3 t (by
    show Steps p.tables e below (s₁.setTop (mkF m 18 #[.val (.long ja), .second, .val (.long jb), .second, .val (.long jc), .second, .val (.int kk), .val (.int dl), .val (.int x0), .val (.int x1), .val (.int x2), .unset, .unset, .unset, .unset, .unset, .unset, .unset, .unset, .unset, .unset, .unset, .unset, .unset, .unset, .unset] [])) _
    refine XT.lloadN X0.here hx rfl (hb hby at_18) rfl ?_
    show Steps p.tables e below (s₁.setTop (mkF m 19 #[.val (.long ja), .second, .val (.long jb), .second, .val (.long jc), .second, .val (.int kk), .val (.int dl), .val (.int x0), .val (.int x1), .val (.int x2), .unset, .unset, .unset, .unset, .unset, .unset, .unset, .unset, .unset, .unset, .unset, .unset, .unset, .unset, .unset] [(.long jb)])) _
    refine XT.l2i X0.here hx rfl (hb hby at_19) rfl ?_
    show Steps p.tables e below (s₁.setTop (mkF m 20 #[.val (.long ja), .second, .val (.long jb), .second, .val (.long jc), .second, .val (.int kk), .val (.int dl), .val (.int x0), .val (.int x1), .val (.int x2), .unset, .unset, .unset, .unset, .unset, .unset, .unset, .unset, .unset, .unset, .unset, .unset, .unset, .unset, .unset] [(.int (jb.toInt32))])) _
    refine XS.istore X0.here hx rfl (hb hby at_20) rfl (l' := #[.val (.long ja), .second, .val (.long jb), .second, .val (.long jc), .second, .val (.int kk), .val (.int dl), .val (.int x0), .val (.int x1), .val (.int x2), .val (.int (jb.toInt32)), .unset, .unset, .unset, .unset, .unset, .unset, .unset, .unset, .unset, .unset, .unset, .unset, .unset, .unset]) rfl ?_
    exact k)
  obtain ⟨x3, q_x3⟩ : ∃ z : Int32, z = (jb.toInt32) := ⟨_, rfl⟩
  rw [← q_x3] at pre4
  have pre5 : ∀ t, Steps p.tables e below (s₁.setTop (mkF m 30 #[.val (.long ja), .second, .val (.long jb), .second, .val (.long jc), .second, .val (.int kk), .val (.int dl), .val (.int x0), .val (.int x1), .val (.int x2), .val (.int x3), .val (.int ((XT.ushrL jc (32 : Int32)).toInt32)), .unset, .unset, .unset, .unset, .unset, .unset, .unset, .unset, .unset, .unset, .unset, .unset, .unset] [])) t → Steps p.tables e below (s₁.setTop (entryFrame m #[(.long ja), (.long jb), (.long jc), (.int kk), (.int dl)] maxLocals)) t := fun t k => pre4 t (by
    show Steps p.tables e below (s₁.setTop (mkF m 22 #[.val (.long ja), .second, .val (.long jb), .second, .val (.long jc), .second, .val (.int kk), .val (.int dl), .val (.int x0), .val (.int x1), .val (.int x2), .val (.int x3), .unset, .unset, .unset, .unset, .unset, .unset, .unset, .unset, .unset, .unset, .unset, .unset, .unset, .unset] [])) _
    refine XT.lload X0.here hx rfl (hb hby at_22) rfl ?_
    show Steps p.tables e below (s₁.setTop (mkF m 24 #[.val (.long ja), .second, .val (.long jb), .second, .val (.long jc), .second, .val (.int kk), .val (.int dl), .val (.int x0), .val (.int x1), .val (.int x2), .val (.int x3), .unset, .unset, .unset, .unset, .unset, .unset, .unset, .unset, .unset, .unset, .unset, .unset, .unset, .unset] [(.long jc)])) _
    refine XT.bipushV X0.here hx rfl (32 : Int32) (hb hby at_24) rfl ?_
    show Steps p.tables e below (s₁.setTop (mkF m 26 #[.val (.long ja), .second, .val (.long jb), .second, .val (.long jc), .second, .val (.int kk), .val (.int dl), .val (.int x0), .val (.int x1), .val (.int x2), .val (.int x3), .unset, .unset, .unset, .unset, .unset, .unset, .unset, .unset, .unset, .unset, .unset, .unset, .unset, .unset] [(.int (32 : Int32)), (.long jc)])) _
    refine XT.lushr X0.here hx rfl (hb hby at_26) rfl ?_
    show Steps p.tables e below (s₁.setTop (mkF m 27 #[.val (.long ja), .second, .val (.long jb), .second, .val (.long jc), .second, .val (.int kk), .val (.int dl), .val (.int x0), .val (.int x1), .val (.int x2), .val (.int x3), .unset, .unset, .unset, .unset, .unset, .unset, .unset, .unset, .unset, .unset, .unset, .unset, .unset, .unset] [(.long (XT.ushrL jc (32 : Int32)))])) _
    refine XT.l2i X0.here hx rfl (hb hby at_27) rfl ?_
    show Steps p.tables e below (s₁.setTop (mkF m 28 #[.val (.long ja), .second, .val (.long jb), .second, .val (.long jc), .second, .val (.int kk), .val (.int dl), .val (.int x0), .val (.int x1), .val (.int x2), .val (.int x3), .unset, .unset, .unset, .unset, .unset, .unset, .unset, .unset, .unset, .unset, .unset, .unset, .unset, .unset] [(.int ((XT.ushrL jc (32 : Int32)).toInt32))])) _
    refine XS.istore X0.here hx rfl (hb hby at_28) rfl (l' := #[.val (.long ja), .second, .val (.long jb), .second, .val (.long jc), .second, .val (.int kk), .val (.int dl), .val (.int x0), .val (.int x1), .val (.int x2), .val (.int x3), .val (.int ((XT.ushrL jc (32 : Int32)).toInt32)), .unset, .unset, .unset, .unset, .unset, .unset, .unset, .unset, .unset, .unset, .unset, .unset, .unset]) rfl ?_
    exact k)
  obtain ⟨x4, q_x4⟩ : ∃ z : Int32, z = ((XT.ushrL jc (32 : Int32)).toInt32) := ⟨_, rfl⟩
  rw [← q_x4] at pre5
  have pre6 : ∀ t, Steps p.tables e below (s₁.setTop (mkF m 35 #[.val (.long ja), .second, .val (.long jb), .second, .val (.long jc), .second, .val (.int kk), .val (.int dl), .val (.int x0), .val (.int x1), .val (.int x2), .val (.int x3), .val (.int x4), .val (.int (jc.toInt32)), .unset, .unset, .unset, .unset, .unset, .unset, .unset, .unset, .unset, .unset, .unset, .unset] [])) t → Steps p.tables e below (s₁.setTop (entryFrame m #[(.long ja), (.long jb), (.long jc), (.int kk), (.int dl)] maxLocals)) t := fun t k => pre5 t (by
    show Steps p.tables e below (s₁.setTop (mkF m 30 #[.val (.long ja), .second, .val (.long jb), .second, .val (.long jc), .second, .val (.int kk), .val (.int dl), .val (.int x0), .val (.int x1), .val (.int x2), .val (.int x3), .val (.int x4), .unset, .unset, .unset, .unset, .unset, .unset, .unset, .unset, .unset, .unset, .unset, .unset, .unset] [])) _
    refine XT.lload X0.here hx rfl (hb hby at_30) rfl ?_
    show Steps p.tables e below (s₁.setTop (mkF m 32 #[.val (.long ja), .second, .val (.long jb), .second, .val (.long jc), .second, .val (.int kk), .val (.int dl), .val (.int x0), .val (.int x1), .val (.int x2), .val (.int x3), .val (.int x4), .unset, .unset, .unset, .unset, .unset, .unset, .unset, .unset, .unset, .unset, .unset, .unset, .unset] [(.long jc)])) _
    refine XT.l2i X0.here hx rfl (hb hby at_32) rfl ?_
    show Steps p.tables e below (s₁.setTop (mkF m 33 #[.val (.long ja), .second, .val (.long jb), .second, .val (.long jc), .second, .val (.int kk), .val (.int dl), .val (.int x0), .val (.int x1), .val (.int x2), .val (.int x3), .val (.int x4), .unset, .unset, .unset, .unset, .unset, .unset, .unset, .unset, .unset, .unset, .unset, .unset, .unset] [(.int (jc.toInt32))])) _
    refine XS.istore X0.here hx rfl (hb hby at_33) rfl (l' := #[.val (.long ja), .second, .val (.long jb), .second, .val (.long jc), .second, .val (.int kk), .val (.int dl), .val (.int x0), .val (.int x1), .val (.int x2), .val (.int x3), .val (.int x4), .val (.int (jc.toInt32)), .unset, .unset, .unset, .unset, .unset, .unset, .unset, .unset, .unset, .unset, .unset, .unset]) rfl ?_
    exact k)
  obtain ⟨x5, q_x5⟩ : ∃ z : Int32, z = (jc.toInt32) := ⟨_, rfl⟩
  rw [← q_x5] at pre6
  have pre7 : ∀ t, Steps p.tables e below (s₁.setTop (mkF m 42 #[.val (.long ja), .second, .val (.long jb), .second, .val (.long jc), .second, .val (.int kk), .val (.int dl), .val (.int x0), .val (.int x1), .val (.int x2), .val (.int x3), .val (.int x4), .val (.int x5), .val (.int (kk &&& (7 : Int32))), .unset, .unset, .unset, .unset, .unset, .unset, .unset, .unset, .unset, .unset, .unset] [])) t → Steps p.tables e below (s₁.setTop (entryFrame m #[(.long ja), (.long jb), (.long jc), (.int kk), (.int dl)] maxLocals)) t := fun t k => pre6 t (by
    show Steps p.tables e below (s₁.setTop (mkF m 35 #[.val (.long ja), .second, .val (.long jb), .second, .val (.long jc), .second, .val (.int kk), .val (.int dl), .val (.int x0), .val (.int x1), .val (.int x2), .val (.int x3), .val (.int x4), .val (.int x5), .unset, .unset, .unset, .unset, .unset, .unset, .unset, .unset, .unset, .unset, .unset, .unset] [])) _
    refine XS.iload X0.here hx rfl (hb hby at_35) rfl ?_
    show Steps p.tables e below (s₁.setTop (mkF m 37 #[.val (.long ja), .second, .val (.long jb), .second, .val (.long jc), .second, .val (.int kk), .val (.int dl), .val (.int x0), .val (.int x1), .val (.int x2), .val (.int x3), .val (.int x4), .val (.int x5), .unset, .unset, .unset, .unset, .unset, .unset, .unset, .unset, .unset, .unset, .unset, .unset] [(.int kk)])) _
    refine XT.bipushV X0.here hx rfl (7 : Int32) (hb hby at_37) rfl ?_
    show Steps p.tables e below (s₁.setTop (mkF m 39 #[.val (.long ja), .second, .val (.long jb), .second, .val (.long jc), .second, .val (.int kk), .val (.int dl), .val (.int x0), .val (.int x1), .val (.int x2), .val (.int x3), .val (.int x4), .val (.int x5), .unset, .unset, .unset, .unset, .unset, .unset, .unset, .unset, .unset, .unset, .unset, .unset] [(.int (7 : Int32)), (.int kk)])) _
    refine XS.iand X0.here hx rfl (hb hby at_39) rfl ?_
    show Steps p.tables e below (s₁.setTop (mkF m 40 #[.val (.long ja), .second, .val (.long jb), .second, .val (.long jc), .second, .val (.int kk), .val (.int dl), .val (.int x0), .val (.int x1), .val (.int x2), .val (.int x3), .val (.int x4), .val (.int x5), .unset, .unset, .unset, .unset, .unset, .unset, .unset, .unset, .unset, .unset, .unset, .unset] [(.int (kk &&& (7 : Int32)))])) _
    refine XS.istore X0.here hx rfl (hb hby at_40) rfl (l' := #[.val (.long ja), .second, .val (.long jb), .second, .val (.long jc), .second, .val (.int kk), .val (.int dl), .val (.int x0), .val (.int x1), .val (.int x2), .val (.int x3), .val (.int x4), .val (.int x5), .val (.int (kk &&& (7 : Int32))), .unset, .unset, .unset, .unset, .unset, .unset, .unset, .unset, .unset, .unset, .unset]) rfl ?_
    exact k)
  obtain ⟨fd, q_fd⟩ : ∃ z : Int32, z = (kk &&& (7 : Int32)) := ⟨_, rfl⟩
  rw [← q_fd] at pre7
  have pre8 : ∀ t, Steps p.tables e below (s₁.setTop (mkF m 53 #[.val (.long ja), .second, .val (.long jb), .second, .val (.long jc), .second, .val (.int kk), .val (.int dl), .val (.int x0), .val (.int x1), .val (.int x2), .val (.int x3), .val (.int x4), .val (.int x5), .val (.int fd), .unset, .unset, .unset, .unset, .unset, .unset, .unset, .unset, .unset, .unset, .unset] [(.int (if dl = 0 then (1 : Int32) else dl))])) t → Steps p.tables e below (s₁.setTop (entryFrame m #[(.long ja), (.long jb), (.long jc), (.int kk), (.int dl)] maxLocals)) t := fun t k => pre7 t (by
    show Steps p.tables e below (s₁.setTop (mkF m 42 #[.val (.long ja), .second, .val (.long jb), .second, .val (.long jc), .second, .val (.int kk), .val (.int dl), .val (.int x0), .val (.int x1), .val (.int x2), .val (.int x3), .val (.int x4), .val (.int x5), .val (.int fd), .unset, .unset, .unset, .unset, .unset, .unset, .unset, .unset, .unset, .unset, .unset] [])) _
    refine XS.iload X0.here hx rfl (hb hby at_42) rfl ?_
    by_cases hj44 : dl = 0
    · rw [if_pos hj44] at k
      show Steps p.tables e below (s₁.setTop (mkF m 44 #[.val (.long ja), .second, .val (.long jb), .second, .val (.long jc), .second, .val (.int kk), .val (.int dl), .val (.int x0), .val (.int x1), .val (.int x2), .val (.int x3), .val (.int x4), .val (.int x5), .val (.int fd), .unset, .unset, .unset, .unset, .unset, .unset, .unset, .unset, .unset, .unset, .unset] [(.int dl)])) _
      refine XS.ifNo X0.here hx rfl (hb hby at_44) rfl (XT.i0_ne_f hj44) ?_
      show Steps p.tables e below (s₁.setTop (mkF m 47 #[.val (.long ja), .second, .val (.long jb), .second, .val (.long jc), .second, .val (.int kk), .val (.int dl), .val (.int x0), .val (.int x1), .val (.int x2), .val (.int x3), .val (.int x4), .val (.int x5), .val (.int fd), .unset, .unset, .unset, .unset, .unset, .unset, .unset, .unset, .unset, .unset, .unset] [])) _
      refine XT.iconstV X0.here hx rfl (1 : Int32) (hb hby at_47) rfl ?_
      show Steps p.tables e below (s₁.setTop (mkF m 48 #[.val (.long ja), .second, .val (.long jb), .second, .val (.long jc), .second, .val (.int kk), .val (.int dl), .val (.int x0), .val (.int x1), .val (.int x2), .val (.int x3), .val (.int x4), .val (.int x5), .val (.int fd), .unset, .unset, .unset, .unset, .unset, .unset, .unset, .unset, .unset, .unset, .unset] [(.int (1 : Int32))])) _
      refine XS.goto X0.here hx rfl (pc0 := 48) (pc' := 53) rfl (hb hby at_48) (by decide) (by decide) ?_
      exact k
    · rw [if_neg hj44] at k
      show Steps p.tables e below (s₁.setTop (mkF m 44 #[.val (.long ja), .second, .val (.long jb), .second, .val (.long jc), .second, .val (.int kk), .val (.int dl), .val (.int x0), .val (.int x1), .val (.int x2), .val (.int x3), .val (.int x4), .val (.int x5), .val (.int fd), .unset, .unset, .unset, .unset, .unset, .unset, .unset, .unset, .unset, .unset, .unset] [(.int dl)])) _
      refine XS.ifYes X0.here hx rfl (pc0 := 44) (pc' := 51) rfl (hb hby at_44) rfl (XT.i0_ne_t hj44) (by decide) (by decide) ?_
      show Steps p.tables e below (s₁.setTop (mkF m 51 #[.val (.long ja), .second, .val (.long jb), .second, .val (.long jc), .second, .val (.int kk), .val (.int dl), .val (.int x0), .val (.int x1), .val (.int x2), .val (.int x3), .val (.int x4), .val (.int x5), .val (.int fd), .unset, .unset, .unset, .unset, .unset, .unset, .unset, .unset, .unset, .unset, .unset] [])) _
      refine XS.iload X0.here hx rfl (hb hby at_51) rfl ?_
      exact k)
  have pre9 : ∀ t, Steps p.tables e below (s₁.setTop (mkF m 55 #[.val (.long ja), .second, .val (.long jb), .second, .val (.long jc), .second, .val (.int kk), .val (.int dl), .val (.int x0), .val (.int x1), .val (.int x2), .val (.int x3), .val (.int x4), .val (.int x5), .val (.int fd), .val (.int (if dl = 0 then (1 : Int32) else dl)), .unset, .unset, .unset, .unset, .unset, .unset, .unset, .unset, .unset, .unset] [])) t → Steps p.tables e below (s₁.setTop (entryFrame m #[(.long ja), (.long jb), (.long jc), (.int kk), (.int dl)] maxLocals)) t := fun t k => pre8 t (by
    show Steps p.tables e below (s₁.setTop (mkF m 53 #[.val (.long ja), .second, .val (.long jb), .second, .val (.long jc), .second, .val (.int kk), .val (.int dl), .val (.int x0), .val (.int x1), .val (.int x2), .val (.int x3), .val (.int x4), .val (.int x5), .val (.int fd), .unset, .unset, .unset, .unset, .unset, .unset, .unset, .unset, .unset, .unset, .unset] [(.int (if dl = 0 then (1 : Int32) else dl))])) _
    refine XS.istore X0.here hx rfl (hb hby at_53) rfl (l' := #[.val (.long ja), .second, .val (.long jb), .second, .val (.long jc), .second, .val (.int kk), .val (.int dl), .val (.int x0), .val (.int x1), .val (.int x2), .val (.int x3), .val (.int x4), .val (.int x5), .val (.int fd), .val (.int (if dl = 0 then (1 : Int32) else dl)), .unset, .unset, .unset, .unset, .unset, .unset, .unset, .unset, .unset, .unset]) rfl ?_
    exact k)
  obtain ⟨dd, q_dd⟩ : ∃ z : Int32, z = (if dl = 0 then (1 : Int32) else dl) := ⟨_, rfl⟩
  rw [← q_dd] at pre9
  have hdd : ¬ dd = 0 := by rw [q_dd]; exact own_dnz dl
  have pre10 : ∀ t, Steps p.tables e below (s₁.setTop (mkF m 68 #[.val (.long ja), .second, .val (.long jb), .second, .val (.long jc), .second, .val (.int kk), .val (.int dl), .val (.int x0), .val (.int x1), .val (.int x2), .val (.int x3), .val (.int x4), .val (.int x5), .val (.int fd), .val (.int dd), .unset, .unset, .unset, .unset, .unset, .unset, .unset, .unset, .unset, .unset] [(.int (if fd = 0 then dd else (0 : Int32))), (.int x0)])) t → Steps p.tables e below (s₁.setTop (entryFrame m #[(.long ja), (.long jb), (.long jc), (.int kk), (.int dl)] maxLocals)) t := fun t k => pre9 t (by
    show Steps p.tables e below (s₁.setTop (mkF m 55 #[.val (.long ja), .second, .val (.long jb), .second, .val (.long jc), .second, .val (.int kk), .val (.int dl), .val (.int x0), .val (.int x1), .val (.int x2), .val (.int x3), .val (.int x4), .val (.int x5), .val (.int fd), .val (.int dd), .unset, .unset, .unset, .unset, .unset, .unset, .unset, .unset, .unset, .unset] [])) _
    refine XS.iload X0.here hx rfl (hb hby at_55) rfl ?_
    show Steps p.tables e below (s₁.setTop (mkF m 57 #[.val (.long ja), .second, .val (.long jb), .second, .val (.long jc), .second, .val (.int kk), .val (.int dl), .val (.int x0), .val (.int x1), .val (.int x2), .val (.int x3), .val (.int x4), .val (.int x5), .val (.int fd), .val (.int dd), .unset, .unset, .unset, .unset, .unset, .unset, .unset, .unset, .unset, .unset] [(.int x0)])) _
    refine XS.iload X0.here hx rfl (hb hby at_57) rfl ?_
    by_cases hj59 : fd = 0
    · rw [if_pos hj59] at k
      show Steps p.tables e below (s₁.setTop (mkF m 59 #[.val (.long ja), .second, .val (.long jb), .second, .val (.long jc), .second, .val (.int kk), .val (.int dl), .val (.int x0), .val (.int x1), .val (.int x2), .val (.int x3), .val (.int x4), .val (.int x5), .val (.int fd), .val (.int dd), .unset, .unset, .unset, .unset, .unset, .unset, .unset, .unset, .unset, .unset] [(.int fd), (.int x0)])) _
      refine XS.ifNo X0.here hx rfl (hb hby at_59) rfl (XT.i0_ne_f hj59) ?_
      show Steps p.tables e below (s₁.setTop (mkF m 62 #[.val (.long ja), .second, .val (.long jb), .second, .val (.long jc), .second, .val (.int kk), .val (.int dl), .val (.int x0), .val (.int x1), .val (.int x2), .val (.int x3), .val (.int x4), .val (.int x5), .val (.int fd), .val (.int dd), .unset, .unset, .unset, .unset, .unset, .unset, .unset, .unset, .unset, .unset] [(.int x0)])) _
      refine XS.iload X0.here hx rfl (hb hby at_62) rfl ?_
      show Steps p.tables e below (s₁.setTop (mkF m 64 #[.val (.long ja), .second, .val (.long jb), .second, .val (.long jc), .second, .val (.int kk), .val (.int dl), .val (.int x0), .val (.int x1), .val (.int x2), .val (.int x3), .val (.int x4), .val (.int x5), .val (.int fd), .val (.int dd), .unset, .unset, .unset, .unset, .unset, .unset, .unset, .unset, .unset, .unset] [(.int dd), (.int x0)])) _
      refine XS.goto X0.here hx rfl (pc0 := 64) (pc' := 68) rfl (hb hby at_64) (by decide) (by decide) ?_
      exact k
    · rw [if_neg hj59] at k
      show Steps p.tables e below (s₁.setTop (mkF m 59 #[.val (.long ja), .second, .val (.long jb), .second, .val (.long jc), .second, .val (.int kk), .val (.int dl), .val (.int x0), .val (.int x1), .val (.int x2), .val (.int x3), .val (.int x4), .val (.int x5), .val (.int fd), .val (.int dd), .unset, .unset, .unset, .unset, .unset, .unset, .unset, .unset, .unset, .unset] [(.int fd), (.int x0)])) _
      refine XS.ifYes X0.here hx rfl (pc0 := 59) (pc' := 67) rfl (hb hby at_59) rfl (XT.i0_ne_t hj59) (by decide) (by decide) ?_
      show Steps p.tables e below (s₁.setTop (mkF m 67 #[.val (.long ja), .second, .val (.long jb), .second, .val (.long jc), .second, .val (.int kk), .val (.int dl), .val (.int x0), .val (.int x1), .val (.int x2), .val (.int x3), .val (.int x4), .val (.int x5), .val (.int fd), .val (.int dd), .unset, .unset, .unset, .unset, .unset, .unset, .unset, .unset, .unset, .unset] [(.int x0)])) _
      refine XT.iconstV X0.here hx rfl (0 : Int32) (hb hby at_67) rfl ?_
      exact k)
  have pre11 : ∀ t, Steps p.tables e below (s₁.setTop (mkF m 71 #[.val (.long ja), .second, .val (.long jb), .second, .val (.long jc), .second, .val (.int kk), .val (.int dl), .val (.int x0), .val (.int x1), .val (.int x2), .val (.int x3), .val (.int x4), .val (.int x5), .val (.int fd), .val (.int dd), .val (.int (x0 + (if fd = 0 then dd else (0 : Int32)))), .unset, .unset, .unset, .unset, .unset, .unset, .unset, .unset, .unset] [])) t → Steps p.tables e below (s₁.setTop (entryFrame m #[(.long ja), (.long jb), (.long jc), (.int kk), (.int dl)] maxLocals)) t := fun t k => pre10 t (by
    show Steps p.tables e below (s₁.setTop (mkF m 68 #[.val (.long ja), .second, .val (.long jb), .second, .val (.long jc), .second, .val (.int kk), .val (.int dl), .val (.int x0), .val (.int x1), .val (.int x2), .val (.int x3), .val (.int x4), .val (.int x5), .val (.int fd), .val (.int dd), .unset, .unset, .unset, .unset, .unset, .unset, .unset, .unset, .unset, .unset] [(.int (if fd = 0 then dd else (0 : Int32))), (.int x0)])) _
    refine XS.iadd X0.here hx rfl (hb hby at_68) rfl ?_
    show Steps p.tables e below (s₁.setTop (mkF m 69 #[.val (.long ja), .second, .val (.long jb), .second, .val (.long jc), .second, .val (.int kk), .val (.int dl), .val (.int x0), .val (.int x1), .val (.int x2), .val (.int x3), .val (.int x4), .val (.int x5), .val (.int fd), .val (.int dd), .unset, .unset, .unset, .unset, .unset, .unset, .unset, .unset, .unset, .unset] [(.int (x0 + (if fd = 0 then dd else (0 : Int32))))])) _
    refine XS.istore X0.here hx rfl (hb hby at_69) rfl (l' := #[.val (.long ja), .second, .val (.long jb), .second, .val (.long jc), .second, .val (.int kk), .val (.int dl), .val (.int x0), .val (.int x1), .val (.int x2), .val (.int x3), .val (.int x4), .val (.int x5), .val (.int fd), .val (.int dd), .val (.int (x0 + (if fd = 0 then dd else (0 : Int32)))), .unset, .unset, .unset, .unset, .unset, .unset, .unset, .unset, .unset]) rfl ?_
    exact k)
  obtain ⟨y0, q_y0⟩ : ∃ z : Int32, z = (x0 + (if fd = 0 then dd else (0 : Int32))) := ⟨_, rfl⟩
  rw [← q_y0] at pre11
  have pre12 : ∀ t, Steps p.tables e below (s₁.setTop (mkF m 85 #[.val (.long ja), .second, .val (.long jb), .second, .val (.long jc), .second, .val (.int kk), .val (.int dl), .val (.int x0), .val (.int x1), .val (.int x2), .val (.int x3), .val (.int x4), .val (.int x5), .val (.int fd), .val (.int dd), .val (.int y0), .unset, .unset, .unset, .unset, .unset, .unset, .unset, .unset, .unset] [(.int (if fd = (1 : Int32) then dd else (0 : Int32))), (.int x1)])) t → Steps p.tables e below (s₁.setTop (entryFrame m #[(.long ja), (.long jb), (.long jc), (.int kk), (.int dl)] maxLocals)) t := fun t k => pre11 t (by
    show Steps p.tables e below (s₁.setTop (mkF m 71 #[.val (.long ja), .second, .val (.long jb), .second, .val (.long jc), .second, .val (.int kk), .val (.int dl), .val (.int x0), .val (.int x1), .val (.int x2), .val (.int x3), .val (.int x4), .val (.int x5), .val (.int fd), .val (.int dd), .val (.int y0), .unset, .unset, .unset, .unset, .unset, .unset, .unset, .unset, .unset] [])) _
    refine XS.iload X0.here hx rfl (hb hby at_71) rfl ?_
    show Steps p.tables e below (s₁.setTop (mkF m 73 #[.val (.long ja), .second, .val (.long jb), .second, .val (.long jc), .second, .val (.int kk), .val (.int dl), .val (.int x0), .val (.int x1), .val (.int x2), .val (.int x3), .val (.int x4), .val (.int x5), .val (.int fd), .val (.int dd), .val (.int y0), .unset, .unset, .unset, .unset, .unset, .unset, .unset, .unset, .unset] [(.int x1)])) _
    refine XS.iload X0.here hx rfl (hb hby at_73) rfl ?_
    show Steps p.tables e below (s₁.setTop (mkF m 75 #[.val (.long ja), .second, .val (.long jb), .second, .val (.long jc), .second, .val (.int kk), .val (.int dl), .val (.int x0), .val (.int x1), .val (.int x2), .val (.int x3), .val (.int x4), .val (.int x5), .val (.int fd), .val (.int dd), .val (.int y0), .unset, .unset, .unset, .unset, .unset, .unset, .unset, .unset, .unset] [(.int fd), (.int x1)])) _
    refine XT.iconstV X0.here hx rfl (1 : Int32) (hb hby at_75) rfl ?_
    by_cases hj76 : fd = (1 : Int32)
    · rw [if_pos hj76] at k
      show Steps p.tables e below (s₁.setTop (mkF m 76 #[.val (.long ja), .second, .val (.long jb), .second, .val (.long jc), .second, .val (.int kk), .val (.int dl), .val (.int x0), .val (.int x1), .val (.int x2), .val (.int x3), .val (.int x4), .val (.int x5), .val (.int fd), .val (.int dd), .val (.int y0), .unset, .unset, .unset, .unset, .unset, .unset, .unset, .unset, .unset] [(.int (1 : Int32)), (.int fd), (.int x1)])) _
      refine XS.icmpNo X0.here hx rfl (hb hby at_76) rfl (XT.ii_ne_f hj76) ?_
      show Steps p.tables e below (s₁.setTop (mkF m 79 #[.val (.long ja), .second, .val (.long jb), .second, .val (.long jc), .second, .val (.int kk), .val (.int dl), .val (.int x0), .val (.int x1), .val (.int x2), .val (.int x3), .val (.int x4), .val (.int x5), .val (.int fd), .val (.int dd), .val (.int y0), .unset, .unset, .unset, .unset, .unset, .unset, .unset, .unset, .unset] [(.int x1)])) _
      refine XS.iload X0.here hx rfl (hb hby at_79) rfl ?_
      show Steps p.tables e below (s₁.setTop (mkF m 81 #[.val (.long ja), .second, .val (.long jb), .second, .val (.long jc), .second, .val (.int kk), .val (.int dl), .val (.int x0), .val (.int x1), .val (.int x2), .val (.int x3), .val (.int x4), .val (.int x5), .val (.int fd), .val (.int dd), .val (.int y0), .unset, .unset, .unset, .unset, .unset, .unset, .unset, .unset, .unset] [(.int dd), (.int x1)])) _
      refine XS.goto X0.here hx rfl (pc0 := 81) (pc' := 85) rfl (hb hby at_81) (by decide) (by decide) ?_
      exact k
    · rw [if_neg hj76] at k
      show Steps p.tables e below (s₁.setTop (mkF m 76 #[.val (.long ja), .second, .val (.long jb), .second, .val (.long jc), .second, .val (.int kk), .val (.int dl), .val (.int x0), .val (.int x1), .val (.int x2), .val (.int x3), .val (.int x4), .val (.int x5), .val (.int fd), .val (.int dd), .val (.int y0), .unset, .unset, .unset, .unset, .unset, .unset, .unset, .unset, .unset] [(.int (1 : Int32)), (.int fd), (.int x1)])) _
      refine XS.icmpYes X0.here hx rfl (pc0 := 76) (pc' := 84) rfl (hb hby at_76) rfl (XT.ii_ne_t hj76) (by decide) (by decide) ?_
      show Steps p.tables e below (s₁.setTop (mkF m 84 #[.val (.long ja), .second, .val (.long jb), .second, .val (.long jc), .second, .val (.int kk), .val (.int dl), .val (.int x0), .val (.int x1), .val (.int x2), .val (.int x3), .val (.int x4), .val (.int x5), .val (.int fd), .val (.int dd), .val (.int y0), .unset, .unset, .unset, .unset, .unset, .unset, .unset, .unset, .unset] [(.int x1)])) _
      refine XT.iconstV X0.here hx rfl (0 : Int32) (hb hby at_84) rfl ?_
      exact k)
  have pre13 : ∀ t, Steps p.tables e below (s₁.setTop (mkF m 88 #[.val (.long ja), .second, .val (.long jb), .second, .val (.long jc), .second, .val (.int kk), .val (.int dl), .val (.int x0), .val (.int x1), .val (.int x2), .val (.int x3), .val (.int x4), .val (.int x5), .val (.int fd), .val (.int dd), .val (.int y0), .val (.int (x1 + (if fd = (1 : Int32) then dd else (0 : Int32)))), .unset, .unset, .unset, .unset, .unset, .unset, .unset, .unset] [])) t → Steps p.tables e below (s₁.setTop (entryFrame m #[(.long ja), (.long jb), (.long jc), (.int kk), (.int dl)] maxLocals)) t := fun t k => pre12 t (by
    show Steps p.tables e below (s₁.setTop (mkF m 85 #[.val (.long ja), .second, .val (.long jb), .second, .val (.long jc), .second, .val (.int kk), .val (.int dl), .val (.int x0), .val (.int x1), .val (.int x2), .val (.int x3), .val (.int x4), .val (.int x5), .val (.int fd), .val (.int dd), .val (.int y0), .unset, .unset, .unset, .unset, .unset, .unset, .unset, .unset, .unset] [(.int (if fd = (1 : Int32) then dd else (0 : Int32))), (.int x1)])) _
    refine XS.iadd X0.here hx rfl (hb hby at_85) rfl ?_
    show Steps p.tables e below (s₁.setTop (mkF m 86 #[.val (.long ja), .second, .val (.long jb), .second, .val (.long jc), .second, .val (.int kk), .val (.int dl), .val (.int x0), .val (.int x1), .val (.int x2), .val (.int x3), .val (.int x4), .val (.int x5), .val (.int fd), .val (.int dd), .val (.int y0), .unset, .unset, .unset, .unset, .unset, .unset, .unset, .unset, .unset] [(.int (x1 + (if fd = (1 : Int32) then dd else (0 : Int32))))])) _
    refine XS.istore X0.here hx rfl (hb hby at_86) rfl (l' := #[.val (.long ja), .second, .val (.long jb), .second, .val (.long jc), .second, .val (.int kk), .val (.int dl), .val (.int x0), .val (.int x1), .val (.int x2), .val (.int x3), .val (.int x4), .val (.int x5), .val (.int fd), .val (.int dd), .val (.int y0), .val (.int (x1 + (if fd = (1 : Int32) then dd else (0 : Int32)))), .unset, .unset, .unset, .unset, .unset, .unset, .unset, .unset]) rfl ?_
    exact k)
  obtain ⟨y1, q_y1⟩ : ∃ z : Int32, z = (x1 + (if fd = (1 : Int32) then dd else (0 : Int32))) := ⟨_, rfl⟩
  rw [← q_y1] at pre13
  have pre14 : ∀ t, Steps p.tables e below (s₁.setTop (mkF m 102 #[.val (.long ja), .second, .val (.long jb), .second, .val (.long jc), .second, .val (.int kk), .val (.int dl), .val (.int x0), .val (.int x1), .val (.int x2), .val (.int x3), .val (.int x4), .val (.int x5), .val (.int fd), .val (.int dd), .val (.int y0), .val (.int y1), .unset, .unset, .unset, .unset, .unset, .unset, .unset, .unset] [(.int (if fd = (2 : Int32) then dd else (0 : Int32))), (.int x2)])) t → Steps p.tables e below (s₁.setTop (entryFrame m #[(.long ja), (.long jb), (.long jc), (.int kk), (.int dl)] maxLocals)) t := fun t k => pre13 t (by
    show Steps p.tables e below (s₁.setTop (mkF m 88 #[.val (.long ja), .second, .val (.long jb), .second, .val (.long jc), .second, .val (.int kk), .val (.int dl), .val (.int x0), .val (.int x1), .val (.int x2), .val (.int x3), .val (.int x4), .val (.int x5), .val (.int fd), .val (.int dd), .val (.int y0), .val (.int y1), .unset, .unset, .unset, .unset, .unset, .unset, .unset, .unset] [])) _
    refine XS.iload X0.here hx rfl (hb hby at_88) rfl ?_
    show Steps p.tables e below (s₁.setTop (mkF m 90 #[.val (.long ja), .second, .val (.long jb), .second, .val (.long jc), .second, .val (.int kk), .val (.int dl), .val (.int x0), .val (.int x1), .val (.int x2), .val (.int x3), .val (.int x4), .val (.int x5), .val (.int fd), .val (.int dd), .val (.int y0), .val (.int y1), .unset, .unset, .unset, .unset, .unset, .unset, .unset, .unset] [(.int x2)])) _
    refine XS.iload X0.here hx rfl (hb hby at_90) rfl ?_
    show Steps p.tables e below (s₁.setTop (mkF m 92 #[.val (.long ja), .second, .val (.long jb), .second, .val (.long jc), .second, .val (.int kk), .val (.int dl), .val (.int x0), .val (.int x1), .val (.int x2), .val (.int x3), .val (.int x4), .val (.int x5), .val (.int fd), .val (.int dd), .val (.int y0), .val (.int y1), .unset, .unset, .unset, .unset, .unset, .unset, .unset, .unset] [(.int fd), (.int x2)])) _
    refine XT.iconstV X0.here hx rfl (2 : Int32) (hb hby at_92) rfl ?_
    by_cases hj93 : fd = (2 : Int32)
    · rw [if_pos hj93] at k
      show Steps p.tables e below (s₁.setTop (mkF m 93 #[.val (.long ja), .second, .val (.long jb), .second, .val (.long jc), .second, .val (.int kk), .val (.int dl), .val (.int x0), .val (.int x1), .val (.int x2), .val (.int x3), .val (.int x4), .val (.int x5), .val (.int fd), .val (.int dd), .val (.int y0), .val (.int y1), .unset, .unset, .unset, .unset, .unset, .unset, .unset, .unset] [(.int (2 : Int32)), (.int fd), (.int x2)])) _
      refine XS.icmpNo X0.here hx rfl (hb hby at_93) rfl (XT.ii_ne_f hj93) ?_
      show Steps p.tables e below (s₁.setTop (mkF m 96 #[.val (.long ja), .second, .val (.long jb), .second, .val (.long jc), .second, .val (.int kk), .val (.int dl), .val (.int x0), .val (.int x1), .val (.int x2), .val (.int x3), .val (.int x4), .val (.int x5), .val (.int fd), .val (.int dd), .val (.int y0), .val (.int y1), .unset, .unset, .unset, .unset, .unset, .unset, .unset, .unset] [(.int x2)])) _
      refine XS.iload X0.here hx rfl (hb hby at_96) rfl ?_
      show Steps p.tables e below (s₁.setTop (mkF m 98 #[.val (.long ja), .second, .val (.long jb), .second, .val (.long jc), .second, .val (.int kk), .val (.int dl), .val (.int x0), .val (.int x1), .val (.int x2), .val (.int x3), .val (.int x4), .val (.int x5), .val (.int fd), .val (.int dd), .val (.int y0), .val (.int y1), .unset, .unset, .unset, .unset, .unset, .unset, .unset, .unset] [(.int dd), (.int x2)])) _
      refine XS.goto X0.here hx rfl (pc0 := 98) (pc' := 102) rfl (hb hby at_98) (by decide) (by decide) ?_
      exact k
    · rw [if_neg hj93] at k
      show Steps p.tables e below (s₁.setTop (mkF m 93 #[.val (.long ja), .second, .val (.long jb), .second, .val (.long jc), .second, .val (.int kk), .val (.int dl), .val (.int x0), .val (.int x1), .val (.int x2), .val (.int x3), .val (.int x4), .val (.int x5), .val (.int fd), .val (.int dd), .val (.int y0), .val (.int y1), .unset, .unset, .unset, .unset, .unset, .unset, .unset, .unset] [(.int (2 : Int32)), (.int fd), (.int x2)])) _
      refine XS.icmpYes X0.here hx rfl (pc0 := 93) (pc' := 101) rfl (hb hby at_93) rfl (XT.ii_ne_t hj93) (by decide) (by decide) ?_
      show Steps p.tables e below (s₁.setTop (mkF m 101 #[.val (.long ja), .second, .val (.long jb), .second, .val (.long jc), .second, .val (.int kk), .val (.int dl), .val (.int x0), .val (.int x1), .val (.int x2), .val (.int x3), .val (.int x4), .val (.int x5), .val (.int fd), .val (.int dd), .val (.int y0), .val (.int y1), .unset, .unset, .unset, .unset, .unset, .unset, .unset, .unset] [(.int x2)])) _
      refine XT.iconstV X0.here hx rfl (0 : Int32) (hb hby at_101) rfl ?_
      exact k)
  have pre15 : ∀ t, Steps p.tables e below (s₁.setTop (mkF m 105 #[.val (.long ja), .second, .val (.long jb), .second, .val (.long jc), .second, .val (.int kk), .val (.int dl), .val (.int x0), .val (.int x1), .val (.int x2), .val (.int x3), .val (.int x4), .val (.int x5), .val (.int fd), .val (.int dd), .val (.int y0), .val (.int y1), .val (.int (x2 + (if fd = (2 : Int32) then dd else (0 : Int32)))), .unset, .unset, .unset, .unset, .unset, .unset, .unset] [])) t → Steps p.tables e below (s₁.setTop (entryFrame m #[(.long ja), (.long jb), (.long jc), (.int kk), (.int dl)] maxLocals)) t := fun t k => pre14 t (by
    show Steps p.tables e below (s₁.setTop (mkF m 102 #[.val (.long ja), .second, .val (.long jb), .second, .val (.long jc), .second, .val (.int kk), .val (.int dl), .val (.int x0), .val (.int x1), .val (.int x2), .val (.int x3), .val (.int x4), .val (.int x5), .val (.int fd), .val (.int dd), .val (.int y0), .val (.int y1), .unset, .unset, .unset, .unset, .unset, .unset, .unset, .unset] [(.int (if fd = (2 : Int32) then dd else (0 : Int32))), (.int x2)])) _
    refine XS.iadd X0.here hx rfl (hb hby at_102) rfl ?_
    show Steps p.tables e below (s₁.setTop (mkF m 103 #[.val (.long ja), .second, .val (.long jb), .second, .val (.long jc), .second, .val (.int kk), .val (.int dl), .val (.int x0), .val (.int x1), .val (.int x2), .val (.int x3), .val (.int x4), .val (.int x5), .val (.int fd), .val (.int dd), .val (.int y0), .val (.int y1), .unset, .unset, .unset, .unset, .unset, .unset, .unset, .unset] [(.int (x2 + (if fd = (2 : Int32) then dd else (0 : Int32))))])) _
    refine XS.istore X0.here hx rfl (hb hby at_103) rfl (l' := #[.val (.long ja), .second, .val (.long jb), .second, .val (.long jc), .second, .val (.int kk), .val (.int dl), .val (.int x0), .val (.int x1), .val (.int x2), .val (.int x3), .val (.int x4), .val (.int x5), .val (.int fd), .val (.int dd), .val (.int y0), .val (.int y1), .val (.int (x2 + (if fd = (2 : Int32) then dd else (0 : Int32)))), .unset, .unset, .unset, .unset, .unset, .unset, .unset]) rfl ?_
    exact k)
  obtain ⟨y2, q_y2⟩ : ∃ z : Int32, z = (x2 + (if fd = (2 : Int32) then dd else (0 : Int32))) := ⟨_, rfl⟩
  rw [← q_y2] at pre15
  have pre16 : ∀ t, Steps p.tables e below (s₁.setTop (mkF m 119 #[.val (.long ja), .second, .val (.long jb), .second, .val (.long jc), .second, .val (.int kk), .val (.int dl), .val (.int x0), .val (.int x1), .val (.int x2), .val (.int x3), .val (.int x4), .val (.int x5), .val (.int fd), .val (.int dd), .val (.int y0), .val (.int y1), .val (.int y2), .unset, .unset, .unset, .unset, .unset, .unset, .unset] [(.int (if fd = (3 : Int32) then dd else (0 : Int32))), (.int x3)])) t → Steps p.tables e below (s₁.setTop (entryFrame m #[(.long ja), (.long jb), (.long jc), (.int kk), (.int dl)] maxLocals)) t := fun t k => pre15 t (by
    show Steps p.tables e below (s₁.setTop (mkF m 105 #[.val (.long ja), .second, .val (.long jb), .second, .val (.long jc), .second, .val (.int kk), .val (.int dl), .val (.int x0), .val (.int x1), .val (.int x2), .val (.int x3), .val (.int x4), .val (.int x5), .val (.int fd), .val (.int dd), .val (.int y0), .val (.int y1), .val (.int y2), .unset, .unset, .unset, .unset, .unset, .unset, .unset] [])) _
    refine XS.iload X0.here hx rfl (hb hby at_105) rfl ?_
    show Steps p.tables e below (s₁.setTop (mkF m 107 #[.val (.long ja), .second, .val (.long jb), .second, .val (.long jc), .second, .val (.int kk), .val (.int dl), .val (.int x0), .val (.int x1), .val (.int x2), .val (.int x3), .val (.int x4), .val (.int x5), .val (.int fd), .val (.int dd), .val (.int y0), .val (.int y1), .val (.int y2), .unset, .unset, .unset, .unset, .unset, .unset, .unset] [(.int x3)])) _
    refine XS.iload X0.here hx rfl (hb hby at_107) rfl ?_
    show Steps p.tables e below (s₁.setTop (mkF m 109 #[.val (.long ja), .second, .val (.long jb), .second, .val (.long jc), .second, .val (.int kk), .val (.int dl), .val (.int x0), .val (.int x1), .val (.int x2), .val (.int x3), .val (.int x4), .val (.int x5), .val (.int fd), .val (.int dd), .val (.int y0), .val (.int y1), .val (.int y2), .unset, .unset, .unset, .unset, .unset, .unset, .unset] [(.int fd), (.int x3)])) _
    refine XT.iconstV X0.here hx rfl (3 : Int32) (hb hby at_109) rfl ?_
    by_cases hj110 : fd = (3 : Int32)
    · rw [if_pos hj110] at k
      show Steps p.tables e below (s₁.setTop (mkF m 110 #[.val (.long ja), .second, .val (.long jb), .second, .val (.long jc), .second, .val (.int kk), .val (.int dl), .val (.int x0), .val (.int x1), .val (.int x2), .val (.int x3), .val (.int x4), .val (.int x5), .val (.int fd), .val (.int dd), .val (.int y0), .val (.int y1), .val (.int y2), .unset, .unset, .unset, .unset, .unset, .unset, .unset] [(.int (3 : Int32)), (.int fd), (.int x3)])) _
      refine XS.icmpNo X0.here hx rfl (hb hby at_110) rfl (XT.ii_ne_f hj110) ?_
      show Steps p.tables e below (s₁.setTop (mkF m 113 #[.val (.long ja), .second, .val (.long jb), .second, .val (.long jc), .second, .val (.int kk), .val (.int dl), .val (.int x0), .val (.int x1), .val (.int x2), .val (.int x3), .val (.int x4), .val (.int x5), .val (.int fd), .val (.int dd), .val (.int y0), .val (.int y1), .val (.int y2), .unset, .unset, .unset, .unset, .unset, .unset, .unset] [(.int x3)])) _
      refine XS.iload X0.here hx rfl (hb hby at_113) rfl ?_
      show Steps p.tables e below (s₁.setTop (mkF m 115 #[.val (.long ja), .second, .val (.long jb), .second, .val (.long jc), .second, .val (.int kk), .val (.int dl), .val (.int x0), .val (.int x1), .val (.int x2), .val (.int x3), .val (.int x4), .val (.int x5), .val (.int fd), .val (.int dd), .val (.int y0), .val (.int y1), .val (.int y2), .unset, .unset, .unset, .unset, .unset, .unset, .unset] [(.int dd), (.int x3)])) _
      refine XS.goto X0.here hx rfl (pc0 := 115) (pc' := 119) rfl (hb hby at_115) (by decide) (by decide) ?_
      exact k
    · rw [if_neg hj110] at k
      show Steps p.tables e below (s₁.setTop (mkF m 110 #[.val (.long ja), .second, .val (.long jb), .second, .val (.long jc), .second, .val (.int kk), .val (.int dl), .val (.int x0), .val (.int x1), .val (.int x2), .val (.int x3), .val (.int x4), .val (.int x5), .val (.int fd), .val (.int dd), .val (.int y0), .val (.int y1), .val (.int y2), .unset, .unset, .unset, .unset, .unset, .unset, .unset] [(.int (3 : Int32)), (.int fd), (.int x3)])) _
      refine XS.icmpYes X0.here hx rfl (pc0 := 110) (pc' := 118) rfl (hb hby at_110) rfl (XT.ii_ne_t hj110) (by decide) (by decide) ?_
      show Steps p.tables e below (s₁.setTop (mkF m 118 #[.val (.long ja), .second, .val (.long jb), .second, .val (.long jc), .second, .val (.int kk), .val (.int dl), .val (.int x0), .val (.int x1), .val (.int x2), .val (.int x3), .val (.int x4), .val (.int x5), .val (.int fd), .val (.int dd), .val (.int y0), .val (.int y1), .val (.int y2), .unset, .unset, .unset, .unset, .unset, .unset, .unset] [(.int x3)])) _
      refine XT.iconstV X0.here hx rfl (0 : Int32) (hb hby at_118) rfl ?_
      exact k)
  have pre17 : ∀ t, Steps p.tables e below (s₁.setTop (mkF m 122 #[.val (.long ja), .second, .val (.long jb), .second, .val (.long jc), .second, .val (.int kk), .val (.int dl), .val (.int x0), .val (.int x1), .val (.int x2), .val (.int x3), .val (.int x4), .val (.int x5), .val (.int fd), .val (.int dd), .val (.int y0), .val (.int y1), .val (.int y2), .val (.int (x3 + (if fd = (3 : Int32) then dd else (0 : Int32)))), .unset, .unset, .unset, .unset, .unset, .unset] [])) t → Steps p.tables e below (s₁.setTop (entryFrame m #[(.long ja), (.long jb), (.long jc), (.int kk), (.int dl)] maxLocals)) t := fun t k => pre16 t (by
    show Steps p.tables e below (s₁.setTop (mkF m 119 #[.val (.long ja), .second, .val (.long jb), .second, .val (.long jc), .second, .val (.int kk), .val (.int dl), .val (.int x0), .val (.int x1), .val (.int x2), .val (.int x3), .val (.int x4), .val (.int x5), .val (.int fd), .val (.int dd), .val (.int y0), .val (.int y1), .val (.int y2), .unset, .unset, .unset, .unset, .unset, .unset, .unset] [(.int (if fd = (3 : Int32) then dd else (0 : Int32))), (.int x3)])) _
    refine XS.iadd X0.here hx rfl (hb hby at_119) rfl ?_
    show Steps p.tables e below (s₁.setTop (mkF m 120 #[.val (.long ja), .second, .val (.long jb), .second, .val (.long jc), .second, .val (.int kk), .val (.int dl), .val (.int x0), .val (.int x1), .val (.int x2), .val (.int x3), .val (.int x4), .val (.int x5), .val (.int fd), .val (.int dd), .val (.int y0), .val (.int y1), .val (.int y2), .unset, .unset, .unset, .unset, .unset, .unset, .unset] [(.int (x3 + (if fd = (3 : Int32) then dd else (0 : Int32))))])) _
    refine XS.istore X0.here hx rfl (hb hby at_120) rfl (l' := #[.val (.long ja), .second, .val (.long jb), .second, .val (.long jc), .second, .val (.int kk), .val (.int dl), .val (.int x0), .val (.int x1), .val (.int x2), .val (.int x3), .val (.int x4), .val (.int x5), .val (.int fd), .val (.int dd), .val (.int y0), .val (.int y1), .val (.int y2), .val (.int (x3 + (if fd = (3 : Int32) then dd else (0 : Int32)))), .unset, .unset, .unset, .unset, .unset, .unset]) rfl ?_
    exact k)
  obtain ⟨y3, q_y3⟩ : ∃ z : Int32, z = (x3 + (if fd = (3 : Int32) then dd else (0 : Int32))) := ⟨_, rfl⟩
  rw [← q_y3] at pre17
  have pre18 : ∀ t, Steps p.tables e below (s₁.setTop (mkF m 136 #[.val (.long ja), .second, .val (.long jb), .second, .val (.long jc), .second, .val (.int kk), .val (.int dl), .val (.int x0), .val (.int x1), .val (.int x2), .val (.int x3), .val (.int x4), .val (.int x5), .val (.int fd), .val (.int dd), .val (.int y0), .val (.int y1), .val (.int y2), .val (.int y3), .unset, .unset, .unset, .unset, .unset, .unset] [(.int (if fd = (4 : Int32) then dd else (0 : Int32))), (.int x4)])) t → Steps p.tables e below (s₁.setTop (entryFrame m #[(.long ja), (.long jb), (.long jc), (.int kk), (.int dl)] maxLocals)) t := fun t k => pre17 t (by
    show Steps p.tables e below (s₁.setTop (mkF m 122 #[.val (.long ja), .second, .val (.long jb), .second, .val (.long jc), .second, .val (.int kk), .val (.int dl), .val (.int x0), .val (.int x1), .val (.int x2), .val (.int x3), .val (.int x4), .val (.int x5), .val (.int fd), .val (.int dd), .val (.int y0), .val (.int y1), .val (.int y2), .val (.int y3), .unset, .unset, .unset, .unset, .unset, .unset] [])) _
    refine XS.iload X0.here hx rfl (hb hby at_122) rfl ?_
    show Steps p.tables e below (s₁.setTop (mkF m 124 #[.val (.long ja), .second, .val (.long jb), .second, .val (.long jc), .second, .val (.int kk), .val (.int dl), .val (.int x0), .val (.int x1), .val (.int x2), .val (.int x3), .val (.int x4), .val (.int x5), .val (.int fd), .val (.int dd), .val (.int y0), .val (.int y1), .val (.int y2), .val (.int y3), .unset, .unset, .unset, .unset, .unset, .unset] [(.int x4)])) _
    refine XS.iload X0.here hx rfl (hb hby at_124) rfl ?_
    show Steps p.tables e below (s₁.setTop (mkF m 126 #[.val (.long ja), .second, .val (.long jb), .second, .val (.long jc), .second, .val (.int kk), .val (.int dl), .val (.int x0), .val (.int x1), .val (.int x2), .val (.int x3), .val (.int x4), .val (.int x5), .val (.int fd), .val (.int dd), .val (.int y0), .val (.int y1), .val (.int y2), .val (.int y3), .unset, .unset, .unset, .unset, .unset, .unset] [(.int fd), (.int x4)])) _
    refine XT.iconstV X0.here hx rfl (4 : Int32) (hb hby at_126) rfl ?_
    by_cases hj127 : fd = (4 : Int32)
    · rw [if_pos hj127] at k
      show Steps p.tables e below (s₁.setTop (mkF m 127 #[.val (.long ja), .second, .val (.long jb), .second, .val (.long jc), .second, .val (.int kk), .val (.int dl), .val (.int x0), .val (.int x1), .val (.int x2), .val (.int x3), .val (.int x4), .val (.int x5), .val (.int fd), .val (.int dd), .val (.int y0), .val (.int y1), .val (.int y2), .val (.int y3), .unset, .unset, .unset, .unset, .unset, .unset] [(.int (4 : Int32)), (.int fd), (.int x4)])) _
      refine XS.icmpNo X0.here hx rfl (hb hby at_127) rfl (XT.ii_ne_f hj127) ?_
      show Steps p.tables e below (s₁.setTop (mkF m 130 #[.val (.long ja), .second, .val (.long jb), .second, .val (.long jc), .second, .val (.int kk), .val (.int dl), .val (.int x0), .val (.int x1), .val (.int x2), .val (.int x3), .val (.int x4), .val (.int x5), .val (.int fd), .val (.int dd), .val (.int y0), .val (.int y1), .val (.int y2), .val (.int y3), .unset, .unset, .unset, .unset, .unset, .unset] [(.int x4)])) _
      refine XS.iload X0.here hx rfl (hb hby at_130) rfl ?_
      show Steps p.tables e below (s₁.setTop (mkF m 132 #[.val (.long ja), .second, .val (.long jb), .second, .val (.long jc), .second, .val (.int kk), .val (.int dl), .val (.int x0), .val (.int x1), .val (.int x2), .val (.int x3), .val (.int x4), .val (.int x5), .val (.int fd), .val (.int dd), .val (.int y0), .val (.int y1), .val (.int y2), .val (.int y3), .unset, .unset, .unset, .unset, .unset, .unset] [(.int dd), (.int x4)])) _
      refine XS.goto X0.here hx rfl (pc0 := 132) (pc' := 136) rfl (hb hby at_132) (by decide) (by decide) ?_
      exact k
    · rw [if_neg hj127] at k
      show Steps p.tables e below (s₁.setTop (mkF m 127 #[.val (.long ja), .second, .val (.long jb), .second, .val (.long jc), .second, .val (.int kk), .val (.int dl), .val (.int x0), .val (.int x1), .val (.int x2), .val (.int x3), .val (.int x4), .val (.int x5), .val (.int fd), .val (.int dd), .val (.int y0), .val (.int y1), .val (.int y2), .val (.int y3), .unset, .unset, .unset, .unset, .unset, .unset] [(.int (4 : Int32)), (.int fd), (.int x4)])) _
      refine XS.icmpYes X0.here hx rfl (pc0 := 127) (pc' := 135) rfl (hb hby at_127) rfl (XT.ii_ne_t hj127) (by decide) (by decide) ?_
      show Steps p.tables e below (s₁.setTop (mkF m 135 #[.val (.long ja), .second, .val (.long jb), .second, .val (.long jc), .second, .val (.int kk), .val (.int dl), .val (.int x0), .val (.int x1), .val (.int x2), .val (.int x3), .val (.int x4), .val (.int x5), .val (.int fd), .val (.int dd), .val (.int y0), .val (.int y1), .val (.int y2), .val (.int y3), .unset, .unset, .unset, .unset, .unset, .unset] [(.int x4)])) _
      refine XT.iconstV X0.here hx rfl (0 : Int32) (hb hby at_135) rfl ?_
      exact k)
  have pre19 : ∀ t, Steps p.tables e below (s₁.setTop (mkF m 139 #[.val (.long ja), .second, .val (.long jb), .second, .val (.long jc), .second, .val (.int kk), .val (.int dl), .val (.int x0), .val (.int x1), .val (.int x2), .val (.int x3), .val (.int x4), .val (.int x5), .val (.int fd), .val (.int dd), .val (.int y0), .val (.int y1), .val (.int y2), .val (.int y3), .val (.int (x4 + (if fd = (4 : Int32) then dd else (0 : Int32)))), .unset, .unset, .unset, .unset, .unset] [])) t → Steps p.tables e below (s₁.setTop (entryFrame m #[(.long ja), (.long jb), (.long jc), (.int kk), (.int dl)] maxLocals)) t := fun t k => pre18 t (by
    show Steps p.tables e below (s₁.setTop (mkF m 136 #[.val (.long ja), .second, .val (.long jb), .second, .val (.long jc), .second, .val (.int kk), .val (.int dl), .val (.int x0), .val (.int x1), .val (.int x2), .val (.int x3), .val (.int x4), .val (.int x5), .val (.int fd), .val (.int dd), .val (.int y0), .val (.int y1), .val (.int y2), .val (.int y3), .unset, .unset, .unset, .unset, .unset, .unset] [(.int (if fd = (4 : Int32) then dd else (0 : Int32))), (.int x4)])) _
    refine XS.iadd X0.here hx rfl (hb hby at_136) rfl ?_
    show Steps p.tables e below (s₁.setTop (mkF m 137 #[.val (.long ja), .second, .val (.long jb), .second, .val (.long jc), .second, .val (.int kk), .val (.int dl), .val (.int x0), .val (.int x1), .val (.int x2), .val (.int x3), .val (.int x4), .val (.int x5), .val (.int fd), .val (.int dd), .val (.int y0), .val (.int y1), .val (.int y2), .val (.int y3), .unset, .unset, .unset, .unset, .unset, .unset] [(.int (x4 + (if fd = (4 : Int32) then dd else (0 : Int32))))])) _
    refine XS.istore X0.here hx rfl (hb hby at_137) rfl (l' := #[.val (.long ja), .second, .val (.long jb), .second, .val (.long jc), .second, .val (.int kk), .val (.int dl), .val (.int x0), .val (.int x1), .val (.int x2), .val (.int x3), .val (.int x4), .val (.int x5), .val (.int fd), .val (.int dd), .val (.int y0), .val (.int y1), .val (.int y2), .val (.int y3), .val (.int (x4 + (if fd = (4 : Int32) then dd else (0 : Int32)))), .unset, .unset, .unset, .unset, .unset]) rfl ?_
    exact k)
  obtain ⟨y4, q_y4⟩ : ∃ z : Int32, z = (x4 + (if fd = (4 : Int32) then dd else (0 : Int32))) := ⟨_, rfl⟩
  rw [← q_y4] at pre19
  have pre20 : ∀ t, Steps p.tables e below (s₁.setTop (mkF m 153 #[.val (.long ja), .second, .val (.long jb), .second, .val (.long jc), .second, .val (.int kk), .val (.int dl), .val (.int x0), .val (.int x1), .val (.int x2), .val (.int x3), .val (.int x4), .val (.int x5), .val (.int fd), .val (.int dd), .val (.int y0), .val (.int y1), .val (.int y2), .val (.int y3), .val (.int y4), .unset, .unset, .unset, .unset, .unset] [(.int (if fd = (5 : Int32) then dd else (0 : Int32))), (.int x5)])) t → Steps p.tables e below (s₁.setTop (entryFrame m #[(.long ja), (.long jb), (.long jc), (.int kk), (.int dl)] maxLocals)) t := fun t k => pre19 t (by
    show Steps p.tables e below (s₁.setTop (mkF m 139 #[.val (.long ja), .second, .val (.long jb), .second, .val (.long jc), .second, .val (.int kk), .val (.int dl), .val (.int x0), .val (.int x1), .val (.int x2), .val (.int x3), .val (.int x4), .val (.int x5), .val (.int fd), .val (.int dd), .val (.int y0), .val (.int y1), .val (.int y2), .val (.int y3), .val (.int y4), .unset, .unset, .unset, .unset, .unset] [])) _
    refine XS.iload X0.here hx rfl (hb hby at_139) rfl ?_
    show Steps p.tables e below (s₁.setTop (mkF m 141 #[.val (.long ja), .second, .val (.long jb), .second, .val (.long jc), .second, .val (.int kk), .val (.int dl), .val (.int x0), .val (.int x1), .val (.int x2), .val (.int x3), .val (.int x4), .val (.int x5), .val (.int fd), .val (.int dd), .val (.int y0), .val (.int y1), .val (.int y2), .val (.int y3), .val (.int y4), .unset, .unset, .unset, .unset, .unset] [(.int x5)])) _
    refine XS.iload X0.here hx rfl (hb hby at_141) rfl ?_
    show Steps p.tables e below (s₁.setTop (mkF m 143 #[.val (.long ja), .second, .val (.long jb), .second, .val (.long jc), .second, .val (.int kk), .val (.int dl), .val (.int x0), .val (.int x1), .val (.int x2), .val (.int x3), .val (.int x4), .val (.int x5), .val (.int fd), .val (.int dd), .val (.int y0), .val (.int y1), .val (.int y2), .val (.int y3), .val (.int y4), .unset, .unset, .unset, .unset, .unset] [(.int fd), (.int x5)])) _
    refine XT.iconstV X0.here hx rfl (5 : Int32) (hb hby at_143) rfl ?_
    by_cases hj144 : fd = (5 : Int32)
    · rw [if_pos hj144] at k
      show Steps p.tables e below (s₁.setTop (mkF m 144 #[.val (.long ja), .second, .val (.long jb), .second, .val (.long jc), .second, .val (.int kk), .val (.int dl), .val (.int x0), .val (.int x1), .val (.int x2), .val (.int x3), .val (.int x4), .val (.int x5), .val (.int fd), .val (.int dd), .val (.int y0), .val (.int y1), .val (.int y2), .val (.int y3), .val (.int y4), .unset, .unset, .unset, .unset, .unset] [(.int (5 : Int32)), (.int fd), (.int x5)])) _
      refine XS.icmpNo X0.here hx rfl (hb hby at_144) rfl (XT.ii_ne_f hj144) ?_
      show Steps p.tables e below (s₁.setTop (mkF m 147 #[.val (.long ja), .second, .val (.long jb), .second, .val (.long jc), .second, .val (.int kk), .val (.int dl), .val (.int x0), .val (.int x1), .val (.int x2), .val (.int x3), .val (.int x4), .val (.int x5), .val (.int fd), .val (.int dd), .val (.int y0), .val (.int y1), .val (.int y2), .val (.int y3), .val (.int y4), .unset, .unset, .unset, .unset, .unset] [(.int x5)])) _
      refine XS.iload X0.here hx rfl (hb hby at_147) rfl ?_
      show Steps p.tables e below (s₁.setTop (mkF m 149 #[.val (.long ja), .second, .val (.long jb), .second, .val (.long jc), .second, .val (.int kk), .val (.int dl), .val (.int x0), .val (.int x1), .val (.int x2), .val (.int x3), .val (.int x4), .val (.int x5), .val (.int fd), .val (.int dd), .val (.int y0), .val (.int y1), .val (.int y2), .val (.int y3), .val (.int y4), .unset, .unset, .unset, .unset, .unset] [(.int dd), (.int x5)])) _
      refine XS.goto X0.here hx rfl (pc0 := 149) (pc' := 153) rfl (hb hby at_149) (by decide) (by decide) ?_
      exact k
    · rw [if_neg hj144] at k
      show Steps p.tables e below (s₁.setTop (mkF m 144 #[.val (.long ja), .second, .val (.long jb), .second, .val (.long jc), .second, .val (.int kk), .val (.int dl), .val (.int x0), .val (.int x1), .val (.int x2), .val (.int x3), .val (.int x4), .val (.int x5), .val (.int fd), .val (.int dd), .val (.int y0), .val (.int y1), .val (.int y2), .val (.int y3), .val (.int y4), .unset, .unset, .unset, .unset, .unset] [(.int (5 : Int32)), (.int fd), (.int x5)])) _
      refine XS.icmpYes X0.here hx rfl (pc0 := 144) (pc' := 152) rfl (hb hby at_144) rfl (XT.ii_ne_t hj144) (by decide) (by decide) ?_
      show Steps p.tables e below (s₁.setTop (mkF m 152 #[.val (.long ja), .second, .val (.long jb), .second, .val (.long jc), .second, .val (.int kk), .val (.int dl), .val (.int x0), .val (.int x1), .val (.int x2), .val (.int x3), .val (.int x4), .val (.int x5), .val (.int fd), .val (.int dd), .val (.int y0), .val (.int y1), .val (.int y2), .val (.int y3), .val (.int y4), .unset, .unset, .unset, .unset, .unset] [(.int x5)])) _
      refine XT.iconstV X0.here hx rfl (0 : Int32) (hb hby at_152) rfl ?_
      exact k)
  have pre21 : ∀ t, Steps p.tables e below (s₁.setTop (mkF m 156 #[.val (.long ja), .second, .val (.long jb), .second, .val (.long jc), .second, .val (.int kk), .val (.int dl), .val (.int x0), .val (.int x1), .val (.int x2), .val (.int x3), .val (.int x4), .val (.int x5), .val (.int fd), .val (.int dd), .val (.int y0), .val (.int y1), .val (.int y2), .val (.int y3), .val (.int y4), .val (.int (x5 + (if fd = (5 : Int32) then dd else (0 : Int32)))), .unset, .unset, .unset, .unset] [])) t → Steps p.tables e below (s₁.setTop (entryFrame m #[(.long ja), (.long jb), (.long jc), (.int kk), (.int dl)] maxLocals)) t := fun t k => pre20 t (by
    show Steps p.tables e below (s₁.setTop (mkF m 153 #[.val (.long ja), .second, .val (.long jb), .second, .val (.long jc), .second, .val (.int kk), .val (.int dl), .val (.int x0), .val (.int x1), .val (.int x2), .val (.int x3), .val (.int x4), .val (.int x5), .val (.int fd), .val (.int dd), .val (.int y0), .val (.int y1), .val (.int y2), .val (.int y3), .val (.int y4), .unset, .unset, .unset, .unset, .unset] [(.int (if fd = (5 : Int32) then dd else (0 : Int32))), (.int x5)])) _
    refine XS.iadd X0.here hx rfl (hb hby at_153) rfl ?_
    show Steps p.tables e below (s₁.setTop (mkF m 154 #[.val (.long ja), .second, .val (.long jb), .second, .val (.long jc), .second, .val (.int kk), .val (.int dl), .val (.int x0), .val (.int x1), .val (.int x2), .val (.int x3), .val (.int x4), .val (.int x5), .val (.int fd), .val (.int dd), .val (.int y0), .val (.int y1), .val (.int y2), .val (.int y3), .val (.int y4), .unset, .unset, .unset, .unset, .unset] [(.int (x5 + (if fd = (5 : Int32) then dd else (0 : Int32))))])) _
    refine XS.istore X0.here hx rfl (hb hby at_154) rfl (l' := #[.val (.long ja), .second, .val (.long jb), .second, .val (.long jc), .second, .val (.int kk), .val (.int dl), .val (.int x0), .val (.int x1), .val (.int x2), .val (.int x3), .val (.int x4), .val (.int x5), .val (.int fd), .val (.int dd), .val (.int y0), .val (.int y1), .val (.int y2), .val (.int y3), .val (.int y4), .val (.int (x5 + (if fd = (5 : Int32) then dd else (0 : Int32)))), .unset, .unset, .unset, .unset]) rfl ?_
    exact k)
  obtain ⟨y5, q_y5⟩ : ∃ z : Int32, z = (x5 + (if fd = (5 : Int32) then dd else (0 : Int32))) := ⟨_, rfl⟩
  rw [← q_y5] at pre21
  obtain ⟨T22, h22, X22, e22, E22, A22, D22, -, st22⟩ := newO X0 hx hZ hown (hw _ (List.mem_of_getElem? (i := 0) rfl)) (hw _ (List.mem_of_getElem? (i := 1) rfl)) (hw _ (List.mem_of_getElem? (i := 2) rfl)) e0 (g := (mkF m 156 #[.val (.long ja), .second, .val (.long jb), .second, .val (.long jc), .second, .val (.int kk), .val (.int dl), .val (.int x0), .val (.int x1), .val (.int x2), .val (.int x3), .val (.int x4), .val (.int x5), .val (.int fd), .val (.int dd), .val (.int y0), .val (.int y1), .val (.int y2), .val (.int y3), .val (.int y4), .val (.int y5), .unset, .unset, .unset, .unset] [])) rfl (hb hby at_156) (by decide) (by decide)
  obtain ⟨ob22, g22⟩ : ∃ z, z = h0.size := ⟨_, rfl⟩
  rw [← g22] at A22 D22 st22
  have sz22 : n0 ≤ h22.size := Nat.le_trans Z0 E22.1
  have gn_ob22 : n0 ≤ ob22 := Nat.le_trans Z0 (Nat.le_of_eq g22.symm)
  have bo_ob22 : h0.size ≤ ob22 := Nat.le_trans (Keep.refl h0 []).1 (Nat.le_of_eq g22.symm)
  have K22 : Keep h0 h22 [] := (Keep.refl h0 []).ext E22
  have F0_from_ob22 : Fld Z h22 ob22 "com/example/traversim/traversim/aodv/Packet$Rrep" "from" "I" (.int (0 : Int32)) := D22 (Or.inr (hw _ (List.mem_of_getElem? (i := 15) rfl))) (ty := .int) (by decide)
  have F0_to_ob22 : Fld Z h22 ob22 "com/example/traversim/traversim/aodv/Packet$Rrep" "to" "I" (.int (0 : Int32)) := D22 (Or.inr (hw _ (List.mem_of_getElem? (i := 17) rfl))) (ty := .int) (by decide)
  have F0_orig_ob22 : Fld Z h22 ob22 "com/example/traversim/traversim/aodv/Packet$Rrep" "orig" "I" (.int (0 : Int32)) := D22 (Or.inr (hw _ (List.mem_of_getElem? (i := 19) rfl))) (ty := .int) (by decide)
  have F0_dst_ob22 : Fld Z h22 ob22 "com/example/traversim/traversim/aodv/Packet$Rrep" "dst" "I" (.int (0 : Int32)) := D22 (Or.inr (hw _ (List.mem_of_getElem? (i := 21) rfl))) (ty := .int) (by decide)
  have F0_seqno_ob22 : Fld Z h22 ob22 "com/example/traversim/traversim/aodv/Packet$Rrep" "seqno" "I" (.int (0 : Int32)) := D22 (Or.inr (hw _ (List.mem_of_getElem? (i := 23) rfl))) (ty := .int) (by decide)
  have F0_hops_ob22 : Fld Z h22 ob22 "com/example/traversim/traversim/aodv/Packet$Rrep" "hops" "I" (.int (0 : Int32)) := D22 (Or.inr (hw _ (List.mem_of_getElem? (i := 25) rfl))) (ty := .int) (by decide)
  obtain ⟨_, _, ⟨T23, tL23, tk23, tn23⟩, -, X23, ⟨Lc23, hQ23, tl23, ty23, tz23⟩, st23⟩ := X22.specialBack hx (y := (⟨"com/example/traversim/traversim/aodv/Packet$Rrep", "<init>", "(IIIIII)V"⟩ : MethodName)) rfl hown (mvT hZ (hw _ (List.mem_of_getElem? (i := 3) rfl))) (mvT hZ (hw _ (List.mem_of_getElem? (i := 4) rfl))) (mvT hZ (hw _ (List.mem_of_getElem? (i := 5) rfl))) (by decide) (backOf (W := 1) (own_rm1 l Z a0 hw [] ob22 x0 x1 x2 x3 x4 x5 ((.int (0 : Int32)) : Value) ((.int (0 : Int32)) : Value) ((.int (0 : Int32)) : Value) ((.int (0 : Int32)) : Value) ((.int (0 : Int32)) : Value) ((.int (0 : Int32)) : Value) h22 n0 sz22 A22 F0_from_ob22 F0_to_ob22 F0_orig_ob22 F0_dst_ob22 F0_seqno_ob22 F0_hops_ob22 gn_ob22) hZ (hw _ (List.mem_of_getElem? (i := 5) rfl)) (hw _ (List.mem_of_getElem? (i := 2) rfl)) (by decide) (by decide)) (g := (mkF m 172 #[.val (.long ja), .second, .val (.long jb), .second, .val (.long jc), .second, .val (.int kk), .val (.int dl), .val (.int x0), .val (.int x1), .val (.int x2), .val (.int x3), .val (.int x4), .val (.int x5), .val (.int fd), .val (.int dd), .val (.int y0), .val (.int y1), .val (.int y2), .val (.int y3), .val (.int y4), .val (.int y5), .unset, .unset, .unset, .unset] [(.int x5), (.int x4), (.int x3), (.int x2), (.int x1), (.int x0), (.ref ob22), (.ref ob22)])) rfl (by rw [hml]; rfl) (Steps.refl _) (a := ob22) (argsL := [(.int x0), (.int x1), (.int x2), (.int x3), (.int x4), (.int x5)]) (rest := [(.ref ob22)]) (lenOf own_pd1 rfl) rfl (by show 2 * 0 + _ ≤ _; exact Nat.le_of_eq rfl) (hb hby at_172) (fun _ _ => ⟨rfl, e22, (by decide : 1 + 0 ≤ _), (by decide : 6 + 0 ≤ _)⟩)
  dsimp only [Pt.U, Pt.locs, Pt.cells, Pt.slots] at X23 tl23 ty23 tz23 st23 hQ23
  rw [tl23, ty23, tz23] at X23
  obtain ⟨rfl, Nq23, K23, Fa23_E_a1, Fa23_F_a1_from, Fa23_F_a1_to, Fa23_F_a1_orig, Fa23_F_a1_dst, Fa23_F_a1_seqno, Fa23_F_a1_hops⟩ := hQ23
  have N23 := Fr.app N0 Nq23
  have sz23 : n0 ≤ T23.heap.size := Nat.le_trans sz22 K23.1
  have KK23 : Keep h0 T23.heap [] := K22.trans K23 (allS (Or.inr bo_ob22) all0)
  have pre24 : ∀ t, Steps p.tables e below (T23.setTop (mkF m 181 #[.val (.long ja), .second, .val (.long jb), .second, .val (.long jc), .second, .val (.int kk), .val (.int dl), .val (.int x0), .val (.int x1), .val (.int x2), .val (.int x3), .val (.int x4), .val (.int x5), .val (.int fd), .val (.int dd), .val (.int y0), .val (.int y1), .val (.int y2), .val (.int y3), .val (.int y4), .val (.int y5), .val (.ref ob22), .unset, .unset, .unset] [(.int (7 : Int32)), (.int fd)])) t → Steps p.tables e below (s₁.setTop (entryFrame m #[(.long ja), (.long jb), (.long jc), (.int kk), (.int dl)] maxLocals)) t := fun t k => pre21 t (by
    show Steps p.tables e below (s₁.setTop (mkF m 156 #[.val (.long ja), .second, .val (.long jb), .second, .val (.long jc), .second, .val (.int kk), .val (.int dl), .val (.int x0), .val (.int x1), .val (.int x2), .val (.int x3), .val (.int x4), .val (.int x5), .val (.int fd), .val (.int dd), .val (.int y0), .val (.int y1), .val (.int y2), .val (.int y3), .val (.int y4), .val (.int y5), .unset, .unset, .unset, .unset] [])) _
    refine st22 _ ?_
    show Steps p.tables e below (T22.setTop (mkF m 159 #[.val (.long ja), .second, .val (.long jb), .second, .val (.long jc), .second, .val (.int kk), .val (.int dl), .val (.int x0), .val (.int x1), .val (.int x2), .val (.int x3), .val (.int x4), .val (.int x5), .val (.int fd), .val (.int dd), .val (.int y0), .val (.int y1), .val (.int y2), .val (.int y3), .val (.int y4), .val (.int y5), .unset, .unset, .unset, .unset] [(.ref ob22)])) _
    refine XS.dup X22.here hx rfl (hb hby at_159) rfl rfl ?_
    show Steps p.tables e below (T22.setTop (mkF m 160 #[.val (.long ja), .second, .val (.long jb), .second, .val (.long jc), .second, .val (.int kk), .val (.int dl), .val (.int x0), .val (.int x1), .val (.int x2), .val (.int x3), .val (.int x4), .val (.int x5), .val (.int fd), .val (.int dd), .val (.int y0), .val (.int y1), .val (.int y2), .val (.int y3), .val (.int y4), .val (.int y5), .unset, .unset, .unset, .unset] [(.ref ob22), (.ref ob22)])) _
    refine XS.iload X22.here hx rfl (hb hby at_160) rfl ?_
    show Steps p.tables e below (T22.setTop (mkF m 162 #[.val (.long ja), .second, .val (.long jb), .second, .val (.long jc), .second, .val (.int kk), .val (.int dl), .val (.int x0), .val (.int x1), .val (.int x2), .val (.int x3), .val (.int x4), .val (.int x5), .val (.int fd), .val (.int dd), .val (.int y0), .val (.int y1), .val (.int y2), .val (.int y3), .val (.int y4), .val (.int y5), .unset, .unset, .unset, .unset] [(.int x0), (.ref ob22), (.ref ob22)])) _
    refine XS.iload X22.here hx rfl (hb hby at_162) rfl ?_
    show Steps p.tables e below (T22.setTop (mkF m 164 #[.val (.long ja), .second, .val (.long jb), .second, .val (.long jc), .second, .val (.int kk), .val (.int dl), .val (.int x0), .val (.int x1), .val (.int x2), .val (.int x3), .val (.int x4), .val (.int x5), .val (.int fd), .val (.int dd), .val (.int y0), .val (.int y1), .val (.int y2), .val (.int y3), .val (.int y4), .val (.int y5), .unset, .unset, .unset, .unset] [(.int x1), (.int x0), (.ref ob22), (.ref ob22)])) _
    refine XS.iload X22.here hx rfl (hb hby at_164) rfl ?_
    show Steps p.tables e below (T22.setTop (mkF m 166 #[.val (.long ja), .second, .val (.long jb), .second, .val (.long jc), .second, .val (.int kk), .val (.int dl), .val (.int x0), .val (.int x1), .val (.int x2), .val (.int x3), .val (.int x4), .val (.int x5), .val (.int fd), .val (.int dd), .val (.int y0), .val (.int y1), .val (.int y2), .val (.int y3), .val (.int y4), .val (.int y5), .unset, .unset, .unset, .unset] [(.int x2), (.int x1), (.int x0), (.ref ob22), (.ref ob22)])) _
    refine XS.iload X22.here hx rfl (hb hby at_166) rfl ?_
    show Steps p.tables e below (T22.setTop (mkF m 168 #[.val (.long ja), .second, .val (.long jb), .second, .val (.long jc), .second, .val (.int kk), .val (.int dl), .val (.int x0), .val (.int x1), .val (.int x2), .val (.int x3), .val (.int x4), .val (.int x5), .val (.int fd), .val (.int dd), .val (.int y0), .val (.int y1), .val (.int y2), .val (.int y3), .val (.int y4), .val (.int y5), .unset, .unset, .unset, .unset] [(.int x3), (.int x2), (.int x1), (.int x0), (.ref ob22), (.ref ob22)])) _
    refine XS.iload X22.here hx rfl (hb hby at_168) rfl ?_
    show Steps p.tables e below (T22.setTop (mkF m 170 #[.val (.long ja), .second, .val (.long jb), .second, .val (.long jc), .second, .val (.int kk), .val (.int dl), .val (.int x0), .val (.int x1), .val (.int x2), .val (.int x3), .val (.int x4), .val (.int x5), .val (.int fd), .val (.int dd), .val (.int y0), .val (.int y1), .val (.int y2), .val (.int y3), .val (.int y4), .val (.int y5), .unset, .unset, .unset, .unset] [(.int x4), (.int x3), (.int x2), (.int x1), (.int x0), (.ref ob22), (.ref ob22)])) _
    refine XS.iload X22.here hx rfl (hb hby at_170) rfl ?_
    show Steps p.tables e below (T22.setTop (mkF m 172 #[.val (.long ja), .second, .val (.long jb), .second, .val (.long jc), .second, .val (.int kk), .val (.int dl), .val (.int x0), .val (.int x1), .val (.int x2), .val (.int x3), .val (.int x4), .val (.int x5), .val (.int fd), .val (.int dd), .val (.int y0), .val (.int y1), .val (.int y2), .val (.int y3), .val (.int y4), .val (.int y5), .unset, .unset, .unset, .unset] [(.int x5), (.int x4), (.int x3), (.int x2), (.int x1), (.int x0), (.ref ob22), (.ref ob22)])) _
    refine st23.trans ?_
    show Steps p.tables e below (T23.setTop (mkF m 175 #[.val (.long ja), .second, .val (.long jb), .second, .val (.long jc), .second, .val (.int kk), .val (.int dl), .val (.int x0), .val (.int x1), .val (.int x2), .val (.int x3), .val (.int x4), .val (.int x5), .val (.int fd), .val (.int dd), .val (.int y0), .val (.int y1), .val (.int y2), .val (.int y3), .val (.int y4), .val (.int y5), .unset, .unset, .unset, .unset] [(.ref ob22)])) _
    refine XS.astore X23.here hx rfl (hb hby at_175) rfl rfl (l' := #[.val (.long ja), .second, .val (.long jb), .second, .val (.long jc), .second, .val (.int kk), .val (.int dl), .val (.int x0), .val (.int x1), .val (.int x2), .val (.int x3), .val (.int x4), .val (.int x5), .val (.int fd), .val (.int dd), .val (.int y0), .val (.int y1), .val (.int y2), .val (.int y3), .val (.int y4), .val (.int y5), .val (.ref ob22), .unset, .unset, .unset]) rfl ?_
    show Steps p.tables e below (T23.setTop (mkF m 177 #[.val (.long ja), .second, .val (.long jb), .second, .val (.long jc), .second, .val (.int kk), .val (.int dl), .val (.int x0), .val (.int x1), .val (.int x2), .val (.int x3), .val (.int x4), .val (.int x5), .val (.int fd), .val (.int dd), .val (.int y0), .val (.int y1), .val (.int y2), .val (.int y3), .val (.int y4), .val (.int y5), .val (.ref ob22), .unset, .unset, .unset] [])) _
    refine XS.iload X23.here hx rfl (hb hby at_177) rfl ?_
    show Steps p.tables e below (T23.setTop (mkF m 179 #[.val (.long ja), .second, .val (.long jb), .second, .val (.long jc), .second, .val (.int kk), .val (.int dl), .val (.int x0), .val (.int x1), .val (.int x2), .val (.int x3), .val (.int x4), .val (.int x5), .val (.int fd), .val (.int dd), .val (.int y0), .val (.int y1), .val (.int y2), .val (.int y3), .val (.int y4), .val (.int y5), .val (.ref ob22), .unset, .unset, .unset] [(.int fd)])) _
    refine XT.bipushV X23.here hx rfl (7 : Int32) (hb hby at_179) rfl ?_
    exact k)
  by_cases h7 : fd = (7 : Int32)
  · have pre25 : ∀ t, Steps p.tables e below (T23.setTop (mkF m 189 #[.val (.long ja), .second, .val (.long jb), .second, .val (.long jc), .second, .val (.int kk), .val (.int dl), .val (.int x0), .val (.int x1), .val (.int x2), .val (.int x3), .val (.int x4), .val (.int x5), .val (.int fd), .val (.int dd), .val (.int y0), .val (.int y1), .val (.int y2), .val (.int y3), .val (.int y4), .val (.int y5), .val (.ref ob22), .unset, .unset, .unset] [(.int (kk &&& (8 : Int32)))])) t → Steps p.tables e below (s₁.setTop (entryFrame m #[(.long ja), (.long jb), (.long jc), (.int kk), (.int dl)] maxLocals)) t := fun t k => pre24 t (by
      show Steps p.tables e below (T23.setTop (mkF m 181 #[.val (.long ja), .second, .val (.long jb), .second, .val (.long jc), .second, .val (.int kk), .val (.int dl), .val (.int x0), .val (.int x1), .val (.int x2), .val (.int x3), .val (.int x4), .val (.int x5), .val (.int fd), .val (.int dd), .val (.int y0), .val (.int y1), .val (.int y2), .val (.int y3), .val (.int y4), .val (.int y5), .val (.ref ob22), .unset, .unset, .unset] [(.int (7 : Int32)), (.int fd)])) _
      refine XS.icmpNo X23.here hx rfl (hb hby at_181) rfl (XT.ii_ne_f h7) ?_
      show Steps p.tables e below (T23.setTop (mkF m 184 #[.val (.long ja), .second, .val (.long jb), .second, .val (.long jc), .second, .val (.int kk), .val (.int dl), .val (.int x0), .val (.int x1), .val (.int x2), .val (.int x3), .val (.int x4), .val (.int x5), .val (.int fd), .val (.int dd), .val (.int y0), .val (.int y1), .val (.int y2), .val (.int y3), .val (.int y4), .val (.int y5), .val (.ref ob22), .unset, .unset, .unset] [])) _
      refine XS.iload X23.here hx rfl (hb hby at_184) rfl ?_
      show Steps p.tables e below (T23.setTop (mkF m 186 #[.val (.long ja), .second, .val (.long jb), .second, .val (.long jc), .second, .val (.int kk), .val (.int dl), .val (.int x0), .val (.int x1), .val (.int x2), .val (.int x3), .val (.int x4), .val (.int x5), .val (.int fd), .val (.int dd), .val (.int y0), .val (.int y1), .val (.int y2), .val (.int y3), .val (.int y4), .val (.int y5), .val (.ref ob22), .unset, .unset, .unset] [(.int kk)])) _
      refine XT.bipushV X23.here hx rfl (8 : Int32) (hb hby at_186) rfl ?_
      show Steps p.tables e below (T23.setTop (mkF m 188 #[.val (.long ja), .second, .val (.long jb), .second, .val (.long jc), .second, .val (.int kk), .val (.int dl), .val (.int x0), .val (.int x1), .val (.int x2), .val (.int x3), .val (.int x4), .val (.int x5), .val (.int fd), .val (.int dd), .val (.int y0), .val (.int y1), .val (.int y2), .val (.int y3), .val (.int y4), .val (.int y5), .val (.ref ob22), .unset, .unset, .unset] [(.int (8 : Int32)), (.int kk)])) _
      refine XS.iand X23.here hx rfl (hb hby at_188) rfl ?_
      exact k)
    by_cases h8 : (kk &&& (8 : Int32)) = 0
    · have pre26 : ∀ t, Steps p.tables e below (T23.setTop (mkF m 259 #[.val (.long ja), .second, .val (.long jb), .second, .val (.long jc), .second, .val (.int kk), .val (.int dl), .val (.int x0), .val (.int x1), .val (.int x2), .val (.int x3), .val (.int x4), .val (.int x5), .val (.int fd), .val (.int dd), .val (.int y0), .val (.int y1), .val (.int y2), .val (.int y3), .val (.int y4), .val (.int y5), .val (.ref ob22), .val .null, .unset, .unset] [(.int (if fd = (6 : Int32) then (1 : Int32) else (0 : Int32)))])) t → Steps p.tables e below (s₁.setTop (entryFrame m #[(.long ja), (.long jb), (.long jc), (.int kk), (.int dl)] maxLocals)) t := fun t k => pre25 t (by
        show Steps p.tables e below (T23.setTop (mkF m 189 #[.val (.long ja), .second, .val (.long jb), .second, .val (.long jc), .second, .val (.int kk), .val (.int dl), .val (.int x0), .val (.int x1), .val (.int x2), .val (.int x3), .val (.int x4), .val (.int x5), .val (.int fd), .val (.int dd), .val (.int y0), .val (.int y1), .val (.int y2), .val (.int y3), .val (.int y4), .val (.int y5), .val (.ref ob22), .unset, .unset, .unset] [(.int (kk &&& (8 : Int32)))])) _
        refine XS.ifNo X23.here hx rfl (hb hby at_189) rfl (XT.i0_ne_f h8) ?_
        show Steps p.tables e below (T23.setTop (mkF m 192 #[.val (.long ja), .second, .val (.long jb), .second, .val (.long jc), .second, .val (.int kk), .val (.int dl), .val (.int x0), .val (.int x1), .val (.int x2), .val (.int x3), .val (.int x4), .val (.int x5), .val (.int fd), .val (.int dd), .val (.int y0), .val (.int y1), .val (.int y2), .val (.int y3), .val (.int y4), .val (.int y5), .val (.ref ob22), .unset, .unset, .unset] [])) _
        refine XS.aconstNull X23.here hx rfl (hb hby at_192) ?_
        show Steps p.tables e below (T23.setTop (mkF m 193 #[.val (.long ja), .second, .val (.long jb), .second, .val (.long jc), .second, .val (.int kk), .val (.int dl), .val (.int x0), .val (.int x1), .val (.int x2), .val (.int x3), .val (.int x4), .val (.int x5), .val (.int fd), .val (.int dd), .val (.int y0), .val (.int y1), .val (.int y2), .val (.int y3), .val (.int y4), .val (.int y5), .val (.ref ob22), .unset, .unset, .unset] [.null])) _
        refine XS.astore X23.here hx rfl (hb hby at_193) rfl rfl (l' := #[.val (.long ja), .second, .val (.long jb), .second, .val (.long jc), .second, .val (.int kk), .val (.int dl), .val (.int x0), .val (.int x1), .val (.int x2), .val (.int x3), .val (.int x4), .val (.int x5), .val (.int fd), .val (.int dd), .val (.int y0), .val (.int y1), .val (.int y2), .val (.int y3), .val (.int y4), .val (.int y5), .val (.ref ob22), .val .null, .unset, .unset]) rfl ?_
        show Steps p.tables e below (T23.setTop (mkF m 195 #[.val (.long ja), .second, .val (.long jb), .second, .val (.long jc), .second, .val (.int kk), .val (.int dl), .val (.int x0), .val (.int x1), .val (.int x2), .val (.int x3), .val (.int x4), .val (.int x5), .val (.int fd), .val (.int dd), .val (.int y0), .val (.int y1), .val (.int y2), .val (.int y3), .val (.int y4), .val (.int y5), .val (.ref ob22), .val .null, .unset, .unset] [])) _
        refine XS.goto X23.here hx rfl (pc0 := 195) (pc' := 247) rfl (hb hby at_195) (by decide) (by decide) ?_
        show Steps p.tables e below (T23.setTop (mkF m 247 #[.val (.long ja), .second, .val (.long jb), .second, .val (.long jc), .second, .val (.int kk), .val (.int dl), .val (.int x0), .val (.int x1), .val (.int x2), .val (.int x3), .val (.int x4), .val (.int x5), .val (.int fd), .val (.int dd), .val (.int y0), .val (.int y1), .val (.int y2), .val (.int y3), .val (.int y4), .val (.int y5), .val (.ref ob22), .val .null, .unset, .unset] [])) _
        refine XS.iload X23.here hx rfl (hb hby at_247) rfl ?_
        show Steps p.tables e below (T23.setTop (mkF m 249 #[.val (.long ja), .second, .val (.long jb), .second, .val (.long jc), .second, .val (.int kk), .val (.int dl), .val (.int x0), .val (.int x1), .val (.int x2), .val (.int x3), .val (.int x4), .val (.int x5), .val (.int fd), .val (.int dd), .val (.int y0), .val (.int y1), .val (.int y2), .val (.int y3), .val (.int y4), .val (.int y5), .val (.ref ob22), .val .null, .unset, .unset] [(.int fd)])) _
        refine XT.bipushV X23.here hx rfl (6 : Int32) (hb hby at_249) rfl ?_
        by_cases hj251 : fd = (6 : Int32)
        · rw [if_pos hj251] at k
          show Steps p.tables e below (T23.setTop (mkF m 251 #[.val (.long ja), .second, .val (.long jb), .second, .val (.long jc), .second, .val (.int kk), .val (.int dl), .val (.int x0), .val (.int x1), .val (.int x2), .val (.int x3), .val (.int x4), .val (.int x5), .val (.int fd), .val (.int dd), .val (.int y0), .val (.int y1), .val (.int y2), .val (.int y3), .val (.int y4), .val (.int y5), .val (.ref ob22), .val .null, .unset, .unset] [(.int (6 : Int32)), (.int fd)])) _
          refine XS.icmpNo X23.here hx rfl (hb hby at_251) rfl (XT.ii_ne_f hj251) ?_
          show Steps p.tables e below (T23.setTop (mkF m 254 #[.val (.long ja), .second, .val (.long jb), .second, .val (.long jc), .second, .val (.int kk), .val (.int dl), .val (.int x0), .val (.int x1), .val (.int x2), .val (.int x3), .val (.int x4), .val (.int x5), .val (.int fd), .val (.int dd), .val (.int y0), .val (.int y1), .val (.int y2), .val (.int y3), .val (.int y4), .val (.int y5), .val (.ref ob22), .val .null, .unset, .unset] [])) _
          refine XT.iconstV X23.here hx rfl (1 : Int32) (hb hby at_254) rfl ?_
          show Steps p.tables e below (T23.setTop (mkF m 255 #[.val (.long ja), .second, .val (.long jb), .second, .val (.long jc), .second, .val (.int kk), .val (.int dl), .val (.int x0), .val (.int x1), .val (.int x2), .val (.int x3), .val (.int x4), .val (.int x5), .val (.int fd), .val (.int dd), .val (.int y0), .val (.int y1), .val (.int y2), .val (.int y3), .val (.int y4), .val (.int y5), .val (.ref ob22), .val .null, .unset, .unset] [(.int (1 : Int32))])) _
          refine XS.goto X23.here hx rfl (pc0 := 255) (pc' := 259) rfl (hb hby at_255) (by decide) (by decide) ?_
          exact k
        · rw [if_neg hj251] at k
          show Steps p.tables e below (T23.setTop (mkF m 251 #[.val (.long ja), .second, .val (.long jb), .second, .val (.long jc), .second, .val (.int kk), .val (.int dl), .val (.int x0), .val (.int x1), .val (.int x2), .val (.int x3), .val (.int x4), .val (.int x5), .val (.int fd), .val (.int dd), .val (.int y0), .val (.int y1), .val (.int y2), .val (.int y3), .val (.int y4), .val (.int y5), .val (.ref ob22), .val .null, .unset, .unset] [(.int (6 : Int32)), (.int fd)])) _
          refine XS.icmpYes X23.here hx rfl (pc0 := 251) (pc' := 258) rfl (hb hby at_251) rfl (XT.ii_ne_t hj251) (by decide) (by decide) ?_
          show Steps p.tables e below (T23.setTop (mkF m 258 #[.val (.long ja), .second, .val (.long jb), .second, .val (.long jc), .second, .val (.int kk), .val (.int dl), .val (.int x0), .val (.int x1), .val (.int x2), .val (.int x3), .val (.int x4), .val (.int x5), .val (.int fd), .val (.int dd), .val (.int y0), .val (.int y1), .val (.int y2), .val (.int y3), .val (.int y4), .val (.int y5), .val (.ref ob22), .val .null, .unset, .unset] [])) _
          refine XT.iconstV X23.here hx rfl (0 : Int32) (hb hby at_258) rfl ?_
          exact k)
      have pre27 : ∀ t, Steps p.tables e below (T23.setTop (mkF m 261 #[.val (.long ja), .second, .val (.long jb), .second, .val (.long jc), .second, .val (.int kk), .val (.int dl), .val (.int x0), .val (.int x1), .val (.int x2), .val (.int x3), .val (.int x4), .val (.int x5), .val (.int fd), .val (.int dd), .val (.int y0), .val (.int y1), .val (.int y2), .val (.int y3), .val (.int y4), .val (.int y5), .val (.ref ob22), .val .null, .val (.int (if fd = (6 : Int32) then (1 : Int32) else (0 : Int32))), .unset] [])) t → Steps p.tables e below (s₁.setTop (entryFrame m #[(.long ja), (.long jb), (.long jc), (.int kk), (.int dl)] maxLocals)) t := fun t k => pre26 t (by
        show Steps p.tables e below (T23.setTop (mkF m 259 #[.val (.long ja), .second, .val (.long jb), .second, .val (.long jc), .second, .val (.int kk), .val (.int dl), .val (.int x0), .val (.int x1), .val (.int x2), .val (.int x3), .val (.int x4), .val (.int x5), .val (.int fd), .val (.int dd), .val (.int y0), .val (.int y1), .val (.int y2), .val (.int y3), .val (.int y4), .val (.int y5), .val (.ref ob22), .val .null, .unset, .unset] [(.int (if fd = (6 : Int32) then (1 : Int32) else (0 : Int32)))])) _
        refine XS.istore X23.here hx rfl (hb hby at_259) rfl (l' := #[.val (.long ja), .second, .val (.long jb), .second, .val (.long jc), .second, .val (.int kk), .val (.int dl), .val (.int x0), .val (.int x1), .val (.int x2), .val (.int x3), .val (.int x4), .val (.int x5), .val (.int fd), .val (.int dd), .val (.int y0), .val (.int y1), .val (.int y2), .val (.int y3), .val (.int y4), .val (.int y5), .val (.ref ob22), .val .null, .val (.int (if fd = (6 : Int32) then (1 : Int32) else (0 : Int32))), .unset]) rfl ?_
        exact k)
      obtain ⟨ex, q_ex⟩ : ∃ z : Int32, z = (if fd = (6 : Int32) then (1 : Int32) else (0 : Int32)) := ⟨_, rfl⟩
      rw [← q_ex] at pre27
      have hex : (0 : Int32) = ex := by rw [q_ex, if_neg (by rw [h7]; decide)]
      obtain ⟨cq28, kq28, q28a, q28b, q28c⟩ := isOf hZ rfl Fa23_E_a1
      obtain ⟨_, _, ⟨T28, tL28, tk28, tn28⟩, -, X28, ⟨Lc28, hQ28, tl28, ty28, tz28⟩, st28⟩ := X23.virtualBack hx (y := (⟨"com/example/traversim/traversim/aodv/Packet$Rrep", "equals", "(Ljava/lang/Object;)Z"⟩ : MethodName)) (z := (⟨"com/example/traversim/traversim/aodv/Packet$Rrep", "equals", "(Ljava/lang/Object;)Z"⟩ : MethodName)) hown (mvT hZ (hw _ (List.mem_of_getElem? (i := 26) rfl))) (mvT hZ (hw _ (List.mem_of_getElem? (i := 27) rfl))) (notFace_of_selects (args := #[]) (mvT hZ (hw _ (List.mem_of_getElem? (i := 29) rfl)))) (mvT hZ (hw _ (List.mem_of_getElem? (i := 29) rfl))) (mvT hZ (hw _ (List.mem_of_getElem? (i := 28) rfl))) (by decide) (backOf (W := 0) (own_rm4n l Z a0 hw [] ob22 T23.heap n0 sz23 ) hZ (hw _ (List.mem_of_getElem? (i := 30) rfl)) (hw _ (List.mem_of_getElem? (i := 2) rfl)) (by decide) (by decide)) q28a q28c (g := (mkF m 265 #[.val (.long ja), .second, .val (.long jb), .second, .val (.long jc), .second, .val (.int kk), .val (.int dl), .val (.int x0), .val (.int x1), .val (.int x2), .val (.int x3), .val (.int x4), .val (.int x5), .val (.int fd), .val (.int dd), .val (.int y0), .val (.int y1), .val (.int y2), .val (.int y3), .val (.int y4), .val (.int y5), .val (.ref ob22), .val .null, .val (.int ex), .unset] [.null, (.ref ob22)])) rfl (by rw [hml]; rfl) (Steps.refl _) (argsL := [.null]) (rest := []) (lenOf own_pd2 rfl) rfl (by show 2 * 0 + _ ≤ _; exact Nat.le_of_eq rfl) (hb hby at_265) (fun _ _ => ⟨rfl, rfl, (by decide : 1 + 0 ≤ _), (by decide : 6 + 0 ≤ _)⟩)
      dsimp only [Pt.U, Pt.locs, Pt.cells, Pt.slots] at X28 tl28 ty28 tz28 st28 hQ28
      rw [tl28, ty28, tz28] at X28
      obtain ⟨rfl, Nq28, K28⟩ := hQ28
      have N28 := Fr.app N23 Nq28
      obtain ⟨cq29, kq29, q29a, q29b, q29c⟩ := isOf hZ K28 Fa23_E_a1
      obtain ⟨_, _, ⟨T29, tL29, tk29, tn29⟩, -, X29, ⟨Lc29, hQ29, tl29, ty29, tz29⟩, st29⟩ := X28.virtualBack hx (y := (⟨"com/example/traversim/traversim/aodv/Packet$Rrep", "equals", "(Ljava/lang/Object;)Z"⟩ : MethodName)) (z := (⟨"com/example/traversim/traversim/aodv/Packet$Rrep", "equals", "(Ljava/lang/Object;)Z"⟩ : MethodName)) hown (mvT hZ (hw _ (List.mem_of_getElem? (i := 26) rfl))) (mvT hZ (hw _ (List.mem_of_getElem? (i := 27) rfl))) (notFace_of_selects (args := #[]) (mvT hZ (hw _ (List.mem_of_getElem? (i := 29) rfl)))) (mvT hZ (hw _ (List.mem_of_getElem? (i := 29) rfl))) (mvT hZ (hw _ (List.mem_of_getElem? (i := 28) rfl))) (by decide) (backOf (W := 0) (own_rm4 l Z a0 hw [] ob22 ob22 x0 x1 x2 x3 x4 x5 x0 x1 x2 x3 x4 x5 T23.heap n0 sz23 Fa23_E_a1 Fa23_F_a1_from Fa23_F_a1_to Fa23_F_a1_orig Fa23_F_a1_dst Fa23_F_a1_seqno Fa23_F_a1_hops Fa23_E_a1 Fa23_F_a1_from Fa23_F_a1_to Fa23_F_a1_orig Fa23_F_a1_dst Fa23_F_a1_seqno Fa23_F_a1_hops) hZ (hw _ (List.mem_of_getElem? (i := 30) rfl)) (hw _ (List.mem_of_getElem? (i := 2) rfl)) (by decide) (by decide)) q29a q29c (g := (mkF m 283 #[.val (.long ja), .second, .val (.long jb), .second, .val (.long jc), .second, .val (.int kk), .val (.int dl), .val (.int x0), .val (.int x1), .val (.int x2), .val (.int x3), .val (.int x4), .val (.int x5), .val (.int fd), .val (.int dd), .val (.int y0), .val (.int y1), .val (.int y2), .val (.int y3), .val (.int y4), .val (.int y5), .val (.ref ob22), .val .null, .val (.int ex), .val (.int (0 : Int32))] [(.ref ob22), (.ref ob22)])) rfl (by rw [hml]; rfl) (Steps.refl _) (argsL := [(.ref ob22)]) (rest := []) (lenOf own_pd2 rfl) rfl (by show 2 * 0 + _ ≤ _; exact Nat.le_of_eq rfl) (hb hby at_283) (fun _ _ => ⟨rfl, K28, (by decide : 1 + 0 ≤ _), (by decide : 6 + 0 ≤ _)⟩)
      dsimp only [Pt.U, Pt.locs, Pt.cells, Pt.slots] at X29 tl29 ty29 tz29 st29 hQ29
      rw [tl29, ty29, tz29] at X29
      obtain ⟨rfl, Nq29, K29⟩ := hQ29
      have N29 := Fr.app N28 Nq29
      obtain ⟨fs, hr, hrun, hended, hW, hsame⟩ := X29.leave (v := some (.int (1 : Int32))) (fun h => by rw [Bd.returns] at h; cases h)
      refine ⟨_, _, pre27 _ ?_, hrun, hended, _, _, rfl, ?_, ⟨_, rfl⟩, hW, hsame.mono (by decide) (by decide)⟩
      · show Steps p.tables e below (T23.setTop (mkF m 261 #[.val (.long ja), .second, .val (.long jb), .second, .val (.long jc), .second, .val (.int kk), .val (.int dl), .val (.int x0), .val (.int x1), .val (.int x2), .val (.int x3), .val (.int x4), .val (.int x5), .val (.int fd), .val (.int dd), .val (.int y0), .val (.int y1), .val (.int y2), .val (.int y3), .val (.int y4), .val (.int y5), .val (.ref ob22), .val .null, .val (.int ex), .unset] [])) _
        refine XS.aload X23.here hx rfl (hb hby at_261) rfl rfl ?_
        show Steps p.tables e below (T23.setTop (mkF m 263 #[.val (.long ja), .second, .val (.long jb), .second, .val (.long jc), .second, .val (.int kk), .val (.int dl), .val (.int x0), .val (.int x1), .val (.int x2), .val (.int x3), .val (.int x4), .val (.int x5), .val (.int fd), .val (.int dd), .val (.int y0), .val (.int y1), .val (.int y2), .val (.int y3), .val (.int y4), .val (.int y5), .val (.ref ob22), .val .null, .val (.int ex), .unset] [(.ref ob22)])) _
        refine XS.aload X23.here hx rfl (hb hby at_263) rfl rfl ?_
        show Steps p.tables e below (T23.setTop (mkF m 265 #[.val (.long ja), .second, .val (.long jb), .second, .val (.long jc), .second, .val (.int kk), .val (.int dl), .val (.int x0), .val (.int x1), .val (.int x2), .val (.int x3), .val (.int x4), .val (.int x5), .val (.int fd), .val (.int dd), .val (.int y0), .val (.int y1), .val (.int y2), .val (.int y3), .val (.int y4), .val (.int y5), .val (.ref ob22), .val .null, .val (.int ex), .unset] [.null, (.ref ob22)])) _
        refine st28.trans ?_
        show Steps p.tables e below (T28.setTop (mkF m 268 #[.val (.long ja), .second, .val (.long jb), .second, .val (.long jc), .second, .val (.int kk), .val (.int dl), .val (.int x0), .val (.int x1), .val (.int x2), .val (.int x3), .val (.int x4), .val (.int x5), .val (.int fd), .val (.int dd), .val (.int y0), .val (.int y1), .val (.int y2), .val (.int y3), .val (.int y4), .val (.int y5), .val (.ref ob22), .val .null, .val (.int ex), .unset] [(.int (0 : Int32))])) _
        refine XS.istore X28.here hx rfl (hb hby at_268) rfl (l' := #[.val (.long ja), .second, .val (.long jb), .second, .val (.long jc), .second, .val (.int kk), .val (.int dl), .val (.int x0), .val (.int x1), .val (.int x2), .val (.int x3), .val (.int x4), .val (.int x5), .val (.int fd), .val (.int dd), .val (.int y0), .val (.int y1), .val (.int y2), .val (.int y3), .val (.int y4), .val (.int y5), .val (.ref ob22), .val .null, .val (.int ex), .val (.int (0 : Int32))]) rfl ?_
        show Steps p.tables e below (T28.setTop (mkF m 270 #[.val (.long ja), .second, .val (.long jb), .second, .val (.long jc), .second, .val (.int kk), .val (.int dl), .val (.int x0), .val (.int x1), .val (.int x2), .val (.int x3), .val (.int x4), .val (.int x5), .val (.int fd), .val (.int dd), .val (.int y0), .val (.int y1), .val (.int y2), .val (.int y3), .val (.int y4), .val (.int y5), .val (.ref ob22), .val .null, .val (.int ex), .val (.int (0 : Int32))] [])) _
        refine XS.iload X28.here hx rfl (hb hby at_270) rfl ?_
        show Steps p.tables e below (T28.setTop (mkF m 272 #[.val (.long ja), .second, .val (.long jb), .second, .val (.long jc), .second, .val (.int kk), .val (.int dl), .val (.int x0), .val (.int x1), .val (.int x2), .val (.int x3), .val (.int x4), .val (.int x5), .val (.int fd), .val (.int dd), .val (.int y0), .val (.int y1), .val (.int y2), .val (.int y3), .val (.int y4), .val (.int y5), .val (.ref ob22), .val .null, .val (.int ex), .val (.int (0 : Int32))] [(.int (0 : Int32))])) _
        refine XS.iload X28.here hx rfl (hb hby at_272) rfl ?_
        show Steps p.tables e below (T28.setTop (mkF m 274 #[.val (.long ja), .second, .val (.long jb), .second, .val (.long jc), .second, .val (.int kk), .val (.int dl), .val (.int x0), .val (.int x1), .val (.int x2), .val (.int x3), .val (.int x4), .val (.int x5), .val (.int fd), .val (.int dd), .val (.int y0), .val (.int y1), .val (.int y2), .val (.int y3), .val (.int y4), .val (.int y5), .val (.ref ob22), .val .null, .val (.int ex), .val (.int (0 : Int32))] [(.int ex), (.int (0 : Int32))])) _
        refine XS.icmpYes X28.here hx rfl (pc0 := 274) (pc' := 279) rfl (hb hby at_274) rfl (XT.ii_eq_t hex) (by decide) (by decide) ?_
        show Steps p.tables e below (T28.setTop (mkF m 279 #[.val (.long ja), .second, .val (.long jb), .second, .val (.long jc), .second, .val (.int kk), .val (.int dl), .val (.int x0), .val (.int x1), .val (.int x2), .val (.int x3), .val (.int x4), .val (.int x5), .val (.int fd), .val (.int dd), .val (.int y0), .val (.int y1), .val (.int y2), .val (.int y3), .val (.int y4), .val (.int y5), .val (.ref ob22), .val .null, .val (.int ex), .val (.int (0 : Int32))] [])) _
        refine XS.aload X28.here hx rfl (hb hby at_279) rfl rfl ?_
        show Steps p.tables e below (T28.setTop (mkF m 281 #[.val (.long ja), .second, .val (.long jb), .second, .val (.long jc), .second, .val (.int kk), .val (.int dl), .val (.int x0), .val (.int x1), .val (.int x2), .val (.int x3), .val (.int x4), .val (.int x5), .val (.int fd), .val (.int dd), .val (.int y0), .val (.int y1), .val (.int y2), .val (.int y3), .val (.int y4), .val (.int y5), .val (.ref ob22), .val .null, .val (.int ex), .val (.int (0 : Int32))] [(.ref ob22)])) _
        refine XS.aload X28.here hx rfl (hb hby at_281) rfl rfl ?_
        show Steps p.tables e below (T28.setTop (mkF m 283 #[.val (.long ja), .second, .val (.long jb), .second, .val (.long jc), .second, .val (.int kk), .val (.int dl), .val (.int x0), .val (.int x1), .val (.int x2), .val (.int x3), .val (.int x4), .val (.int x5), .val (.int fd), .val (.int dd), .val (.int y0), .val (.int y1), .val (.int y2), .val (.int y3), .val (.int y4), .val (.int y5), .val (.ref ob22), .val .null, .val (.int ex), .val (.int (0 : Int32))] [(.ref ob22), (.ref ob22)])) _
        refine st29.trans ?_
        show Steps p.tables e below (T29.setTop (mkF m 286 #[.val (.long ja), .second, .val (.long jb), .second, .val (.long jc), .second, .val (.int kk), .val (.int dl), .val (.int x0), .val (.int x1), .val (.int x2), .val (.int x3), .val (.int x4), .val (.int x5), .val (.int fd), .val (.int dd), .val (.int y0), .val (.int y1), .val (.int y2), .val (.int y3), .val (.int y4), .val (.int y5), .val (.ref ob22), .val .null, .val (.int ex), .val (.int (0 : Int32))] [(.int (own_eq x0 x1 x2 x3 x4 x5 x0 x1 x2 x3 x4 x5))])) _
        refine XS.ifYes X29.here hx rfl (pc0 := 286) (pc' := 291) rfl (hb hby at_286) rfl (XT.i0_ne_t (own_eq_self _ _ _ _ _ _)) (by decide) (by decide) ?_
        show Steps p.tables e below (T29.setTop (mkF m 291 #[.val (.long ja), .second, .val (.long jb), .second, .val (.long jc), .second, .val (.int kk), .val (.int dl), .val (.int x0), .val (.int x1), .val (.int x2), .val (.int x3), .val (.int x4), .val (.int x5), .val (.int fd), .val (.int dd), .val (.int y0), .val (.int y1), .val (.int y2), .val (.int y3), .val (.int y4), .val (.int y5), .val (.ref ob22), .val .null, .val (.int ex), .val (.int (0 : Int32))] [])) _
        refine XS.aload X29.here hx rfl (hb hby at_291) rfl rfl ?_
        show Steps p.tables e below (T29.setTop (mkF m 293 #[.val (.long ja), .second, .val (.long jb), .second, .val (.long jc), .second, .val (.int kk), .val (.int dl), .val (.int x0), .val (.int x1), .val (.int x2), .val (.int x3), .val (.int x4), .val (.int x5), .val (.int fd), .val (.int dd), .val (.int y0), .val (.int y1), .val (.int y2), .val (.int y3), .val (.int y4), .val (.int y5), .val (.ref ob22), .val .null, .val (.int ex), .val (.int (0 : Int32))] [.null])) _
        refine XS.ifnullYes X29.here hx rfl (pc0 := 293) (pc' := 310) rfl (hb hby at_293) rfl (by decide) (by decide) ?_
        show Steps p.tables e below (T29.setTop (mkF m 310 #[.val (.long ja), .second, .val (.long jb), .second, .val (.long jc), .second, .val (.int kk), .val (.int dl), .val (.int x0), .val (.int x1), .val (.int x2), .val (.int x3), .val (.int x4), .val (.int x5), .val (.int fd), .val (.int dd), .val (.int y0), .val (.int y1), .val (.int y2), .val (.int y3), .val (.int y4), .val (.int y5), .val (.ref ob22), .val .null, .val (.int ex), .val (.int (0 : Int32))] [])) _
        refine XT.iconstV X29.here hx rfl (1 : Int32) (hb hby at_310) rfl ?_
        show Steps p.tables e below (T29.setTop (mkF m 311 #[.val (.long ja), .second, .val (.long jb), .second, .val (.long jc), .second, .val (.int kk), .val (.int dl), .val (.int x0), .val (.int x1), .val (.int x2), .val (.int x3), .val (.int x4), .val (.int x5), .val (.int fd), .val (.int dd), .val (.int y0), .val (.int y1), .val (.int y2), .val (.int y3), .val (.int y4), .val (.int y5), .val (.ref ob22), .val .null, .val (.int ex), .val (.int (0 : Int32))] [(.int (1 : Int32))])) _
        exact retN X29 hx (t := .boolean) Bd.returns (by simp) (hb hby at_311) hr
      · show own_Q0 Z ja jb jc kk dl h0 n0 _ T29.heap _
        exact ⟨rfl, N29⟩
    · obtain ⟨T30, h30, X30, e30, E30, A30, D30, -, st30⟩ := newO X23 hx hZ hown (hw _ (List.mem_of_getElem? (i := 37) rfl)) (hw _ (List.mem_of_getElem? (i := 38) rfl)) (hw _ (List.mem_of_getElem? (i := 39) rfl)) rfl (g := (mkF m 198 #[.val (.long ja), .second, .val (.long jb), .second, .val (.long jc), .second, .val (.int kk), .val (.int dl), .val (.int x0), .val (.int x1), .val (.int x2), .val (.int x3), .val (.int x4), .val (.int x5), .val (.int fd), .val (.int dd), .val (.int y0), .val (.int y1), .val (.int y2), .val (.int y3), .val (.int y4), .val (.int y5), .val (.ref ob22), .unset, .unset, .unset] [])) rfl (hb hby at_198) (by decide) (by decide)
      obtain ⟨ob30, g30⟩ : ∃ z, z = T23.heap.size := ⟨_, rfl⟩
      rw [← g30] at A30 D30 st30
      have ne_ob22_ob30 : ob22 ≠ ob30 := Nat.ne_of_lt (Nat.lt_of_lt_of_le Fa23_E_a1.lt (Nat.le_of_eq g30.symm))
      have sz30 : n0 ≤ h30.size := Nat.le_trans sz23 E30.1
      have gn_ob30 : n0 ≤ ob30 := Nat.le_trans sz23 (Nat.le_of_eq g30.symm)
      have bo_ob30 : h0.size ≤ ob30 := Nat.le_trans KK23.1 (Nat.le_of_eq g30.symm)
      have K30 : Keep h0 h30 [] := KK23.ext E30
      have F0_from_ob30 : Fld Z h30 ob30 "com/example/traversim/traversim/aodv/Packet$Rreq" "from" "I" (.int (0 : Int32)) := D30 (Or.inr (hw _ (List.mem_of_getElem? (i := 45) rfl))) (ty := .int) (by decide)
      have F0_to_ob30 : Fld Z h30 ob30 "com/example/traversim/traversim/aodv/Packet$Rreq" "to" "I" (.int (0 : Int32)) := D30 (Or.inr (hw _ (List.mem_of_getElem? (i := 47) rfl))) (ty := .int) (by decide)
      have F0_orig_ob30 : Fld Z h30 ob30 "com/example/traversim/traversim/aodv/Packet$Rreq" "orig" "I" (.int (0 : Int32)) := D30 (Or.inr (hw _ (List.mem_of_getElem? (i := 49) rfl))) (ty := .int) (by decide)
      have F0_bid_ob30 : Fld Z h30 ob30 "com/example/traversim/traversim/aodv/Packet$Rreq" "bid" "I" (.int (0 : Int32)) := D30 (Or.inr (hw _ (List.mem_of_getElem? (i := 51) rfl))) (ty := .int) (by decide)
      have F0_hops_ob30 : Fld Z h30 ob30 "com/example/traversim/traversim/aodv/Packet$Rreq" "hops" "I" (.int (0 : Int32)) := D30 (Or.inr (hw _ (List.mem_of_getElem? (i := 53) rfl))) (ty := .int) (by decide)
      have F0_dst_ob30 : Fld Z h30 ob30 "com/example/traversim/traversim/aodv/Packet$Rreq" "dst" "I" (.int (0 : Int32)) := D30 (Or.inr (hw _ (List.mem_of_getElem? (i := 55) rfl))) (ty := .int) (by decide)
      have F0_dstseq_ob30 : Fld Z h30 ob30 "com/example/traversim/traversim/aodv/Packet$Rreq" "dstseq" "I" (.int (0 : Int32)) := D30 (Or.inr (hw _ (List.mem_of_getElem? (i := 57) rfl))) (ty := .int) (by decide)
      have F0_origseq_ob30 : Fld Z h30 ob30 "com/example/traversim/traversim/aodv/Packet$Rreq" "origseq" "I" (.int (0 : Int32)) := D30 (Or.inr (hw _ (List.mem_of_getElem? (i := 59) rfl))) (ty := .int) (by decide)
      obtain ⟨_, _, ⟨T31, tL31, tk31, tn31⟩, -, X31, ⟨Lc31, hQ31, tl31, ty31, tz31⟩, st31⟩ := X30.specialBack hx (y := (⟨"com/example/traversim/traversim/aodv/Packet$Rreq", "<init>", "(IIIIIIII)V"⟩ : MethodName)) rfl hown (mvT hZ (hw _ (List.mem_of_getElem? (i := 40) rfl))) (mvT hZ (hw _ (List.mem_of_getElem? (i := 41) rfl))) (mvT hZ (hw _ (List.mem_of_getElem? (i := 42) rfl))) (by decide) (backOf (W := 1) (own_rm5 l Z a0 hw [] ob30 x0 x1 x2 x3 x5 x3 x4 x5 ((.int (0 : Int32)) : Value) ((.int (0 : Int32)) : Value) ((.int (0 : Int32)) : Value) ((.int (0 : Int32)) : Value) ((.int (0 : Int32)) : Value) ((.int (0 : Int32)) : Value) ((.int (0 : Int32)) : Value) ((.int (0 : Int32)) : Value) h30 n0 sz30 A30 F0_from_ob30 F0_to_ob30 F0_orig_ob30 F0_bid_ob30 F0_hops_ob30 F0_dst_ob30 F0_dstseq_ob30 F0_origseq_ob30 gn_ob30) hZ (hw _ (List.mem_of_getElem? (i := 42) rfl)) (hw _ (List.mem_of_getElem? (i := 39) rfl)) (by decide) (by decide)) (g := (mkF m 218 #[.val (.long ja), .second, .val (.long jb), .second, .val (.long jc), .second, .val (.int kk), .val (.int dl), .val (.int x0), .val (.int x1), .val (.int x2), .val (.int x3), .val (.int x4), .val (.int x5), .val (.int fd), .val (.int dd), .val (.int y0), .val (.int y1), .val (.int y2), .val (.int y3), .val (.int y4), .val (.int y5), .val (.ref ob22), .unset, .unset, .unset] [(.int x5), (.int x4), (.int x3), (.int x5), (.int x3), (.int x2), (.int x1), (.int x0), (.ref ob30), (.ref ob30)])) rfl (by rw [hml]; rfl) (Steps.refl _) (a := ob30) (argsL := [(.int x0), (.int x1), (.int x2), (.int x3), (.int x5), (.int x3), (.int x4), (.int x5)]) (rest := [(.ref ob30)]) (lenOf own_pd3 rfl) rfl (by show 2 * 0 + _ ≤ _; exact Nat.le_of_eq rfl) (hb hby at_218) (fun _ _ => ⟨rfl, e30, (by decide : 2 + 0 ≤ _), (by decide : 14 + 0 ≤ _)⟩)
      dsimp only [Pt.U, Pt.locs, Pt.cells, Pt.slots] at X31 tl31 ty31 tz31 st31 hQ31
      rw [tl31, ty31, tz31] at X31
      obtain ⟨rfl, Nq31, K31, Fa31_E_a1, Fa31_F_a1_from, Fa31_F_a1_to, Fa31_F_a1_orig, Fa31_F_a1_bid, Fa31_F_a1_hops, Fa31_F_a1_dst, Fa31_F_a1_dstseq, Fa31_F_a1_origseq⟩ := hQ31
      have N31 := Fr.app N23 Nq31
      have sz31 : n0 ≤ T31.heap.size := Nat.le_trans sz30 K31.1
      have KK31 : Keep h0 T31.heap [] := K30.trans K31 (allS (Or.inr bo_ob30) all0)
      have pre32 : ∀ t, Steps p.tables e below (T31.setTop (mkF m 259 #[.val (.long ja), .second, .val (.long jb), .second, .val (.long jc), .second, .val (.int kk), .val (.int dl), .val (.int x0), .val (.int x1), .val (.int x2), .val (.int x3), .val (.int x4), .val (.int x5), .val (.int fd), .val (.int dd), .val (.int y0), .val (.int y1), .val (.int y2), .val (.int y3), .val (.int y4), .val (.int y5), .val (.ref ob22), .val (.ref ob30), .unset, .unset] [(.int (if fd = (6 : Int32) then (1 : Int32) else (0 : Int32)))])) t → Steps p.tables e below (s₁.setTop (entryFrame m #[(.long ja), (.long jb), (.long jc), (.int kk), (.int dl)] maxLocals)) t := fun t k => pre25 t (by
        show Steps p.tables e below (T23.setTop (mkF m 189 #[.val (.long ja), .second, .val (.long jb), .second, .val (.long jc), .second, .val (.int kk), .val (.int dl), .val (.int x0), .val (.int x1), .val (.int x2), .val (.int x3), .val (.int x4), .val (.int x5), .val (.int fd), .val (.int dd), .val (.int y0), .val (.int y1), .val (.int y2), .val (.int y3), .val (.int y4), .val (.int y5), .val (.ref ob22), .unset, .unset, .unset] [(.int (kk &&& (8 : Int32)))])) _
        refine XS.ifYes X23.here hx rfl (pc0 := 189) (pc' := 198) rfl (hb hby at_189) rfl (XT.i0_ne_t h8) (by decide) (by decide) ?_
        show Steps p.tables e below (T23.setTop (mkF m 198 #[.val (.long ja), .second, .val (.long jb), .second, .val (.long jc), .second, .val (.int kk), .val (.int dl), .val (.int x0), .val (.int x1), .val (.int x2), .val (.int x3), .val (.int x4), .val (.int x5), .val (.int fd), .val (.int dd), .val (.int y0), .val (.int y1), .val (.int y2), .val (.int y3), .val (.int y4), .val (.int y5), .val (.ref ob22), .unset, .unset, .unset] [])) _
        refine st30 _ ?_
        show Steps p.tables e below (T30.setTop (mkF m 201 #[.val (.long ja), .second, .val (.long jb), .second, .val (.long jc), .second, .val (.int kk), .val (.int dl), .val (.int x0), .val (.int x1), .val (.int x2), .val (.int x3), .val (.int x4), .val (.int x5), .val (.int fd), .val (.int dd), .val (.int y0), .val (.int y1), .val (.int y2), .val (.int y3), .val (.int y4), .val (.int y5), .val (.ref ob22), .unset, .unset, .unset] [(.ref ob30)])) _
        refine XS.dup X30.here hx rfl (hb hby at_201) rfl rfl ?_
        show Steps p.tables e below (T30.setTop (mkF m 202 #[.val (.long ja), .second, .val (.long jb), .second, .val (.long jc), .second, .val (.int kk), .val (.int dl), .val (.int x0), .val (.int x1), .val (.int x2), .val (.int x3), .val (.int x4), .val (.int x5), .val (.int fd), .val (.int dd), .val (.int y0), .val (.int y1), .val (.int y2), .val (.int y3), .val (.int y4), .val (.int y5), .val (.ref ob22), .unset, .unset, .unset] [(.ref ob30), (.ref ob30)])) _
        refine XS.iload X30.here hx rfl (hb hby at_202) rfl ?_
        show Steps p.tables e below (T30.setTop (mkF m 204 #[.val (.long ja), .second, .val (.long jb), .second, .val (.long jc), .second, .val (.int kk), .val (.int dl), .val (.int x0), .val (.int x1), .val (.int x2), .val (.int x3), .val (.int x4), .val (.int x5), .val (.int fd), .val (.int dd), .val (.int y0), .val (.int y1), .val (.int y2), .val (.int y3), .val (.int y4), .val (.int y5), .val (.ref ob22), .unset, .unset, .unset] [(.int x0), (.ref ob30), (.ref ob30)])) _
        refine XS.iload X30.here hx rfl (hb hby at_204) rfl ?_
        show Steps p.tables e below (T30.setTop (mkF m 206 #[.val (.long ja), .second, .val (.long jb), .second, .val (.long jc), .second, .val (.int kk), .val (.int dl), .val (.int x0), .val (.int x1), .val (.int x2), .val (.int x3), .val (.int x4), .val (.int x5), .val (.int fd), .val (.int dd), .val (.int y0), .val (.int y1), .val (.int y2), .val (.int y3), .val (.int y4), .val (.int y5), .val (.ref ob22), .unset, .unset, .unset] [(.int x1), (.int x0), (.ref ob30), (.ref ob30)])) _
        refine XS.iload X30.here hx rfl (hb hby at_206) rfl ?_
        show Steps p.tables e below (T30.setTop (mkF m 208 #[.val (.long ja), .second, .val (.long jb), .second, .val (.long jc), .second, .val (.int kk), .val (.int dl), .val (.int x0), .val (.int x1), .val (.int x2), .val (.int x3), .val (.int x4), .val (.int x5), .val (.int fd), .val (.int dd), .val (.int y0), .val (.int y1), .val (.int y2), .val (.int y3), .val (.int y4), .val (.int y5), .val (.ref ob22), .unset, .unset, .unset] [(.int x2), (.int x1), (.int x0), (.ref ob30), (.ref ob30)])) _
        refine XS.iload X30.here hx rfl (hb hby at_208) rfl ?_
        show Steps p.tables e below (T30.setTop (mkF m 210 #[.val (.long ja), .second, .val (.long jb), .second, .val (.long jc), .second, .val (.int kk), .val (.int dl), .val (.int x0), .val (.int x1), .val (.int x2), .val (.int x3), .val (.int x4), .val (.int x5), .val (.int fd), .val (.int dd), .val (.int y0), .val (.int y1), .val (.int y2), .val (.int y3), .val (.int y4), .val (.int y5), .val (.ref ob22), .unset, .unset, .unset] [(.int x3), (.int x2), (.int x1), (.int x0), (.ref ob30), (.ref ob30)])) _
        refine XS.iload X30.here hx rfl (hb hby at_210) rfl ?_
        show Steps p.tables e below (T30.setTop (mkF m 212 #[.val (.long ja), .second, .val (.long jb), .second, .val (.long jc), .second, .val (.int kk), .val (.int dl), .val (.int x0), .val (.int x1), .val (.int x2), .val (.int x3), .val (.int x4), .val (.int x5), .val (.int fd), .val (.int dd), .val (.int y0), .val (.int y1), .val (.int y2), .val (.int y3), .val (.int y4), .val (.int y5), .val (.ref ob22), .unset, .unset, .unset] [(.int x5), (.int x3), (.int x2), (.int x1), (.int x0), (.ref ob30), (.ref ob30)])) _
        refine XS.iload X30.here hx rfl (hb hby at_212) rfl ?_
        show Steps p.tables e below (T30.setTop (mkF m 214 #[.val (.long ja), .second, .val (.long jb), .second, .val (.long jc), .second, .val (.int kk), .val (.int dl), .val (.int x0), .val (.int x1), .val (.int x2), .val (.int x3), .val (.int x4), .val (.int x5), .val (.int fd), .val (.int dd), .val (.int y0), .val (.int y1), .val (.int y2), .val (.int y3), .val (.int y4), .val (.int y5), .val (.ref ob22), .unset, .unset, .unset] [(.int x3), (.int x5), (.int x3), (.int x2), (.int x1), (.int x0), (.ref ob30), (.ref ob30)])) _
        refine XS.iload X30.here hx rfl (hb hby at_214) rfl ?_
        show Steps p.tables e below (T30.setTop (mkF m 216 #[.val (.long ja), .second, .val (.long jb), .second, .val (.long jc), .second, .val (.int kk), .val (.int dl), .val (.int x0), .val (.int x1), .val (.int x2), .val (.int x3), .val (.int x4), .val (.int x5), .val (.int fd), .val (.int dd), .val (.int y0), .val (.int y1), .val (.int y2), .val (.int y3), .val (.int y4), .val (.int y5), .val (.ref ob22), .unset, .unset, .unset] [(.int x4), (.int x3), (.int x5), (.int x3), (.int x2), (.int x1), (.int x0), (.ref ob30), (.ref ob30)])) _
        refine XS.iload X30.here hx rfl (hb hby at_216) rfl ?_
        show Steps p.tables e below (T30.setTop (mkF m 218 #[.val (.long ja), .second, .val (.long jb), .second, .val (.long jc), .second, .val (.int kk), .val (.int dl), .val (.int x0), .val (.int x1), .val (.int x2), .val (.int x3), .val (.int x4), .val (.int x5), .val (.int fd), .val (.int dd), .val (.int y0), .val (.int y1), .val (.int y2), .val (.int y3), .val (.int y4), .val (.int y5), .val (.ref ob22), .unset, .unset, .unset] [(.int x5), (.int x4), (.int x3), (.int x5), (.int x3), (.int x2), (.int x1), (.int x0), (.ref ob30), (.ref ob30)])) _
        refine st31.trans ?_
        show Steps p.tables e below (T31.setTop (mkF m 221 #[.val (.long ja), .second, .val (.long jb), .second, .val (.long jc), .second, .val (.int kk), .val (.int dl), .val (.int x0), .val (.int x1), .val (.int x2), .val (.int x3), .val (.int x4), .val (.int x5), .val (.int fd), .val (.int dd), .val (.int y0), .val (.int y1), .val (.int y2), .val (.int y3), .val (.int y4), .val (.int y5), .val (.ref ob22), .unset, .unset, .unset] [(.ref ob30)])) _
        refine XS.astore X31.here hx rfl (hb hby at_221) rfl rfl (l' := #[.val (.long ja), .second, .val (.long jb), .second, .val (.long jc), .second, .val (.int kk), .val (.int dl), .val (.int x0), .val (.int x1), .val (.int x2), .val (.int x3), .val (.int x4), .val (.int x5), .val (.int fd), .val (.int dd), .val (.int y0), .val (.int y1), .val (.int y2), .val (.int y3), .val (.int y4), .val (.int y5), .val (.ref ob22), .val (.ref ob30), .unset, .unset]) rfl ?_
        show Steps p.tables e below (T31.setTop (mkF m 223 #[.val (.long ja), .second, .val (.long jb), .second, .val (.long jc), .second, .val (.int kk), .val (.int dl), .val (.int x0), .val (.int x1), .val (.int x2), .val (.int x3), .val (.int x4), .val (.int x5), .val (.int fd), .val (.int dd), .val (.int y0), .val (.int y1), .val (.int y2), .val (.int y3), .val (.int y4), .val (.int y5), .val (.ref ob22), .val (.ref ob30), .unset, .unset] [])) _
        refine XS.goto X31.here hx rfl (pc0 := 223) (pc' := 247) rfl (hb hby at_223) (by decide) (by decide) ?_
        show Steps p.tables e below (T31.setTop (mkF m 247 #[.val (.long ja), .second, .val (.long jb), .second, .val (.long jc), .second, .val (.int kk), .val (.int dl), .val (.int x0), .val (.int x1), .val (.int x2), .val (.int x3), .val (.int x4), .val (.int x5), .val (.int fd), .val (.int dd), .val (.int y0), .val (.int y1), .val (.int y2), .val (.int y3), .val (.int y4), .val (.int y5), .val (.ref ob22), .val (.ref ob30), .unset, .unset] [])) _
        refine XS.iload X31.here hx rfl (hb hby at_247) rfl ?_
        show Steps p.tables e below (T31.setTop (mkF m 249 #[.val (.long ja), .second, .val (.long jb), .second, .val (.long jc), .second, .val (.int kk), .val (.int dl), .val (.int x0), .val (.int x1), .val (.int x2), .val (.int x3), .val (.int x4), .val (.int x5), .val (.int fd), .val (.int dd), .val (.int y0), .val (.int y1), .val (.int y2), .val (.int y3), .val (.int y4), .val (.int y5), .val (.ref ob22), .val (.ref ob30), .unset, .unset] [(.int fd)])) _
        refine XT.bipushV X31.here hx rfl (6 : Int32) (hb hby at_249) rfl ?_
        by_cases hj251 : fd = (6 : Int32)
        · rw [if_pos hj251] at k
          show Steps p.tables e below (T31.setTop (mkF m 251 #[.val (.long ja), .second, .val (.long jb), .second, .val (.long jc), .second, .val (.int kk), .val (.int dl), .val (.int x0), .val (.int x1), .val (.int x2), .val (.int x3), .val (.int x4), .val (.int x5), .val (.int fd), .val (.int dd), .val (.int y0), .val (.int y1), .val (.int y2), .val (.int y3), .val (.int y4), .val (.int y5), .val (.ref ob22), .val (.ref ob30), .unset, .unset] [(.int (6 : Int32)), (.int fd)])) _
          refine XS.icmpNo X31.here hx rfl (hb hby at_251) rfl (XT.ii_ne_f hj251) ?_
          show Steps p.tables e below (T31.setTop (mkF m 254 #[.val (.long ja), .second, .val (.long jb), .second, .val (.long jc), .second, .val (.int kk), .val (.int dl), .val (.int x0), .val (.int x1), .val (.int x2), .val (.int x3), .val (.int x4), .val (.int x5), .val (.int fd), .val (.int dd), .val (.int y0), .val (.int y1), .val (.int y2), .val (.int y3), .val (.int y4), .val (.int y5), .val (.ref ob22), .val (.ref ob30), .unset, .unset] [])) _
          refine XT.iconstV X31.here hx rfl (1 : Int32) (hb hby at_254) rfl ?_
          show Steps p.tables e below (T31.setTop (mkF m 255 #[.val (.long ja), .second, .val (.long jb), .second, .val (.long jc), .second, .val (.int kk), .val (.int dl), .val (.int x0), .val (.int x1), .val (.int x2), .val (.int x3), .val (.int x4), .val (.int x5), .val (.int fd), .val (.int dd), .val (.int y0), .val (.int y1), .val (.int y2), .val (.int y3), .val (.int y4), .val (.int y5), .val (.ref ob22), .val (.ref ob30), .unset, .unset] [(.int (1 : Int32))])) _
          refine XS.goto X31.here hx rfl (pc0 := 255) (pc' := 259) rfl (hb hby at_255) (by decide) (by decide) ?_
          exact k
        · rw [if_neg hj251] at k
          show Steps p.tables e below (T31.setTop (mkF m 251 #[.val (.long ja), .second, .val (.long jb), .second, .val (.long jc), .second, .val (.int kk), .val (.int dl), .val (.int x0), .val (.int x1), .val (.int x2), .val (.int x3), .val (.int x4), .val (.int x5), .val (.int fd), .val (.int dd), .val (.int y0), .val (.int y1), .val (.int y2), .val (.int y3), .val (.int y4), .val (.int y5), .val (.ref ob22), .val (.ref ob30), .unset, .unset] [(.int (6 : Int32)), (.int fd)])) _
          refine XS.icmpYes X31.here hx rfl (pc0 := 251) (pc' := 258) rfl (hb hby at_251) rfl (XT.ii_ne_t hj251) (by decide) (by decide) ?_
          show Steps p.tables e below (T31.setTop (mkF m 258 #[.val (.long ja), .second, .val (.long jb), .second, .val (.long jc), .second, .val (.int kk), .val (.int dl), .val (.int x0), .val (.int x1), .val (.int x2), .val (.int x3), .val (.int x4), .val (.int x5), .val (.int fd), .val (.int dd), .val (.int y0), .val (.int y1), .val (.int y2), .val (.int y3), .val (.int y4), .val (.int y5), .val (.ref ob22), .val (.ref ob30), .unset, .unset] [])) _
          refine XT.iconstV X31.here hx rfl (0 : Int32) (hb hby at_258) rfl ?_
          exact k)
      have pre33 : ∀ t, Steps p.tables e below (T31.setTop (mkF m 261 #[.val (.long ja), .second, .val (.long jb), .second, .val (.long jc), .second, .val (.int kk), .val (.int dl), .val (.int x0), .val (.int x1), .val (.int x2), .val (.int x3), .val (.int x4), .val (.int x5), .val (.int fd), .val (.int dd), .val (.int y0), .val (.int y1), .val (.int y2), .val (.int y3), .val (.int y4), .val (.int y5), .val (.ref ob22), .val (.ref ob30), .val (.int (if fd = (6 : Int32) then (1 : Int32) else (0 : Int32))), .unset] [])) t → Steps p.tables e below (s₁.setTop (entryFrame m #[(.long ja), (.long jb), (.long jc), (.int kk), (.int dl)] maxLocals)) t := fun t k => pre32 t (by
        show Steps p.tables e below (T31.setTop (mkF m 259 #[.val (.long ja), .second, .val (.long jb), .second, .val (.long jc), .second, .val (.int kk), .val (.int dl), .val (.int x0), .val (.int x1), .val (.int x2), .val (.int x3), .val (.int x4), .val (.int x5), .val (.int fd), .val (.int dd), .val (.int y0), .val (.int y1), .val (.int y2), .val (.int y3), .val (.int y4), .val (.int y5), .val (.ref ob22), .val (.ref ob30), .unset, .unset] [(.int (if fd = (6 : Int32) then (1 : Int32) else (0 : Int32)))])) _
        refine XS.istore X31.here hx rfl (hb hby at_259) rfl (l' := #[.val (.long ja), .second, .val (.long jb), .second, .val (.long jc), .second, .val (.int kk), .val (.int dl), .val (.int x0), .val (.int x1), .val (.int x2), .val (.int x3), .val (.int x4), .val (.int x5), .val (.int fd), .val (.int dd), .val (.int y0), .val (.int y1), .val (.int y2), .val (.int y3), .val (.int y4), .val (.int y5), .val (.ref ob22), .val (.ref ob30), .val (.int (if fd = (6 : Int32) then (1 : Int32) else (0 : Int32))), .unset]) rfl ?_
        exact k)
      obtain ⟨ex, q_ex⟩ : ∃ z : Int32, z = (if fd = (6 : Int32) then (1 : Int32) else (0 : Int32)) := ⟨_, rfl⟩
      rw [← q_ex] at pre33
      have hex : (0 : Int32) = ex := by rw [q_ex, if_neg (by rw [h7]; decide)]
      have FE_ob22_35 : Exa Z T31.heap ob22 "com/example/traversim/traversim/aodv/Packet$Rrep" := ((Fa23_E_a1.ext E30).keep K31)
      obtain ⟨cq34, kq34, q34a, q34b, q34c⟩ := isOf hZ rfl FE_ob22_35
      obtain ⟨_, _, ⟨T34, tL34, tk34, tn34⟩, -, X34, ⟨Lc34, hQ34, tl34, ty34, tz34⟩, st34⟩ := X31.virtualBack hx (y := (⟨"com/example/traversim/traversim/aodv/Packet$Rrep", "equals", "(Ljava/lang/Object;)Z"⟩ : MethodName)) (z := (⟨"com/example/traversim/traversim/aodv/Packet$Rrep", "equals", "(Ljava/lang/Object;)Z"⟩ : MethodName)) hown (mvT hZ (hw _ (List.mem_of_getElem? (i := 26) rfl))) (mvT hZ (hw _ (List.mem_of_getElem? (i := 27) rfl))) (notFace_of_selects (args := #[]) (mvT hZ (hw _ (List.mem_of_getElem? (i := 29) rfl)))) (mvT hZ (hw _ (List.mem_of_getElem? (i := 29) rfl))) (mvT hZ (hw _ (List.mem_of_getElem? (i := 28) rfl))) (by decide) (backOf (W := 0) (own_rm4b l Z a0 hw [] ob22 ob30 T31.heap n0 sz31 Fa31_E_a1) hZ (hw _ (List.mem_of_getElem? (i := 30) rfl)) (hw _ (List.mem_of_getElem? (i := 2) rfl)) (by decide) (by decide)) q34a q34c (g := (mkF m 265 #[.val (.long ja), .second, .val (.long jb), .second, .val (.long jc), .second, .val (.int kk), .val (.int dl), .val (.int x0), .val (.int x1), .val (.int x2), .val (.int x3), .val (.int x4), .val (.int x5), .val (.int fd), .val (.int dd), .val (.int y0), .val (.int y1), .val (.int y2), .val (.int y3), .val (.int y4), .val (.int y5), .val (.ref ob22), .val (.ref ob30), .val (.int ex), .unset] [(.ref ob30), (.ref ob22)])) rfl (by rw [hml]; rfl) (Steps.refl _) (argsL := [(.ref ob30)]) (rest := []) (lenOf own_pd2 rfl) rfl (by show 2 * 0 + _ ≤ _; exact Nat.le_of_eq rfl) (hb hby at_265) (fun _ _ => ⟨rfl, rfl, (by decide : 2 + 0 ≤ _), (by decide : 14 + 0 ≤ _)⟩)
      dsimp only [Pt.U, Pt.locs, Pt.cells, Pt.slots] at X34 tl34 ty34 tz34 st34 hQ34
      rw [tl34, ty34, tz34] at X34
      obtain ⟨rfl, Nq34, K34⟩ := hQ34
      have N34 := Fr.app N31 Nq34
      have FF_ob22_from_36 : Fld Z T31.heap ob22 "com/example/traversim/traversim/aodv/Packet$Rrep" "from" "I" (.int x0) := ((Fa23_F_a1_from.ext E30).keep K31 (ninS ne_ob22_ob30 nin0))
      have FF_ob22_to_37 : Fld Z T31.heap ob22 "com/example/traversim/traversim/aodv/Packet$Rrep" "to" "I" (.int x1) := ((Fa23_F_a1_to.ext E30).keep K31 (ninS ne_ob22_ob30 nin0))
      have FF_ob22_orig_38 : Fld Z T31.heap ob22 "com/example/traversim/traversim/aodv/Packet$Rrep" "orig" "I" (.int x2) := ((Fa23_F_a1_orig.ext E30).keep K31 (ninS ne_ob22_ob30 nin0))
      have FF_ob22_dst_39 : Fld Z T31.heap ob22 "com/example/traversim/traversim/aodv/Packet$Rrep" "dst" "I" (.int x3) := ((Fa23_F_a1_dst.ext E30).keep K31 (ninS ne_ob22_ob30 nin0))
      have FF_ob22_seqno_40 : Fld Z T31.heap ob22 "com/example/traversim/traversim/aodv/Packet$Rrep" "seqno" "I" (.int x4) := ((Fa23_F_a1_seqno.ext E30).keep K31 (ninS ne_ob22_ob30 nin0))
      have FF_ob22_hops_41 : Fld Z T31.heap ob22 "com/example/traversim/traversim/aodv/Packet$Rrep" "hops" "I" (.int x5) := ((Fa23_F_a1_hops.ext E30).keep K31 (ninS ne_ob22_ob30 nin0))
      obtain ⟨cq42, kq42, q42a, q42b, q42c⟩ := isOf hZ K34 FE_ob22_35
      obtain ⟨_, _, ⟨T42, tL42, tk42, tn42⟩, -, X42, ⟨Lc42, hQ42, tl42, ty42, tz42⟩, st42⟩ := X34.virtualBack hx (y := (⟨"com/example/traversim/traversim/aodv/Packet$Rrep", "equals", "(Ljava/lang/Object;)Z"⟩ : MethodName)) (z := (⟨"com/example/traversim/traversim/aodv/Packet$Rrep", "equals", "(Ljava/lang/Object;)Z"⟩ : MethodName)) hown (mvT hZ (hw _ (List.mem_of_getElem? (i := 26) rfl))) (mvT hZ (hw _ (List.mem_of_getElem? (i := 27) rfl))) (notFace_of_selects (args := #[]) (mvT hZ (hw _ (List.mem_of_getElem? (i := 29) rfl)))) (mvT hZ (hw _ (List.mem_of_getElem? (i := 29) rfl))) (mvT hZ (hw _ (List.mem_of_getElem? (i := 28) rfl))) (by decide) (backOf (W := 0) (own_rm4 l Z a0 hw [] ob22 ob22 x0 x1 x2 x3 x4 x5 x0 x1 x2 x3 x4 x5 T31.heap n0 sz31 FE_ob22_35 FF_ob22_from_36 FF_ob22_to_37 FF_ob22_orig_38 FF_ob22_dst_39 FF_ob22_seqno_40 FF_ob22_hops_41 FE_ob22_35 FF_ob22_from_36 FF_ob22_to_37 FF_ob22_orig_38 FF_ob22_dst_39 FF_ob22_seqno_40 FF_ob22_hops_41) hZ (hw _ (List.mem_of_getElem? (i := 30) rfl)) (hw _ (List.mem_of_getElem? (i := 2) rfl)) (by decide) (by decide)) q42a q42c (g := (mkF m 283 #[.val (.long ja), .second, .val (.long jb), .second, .val (.long jc), .second, .val (.int kk), .val (.int dl), .val (.int x0), .val (.int x1), .val (.int x2), .val (.int x3), .val (.int x4), .val (.int x5), .val (.int fd), .val (.int dd), .val (.int y0), .val (.int y1), .val (.int y2), .val (.int y3), .val (.int y4), .val (.int y5), .val (.ref ob22), .val (.ref ob30), .val (.int ex), .val (.int (0 : Int32))] [(.ref ob22), (.ref ob22)])) rfl (by rw [hml]; rfl) (Steps.refl _) (argsL := [(.ref ob22)]) (rest := []) (lenOf own_pd2 rfl) rfl (by show 2 * 0 + _ ≤ _; exact Nat.le_of_eq rfl) (hb hby at_283) (fun _ _ => ⟨rfl, K34, (by decide : 2 + 0 ≤ _), (by decide : 14 + 0 ≤ _)⟩)
      dsimp only [Pt.U, Pt.locs, Pt.cells, Pt.slots] at X42 tl42 ty42 tz42 st42 hQ42
      rw [tl42, ty42, tz42] at X42
      obtain ⟨rfl, Nq42, K42⟩ := hQ42
      have N42 := Fr.app N34 Nq42
      obtain ⟨cq43, kq43, q43a, q43b, q43c⟩ := isOf hZ K42 Fa31_E_a1
      obtain ⟨_, _, ⟨T43, tL43, tk43, tn43⟩, -, X43, ⟨Lc43, hQ43, tl43, ty43, tz43⟩, st43⟩ := X42.virtualBack hx (y := (⟨"java/lang/Object", "equals", "(Ljava/lang/Object;)Z"⟩ : MethodName)) (z := (⟨"com/example/traversim/traversim/aodv/Packet$Rreq", "equals", "(Ljava/lang/Object;)Z"⟩ : MethodName)) hown (mvT hZ (hw _ (List.mem_of_getElem? (i := 33) rfl))) (mvT hZ (hw _ (List.mem_of_getElem? (i := 34) rfl))) (nf_top (args := #[]) (mvT hZ (hw _ (List.mem_of_getElem? (i := 62) rfl)))) (mvT hZ (hw _ (List.mem_of_getElem? (i := 63) rfl))) (mvT hZ (hw _ (List.mem_of_getElem? (i := 64) rfl))) (by decide) (backOf (W := 0) (own_rm6b l Z a0 hw [] ob30 ob22 T31.heap n0 sz31 FE_ob22_35) hZ (hw _ (List.mem_of_getElem? (i := 65) rfl)) (hw _ (List.mem_of_getElem? (i := 39) rfl)) (by decide) (by decide)) q43a q43c (g := (mkF m 300 #[.val (.long ja), .second, .val (.long jb), .second, .val (.long jc), .second, .val (.int kk), .val (.int dl), .val (.int x0), .val (.int x1), .val (.int x2), .val (.int x3), .val (.int x4), .val (.int x5), .val (.int fd), .val (.int dd), .val (.int y0), .val (.int y1), .val (.int y2), .val (.int y3), .val (.int y4), .val (.int y5), .val (.ref ob22), .val (.ref ob30), .val (.int ex), .val (.int (0 : Int32))] [(.ref ob22), (.ref ob30)])) rfl (by rw [hml]; rfl) (Steps.refl _) (argsL := [(.ref ob22)]) (rest := []) (lenOf own_pd2 rfl) rfl (by show 2 * 0 + _ ≤ _; exact Nat.le_of_eq rfl) (hb hby at_300) (fun _ _ => ⟨rfl, K42, (by decide : 2 + 0 ≤ _), (by decide : 14 + 0 ≤ _)⟩)
      dsimp only [Pt.U, Pt.locs, Pt.cells, Pt.slots] at X43 tl43 ty43 tz43 st43 hQ43
      rw [tl43, ty43, tz43] at X43
      obtain ⟨rfl, Nq43, K43⟩ := hQ43
      have N43 := Fr.app N42 Nq43
      obtain ⟨fs, hr, hrun, hended, hW, hsame⟩ := X43.leave (v := some (.int (1 : Int32))) (fun h => by rw [Bd.returns] at h; cases h)
      refine ⟨_, _, pre33 _ ?_, hrun, hended, _, _, rfl, ?_, ⟨_, rfl⟩, hW, hsame.mono (by decide) (by decide)⟩
      · show Steps p.tables e below (T31.setTop (mkF m 261 #[.val (.long ja), .second, .val (.long jb), .second, .val (.long jc), .second, .val (.int kk), .val (.int dl), .val (.int x0), .val (.int x1), .val (.int x2), .val (.int x3), .val (.int x4), .val (.int x5), .val (.int fd), .val (.int dd), .val (.int y0), .val (.int y1), .val (.int y2), .val (.int y3), .val (.int y4), .val (.int y5), .val (.ref ob22), .val (.ref ob30), .val (.int ex), .unset] [])) _
        refine XS.aload X31.here hx rfl (hb hby at_261) rfl rfl ?_
        show Steps p.tables e below (T31.setTop (mkF m 263 #[.val (.long ja), .second, .val (.long jb), .second, .val (.long jc), .second, .val (.int kk), .val (.int dl), .val (.int x0), .val (.int x1), .val (.int x2), .val (.int x3), .val (.int x4), .val (.int x5), .val (.int fd), .val (.int dd), .val (.int y0), .val (.int y1), .val (.int y2), .val (.int y3), .val (.int y4), .val (.int y5), .val (.ref ob22), .val (.ref ob30), .val (.int ex), .unset] [(.ref ob22)])) _
        refine XS.aload X31.here hx rfl (hb hby at_263) rfl rfl ?_
        show Steps p.tables e below (T31.setTop (mkF m 265 #[.val (.long ja), .second, .val (.long jb), .second, .val (.long jc), .second, .val (.int kk), .val (.int dl), .val (.int x0), .val (.int x1), .val (.int x2), .val (.int x3), .val (.int x4), .val (.int x5), .val (.int fd), .val (.int dd), .val (.int y0), .val (.int y1), .val (.int y2), .val (.int y3), .val (.int y4), .val (.int y5), .val (.ref ob22), .val (.ref ob30), .val (.int ex), .unset] [(.ref ob30), (.ref ob22)])) _
        refine st34.trans ?_
        show Steps p.tables e below (T34.setTop (mkF m 268 #[.val (.long ja), .second, .val (.long jb), .second, .val (.long jc), .second, .val (.int kk), .val (.int dl), .val (.int x0), .val (.int x1), .val (.int x2), .val (.int x3), .val (.int x4), .val (.int x5), .val (.int fd), .val (.int dd), .val (.int y0), .val (.int y1), .val (.int y2), .val (.int y3), .val (.int y4), .val (.int y5), .val (.ref ob22), .val (.ref ob30), .val (.int ex), .unset] [(.int (0 : Int32))])) _
        refine XS.istore X34.here hx rfl (hb hby at_268) rfl (l' := #[.val (.long ja), .second, .val (.long jb), .second, .val (.long jc), .second, .val (.int kk), .val (.int dl), .val (.int x0), .val (.int x1), .val (.int x2), .val (.int x3), .val (.int x4), .val (.int x5), .val (.int fd), .val (.int dd), .val (.int y0), .val (.int y1), .val (.int y2), .val (.int y3), .val (.int y4), .val (.int y5), .val (.ref ob22), .val (.ref ob30), .val (.int ex), .val (.int (0 : Int32))]) rfl ?_
        show Steps p.tables e below (T34.setTop (mkF m 270 #[.val (.long ja), .second, .val (.long jb), .second, .val (.long jc), .second, .val (.int kk), .val (.int dl), .val (.int x0), .val (.int x1), .val (.int x2), .val (.int x3), .val (.int x4), .val (.int x5), .val (.int fd), .val (.int dd), .val (.int y0), .val (.int y1), .val (.int y2), .val (.int y3), .val (.int y4), .val (.int y5), .val (.ref ob22), .val (.ref ob30), .val (.int ex), .val (.int (0 : Int32))] [])) _
        refine XS.iload X34.here hx rfl (hb hby at_270) rfl ?_
        show Steps p.tables e below (T34.setTop (mkF m 272 #[.val (.long ja), .second, .val (.long jb), .second, .val (.long jc), .second, .val (.int kk), .val (.int dl), .val (.int x0), .val (.int x1), .val (.int x2), .val (.int x3), .val (.int x4), .val (.int x5), .val (.int fd), .val (.int dd), .val (.int y0), .val (.int y1), .val (.int y2), .val (.int y3), .val (.int y4), .val (.int y5), .val (.ref ob22), .val (.ref ob30), .val (.int ex), .val (.int (0 : Int32))] [(.int (0 : Int32))])) _
        refine XS.iload X34.here hx rfl (hb hby at_272) rfl ?_
        show Steps p.tables e below (T34.setTop (mkF m 274 #[.val (.long ja), .second, .val (.long jb), .second, .val (.long jc), .second, .val (.int kk), .val (.int dl), .val (.int x0), .val (.int x1), .val (.int x2), .val (.int x3), .val (.int x4), .val (.int x5), .val (.int fd), .val (.int dd), .val (.int y0), .val (.int y1), .val (.int y2), .val (.int y3), .val (.int y4), .val (.int y5), .val (.ref ob22), .val (.ref ob30), .val (.int ex), .val (.int (0 : Int32))] [(.int ex), (.int (0 : Int32))])) _
        refine XS.icmpYes X34.here hx rfl (pc0 := 274) (pc' := 279) rfl (hb hby at_274) rfl (XT.ii_eq_t hex) (by decide) (by decide) ?_
        show Steps p.tables e below (T34.setTop (mkF m 279 #[.val (.long ja), .second, .val (.long jb), .second, .val (.long jc), .second, .val (.int kk), .val (.int dl), .val (.int x0), .val (.int x1), .val (.int x2), .val (.int x3), .val (.int x4), .val (.int x5), .val (.int fd), .val (.int dd), .val (.int y0), .val (.int y1), .val (.int y2), .val (.int y3), .val (.int y4), .val (.int y5), .val (.ref ob22), .val (.ref ob30), .val (.int ex), .val (.int (0 : Int32))] [])) _
        refine XS.aload X34.here hx rfl (hb hby at_279) rfl rfl ?_
        show Steps p.tables e below (T34.setTop (mkF m 281 #[.val (.long ja), .second, .val (.long jb), .second, .val (.long jc), .second, .val (.int kk), .val (.int dl), .val (.int x0), .val (.int x1), .val (.int x2), .val (.int x3), .val (.int x4), .val (.int x5), .val (.int fd), .val (.int dd), .val (.int y0), .val (.int y1), .val (.int y2), .val (.int y3), .val (.int y4), .val (.int y5), .val (.ref ob22), .val (.ref ob30), .val (.int ex), .val (.int (0 : Int32))] [(.ref ob22)])) _
        refine XS.aload X34.here hx rfl (hb hby at_281) rfl rfl ?_
        show Steps p.tables e below (T34.setTop (mkF m 283 #[.val (.long ja), .second, .val (.long jb), .second, .val (.long jc), .second, .val (.int kk), .val (.int dl), .val (.int x0), .val (.int x1), .val (.int x2), .val (.int x3), .val (.int x4), .val (.int x5), .val (.int fd), .val (.int dd), .val (.int y0), .val (.int y1), .val (.int y2), .val (.int y3), .val (.int y4), .val (.int y5), .val (.ref ob22), .val (.ref ob30), .val (.int ex), .val (.int (0 : Int32))] [(.ref ob22), (.ref ob22)])) _
        refine st42.trans ?_
        show Steps p.tables e below (T42.setTop (mkF m 286 #[.val (.long ja), .second, .val (.long jb), .second, .val (.long jc), .second, .val (.int kk), .val (.int dl), .val (.int x0), .val (.int x1), .val (.int x2), .val (.int x3), .val (.int x4), .val (.int x5), .val (.int fd), .val (.int dd), .val (.int y0), .val (.int y1), .val (.int y2), .val (.int y3), .val (.int y4), .val (.int y5), .val (.ref ob22), .val (.ref ob30), .val (.int ex), .val (.int (0 : Int32))] [(.int (own_eq x0 x1 x2 x3 x4 x5 x0 x1 x2 x3 x4 x5))])) _
        refine XS.ifYes X42.here hx rfl (pc0 := 286) (pc' := 291) rfl (hb hby at_286) rfl (XT.i0_ne_t (own_eq_self _ _ _ _ _ _)) (by decide) (by decide) ?_
        show Steps p.tables e below (T42.setTop (mkF m 291 #[.val (.long ja), .second, .val (.long jb), .second, .val (.long jc), .second, .val (.int kk), .val (.int dl), .val (.int x0), .val (.int x1), .val (.int x2), .val (.int x3), .val (.int x4), .val (.int x5), .val (.int fd), .val (.int dd), .val (.int y0), .val (.int y1), .val (.int y2), .val (.int y3), .val (.int y4), .val (.int y5), .val (.ref ob22), .val (.ref ob30), .val (.int ex), .val (.int (0 : Int32))] [])) _
        refine XS.aload X42.here hx rfl (hb hby at_291) rfl rfl ?_
        show Steps p.tables e below (T42.setTop (mkF m 293 #[.val (.long ja), .second, .val (.long jb), .second, .val (.long jc), .second, .val (.int kk), .val (.int dl), .val (.int x0), .val (.int x1), .val (.int x2), .val (.int x3), .val (.int x4), .val (.int x5), .val (.int fd), .val (.int dd), .val (.int y0), .val (.int y1), .val (.int y2), .val (.int y3), .val (.int y4), .val (.int y5), .val (.ref ob22), .val (.ref ob30), .val (.int ex), .val (.int (0 : Int32))] [(.ref ob30)])) _
        refine XS.ifnullNo X42.here hx rfl (hb hby at_293) rfl ?_
        show Steps p.tables e below (T42.setTop (mkF m 296 #[.val (.long ja), .second, .val (.long jb), .second, .val (.long jc), .second, .val (.int kk), .val (.int dl), .val (.int x0), .val (.int x1), .val (.int x2), .val (.int x3), .val (.int x4), .val (.int x5), .val (.int fd), .val (.int dd), .val (.int y0), .val (.int y1), .val (.int y2), .val (.int y3), .val (.int y4), .val (.int y5), .val (.ref ob22), .val (.ref ob30), .val (.int ex), .val (.int (0 : Int32))] [])) _
        refine XS.aload X42.here hx rfl (hb hby at_296) rfl rfl ?_
        show Steps p.tables e below (T42.setTop (mkF m 298 #[.val (.long ja), .second, .val (.long jb), .second, .val (.long jc), .second, .val (.int kk), .val (.int dl), .val (.int x0), .val (.int x1), .val (.int x2), .val (.int x3), .val (.int x4), .val (.int x5), .val (.int fd), .val (.int dd), .val (.int y0), .val (.int y1), .val (.int y2), .val (.int y3), .val (.int y4), .val (.int y5), .val (.ref ob22), .val (.ref ob30), .val (.int ex), .val (.int (0 : Int32))] [(.ref ob30)])) _
        refine XS.aload X42.here hx rfl (hb hby at_298) rfl rfl ?_
        show Steps p.tables e below (T42.setTop (mkF m 300 #[.val (.long ja), .second, .val (.long jb), .second, .val (.long jc), .second, .val (.int kk), .val (.int dl), .val (.int x0), .val (.int x1), .val (.int x2), .val (.int x3), .val (.int x4), .val (.int x5), .val (.int fd), .val (.int dd), .val (.int y0), .val (.int y1), .val (.int y2), .val (.int y3), .val (.int y4), .val (.int y5), .val (.ref ob22), .val (.ref ob30), .val (.int ex), .val (.int (0 : Int32))] [(.ref ob22), (.ref ob30)])) _
        refine st43.trans ?_
        show Steps p.tables e below (T43.setTop (mkF m 303 #[.val (.long ja), .second, .val (.long jb), .second, .val (.long jc), .second, .val (.int kk), .val (.int dl), .val (.int x0), .val (.int x1), .val (.int x2), .val (.int x3), .val (.int x4), .val (.int x5), .val (.int fd), .val (.int dd), .val (.int y0), .val (.int y1), .val (.int y2), .val (.int y3), .val (.int y4), .val (.int y5), .val (.ref ob22), .val (.ref ob30), .val (.int ex), .val (.int (0 : Int32))] [(.int (0 : Int32))])) _
        refine XS.iload X43.here hx rfl (hb hby at_303) rfl ?_
        show Steps p.tables e below (T43.setTop (mkF m 305 #[.val (.long ja), .second, .val (.long jb), .second, .val (.long jc), .second, .val (.int kk), .val (.int dl), .val (.int x0), .val (.int x1), .val (.int x2), .val (.int x3), .val (.int x4), .val (.int x5), .val (.int fd), .val (.int dd), .val (.int y0), .val (.int y1), .val (.int y2), .val (.int y3), .val (.int y4), .val (.int y5), .val (.ref ob22), .val (.ref ob30), .val (.int ex), .val (.int (0 : Int32))] [(.int (0 : Int32)), (.int (0 : Int32))])) _
        refine XS.icmpYes X43.here hx rfl (pc0 := 305) (pc' := 310) rfl (hb hby at_305) rfl (XT.ii_eq_t rfl) (by decide) (by decide) ?_
        show Steps p.tables e below (T43.setTop (mkF m 310 #[.val (.long ja), .second, .val (.long jb), .second, .val (.long jc), .second, .val (.int kk), .val (.int dl), .val (.int x0), .val (.int x1), .val (.int x2), .val (.int x3), .val (.int x4), .val (.int x5), .val (.int fd), .val (.int dd), .val (.int y0), .val (.int y1), .val (.int y2), .val (.int y3), .val (.int y4), .val (.int y5), .val (.ref ob22), .val (.ref ob30), .val (.int ex), .val (.int (0 : Int32))] [])) _
        refine XT.iconstV X43.here hx rfl (1 : Int32) (hb hby at_310) rfl ?_
        show Steps p.tables e below (T43.setTop (mkF m 311 #[.val (.long ja), .second, .val (.long jb), .second, .val (.long jc), .second, .val (.int kk), .val (.int dl), .val (.int x0), .val (.int x1), .val (.int x2), .val (.int x3), .val (.int x4), .val (.int x5), .val (.int fd), .val (.int dd), .val (.int y0), .val (.int y1), .val (.int y2), .val (.int y3), .val (.int y4), .val (.int y5), .val (.ref ob22), .val (.ref ob30), .val (.int ex), .val (.int (0 : Int32))] [(.int (1 : Int32))])) _
        exact retN X43 hx (t := .boolean) Bd.returns (by simp) (hb hby at_311) hr
      · show own_Q0 Z ja jb jc kk dl h0 n0 _ T43.heap _
        exact ⟨rfl, N43⟩
  · obtain ⟨htw1, htw2⟩ := own_two fd dd x0 x1 x2 x3 x4 x5 y0 y1 y2 y3 y4 y5 (by rw [q_fd]; exact own_fld kk) h7 hdd q_y0 q_y1 q_y2 q_y3 q_y4 q_y5
    obtain ⟨T44, h44, X44, e44, E44, A44, D44, -, st44⟩ := newO X23 hx hZ hown (hw _ (List.mem_of_getElem? (i := 0) rfl)) (hw _ (List.mem_of_getElem? (i := 1) rfl)) (hw _ (List.mem_of_getElem? (i := 2) rfl)) rfl (g := (mkF m 226 #[.val (.long ja), .second, .val (.long jb), .second, .val (.long jc), .second, .val (.int kk), .val (.int dl), .val (.int x0), .val (.int x1), .val (.int x2), .val (.int x3), .val (.int x4), .val (.int x5), .val (.int fd), .val (.int dd), .val (.int y0), .val (.int y1), .val (.int y2), .val (.int y3), .val (.int y4), .val (.int y5), .val (.ref ob22), .unset, .unset, .unset] [])) rfl (hb hby at_226) (by decide) (by decide)
    obtain ⟨ob44, g44⟩ : ∃ z, z = T23.heap.size := ⟨_, rfl⟩
    rw [← g44] at A44 D44 st44
    have ne_ob22_ob44 : ob22 ≠ ob44 := Nat.ne_of_lt (Nat.lt_of_lt_of_le Fa23_E_a1.lt (Nat.le_of_eq g44.symm))
    have sz44 : n0 ≤ h44.size := Nat.le_trans sz23 E44.1
    have gn_ob44 : n0 ≤ ob44 := Nat.le_trans sz23 (Nat.le_of_eq g44.symm)
    have bo_ob44 : h0.size ≤ ob44 := Nat.le_trans KK23.1 (Nat.le_of_eq g44.symm)
    have K44 : Keep h0 h44 [] := KK23.ext E44
    have F0_from_ob44 : Fld Z h44 ob44 "com/example/traversim/traversim/aodv/Packet$Rrep" "from" "I" (.int (0 : Int32)) := D44 (Or.inr (hw _ (List.mem_of_getElem? (i := 15) rfl))) (ty := .int) (by decide)
    have F0_to_ob44 : Fld Z h44 ob44 "com/example/traversim/traversim/aodv/Packet$Rrep" "to" "I" (.int (0 : Int32)) := D44 (Or.inr (hw _ (List.mem_of_getElem? (i := 17) rfl))) (ty := .int) (by decide)
    have F0_orig_ob44 : Fld Z h44 ob44 "com/example/traversim/traversim/aodv/Packet$Rrep" "orig" "I" (.int (0 : Int32)) := D44 (Or.inr (hw _ (List.mem_of_getElem? (i := 19) rfl))) (ty := .int) (by decide)
    have F0_dst_ob44 : Fld Z h44 ob44 "com/example/traversim/traversim/aodv/Packet$Rrep" "dst" "I" (.int (0 : Int32)) := D44 (Or.inr (hw _ (List.mem_of_getElem? (i := 21) rfl))) (ty := .int) (by decide)
    have F0_seqno_ob44 : Fld Z h44 ob44 "com/example/traversim/traversim/aodv/Packet$Rrep" "seqno" "I" (.int (0 : Int32)) := D44 (Or.inr (hw _ (List.mem_of_getElem? (i := 23) rfl))) (ty := .int) (by decide)
    have F0_hops_ob44 : Fld Z h44 ob44 "com/example/traversim/traversim/aodv/Packet$Rrep" "hops" "I" (.int (0 : Int32)) := D44 (Or.inr (hw _ (List.mem_of_getElem? (i := 25) rfl))) (ty := .int) (by decide)
    obtain ⟨_, _, ⟨T45, tL45, tk45, tn45⟩, -, X45, ⟨Lc45, hQ45, tl45, ty45, tz45⟩, st45⟩ := X44.specialBack hx (y := (⟨"com/example/traversim/traversim/aodv/Packet$Rrep", "<init>", "(IIIIII)V"⟩ : MethodName)) rfl hown (mvT hZ (hw _ (List.mem_of_getElem? (i := 3) rfl))) (mvT hZ (hw _ (List.mem_of_getElem? (i := 4) rfl))) (mvT hZ (hw _ (List.mem_of_getElem? (i := 5) rfl))) (by decide) (backOf (W := 1) (own_rm1 l Z a0 hw [] ob44 y0 y1 y2 y3 y4 y5 ((.int (0 : Int32)) : Value) ((.int (0 : Int32)) : Value) ((.int (0 : Int32)) : Value) ((.int (0 : Int32)) : Value) ((.int (0 : Int32)) : Value) ((.int (0 : Int32)) : Value) h44 n0 sz44 A44 F0_from_ob44 F0_to_ob44 F0_orig_ob44 F0_dst_ob44 F0_seqno_ob44 F0_hops_ob44 gn_ob44) hZ (hw _ (List.mem_of_getElem? (i := 5) rfl)) (hw _ (List.mem_of_getElem? (i := 2) rfl)) (by decide) (by decide)) (g := (mkF m 242 #[.val (.long ja), .second, .val (.long jb), .second, .val (.long jc), .second, .val (.int kk), .val (.int dl), .val (.int x0), .val (.int x1), .val (.int x2), .val (.int x3), .val (.int x4), .val (.int x5), .val (.int fd), .val (.int dd), .val (.int y0), .val (.int y1), .val (.int y2), .val (.int y3), .val (.int y4), .val (.int y5), .val (.ref ob22), .unset, .unset, .unset] [(.int y5), (.int y4), (.int y3), (.int y2), (.int y1), (.int y0), (.ref ob44), (.ref ob44)])) rfl (by rw [hml]; rfl) (Steps.refl _) (a := ob44) (argsL := [(.int y0), (.int y1), (.int y2), (.int y3), (.int y4), (.int y5)]) (rest := [(.ref ob44)]) (lenOf own_pd1 rfl) rfl (by show 2 * 0 + _ ≤ _; exact Nat.le_of_eq rfl) (hb hby at_242) (fun _ _ => ⟨rfl, e44, (by decide : 2 + 0 ≤ _), (by decide : 12 + 0 ≤ _)⟩)
    dsimp only [Pt.U, Pt.locs, Pt.cells, Pt.slots] at X45 tl45 ty45 tz45 st45 hQ45
    rw [tl45, ty45, tz45] at X45
    obtain ⟨rfl, Nq45, K45, Fa45_E_a1, Fa45_F_a1_from, Fa45_F_a1_to, Fa45_F_a1_orig, Fa45_F_a1_dst, Fa45_F_a1_seqno, Fa45_F_a1_hops⟩ := hQ45
    have N45 := Fr.app N23 Nq45
    have sz45 : n0 ≤ T45.heap.size := Nat.le_trans sz44 K45.1
    have KK45 : Keep h0 T45.heap [] := K44.trans K45 (allS (Or.inr bo_ob44) all0)
    have pre46 : ∀ t, Steps p.tables e below (T45.setTop (mkF m 259 #[.val (.long ja), .second, .val (.long jb), .second, .val (.long jc), .second, .val (.int kk), .val (.int dl), .val (.int x0), .val (.int x1), .val (.int x2), .val (.int x3), .val (.int x4), .val (.int x5), .val (.int fd), .val (.int dd), .val (.int y0), .val (.int y1), .val (.int y2), .val (.int y3), .val (.int y4), .val (.int y5), .val (.ref ob22), .val (.ref ob44), .unset, .unset] [(.int (if fd = (6 : Int32) then (1 : Int32) else (0 : Int32)))])) t → Steps p.tables e below (s₁.setTop (entryFrame m #[(.long ja), (.long jb), (.long jc), (.int kk), (.int dl)] maxLocals)) t := fun t k => pre24 t (by
      show Steps p.tables e below (T23.setTop (mkF m 181 #[.val (.long ja), .second, .val (.long jb), .second, .val (.long jc), .second, .val (.int kk), .val (.int dl), .val (.int x0), .val (.int x1), .val (.int x2), .val (.int x3), .val (.int x4), .val (.int x5), .val (.int fd), .val (.int dd), .val (.int y0), .val (.int y1), .val (.int y2), .val (.int y3), .val (.int y4), .val (.int y5), .val (.ref ob22), .unset, .unset, .unset] [(.int (7 : Int32)), (.int fd)])) _
      refine XS.icmpYes X23.here hx rfl (pc0 := 181) (pc' := 226) rfl (hb hby at_181) rfl (XT.ii_ne_t h7) (by decide) (by decide) ?_
      show Steps p.tables e below (T23.setTop (mkF m 226 #[.val (.long ja), .second, .val (.long jb), .second, .val (.long jc), .second, .val (.int kk), .val (.int dl), .val (.int x0), .val (.int x1), .val (.int x2), .val (.int x3), .val (.int x4), .val (.int x5), .val (.int fd), .val (.int dd), .val (.int y0), .val (.int y1), .val (.int y2), .val (.int y3), .val (.int y4), .val (.int y5), .val (.ref ob22), .unset, .unset, .unset] [])) _
      refine st44 _ ?_
      show Steps p.tables e below (T44.setTop (mkF m 229 #[.val (.long ja), .second, .val (.long jb), .second, .val (.long jc), .second, .val (.int kk), .val (.int dl), .val (.int x0), .val (.int x1), .val (.int x2), .val (.int x3), .val (.int x4), .val (.int x5), .val (.int fd), .val (.int dd), .val (.int y0), .val (.int y1), .val (.int y2), .val (.int y3), .val (.int y4), .val (.int y5), .val (.ref ob22), .unset, .unset, .unset] [(.ref ob44)])) _
      refine XS.dup X44.here hx rfl (hb hby at_229) rfl rfl ?_
      show Steps p.tables e below (T44.setTop (mkF m 230 #[.val (.long ja), .second, .val (.long jb), .second, .val (.long jc), .second, .val (.int kk), .val (.int dl), .val (.int x0), .val (.int x1), .val (.int x2), .val (.int x3), .val (.int x4), .val (.int x5), .val (.int fd), .val (.int dd), .val (.int y0), .val (.int y1), .val (.int y2), .val (.int y3), .val (.int y4), .val (.int y5), .val (.ref ob22), .unset, .unset, .unset] [(.ref ob44), (.ref ob44)])) _
      refine XS.iload X44.here hx rfl (hb hby at_230) rfl ?_
      show Steps p.tables e below (T44.setTop (mkF m 232 #[.val (.long ja), .second, .val (.long jb), .second, .val (.long jc), .second, .val (.int kk), .val (.int dl), .val (.int x0), .val (.int x1), .val (.int x2), .val (.int x3), .val (.int x4), .val (.int x5), .val (.int fd), .val (.int dd), .val (.int y0), .val (.int y1), .val (.int y2), .val (.int y3), .val (.int y4), .val (.int y5), .val (.ref ob22), .unset, .unset, .unset] [(.int y0), (.ref ob44), (.ref ob44)])) _
      refine XS.iload X44.here hx rfl (hb hby at_232) rfl ?_
      show Steps p.tables e below (T44.setTop (mkF m 234 #[.val (.long ja), .second, .val (.long jb), .second, .val (.long jc), .second, .val (.int kk), .val (.int dl), .val (.int x0), .val (.int x1), .val (.int x2), .val (.int x3), .val (.int x4), .val (.int x5), .val (.int fd), .val (.int dd), .val (.int y0), .val (.int y1), .val (.int y2), .val (.int y3), .val (.int y4), .val (.int y5), .val (.ref ob22), .unset, .unset, .unset] [(.int y1), (.int y0), (.ref ob44), (.ref ob44)])) _
      refine XS.iload X44.here hx rfl (hb hby at_234) rfl ?_
      show Steps p.tables e below (T44.setTop (mkF m 236 #[.val (.long ja), .second, .val (.long jb), .second, .val (.long jc), .second, .val (.int kk), .val (.int dl), .val (.int x0), .val (.int x1), .val (.int x2), .val (.int x3), .val (.int x4), .val (.int x5), .val (.int fd), .val (.int dd), .val (.int y0), .val (.int y1), .val (.int y2), .val (.int y3), .val (.int y4), .val (.int y5), .val (.ref ob22), .unset, .unset, .unset] [(.int y2), (.int y1), (.int y0), (.ref ob44), (.ref ob44)])) _
      refine XS.iload X44.here hx rfl (hb hby at_236) rfl ?_
      show Steps p.tables e below (T44.setTop (mkF m 238 #[.val (.long ja), .second, .val (.long jb), .second, .val (.long jc), .second, .val (.int kk), .val (.int dl), .val (.int x0), .val (.int x1), .val (.int x2), .val (.int x3), .val (.int x4), .val (.int x5), .val (.int fd), .val (.int dd), .val (.int y0), .val (.int y1), .val (.int y2), .val (.int y3), .val (.int y4), .val (.int y5), .val (.ref ob22), .unset, .unset, .unset] [(.int y3), (.int y2), (.int y1), (.int y0), (.ref ob44), (.ref ob44)])) _
      refine XS.iload X44.here hx rfl (hb hby at_238) rfl ?_
      show Steps p.tables e below (T44.setTop (mkF m 240 #[.val (.long ja), .second, .val (.long jb), .second, .val (.long jc), .second, .val (.int kk), .val (.int dl), .val (.int x0), .val (.int x1), .val (.int x2), .val (.int x3), .val (.int x4), .val (.int x5), .val (.int fd), .val (.int dd), .val (.int y0), .val (.int y1), .val (.int y2), .val (.int y3), .val (.int y4), .val (.int y5), .val (.ref ob22), .unset, .unset, .unset] [(.int y4), (.int y3), (.int y2), (.int y1), (.int y0), (.ref ob44), (.ref ob44)])) _
      refine XS.iload X44.here hx rfl (hb hby at_240) rfl ?_
      show Steps p.tables e below (T44.setTop (mkF m 242 #[.val (.long ja), .second, .val (.long jb), .second, .val (.long jc), .second, .val (.int kk), .val (.int dl), .val (.int x0), .val (.int x1), .val (.int x2), .val (.int x3), .val (.int x4), .val (.int x5), .val (.int fd), .val (.int dd), .val (.int y0), .val (.int y1), .val (.int y2), .val (.int y3), .val (.int y4), .val (.int y5), .val (.ref ob22), .unset, .unset, .unset] [(.int y5), (.int y4), (.int y3), (.int y2), (.int y1), (.int y0), (.ref ob44), (.ref ob44)])) _
      refine st45.trans ?_
      show Steps p.tables e below (T45.setTop (mkF m 245 #[.val (.long ja), .second, .val (.long jb), .second, .val (.long jc), .second, .val (.int kk), .val (.int dl), .val (.int x0), .val (.int x1), .val (.int x2), .val (.int x3), .val (.int x4), .val (.int x5), .val (.int fd), .val (.int dd), .val (.int y0), .val (.int y1), .val (.int y2), .val (.int y3), .val (.int y4), .val (.int y5), .val (.ref ob22), .unset, .unset, .unset] [(.ref ob44)])) _
      refine XS.astore X45.here hx rfl (hb hby at_245) rfl rfl (l' := #[.val (.long ja), .second, .val (.long jb), .second, .val (.long jc), .second, .val (.int kk), .val (.int dl), .val (.int x0), .val (.int x1), .val (.int x2), .val (.int x3), .val (.int x4), .val (.int x5), .val (.int fd), .val (.int dd), .val (.int y0), .val (.int y1), .val (.int y2), .val (.int y3), .val (.int y4), .val (.int y5), .val (.ref ob22), .val (.ref ob44), .unset, .unset]) rfl ?_
      show Steps p.tables e below (T45.setTop (mkF m 247 #[.val (.long ja), .second, .val (.long jb), .second, .val (.long jc), .second, .val (.int kk), .val (.int dl), .val (.int x0), .val (.int x1), .val (.int x2), .val (.int x3), .val (.int x4), .val (.int x5), .val (.int fd), .val (.int dd), .val (.int y0), .val (.int y1), .val (.int y2), .val (.int y3), .val (.int y4), .val (.int y5), .val (.ref ob22), .val (.ref ob44), .unset, .unset] [])) _
      refine XS.iload X45.here hx rfl (hb hby at_247) rfl ?_
      show Steps p.tables e below (T45.setTop (mkF m 249 #[.val (.long ja), .second, .val (.long jb), .second, .val (.long jc), .second, .val (.int kk), .val (.int dl), .val (.int x0), .val (.int x1), .val (.int x2), .val (.int x3), .val (.int x4), .val (.int x5), .val (.int fd), .val (.int dd), .val (.int y0), .val (.int y1), .val (.int y2), .val (.int y3), .val (.int y4), .val (.int y5), .val (.ref ob22), .val (.ref ob44), .unset, .unset] [(.int fd)])) _
      refine XT.bipushV X45.here hx rfl (6 : Int32) (hb hby at_249) rfl ?_
      by_cases hj251 : fd = (6 : Int32)
      · rw [if_pos hj251] at k
        show Steps p.tables e below (T45.setTop (mkF m 251 #[.val (.long ja), .second, .val (.long jb), .second, .val (.long jc), .second, .val (.int kk), .val (.int dl), .val (.int x0), .val (.int x1), .val (.int x2), .val (.int x3), .val (.int x4), .val (.int x5), .val (.int fd), .val (.int dd), .val (.int y0), .val (.int y1), .val (.int y2), .val (.int y3), .val (.int y4), .val (.int y5), .val (.ref ob22), .val (.ref ob44), .unset, .unset] [(.int (6 : Int32)), (.int fd)])) _
        refine XS.icmpNo X45.here hx rfl (hb hby at_251) rfl (XT.ii_ne_f hj251) ?_
        show Steps p.tables e below (T45.setTop (mkF m 254 #[.val (.long ja), .second, .val (.long jb), .second, .val (.long jc), .second, .val (.int kk), .val (.int dl), .val (.int x0), .val (.int x1), .val (.int x2), .val (.int x3), .val (.int x4), .val (.int x5), .val (.int fd), .val (.int dd), .val (.int y0), .val (.int y1), .val (.int y2), .val (.int y3), .val (.int y4), .val (.int y5), .val (.ref ob22), .val (.ref ob44), .unset, .unset] [])) _
        refine XT.iconstV X45.here hx rfl (1 : Int32) (hb hby at_254) rfl ?_
        show Steps p.tables e below (T45.setTop (mkF m 255 #[.val (.long ja), .second, .val (.long jb), .second, .val (.long jc), .second, .val (.int kk), .val (.int dl), .val (.int x0), .val (.int x1), .val (.int x2), .val (.int x3), .val (.int x4), .val (.int x5), .val (.int fd), .val (.int dd), .val (.int y0), .val (.int y1), .val (.int y2), .val (.int y3), .val (.int y4), .val (.int y5), .val (.ref ob22), .val (.ref ob44), .unset, .unset] [(.int (1 : Int32))])) _
        refine XS.goto X45.here hx rfl (pc0 := 255) (pc' := 259) rfl (hb hby at_255) (by decide) (by decide) ?_
        exact k
      · rw [if_neg hj251] at k
        show Steps p.tables e below (T45.setTop (mkF m 251 #[.val (.long ja), .second, .val (.long jb), .second, .val (.long jc), .second, .val (.int kk), .val (.int dl), .val (.int x0), .val (.int x1), .val (.int x2), .val (.int x3), .val (.int x4), .val (.int x5), .val (.int fd), .val (.int dd), .val (.int y0), .val (.int y1), .val (.int y2), .val (.int y3), .val (.int y4), .val (.int y5), .val (.ref ob22), .val (.ref ob44), .unset, .unset] [(.int (6 : Int32)), (.int fd)])) _
        refine XS.icmpYes X45.here hx rfl (pc0 := 251) (pc' := 258) rfl (hb hby at_251) rfl (XT.ii_ne_t hj251) (by decide) (by decide) ?_
        show Steps p.tables e below (T45.setTop (mkF m 258 #[.val (.long ja), .second, .val (.long jb), .second, .val (.long jc), .second, .val (.int kk), .val (.int dl), .val (.int x0), .val (.int x1), .val (.int x2), .val (.int x3), .val (.int x4), .val (.int x5), .val (.int fd), .val (.int dd), .val (.int y0), .val (.int y1), .val (.int y2), .val (.int y3), .val (.int y4), .val (.int y5), .val (.ref ob22), .val (.ref ob44), .unset, .unset] [])) _
        refine XT.iconstV X45.here hx rfl (0 : Int32) (hb hby at_258) rfl ?_
        exact k)
    have pre47 : ∀ t, Steps p.tables e below (T45.setTop (mkF m 261 #[.val (.long ja), .second, .val (.long jb), .second, .val (.long jc), .second, .val (.int kk), .val (.int dl), .val (.int x0), .val (.int x1), .val (.int x2), .val (.int x3), .val (.int x4), .val (.int x5), .val (.int fd), .val (.int dd), .val (.int y0), .val (.int y1), .val (.int y2), .val (.int y3), .val (.int y4), .val (.int y5), .val (.ref ob22), .val (.ref ob44), .val (.int (if fd = (6 : Int32) then (1 : Int32) else (0 : Int32))), .unset] [])) t → Steps p.tables e below (s₁.setTop (entryFrame m #[(.long ja), (.long jb), (.long jc), (.int kk), (.int dl)] maxLocals)) t := fun t k => pre46 t (by
      show Steps p.tables e below (T45.setTop (mkF m 259 #[.val (.long ja), .second, .val (.long jb), .second, .val (.long jc), .second, .val (.int kk), .val (.int dl), .val (.int x0), .val (.int x1), .val (.int x2), .val (.int x3), .val (.int x4), .val (.int x5), .val (.int fd), .val (.int dd), .val (.int y0), .val (.int y1), .val (.int y2), .val (.int y3), .val (.int y4), .val (.int y5), .val (.ref ob22), .val (.ref ob44), .unset, .unset] [(.int (if fd = (6 : Int32) then (1 : Int32) else (0 : Int32)))])) _
      refine XS.istore X45.here hx rfl (hb hby at_259) rfl (l' := #[.val (.long ja), .second, .val (.long jb), .second, .val (.long jc), .second, .val (.int kk), .val (.int dl), .val (.int x0), .val (.int x1), .val (.int x2), .val (.int x3), .val (.int x4), .val (.int x5), .val (.int fd), .val (.int dd), .val (.int y0), .val (.int y1), .val (.int y2), .val (.int y3), .val (.int y4), .val (.int y5), .val (.ref ob22), .val (.ref ob44), .val (.int (if fd = (6 : Int32) then (1 : Int32) else (0 : Int32))), .unset]) rfl ?_
      exact k)
    obtain ⟨ex, q_ex⟩ : ∃ z : Int32, z = (if fd = (6 : Int32) then (1 : Int32) else (0 : Int32)) := ⟨_, rfl⟩
    rw [← q_ex] at pre47
    rw [← q_ex] at htw1 htw2
    have FE_ob22_48 : Exa Z T45.heap ob22 "com/example/traversim/traversim/aodv/Packet$Rrep" := ((Fa23_E_a1.ext E44).keep K45)
    have FF_ob22_from_49 : Fld Z T45.heap ob22 "com/example/traversim/traversim/aodv/Packet$Rrep" "from" "I" (.int x0) := ((Fa23_F_a1_from.ext E44).keep K45 (ninS ne_ob22_ob44 nin0))
    have FF_ob22_to_50 : Fld Z T45.heap ob22 "com/example/traversim/traversim/aodv/Packet$Rrep" "to" "I" (.int x1) := ((Fa23_F_a1_to.ext E44).keep K45 (ninS ne_ob22_ob44 nin0))
    have FF_ob22_orig_51 : Fld Z T45.heap ob22 "com/example/traversim/traversim/aodv/Packet$Rrep" "orig" "I" (.int x2) := ((Fa23_F_a1_orig.ext E44).keep K45 (ninS ne_ob22_ob44 nin0))
    have FF_ob22_dst_52 : Fld Z T45.heap ob22 "com/example/traversim/traversim/aodv/Packet$Rrep" "dst" "I" (.int x3) := ((Fa23_F_a1_dst.ext E44).keep K45 (ninS ne_ob22_ob44 nin0))
    have FF_ob22_seqno_53 : Fld Z T45.heap ob22 "com/example/traversim/traversim/aodv/Packet$Rrep" "seqno" "I" (.int x4) := ((Fa23_F_a1_seqno.ext E44).keep K45 (ninS ne_ob22_ob44 nin0))
    have FF_ob22_hops_54 : Fld Z T45.heap ob22 "com/example/traversim/traversim/aodv/Packet$Rrep" "hops" "I" (.int x5) := ((Fa23_F_a1_hops.ext E44).keep K45 (ninS ne_ob22_ob44 nin0))
    obtain ⟨cq55, kq55, q55a, q55b, q55c⟩ := isOf hZ rfl FE_ob22_48
    obtain ⟨_, _, ⟨T55, tL55, tk55, tn55⟩, -, X55, ⟨Lc55, hQ55, tl55, ty55, tz55⟩, st55⟩ := X45.virtualBack hx (y := (⟨"com/example/traversim/traversim/aodv/Packet$Rrep", "equals", "(Ljava/lang/Object;)Z"⟩ : MethodName)) (z := (⟨"com/example/traversim/traversim/aodv/Packet$Rrep", "equals", "(Ljava/lang/Object;)Z"⟩ : MethodName)) hown (mvT hZ (hw _ (List.mem_of_getElem? (i := 26) rfl))) (mvT hZ (hw _ (List.mem_of_getElem? (i := 27) rfl))) (notFace_of_selects (args := #[]) (mvT hZ (hw _ (List.mem_of_getElem? (i := 29) rfl)))) (mvT hZ (hw _ (List.mem_of_getElem? (i := 29) rfl))) (mvT hZ (hw _ (List.mem_of_getElem? (i := 28) rfl))) (by decide) (backOf (W := 0) (own_rm4 l Z a0 hw [] ob22 ob44 x0 x1 x2 x3 x4 x5 y0 y1 y2 y3 y4 y5 T45.heap n0 sz45 FE_ob22_48 FF_ob22_from_49 FF_ob22_to_50 FF_ob22_orig_51 FF_ob22_dst_52 FF_ob22_seqno_53 FF_ob22_hops_54 Fa45_E_a1 Fa45_F_a1_from Fa45_F_a1_to Fa45_F_a1_orig Fa45_F_a1_dst Fa45_F_a1_seqno Fa45_F_a1_hops) hZ (hw _ (List.mem_of_getElem? (i := 30) rfl)) (hw _ (List.mem_of_getElem? (i := 2) rfl)) (by decide) (by decide)) q55a q55c (g := (mkF m 265 #[.val (.long ja), .second, .val (.long jb), .second, .val (.long jc), .second, .val (.int kk), .val (.int dl), .val (.int x0), .val (.int x1), .val (.int x2), .val (.int x3), .val (.int x4), .val (.int x5), .val (.int fd), .val (.int dd), .val (.int y0), .val (.int y1), .val (.int y2), .val (.int y3), .val (.int y4), .val (.int y5), .val (.ref ob22), .val (.ref ob44), .val (.int ex), .unset] [(.ref ob44), (.ref ob22)])) rfl (by rw [hml]; rfl) (Steps.refl _) (argsL := [(.ref ob44)]) (rest := []) (lenOf own_pd2 rfl) rfl (by show 2 * 0 + _ ≤ _; exact Nat.le_of_eq rfl) (hb hby at_265) (fun _ _ => ⟨rfl, rfl, (by decide : 2 + 0 ≤ _), (by decide : 12 + 0 ≤ _)⟩)
    dsimp only [Pt.U, Pt.locs, Pt.cells, Pt.slots] at X55 tl55 ty55 tz55 st55 hQ55
    rw [tl55, ty55, tz55] at X55
    obtain ⟨rfl, Nq55, K55⟩ := hQ55
    have N55 := Fr.app N45 Nq55
    -- got
    obtain ⟨cq56, kq56, q56a, q56b, q56c⟩ := isOf hZ K55 FE_ob22_48
    obtain ⟨_, _, ⟨T56, tL56, tk56, tn56⟩, -, X56, ⟨Lc56, hQ56, tl56, ty56, tz56⟩, st56⟩ := X55.virtualBack hx (y := (⟨"com/example/traversim/traversim/aodv/Packet$Rrep", "equals", "(Ljava/lang/Object;)Z"⟩ : MethodName)) (z := (⟨"com/example/traversim/traversim/aodv/Packet$Rrep", "equals", "(Ljava/lang/Object;)Z"⟩ : MethodName)) hown (mvT hZ (hw _ (List.mem_of_getElem? (i := 26) rfl))) (mvT hZ (hw _ (List.mem_of_getElem? (i := 27) rfl))) (notFace_of_selects (args := #[]) (mvT hZ (hw _ (List.mem_of_getElem? (i := 29) rfl)))) (mvT hZ (hw _ (List.mem_of_getElem? (i := 29) rfl))) (mvT hZ (hw _ (List.mem_of_getElem? (i := 28) rfl))) (by decide) (backOf (W := 0) (own_rm4 l Z a0 hw [] ob22 ob22 x0 x1 x2 x3 x4 x5 x0 x1 x2 x3 x4 x5 T45.heap n0 sz45 FE_ob22_48 FF_ob22_from_49 FF_ob22_to_50 FF_ob22_orig_51 FF_ob22_dst_52 FF_ob22_seqno_53 FF_ob22_hops_54 FE_ob22_48 FF_ob22_from_49 FF_ob22_to_50 FF_ob22_orig_51 FF_ob22_dst_52 FF_ob22_seqno_53 FF_ob22_hops_54) hZ (hw _ (List.mem_of_getElem? (i := 30) rfl)) (hw _ (List.mem_of_getElem? (i := 2) rfl)) (by decide) (by decide)) q56a q56c (g := (mkF m 283 #[.val (.long ja), .second, .val (.long jb), .second, .val (.long jc), .second, .val (.int kk), .val (.int dl), .val (.int x0), .val (.int x1), .val (.int x2), .val (.int x3), .val (.int x4), .val (.int x5), .val (.int fd), .val (.int dd), .val (.int y0), .val (.int y1), .val (.int y2), .val (.int y3), .val (.int y4), .val (.int y5), .val (.ref ob22), .val (.ref ob44), .val (.int ex), .val (.int (own_eq x0 x1 x2 x3 x4 x5 y0 y1 y2 y3 y4 y5))] [(.ref ob22), (.ref ob22)])) rfl (by rw [hml]; rfl) (Steps.refl _) (argsL := [(.ref ob22)]) (rest := []) (lenOf own_pd2 rfl) rfl (by show 2 * 0 + _ ≤ _; exact Nat.le_of_eq rfl) (hb hby at_283) (fun _ _ => ⟨rfl, K55, (by decide : 2 + 0 ≤ _), (by decide : 12 + 0 ≤ _)⟩)
    dsimp only [Pt.U, Pt.locs, Pt.cells, Pt.slots] at X56 tl56 ty56 tz56 st56 hQ56
    rw [tl56, ty56, tz56] at X56
    obtain ⟨rfl, Nq56, K56⟩ := hQ56
    have N56 := Fr.app N55 Nq56
    obtain ⟨cq57, kq57, q57a, q57b, q57c⟩ := isOf hZ K56 Fa45_E_a1
    obtain ⟨_, _, ⟨T57, tL57, tk57, tn57⟩, -, X57, ⟨Lc57, hQ57, tl57, ty57, tz57⟩, st57⟩ := X56.virtualBack hx (y := (⟨"java/lang/Object", "equals", "(Ljava/lang/Object;)Z"⟩ : MethodName)) (z := (⟨"com/example/traversim/traversim/aodv/Packet$Rrep", "equals", "(Ljava/lang/Object;)Z"⟩ : MethodName)) hown (mvT hZ (hw _ (List.mem_of_getElem? (i := 33) rfl))) (mvT hZ (hw _ (List.mem_of_getElem? (i := 34) rfl))) (nf_top (args := #[]) (mvT hZ (hw _ (List.mem_of_getElem? (i := 62) rfl)))) (mvT hZ (hw _ (List.mem_of_getElem? (i := 36) rfl))) (mvT hZ (hw _ (List.mem_of_getElem? (i := 28) rfl))) (by decide) (backOf (W := 0) (own_rm4 l Z a0 hw [] ob44 ob22 y0 y1 y2 y3 y4 y5 x0 x1 x2 x3 x4 x5 T45.heap n0 sz45 Fa45_E_a1 Fa45_F_a1_from Fa45_F_a1_to Fa45_F_a1_orig Fa45_F_a1_dst Fa45_F_a1_seqno Fa45_F_a1_hops FE_ob22_48 FF_ob22_from_49 FF_ob22_to_50 FF_ob22_orig_51 FF_ob22_dst_52 FF_ob22_seqno_53 FF_ob22_hops_54) hZ (hw _ (List.mem_of_getElem? (i := 30) rfl)) (hw _ (List.mem_of_getElem? (i := 2) rfl)) (by decide) (by decide)) q57a q57c (g := (mkF m 300 #[.val (.long ja), .second, .val (.long jb), .second, .val (.long jc), .second, .val (.int kk), .val (.int dl), .val (.int x0), .val (.int x1), .val (.int x2), .val (.int x3), .val (.int x4), .val (.int x5), .val (.int fd), .val (.int dd), .val (.int y0), .val (.int y1), .val (.int y2), .val (.int y3), .val (.int y4), .val (.int y5), .val (.ref ob22), .val (.ref ob44), .val (.int ex), .val (.int (own_eq x0 x1 x2 x3 x4 x5 y0 y1 y2 y3 y4 y5))] [(.ref ob22), (.ref ob44)])) rfl (by rw [hml]; rfl) (Steps.refl _) (argsL := [(.ref ob22)]) (rest := []) (lenOf own_pd2 rfl) rfl (by show 2 * 0 + _ ≤ _; exact Nat.le_of_eq rfl) (hb hby at_300) (fun _ _ => ⟨rfl, K56, (by decide : 2 + 0 ≤ _), (by decide : 12 + 0 ≤ _)⟩)
    dsimp only [Pt.U, Pt.locs, Pt.cells, Pt.slots] at X57 tl57 ty57 tz57 st57 hQ57
    rw [tl57, ty57, tz57] at X57
    obtain ⟨rfl, Nq57, K57⟩ := hQ57
    have N57 := Fr.app N56 Nq57
    obtain ⟨fs, hr, hrun, hended, hW, hsame⟩ := X57.leave (v := some (.int (1 : Int32))) (fun h => by rw [Bd.returns] at h; cases h)
    refine ⟨_, _, pre47 _ ?_, hrun, hended, _, _, rfl, ?_, ⟨_, rfl⟩, hW, hsame.mono (by decide) (by decide)⟩
    · show Steps p.tables e below (T45.setTop (mkF m 261 #[.val (.long ja), .second, .val (.long jb), .second, .val (.long jc), .second, .val (.int kk), .val (.int dl), .val (.int x0), .val (.int x1), .val (.int x2), .val (.int x3), .val (.int x4), .val (.int x5), .val (.int fd), .val (.int dd), .val (.int y0), .val (.int y1), .val (.int y2), .val (.int y3), .val (.int y4), .val (.int y5), .val (.ref ob22), .val (.ref ob44), .val (.int ex), .unset] [])) _
      refine XS.aload X45.here hx rfl (hb hby at_261) rfl rfl ?_
      show Steps p.tables e below (T45.setTop (mkF m 263 #[.val (.long ja), .second, .val (.long jb), .second, .val (.long jc), .second, .val (.int kk), .val (.int dl), .val (.int x0), .val (.int x1), .val (.int x2), .val (.int x3), .val (.int x4), .val (.int x5), .val (.int fd), .val (.int dd), .val (.int y0), .val (.int y1), .val (.int y2), .val (.int y3), .val (.int y4), .val (.int y5), .val (.ref ob22), .val (.ref ob44), .val (.int ex), .unset] [(.ref ob22)])) _
      refine XS.aload X45.here hx rfl (hb hby at_263) rfl rfl ?_
      show Steps p.tables e below (T45.setTop (mkF m 265 #[.val (.long ja), .second, .val (.long jb), .second, .val (.long jc), .second, .val (.int kk), .val (.int dl), .val (.int x0), .val (.int x1), .val (.int x2), .val (.int x3), .val (.int x4), .val (.int x5), .val (.int fd), .val (.int dd), .val (.int y0), .val (.int y1), .val (.int y2), .val (.int y3), .val (.int y4), .val (.int y5), .val (.ref ob22), .val (.ref ob44), .val (.int ex), .unset] [(.ref ob44), (.ref ob22)])) _
      refine st55.trans ?_
      show Steps p.tables e below (T55.setTop (mkF m 268 #[.val (.long ja), .second, .val (.long jb), .second, .val (.long jc), .second, .val (.int kk), .val (.int dl), .val (.int x0), .val (.int x1), .val (.int x2), .val (.int x3), .val (.int x4), .val (.int x5), .val (.int fd), .val (.int dd), .val (.int y0), .val (.int y1), .val (.int y2), .val (.int y3), .val (.int y4), .val (.int y5), .val (.ref ob22), .val (.ref ob44), .val (.int ex), .unset] [(.int (own_eq x0 x1 x2 x3 x4 x5 y0 y1 y2 y3 y4 y5))])) _
      refine XS.istore X55.here hx rfl (hb hby at_268) rfl (l' := #[.val (.long ja), .second, .val (.long jb), .second, .val (.long jc), .second, .val (.int kk), .val (.int dl), .val (.int x0), .val (.int x1), .val (.int x2), .val (.int x3), .val (.int x4), .val (.int x5), .val (.int fd), .val (.int dd), .val (.int y0), .val (.int y1), .val (.int y2), .val (.int y3), .val (.int y4), .val (.int y5), .val (.ref ob22), .val (.ref ob44), .val (.int ex), .val (.int (own_eq x0 x1 x2 x3 x4 x5 y0 y1 y2 y3 y4 y5))]) rfl ?_
      show Steps p.tables e below (T55.setTop (mkF m 270 #[.val (.long ja), .second, .val (.long jb), .second, .val (.long jc), .second, .val (.int kk), .val (.int dl), .val (.int x0), .val (.int x1), .val (.int x2), .val (.int x3), .val (.int x4), .val (.int x5), .val (.int fd), .val (.int dd), .val (.int y0), .val (.int y1), .val (.int y2), .val (.int y3), .val (.int y4), .val (.int y5), .val (.ref ob22), .val (.ref ob44), .val (.int ex), .val (.int (own_eq x0 x1 x2 x3 x4 x5 y0 y1 y2 y3 y4 y5))] [])) _
      refine XS.iload X55.here hx rfl (hb hby at_270) rfl ?_
      show Steps p.tables e below (T55.setTop (mkF m 272 #[.val (.long ja), .second, .val (.long jb), .second, .val (.long jc), .second, .val (.int kk), .val (.int dl), .val (.int x0), .val (.int x1), .val (.int x2), .val (.int x3), .val (.int x4), .val (.int x5), .val (.int fd), .val (.int dd), .val (.int y0), .val (.int y1), .val (.int y2), .val (.int y3), .val (.int y4), .val (.int y5), .val (.ref ob22), .val (.ref ob44), .val (.int ex), .val (.int (own_eq x0 x1 x2 x3 x4 x5 y0 y1 y2 y3 y4 y5))] [(.int (own_eq x0 x1 x2 x3 x4 x5 y0 y1 y2 y3 y4 y5))])) _
      refine XS.iload X55.here hx rfl (hb hby at_272) rfl ?_
      show Steps p.tables e below (T55.setTop (mkF m 274 #[.val (.long ja), .second, .val (.long jb), .second, .val (.long jc), .second, .val (.int kk), .val (.int dl), .val (.int x0), .val (.int x1), .val (.int x2), .val (.int x3), .val (.int x4), .val (.int x5), .val (.int fd), .val (.int dd), .val (.int y0), .val (.int y1), .val (.int y2), .val (.int y3), .val (.int y4), .val (.int y5), .val (.ref ob22), .val (.ref ob44), .val (.int ex), .val (.int (own_eq x0 x1 x2 x3 x4 x5 y0 y1 y2 y3 y4 y5))] [(.int ex), (.int (own_eq x0 x1 x2 x3 x4 x5 y0 y1 y2 y3 y4 y5))])) _
      refine XS.icmpYes X55.here hx rfl (pc0 := 274) (pc' := 279) rfl (hb hby at_274) rfl (XT.ii_eq_t htw1) (by decide) (by decide) ?_
      show Steps p.tables e below (T55.setTop (mkF m 279 #[.val (.long ja), .second, .val (.long jb), .second, .val (.long jc), .second, .val (.int kk), .val (.int dl), .val (.int x0), .val (.int x1), .val (.int x2), .val (.int x3), .val (.int x4), .val (.int x5), .val (.int fd), .val (.int dd), .val (.int y0), .val (.int y1), .val (.int y2), .val (.int y3), .val (.int y4), .val (.int y5), .val (.ref ob22), .val (.ref ob44), .val (.int ex), .val (.int (own_eq x0 x1 x2 x3 x4 x5 y0 y1 y2 y3 y4 y5))] [])) _
      refine XS.aload X55.here hx rfl (hb hby at_279) rfl rfl ?_
      show Steps p.tables e below (T55.setTop (mkF m 281 #[.val (.long ja), .second, .val (.long jb), .second, .val (.long jc), .second, .val (.int kk), .val (.int dl), .val (.int x0), .val (.int x1), .val (.int x2), .val (.int x3), .val (.int x4), .val (.int x5), .val (.int fd), .val (.int dd), .val (.int y0), .val (.int y1), .val (.int y2), .val (.int y3), .val (.int y4), .val (.int y5), .val (.ref ob22), .val (.ref ob44), .val (.int ex), .val (.int (own_eq x0 x1 x2 x3 x4 x5 y0 y1 y2 y3 y4 y5))] [(.ref ob22)])) _
      refine XS.aload X55.here hx rfl (hb hby at_281) rfl rfl ?_
      show Steps p.tables e below (T55.setTop (mkF m 283 #[.val (.long ja), .second, .val (.long jb), .second, .val (.long jc), .second, .val (.int kk), .val (.int dl), .val (.int x0), .val (.int x1), .val (.int x2), .val (.int x3), .val (.int x4), .val (.int x5), .val (.int fd), .val (.int dd), .val (.int y0), .val (.int y1), .val (.int y2), .val (.int y3), .val (.int y4), .val (.int y5), .val (.ref ob22), .val (.ref ob44), .val (.int ex), .val (.int (own_eq x0 x1 x2 x3 x4 x5 y0 y1 y2 y3 y4 y5))] [(.ref ob22), (.ref ob22)])) _
      refine st56.trans ?_
      show Steps p.tables e below (T56.setTop (mkF m 286 #[.val (.long ja), .second, .val (.long jb), .second, .val (.long jc), .second, .val (.int kk), .val (.int dl), .val (.int x0), .val (.int x1), .val (.int x2), .val (.int x3), .val (.int x4), .val (.int x5), .val (.int fd), .val (.int dd), .val (.int y0), .val (.int y1), .val (.int y2), .val (.int y3), .val (.int y4), .val (.int y5), .val (.ref ob22), .val (.ref ob44), .val (.int ex), .val (.int (own_eq x0 x1 x2 x3 x4 x5 y0 y1 y2 y3 y4 y5))] [(.int (own_eq x0 x1 x2 x3 x4 x5 x0 x1 x2 x3 x4 x5))])) _
      refine XS.ifYes X56.here hx rfl (pc0 := 286) (pc' := 291) rfl (hb hby at_286) rfl (XT.i0_ne_t (own_eq_self _ _ _ _ _ _)) (by decide) (by decide) ?_
      show Steps p.tables e below (T56.setTop (mkF m 291 #[.val (.long ja), .second, .val (.long jb), .second, .val (.long jc), .second, .val (.int kk), .val (.int dl), .val (.int x0), .val (.int x1), .val (.int x2), .val (.int x3), .val (.int x4), .val (.int x5), .val (.int fd), .val (.int dd), .val (.int y0), .val (.int y1), .val (.int y2), .val (.int y3), .val (.int y4), .val (.int y5), .val (.ref ob22), .val (.ref ob44), .val (.int ex), .val (.int (own_eq x0 x1 x2 x3 x4 x5 y0 y1 y2 y3 y4 y5))] [])) _
      refine XS.aload X56.here hx rfl (hb hby at_291) rfl rfl ?_
      show Steps p.tables e below (T56.setTop (mkF m 293 #[.val (.long ja), .second, .val (.long jb), .second, .val (.long jc), .second, .val (.int kk), .val (.int dl), .val (.int x0), .val (.int x1), .val (.int x2), .val (.int x3), .val (.int x4), .val (.int x5), .val (.int fd), .val (.int dd), .val (.int y0), .val (.int y1), .val (.int y2), .val (.int y3), .val (.int y4), .val (.int y5), .val (.ref ob22), .val (.ref ob44), .val (.int ex), .val (.int (own_eq x0 x1 x2 x3 x4 x5 y0 y1 y2 y3 y4 y5))] [(.ref ob44)])) _
      refine XS.ifnullNo X56.here hx rfl (hb hby at_293) rfl ?_
      show Steps p.tables e below (T56.setTop (mkF m 296 #[.val (.long ja), .second, .val (.long jb), .second, .val (.long jc), .second, .val (.int kk), .val (.int dl), .val (.int x0), .val (.int x1), .val (.int x2), .val (.int x3), .val (.int x4), .val (.int x5), .val (.int fd), .val (.int dd), .val (.int y0), .val (.int y1), .val (.int y2), .val (.int y3), .val (.int y4), .val (.int y5), .val (.ref ob22), .val (.ref ob44), .val (.int ex), .val (.int (own_eq x0 x1 x2 x3 x4 x5 y0 y1 y2 y3 y4 y5))] [])) _
      refine XS.aload X56.here hx rfl (hb hby at_296) rfl rfl ?_
      show Steps p.tables e below (T56.setTop (mkF m 298 #[.val (.long ja), .second, .val (.long jb), .second, .val (.long jc), .second, .val (.int kk), .val (.int dl), .val (.int x0), .val (.int x1), .val (.int x2), .val (.int x3), .val (.int x4), .val (.int x5), .val (.int fd), .val (.int dd), .val (.int y0), .val (.int y1), .val (.int y2), .val (.int y3), .val (.int y4), .val (.int y5), .val (.ref ob22), .val (.ref ob44), .val (.int ex), .val (.int (own_eq x0 x1 x2 x3 x4 x5 y0 y1 y2 y3 y4 y5))] [(.ref ob44)])) _
      refine XS.aload X56.here hx rfl (hb hby at_298) rfl rfl ?_
      show Steps p.tables e below (T56.setTop (mkF m 300 #[.val (.long ja), .second, .val (.long jb), .second, .val (.long jc), .second, .val (.int kk), .val (.int dl), .val (.int x0), .val (.int x1), .val (.int x2), .val (.int x3), .val (.int x4), .val (.int x5), .val (.int fd), .val (.int dd), .val (.int y0), .val (.int y1), .val (.int y2), .val (.int y3), .val (.int y4), .val (.int y5), .val (.ref ob22), .val (.ref ob44), .val (.int ex), .val (.int (own_eq x0 x1 x2 x3 x4 x5 y0 y1 y2 y3 y4 y5))] [(.ref ob22), (.ref ob44)])) _
      refine st57.trans ?_
      show Steps p.tables e below (T57.setTop (mkF m 303 #[.val (.long ja), .second, .val (.long jb), .second, .val (.long jc), .second, .val (.int kk), .val (.int dl), .val (.int x0), .val (.int x1), .val (.int x2), .val (.int x3), .val (.int x4), .val (.int x5), .val (.int fd), .val (.int dd), .val (.int y0), .val (.int y1), .val (.int y2), .val (.int y3), .val (.int y4), .val (.int y5), .val (.ref ob22), .val (.ref ob44), .val (.int ex), .val (.int (own_eq x0 x1 x2 x3 x4 x5 y0 y1 y2 y3 y4 y5))] [(.int (own_eq y0 y1 y2 y3 y4 y5 x0 x1 x2 x3 x4 x5))])) _
      refine XS.iload X57.here hx rfl (hb hby at_303) rfl ?_
      show Steps p.tables e below (T57.setTop (mkF m 305 #[.val (.long ja), .second, .val (.long jb), .second, .val (.long jc), .second, .val (.int kk), .val (.int dl), .val (.int x0), .val (.int x1), .val (.int x2), .val (.int x3), .val (.int x4), .val (.int x5), .val (.int fd), .val (.int dd), .val (.int y0), .val (.int y1), .val (.int y2), .val (.int y3), .val (.int y4), .val (.int y5), .val (.ref ob22), .val (.ref ob44), .val (.int ex), .val (.int (own_eq x0 x1 x2 x3 x4 x5 y0 y1 y2 y3 y4 y5))] [(.int (own_eq x0 x1 x2 x3 x4 x5 y0 y1 y2 y3 y4 y5)), (.int (own_eq y0 y1 y2 y3 y4 y5 x0 x1 x2 x3 x4 x5))])) _
      refine XS.icmpYes X57.here hx rfl (pc0 := 305) (pc' := 310) rfl (hb hby at_305) rfl (XT.ii_eq_t (htw2.trans htw1.symm)) (by decide) (by decide) ?_
      show Steps p.tables e below (T57.setTop (mkF m 310 #[.val (.long ja), .second, .val (.long jb), .second, .val (.long jc), .second, .val (.int kk), .val (.int dl), .val (.int x0), .val (.int x1), .val (.int x2), .val (.int x3), .val (.int x4), .val (.int x5), .val (.int fd), .val (.int dd), .val (.int y0), .val (.int y1), .val (.int y2), .val (.int y3), .val (.int y4), .val (.int y5), .val (.ref ob22), .val (.ref ob44), .val (.int ex), .val (.int (own_eq x0 x1 x2 x3 x4 x5 y0 y1 y2 y3 y4 y5))] [])) _
      refine XT.iconstV X57.here hx rfl (1 : Int32) (hb hby at_310) rfl ?_
      show Steps p.tables e below (T57.setTop (mkF m 311 #[.val (.long ja), .second, .val (.long jb), .second, .val (.long jc), .second, .val (.int kk), .val (.int dl), .val (.int x0), .val (.int x1), .val (.int x2), .val (.int x3), .val (.int x4), .val (.int x5), .val (.int fd), .val (.int dd), .val (.int y0), .val (.int y1), .val (.int y2), .val (.int y3), .val (.int y4), .val (.int y5), .val (.ref ob22), .val (.ref ob44), .val (.int ex), .val (.int (own_eq x0 x1 x2 x3 x4 x5 y0 y1 y2 y3 y4 y5))] [(.int (1 : Int32))])) _
      exact retN X57 hx (t := .boolean) Bd.returns (by simp) (hb hby at_311) hr
    · show own_Q0 Z ja jb jc kk dl h0 n0 _ T57.heap _
      exact ⟨rfl, N57⟩
set_option maxRecDepth 65536 in
set_option maxHeartbeats 40000000 in
theorem comes_1 {Post : Tables → Env → Array Value → State → Outcome → State → Prop} (hpost : ∀ tb e args s v u, (limb_1_1.after args s (.returned v) u = true ∧ limb_1_2.after args s (.returned v) u = true ∧ True) → FrameEnd s (.returned v) u (Jvm.fieldLocs frame_1_writes args s ++ Jvm.arrayLocs frame_1_arrays args s ++ Jvm.staticLocs frame_1_statics s) 16 128 → Post tb e args s (.returned v) u) :
    ArmFor flags0 classFile x code maxLocals ret World_1 tables_1 room_1 Calls_1 rest_1 Pre_1 Post := by
  intro l hfl _ _ p e ha hc hk s m args below hf hA hF happ hP
  obtain ⟨hcalls, hrest, hpre⟩ := hP
  obtain ⟨-, -, -, hnamed, -, -, -, hat⟩ := (Spec.applies_iff hf).mp happ
  obtain ⟨hg, hn⟩ := and_e (Cond.before_iff.mp (show (Jvm.Cond.and given_1 narrow_1).before args s = true from hpre))
  obtain ⟨gc, gr0⟩ := and_e hg
  obtain ⟨ga0, gr1⟩ := and_e gr0
  obtain ⟨ga1, gr2⟩ := and_e gr1
  obtain ⟨ga2, gr3⟩ := and_e gr2
  obtain ⟨ga3, gr4⟩ := and_e gr3
  obtain ⟨w0, w1, w2, w3, w4, rfl⟩ : ∃ w0 w1 w2 w3 w4 : Value, args = #[w0, w1, w2, w3, w4] := by
    have hs : args.size = 5 := by simpa [Cond.value, given_1] using gc
    obtain ⟨L⟩ := args
    match L, hs with
    | [w0, w1, w2, w3, w4], _ => exact ⟨w0, w1, w2, w3, w4, rfl⟩
  have hw := fun d (hd : d ∈ tables_1) => atoms_spec (ws := Jvm.Cond.code x code maxLocals ret :: tables_1) hat d (List.mem_cons_of_mem _ hd)
  obtain ⟨i0, ei0⟩ := isL_v ga0
  obtain rfl : w0 = (.long i0) := Option.some.inj ei0
  obtain ⟨i1, ei1⟩ := isL_v ga1
  obtain rfl : w1 = (.long i1) := Option.some.inj ei1
  obtain ⟨i2, ei2⟩ := isL_v ga2
  obtain rfl : w2 = (.long i2) := Option.some.inj ei2
  obtain ⟨i3, ei3⟩ := is_v ga3
  obtain rfl : w3 = (.int i3) := Option.some.inj ei3
  obtain ⟨i4, ei4⟩ := is_v gr4
  obtain rfl : w4 = (.int i4) := Option.some.inj ei4
  obtain ⟨n, o, h1, h2, h3, _, L, rfl, ⟨rfl, N⟩, hq⟩ := own_rm0 l s _ hw tables_1 i0 i1 i2 i3 i4 s.heap s.heap.size (Nat.le_refl _) p e ha hc hk s m _ below hf ((Spec.applies_iff_loose hf).mp happ).1 ⟨rfl, State.Warmed39.refl s, rfl⟩ trivial
  refine ⟨n, _, h1, h2, h3, hpost _ _ _ _ _ _ ⟨Cond.after_iff.mpr rfl, Cond.after_iff.mpr (eq_i res_at (Term.int_eval (1)) rfl), trivial⟩ ⟨hq.1, hq.2.1, (hq.2.2.sift fun y hy => Or.inr (N y hy)).mono (by decide) (by decide)⟩⟩
theorem main_1_1 : Claimed_1_1 := comes_1 fun _ _ _ _ _ _ h hF => ⟨h.1, hF⟩
theorem main_1_2 : Claimed_1_2 := comes_1 fun _ _ _ _ _ _ h hF => ⟨h.2.1, hF⟩
end Jvm.Pilot.@@N@@
namespace Jvm.Pilot.@@N@@
open Jvm Jvm.ClassFile Sem Op Lib Jvm.Free Jvm.Stand Jvm.Pilot.@@N@@.Jvm.D
/-! MADE BY PROGRAM (witnessworld.py) out of the Statement's table words and the real class files: 13 classes; the members and pool entries that the words name. The judged class is class 1, her method 1. -/
namespace start1
open Jvm.ClassFile
def u (s : String) : CpInfo := .utf8 (stringToUtf16 s)
/-- a pool by its gaps: so many unusable entries, then the entry; so many at the end -/
def gap : Nat → List CpInfo → List CpInfo
  | 0, r => r
  | n + 1, r => .unusable :: gap n r
def poolList (es : List (Nat × CpInfo)) (last : Nat) : List CpInfo := es.foldr (fun e r => gap e.1 (e.2 :: r)) (gap last [])
def pool (es : List (Nat × CpInfo)) (last : Nat) : Array CpInfo := ⟨poolList es last⟩
def fileOf (pool : Array CpInfo) (this : Nat) (attrs : Array Attribute := #[]) (ms : Array MethodInfo := #[]) (fl : Nat := 33) (sup : Nat := 0) (ifs : Array Nat := #[]) (fds : Array FieldInfo := #[]) : ClassFile where
  minorVersion := 0
  majorVersion := 65
  constantPool := pool
  accessFlags := fl
  thisClass := this
  superClass := sup
  interfaces := ifs
  fields := fds
  methods := ms
  attributes := attrs
def plain (name : String) (sup : Option ClassId) : Class where
  name := name
  kind := .ordinary
  loader := none
  accessFlags := 33
  super := sup
  interfaces := #[]
  cf := none
  fields := #[]
  methods := #[]
  instanceTypes := #[]
  staticTypes := #[]
  resolved := #[]
  callSites := []
  init := .initialized
  statics := none
  mirror := none

def pool0 : Array CpInfo := pool [(5, u "<init>"), (0, u "()V"), (1, .class_ 10), (1, u "java/lang/Object"), (81, u "equals"), (0, u "(Ljava/lang/Object;)Z")] 30

def k0c0 : Code := { maxStack := 0, maxLocals := 1, code := object_method_1_code, exceptionTable := #[], attributes := #[] }
def k0m0 : Method := { name := "<init>", desc := "()V", sig := { parameters := [], returnType := none }, accessFlags := 1, code := some k0c0 }
def k0c1 : Code := { maxStack := 2, maxLocals := 2, code := ⟨#[0x2a, 0x2b, 0xa6, 0x00, 0x07, 0x04, 0xa7, 0x00, 0x04, 0x03, 0xac]⟩, exceptionTable := #[], attributes := #[] }
def k0m1 : Method := { name := "equals", desc := "(Ljava/lang/Object;)Z", sig := { parameters := [(.object "java/lang/Object")], returnType := some .boolean }, accessFlags := 1, code := some k0c1 }
/-- java/lang/Object -/
def k0 : Class := { plain "java/lang/Object" none with
  accessFlags := 33
  interfaces := #[]
  cf := some (fileOf pool0 8 #[] #[{ accessFlags := 1, nameIndex := 5, descriptorIndex := 6, attributes := #[] }, { accessFlags := 1, nameIndex := 92, descriptorIndex := 93, attributes := #[] }] 33 0 #[] #[])
  fields := #[]
  methods := #[k0m0, k0m1]
  instanceTypes := #[]
  staticTypes := #[]
  resolved := Array.replicate 124 none
  statics := none }

def pool1 : Array CpInfo := pool [(2, .class_ 4), (1, u "java/lang/Object"), (0, u "<init>"), (0, u "()V"), (0, .class_ 8), (0, u "com/example/traversim/traversim/aodv/Packet$Rrep"), (0, .methodref 7 10), (0, .nameAndType 5 11), (0, u "(IIIIII)V"), (0, .class_ 13), (0, u "com/example/traversim/traversim/aodv/Packet$Rreq"), (0, .methodref 12 15), (0, .nameAndType 5 16), (0, u "(IIIIIIII)V"), (0, .methodref 7 18), (0, .nameAndType 19 20), (0, u "equals"), (0, u "(Ljava/lang/Object;)Z"), (0, .methodref 2 18), (0, .class_ 23), (0, u "com/example/traversim/traversim/aodv/RrepEqualsPinLaw"), (2, u "law"), (0, u "(JJJII)Z")] 8

def k1m0 : Method := { name := "<init>", desc := "()V", sig := { parameters := [], returnType := none }, accessFlags := 1, code := none }
def k1c1 : Code := { maxStack := 10, maxLocals := 26, code := code, exceptionTable := #[], attributes := #[] }
def k1m1 : Method := { name := "law", desc := "(JJJII)Z", sig := { parameters := [.long, .long, .long, .int, .int], returnType := some .boolean }, accessFlags := 9, code := some k1c1 }
/-- com/example/traversim/traversim/aodv/RrepEqualsPinLaw -/
def k1 : Class := { plain "com/example/traversim/traversim/aodv/RrepEqualsPinLaw" (some 0) with
  accessFlags := 49
  interfaces := #[]
  cf := some (fileOf pool1 22 #[] #[{ accessFlags := 1, nameIndex := 5, descriptorIndex := 6, attributes := #[] }, { accessFlags := 9, nameIndex := 26, descriptorIndex := 27, attributes := #[] }] 49 2 #[] #[])
  fields := #[]
  methods := #[k1m0, k1m1]
  instanceTypes := #[]
  staticTypes := #[]
  resolved := Array.replicate 36 none
  statics := none }

def pool2 : Array CpInfo := pool [(1, .methodref 2 3), (0, .class_ 4), (0, .nameAndType 5 6), (0, u "java/lang/Object"), (0, u "<init>"), (0, u "()V"), (0, .class_ 8), (0, u "java/lang/Record")] 13

def k2c0 : Code := { maxStack := 1, maxLocals := 1, code := jdk_30_method_1_code, exceptionTable := #[], attributes := #[] }
def k2m0 : Method := { name := "<init>", desc := "()V", sig := { parameters := [], returnType := none }, accessFlags := 4, code := some k2c0 }
/-- java/lang/Record -/
def k2 : Class := { plain "java/lang/Record" (some 0) with
  accessFlags := 1057
  interfaces := #[]
  cf := some (fileOf pool2 7 #[] #[{ accessFlags := 4, nameIndex := 5, descriptorIndex := 6, attributes := #[] }] 1057 2 #[] #[])
  fields := #[]
  methods := #[k2m0]
  instanceTypes := #[]
  staticTypes := #[]
  resolved := Array.replicate 22 none
  statics := none }

def pool3 : Array CpInfo := pool [(2, .class_ 4), (1, u "com/example/traversim/traversim/network/LinkPacket"), (98, u "ORDER"), (0, u "Ljava/util/Comparator;"), (0, .class_ 106), (0, u "java/lang/Object")] 40

/-- com/example/traversim/traversim/network/LinkPacket -/
def k3 : Class := { plain "com/example/traversim/traversim/network/LinkPacket" (some 0) with
  accessFlags := 1537
  interfaces := #[]
  cf := some (fileOf pool3 2 #[] #[] 1537 105 #[] #[{ accessFlags := 25, nameIndex := 103, descriptorIndex := 104, attributes := #[] }])
  fields := #[{ name := "ORDER", type := (.object "java/util/Comparator"), accessFlags := 25, slot := 0, constantValue := 0 }]
  methods := #[]
  instanceTypes := #[]
  staticTypes := #[(.object "java/util/Comparator")]
  resolved := Array.replicate 147 none
  statics := none }

def pool4 : Array CpInfo := pool [(2, .class_ 4), (1, u "com/example/traversim/traversim/aodv/Packet$Rreq"), (3, .class_ 9), (0, u "com/example/traversim/traversim/aodv/Packet$Rrep"), (7, .class_ 19), (1, u "com/example/traversim/traversim/aodv/Packet"), (0, u "TYPES"), (0, u "Ljava/util/List;"), (0, .class_ 23), (0, u "java/lang/Object"), (0, .class_ 25), (0, u "com/example/traversim/traversim/network/LinkPacket")] 13

/-- com/example/traversim/traversim/aodv/Packet -/
def k4 : Class := { plain "com/example/traversim/traversim/aodv/Packet" (some 0) with
  accessFlags := 1537
  interfaces := #[3]
  cf := some (fileOf pool4 17 #[.nestMembers #[8, 2]] #[] 1537 22 #[24] #[{ accessFlags := 25, nameIndex := 20, descriptorIndex := 21, attributes := #[] }])
  fields := #[{ name := "TYPES", type := (.object "java/util/List"), accessFlags := 25, slot := 0, constantValue := 0 }]
  methods := #[]
  instanceTypes := #[]
  staticTypes := #[(.object "java/util/List")]
  resolved := Array.replicate 39 none
  statics := none }

def pool5 : Array CpInfo := pool [(1, .methodref 2 3), (0, .class_ 4), (0, .nameAndType 5 6), (0, u "java/lang/Record"), (0, u "<init>"), (0, u "()V"), (0, .fieldref 8 9), (0, .class_ 10), (0, .nameAndType 11 12), (0, u "com/example/traversim/traversim/aodv/Packet$Rrep"), (0, u "from"), (0, u "I"), (0, .fieldref 8 14), (0, .nameAndType 15 12), (0, u "to"), (0, .fieldref 8 17), (0, .nameAndType 18 12), (0, u "orig"), (0, .fieldref 8 20), (0, .nameAndType 21 12), (0, u "dst"), (0, .fieldref 8 23), (0, .nameAndType 24 12), (0, u "seqno"), (0, .fieldref 8 26), (0, .nameAndType 27 12), (0, u "hops"), (2, u "TYPE"), (0, u "Lcom/example/traversim/traversim/network/PacketType;"), (12, u "(IIIIII)V"), (15, .class_ 61), (0, u "com/example/traversim/traversim/aodv/Packet"), (11, u "equals"), (0, u "(Ljava/lang/Object;)Z")] 31

def k5c0 : Code := { maxStack := 2, maxLocals := 7, code := prog_26_method_1_code, exceptionTable := #[], attributes := #[] }
def k5m0 : Method := { name := "<init>", desc := "(IIIIII)V", sig := { parameters := [.int, .int, .int, .int, .int, .int], returnType := none }, accessFlags := 1, code := some k5c0 }
def k5c1 : Code := { maxStack := 2, maxLocals := 3, code := prog_26_method_6_code, exceptionTable := #[], attributes := #[] }
def k5m1 : Method := { name := "equals", desc := "(Ljava/lang/Object;)Z", sig := { parameters := [(.object "java/lang/Object")], returnType := some .boolean }, accessFlags := 1, code := some k5c1 }
/-- com/example/traversim/traversim/aodv/Packet$Rrep -/
def k5 : Class := { plain "com/example/traversim/traversim/aodv/Packet$Rrep" (some 2) with
  accessFlags := 49
  interfaces := #[4]
  cf := some (fileOf pool5 8 #[.nestHost 60] #[{ accessFlags := 1, nameIndex := 5, descriptorIndex := 44, attributes := #[] }, { accessFlags := 1, nameIndex := 73, descriptorIndex := 74, attributes := #[] }] 49 2 #[60] #[{ accessFlags := 18, nameIndex := 11, descriptorIndex := 12, attributes := #[] }, { accessFlags := 18, nameIndex := 15, descriptorIndex := 12, attributes := #[] }, { accessFlags := 18, nameIndex := 18, descriptorIndex := 12, attributes := #[] }, { accessFlags := 18, nameIndex := 21, descriptorIndex := 12, attributes := #[] }, { accessFlags := 18, nameIndex := 24, descriptorIndex := 12, attributes := #[] }, { accessFlags := 18, nameIndex := 27, descriptorIndex := 12, attributes := #[] }, { accessFlags := 24, nameIndex := 30, descriptorIndex := 31, attributes := #[] }])
  fields := #[{ name := "from", type := .int, accessFlags := 18, slot := 0, constantValue := 0 }, { name := "to", type := .int, accessFlags := 18, slot := 1, constantValue := 0 }, { name := "orig", type := .int, accessFlags := 18, slot := 2, constantValue := 0 }, { name := "dst", type := .int, accessFlags := 18, slot := 3, constantValue := 0 }, { name := "seqno", type := .int, accessFlags := 18, slot := 4, constantValue := 0 }, { name := "hops", type := .int, accessFlags := 18, slot := 5, constantValue := 0 }, { name := "TYPE", type := (.object "com/example/traversim/traversim/network/PacketType"), accessFlags := 24, slot := 0, constantValue := 0 }]
  methods := #[k5m0, k5m1]
  instanceTypes := #[.int, .int, .int, .int, .int, .int]
  staticTypes := #[(.object "com/example/traversim/traversim/network/PacketType")]
  resolved := Array.replicate 106 none
  statics := none }

def pool6 : Array CpInfo := pool [(1, .methodref 2 3), (0, .class_ 4), (0, .nameAndType 5 6), (0, u "java/lang/Record"), (0, u "<init>"), (0, u "()V"), (0, .fieldref 8 9), (0, .class_ 10), (0, .nameAndType 11 12), (0, u "com/example/traversim/traversim/aodv/Packet$Rreq"), (0, u "from"), (0, u "I"), (0, .fieldref 8 14), (0, .nameAndType 15 12), (0, u "to"), (0, .fieldref 8 17), (0, .nameAndType 18 12), (0, u "orig"), (0, .fieldref 8 20), (0, .nameAndType 21 12), (0, u "bid"), (0, .fieldref 8 23), (0, .nameAndType 24 12), (0, u "hops"), (0, .fieldref 8 26), (0, .nameAndType 27 12), (0, u "dst"), (0, .fieldref 8 29), (0, .nameAndType 30 12), (0, u "dstseq"), (0, .fieldref 8 32), (0, .nameAndType 33 12), (0, u "origseq"), (2, u "TYPE"), (0, u "Lcom/example/traversim/traversim/network/PacketType;"), (12, u "(IIIIIIII)V"), (22, .class_ 74), (0, u "com/example/traversim/traversim/aodv/Packet"), (13, u "equals"), (0, u "(Ljava/lang/Object;)Z")] 33

def k6c0 : Code := { maxStack := 2, maxLocals := 9, code := prog_27_method_1_code, exceptionTable := #[], attributes := #[] }
def k6m0 : Method := { name := "<init>", desc := "(IIIIIIII)V", sig := { parameters := [.int, .int, .int, .int, .int, .int, .int, .int], returnType := none }, accessFlags := 1, code := some k6c0 }
def k6c1 : Code := { maxStack := 2, maxLocals := 3, code := prog_27_method_7_code, exceptionTable := #[], attributes := #[] }
def k6m1 : Method := { name := "equals", desc := "(Ljava/lang/Object;)Z", sig := { parameters := [(.object "java/lang/Object")], returnType := some .boolean }, accessFlags := 1, code := some k6c1 }
/-- com/example/traversim/traversim/aodv/Packet$Rreq -/
def k6 : Class := { plain "com/example/traversim/traversim/aodv/Packet$Rreq" (some 2) with
  accessFlags := 49
  interfaces := #[4]
  cf := some (fileOf pool6 8 #[.nestHost 73] #[{ accessFlags := 1, nameIndex := 5, descriptorIndex := 50, attributes := #[] }, { accessFlags := 1, nameIndex := 88, descriptorIndex := 89, attributes := #[] }] 49 2 #[73] #[{ accessFlags := 18, nameIndex := 11, descriptorIndex := 12, attributes := #[] }, { accessFlags := 18, nameIndex := 15, descriptorIndex := 12, attributes := #[] }, { accessFlags := 18, nameIndex := 18, descriptorIndex := 12, attributes := #[] }, { accessFlags := 18, nameIndex := 21, descriptorIndex := 12, attributes := #[] }, { accessFlags := 18, nameIndex := 24, descriptorIndex := 12, attributes := #[] }, { accessFlags := 18, nameIndex := 27, descriptorIndex := 12, attributes := #[] }, { accessFlags := 18, nameIndex := 30, descriptorIndex := 12, attributes := #[] }, { accessFlags := 18, nameIndex := 33, descriptorIndex := 12, attributes := #[] }, { accessFlags := 24, nameIndex := 36, descriptorIndex := 37, attributes := #[] }])
  fields := #[{ name := "from", type := .int, accessFlags := 18, slot := 0, constantValue := 0 }, { name := "to", type := .int, accessFlags := 18, slot := 1, constantValue := 0 }, { name := "orig", type := .int, accessFlags := 18, slot := 2, constantValue := 0 }, { name := "bid", type := .int, accessFlags := 18, slot := 3, constantValue := 0 }, { name := "hops", type := .int, accessFlags := 18, slot := 4, constantValue := 0 }, { name := "dst", type := .int, accessFlags := 18, slot := 5, constantValue := 0 }, { name := "dstseq", type := .int, accessFlags := 18, slot := 6, constantValue := 0 }, { name := "origseq", type := .int, accessFlags := 18, slot := 7, constantValue := 0 }, { name := "TYPE", type := (.object "com/example/traversim/traversim/network/PacketType"), accessFlags := 24, slot := 0, constantValue := 0 }]
  methods := #[k6m0, k6m1]
  instanceTypes := #[.int, .int, .int, .int, .int, .int, .int, .int]
  staticTypes := #[(.object "com/example/traversim/traversim/network/PacketType")]
  resolved := Array.replicate 123 none
  statics := none }

def pool7 : Array CpInfo := pool [(1, u "java/lang/Cloneable"), (0, .class_ 1), (0, u "java/lang/Object"), (0, .class_ 3)] 3

/-- java/lang/Cloneable -/
def k7 : Class := { plain "java/lang/Cloneable" (some 0) with
  accessFlags := 1537
  interfaces := #[]
  cf := some (fileOf pool7 2 #[] #[] 1537 4 #[] #[])
  fields := #[]
  methods := #[]
  instanceTypes := #[]
  staticTypes := #[]
  resolved := Array.replicate 8 none
  statics := none }

def pool8 : Array CpInfo := pool [(1, u "java/io/Serializable"), (0, .class_ 1), (0, u "java/lang/Object"), (0, .class_ 3)] 3

/-- java/io/Serializable -/
def k8 : Class := { plain "java/io/Serializable" (some 0) with
  accessFlags := 1537
  interfaces := #[]
  cf := some (fileOf pool8 2 #[] #[] 1537 4 #[] #[])
  fields := #[]
  methods := #[]
  instanceTypes := #[]
  staticTypes := #[]
  resolved := Array.replicate 8 none
  statics := none }

/-- the primitive byte -/
def k9 : Class := { plain "byte" none with kind := .primitive 'B', accessFlags := 0x411 }
/-- [B -/
def k10 : Class := { plain "[B" (some 0) with kind := .array 9 .byte, interfaces := #[7, 8], accessFlags := 1041 }

/-- the primitive int -/
def k11 : Class := { plain "int" none with kind := .primitive 'I', accessFlags := 0x411 }
/-- [I -/
def k12 : Class := { plain "[I" (some 0) with kind := .array 11 .int, interfaces := #[7, 8], accessFlags := 1041 }

def heap : Heap := #[]
def classes : Array Class := #[k0, k1, k2, k3, k4, k5, k6, k7, k8, k9, k10, k11, k12]
def interned : List (Array UInt16 × Addr) := []
def slotsUsed : Nat := 0
def theMethod : MethodId := ⟨1, 1⟩
def args0 : Array Value := #[.long 5, .long 5, .long 5, .int 5, .int 5]
def aboutOver (below : List Frame) : State where
  vm := { classes := classes, interned := interned.toArray }
  heap := heap
  slotsUsed := slotsUsed
  threads := #[{ frames := .invoking theMethod args0 :: below }]
def below0 : List Frame := [.native { method := ⟨0, 0⟩, args := #[] }]
def about1 : State := aboutOver below0
def p0 : Program := .bare "" "" ""
def e0 : Env := launch0.env 0 0 0
theorem w_frames : about1.frames = Frame.invoking theMethod args0 :: below0 := rfl
set_option maxRecDepth 65536 in
theorem w_args : argsFit about1.vm theMethod args0 = true := by decide +kernel
set_option maxRecDepth 65536 in
theorem w_heap : heapFits about1 = true := by decide +kernel
set_option maxRecDepth 65536 in
theorem w_runnable : about1.curStatus? = some .runnable := by decide +kernel
set_option maxRecDepth 65536 in
theorem w_alone : about1.alone = true := by decide +kernel
set_option maxRecDepth 65536 in
theorem w_named : about1.methodNamed? x = some theMethod := by decide +kernel
set_option maxRecDepth 65536 in
theorem w_hears : about1.hears theMethod below0 = true := by decide +kernel
set_option maxRecDepth 65536 in
theorem w_ripe : about1.ripe theMethod args0 below0 = true := by decide +kernel
theorem w_running : about1.status = .running := rfl
set_option maxRecDepth 65536 in
theorem w_room : about1.hasRoom e0.platform room_1 = true :=
  launch0.hasRoom_least _ room_1 (by decide +kernel) (by decide +kernel) (by decide +kernel) (by decide +kernel) (by decide +kernel) (by decide +kernel)
theorem allAtoms_all (ts : List Jvm.Cond) (a : Array Jvm.Value) (st : Jvm.State) : (allAtoms ts).before a st = ts.all (fun c => c.before a st) := by
  induction ts with
  | nil => rfl
  | cons c t ih =>
    show (Jvm.Cond.and c (allAtoms t)).before a st = _
    rw [Jvm.Cond.before_and, ih, List.all_cons]
def words1 : List Jvm.Cond := Jvm.Cond.code x code maxLocals ret :: tables_1
/-- a 'code' word, met by the world's own term for the bytes: nothing is compared byte by byte -/
theorem code_word {y : MethodName} {bytes : ByteArray} {mx : Nat} {rt : Option FieldType} {a : Array Value} {s : State} {m : MethodId} {meth : Method} {c : Code} (h1 : s.methodNamed? y = some m) (h2 : s.vm.method? m = some meth) (h3 : meth.code = some c) (h4 : c.code = bytes)
    (h5 : (c.maxLocals == mx && c.exceptionTable.isEmpty && decide (c.maxStack ≤ mostOperands) && decide (meth.sig.returnType = rt) && !meth.locks && decide (parseMethodDescriptor y.desc = some meth.sig)) = true) : (Jvm.Cond.code y bytes mx rt).before a s = true := by
  simp only [Bool.and_eq_true, beq_iff_eq, Bool.not_eq_true', decide_eq_true_eq] at h5
  obtain ⟨⟨⟨⟨⟨g1, g2⟩, g3⟩, g4⟩, g5⟩, g6⟩ := h5
  simp [Cond.before, Cond.holds, Cond.value, h1, h2, h3, h4, g1, g2, g3, g4, g5, g6]
def isCode : Jvm.Cond → Bool
  | .code _ _ _ _ => true
  | _ => false
theorem all_split {L : List Jvm.Cond} {P : Jvm.Cond → Bool} (h1 : L.all (fun c => isCode c || P c) = true) (h2 : ∀ c ∈ L.filter isCode, P c = true) : L.all P = true := by
  refine List.all_eq_true.mpr fun c hc => ?_
  have h := List.all_eq_true.mp h1 c hc
  rcases Bool.eq_false_or_eq_true (isCode c) with hi | hi
  · exact h2 c (List.mem_filter.mpr ⟨hc, hi⟩)
  · simpa [hi] using h
set_option maxRecDepth 65536 in
theorem w_c0 : (Jvm.Cond.code x code maxLocals ret).before args0 about1 = true := code_word (m := ⟨1, 1⟩) (meth := k1m1) (c := k1c1) (by decide +kernel) rfl rfl rfl (by decide +kernel)
set_option maxRecDepth 65536 in
theorem w_c1 : (Jvm.Cond.code ({ cls := "com/example/traversim/traversim/aodv/Packet$Rrep", name := "<init>", desc := "(IIIIII)V" } : Jvm.MethodName) prog_26_method_1_code (7 : Nat) (Option.none : Option Jvm.ClassFile.FieldType)).before args0 about1 = true := code_word (m := ⟨5, 0⟩) (meth := k5m0) (c := k5c0) (by decide +kernel) rfl rfl rfl (by decide +kernel)
set_option maxRecDepth 65536 in
theorem w_c2 : (Jvm.Cond.code ({ cls := "java/lang/Record", name := "<init>", desc := "()V" } : Jvm.MethodName) jdk_30_method_1_code (1 : Nat) (Option.none : Option Jvm.ClassFile.FieldType)).before args0 about1 = true := code_word (m := ⟨2, 0⟩) (meth := k2m0) (c := k2c0) (by decide +kernel) rfl rfl rfl (by decide +kernel)
set_option maxRecDepth 65536 in
theorem w_c3 : (Jvm.Cond.code ({ cls := "java/lang/Object", name := "<init>", desc := "()V" } : Jvm.MethodName) object_method_1_code (1 : Nat) (Option.none : Option Jvm.ClassFile.FieldType)).before args0 about1 = true := code_word (m := ⟨0, 0⟩) (meth := k0m0) (c := k0c0) (by decide +kernel) rfl rfl rfl (by decide +kernel)
set_option maxRecDepth 65536 in
theorem w_c4 : (Jvm.Cond.code ({ cls := "com/example/traversim/traversim/aodv/Packet$Rrep", name := "equals", desc := "(Ljava/lang/Object;)Z" } : Jvm.MethodName) prog_26_method_6_code (3 : Nat) (Option.some Jvm.ClassFile.FieldType.boolean)).before args0 about1 = true := code_word (m := ⟨5, 1⟩) (meth := k5m1) (c := k5c1) (by decide +kernel) rfl rfl rfl (by decide +kernel)
set_option maxRecDepth 65536 in
theorem w_c5 : (Jvm.Cond.code ({ cls := "com/example/traversim/traversim/aodv/Packet$Rreq", name := "<init>", desc := "(IIIIIIII)V" } : Jvm.MethodName) prog_27_method_1_code (9 : Nat) (Option.none : Option Jvm.ClassFile.FieldType)).before args0 about1 = true := code_word (m := ⟨6, 0⟩) (meth := k6m0) (c := k6c0) (by decide +kernel) rfl rfl rfl (by decide +kernel)
set_option maxRecDepth 65536 in
theorem w_c6 : (Jvm.Cond.code ({ cls := "com/example/traversim/traversim/aodv/Packet$Rreq", name := "equals", desc := "(Ljava/lang/Object;)Z" } : Jvm.MethodName) prog_27_method_7_code (3 : Nat) (Option.some Jvm.ClassFile.FieldType.boolean)).before args0 about1 = true := code_word (m := ⟨6, 1⟩) (meth := k6m1) (c := k6c1) (by decide +kernel) rfl rfl rfl (by decide +kernel)
def codes1 : List Jvm.Cond := [Jvm.Cond.code x code maxLocals ret, Jvm.Cond.code ({ cls := "com/example/traversim/traversim/aodv/Packet$Rrep", name := "<init>", desc := "(IIIIII)V" } : Jvm.MethodName) prog_26_method_1_code (7 : Nat) (Option.none : Option Jvm.ClassFile.FieldType), Jvm.Cond.code ({ cls := "java/lang/Record", name := "<init>", desc := "()V" } : Jvm.MethodName) jdk_30_method_1_code (1 : Nat) (Option.none : Option Jvm.ClassFile.FieldType), Jvm.Cond.code ({ cls := "java/lang/Object", name := "<init>", desc := "()V" } : Jvm.MethodName) object_method_1_code (1 : Nat) (Option.none : Option Jvm.ClassFile.FieldType), Jvm.Cond.code ({ cls := "com/example/traversim/traversim/aodv/Packet$Rrep", name := "equals", desc := "(Ljava/lang/Object;)Z" } : Jvm.MethodName) prog_26_method_6_code (3 : Nat) (Option.some Jvm.ClassFile.FieldType.boolean), Jvm.Cond.code ({ cls := "com/example/traversim/traversim/aodv/Packet$Rreq", name := "<init>", desc := "(IIIIIIII)V" } : Jvm.MethodName) prog_27_method_1_code (9 : Nat) (Option.none : Option Jvm.ClassFile.FieldType), Jvm.Cond.code ({ cls := "com/example/traversim/traversim/aodv/Packet$Rreq", name := "equals", desc := "(Ljava/lang/Object;)Z" } : Jvm.MethodName) prog_27_method_7_code (3 : Nat) (Option.some Jvm.ClassFile.FieldType.boolean)]
set_option maxRecDepth 65536 in
theorem codes_eq : words1.filter isCode = codes1 := rfl
theorem w_codes : ∀ c ∈ words1.filter isCode, c.before args0 about1 = true := by
  rw [codes_eq]
  intro c hc
  simp only [codes1, List.mem_cons, List.not_mem_nil, or_false] at hc
  rcases hc with rfl | rfl | rfl | rfl | rfl | rfl | rfl
  · exact w_c0
  · exact w_c1
  · exact w_c2
  · exact w_c3
  · exact w_c4
  · exact w_c5
  · exact w_c6
set_option maxRecDepth 65536 in
theorem w_t1 : (words1.take 24).all (fun c => isCode c || c.before args0 about1) = true := by decide +kernel
set_option maxRecDepth 65536 in
theorem w_t2 : ((words1.drop 24).take 24).all (fun c => isCode c || c.before args0 about1) = true := by decide +kernel
set_option maxRecDepth 65536 in
theorem w_t3 : ((words1.drop 24).drop 24).all (fun c => isCode c || c.before args0 about1) = true := by decide +kernel
theorem w_tables : (allAtoms (Jvm.Cond.code x code maxLocals ret :: tables_1)).before args0 about1 = true := by
  rw [allAtoms_all]
  show words1.all (fun c => c.before args0 about1) = true
  refine all_split ?_ w_codes
  rw [← List.take_append_drop 24 words1, List.all_append, w_t1, ← List.take_append_drop 24 (words1.drop 24), List.all_append, w_t2, w_t3]
  rfl
set_option maxRecDepth 65536 in
theorem w_case : (Jvm.Cond.and given_1 narrow_1).before args0 about1 = true := by decide +kernel
theorem w_applies : (headSpec (Jvm.Cond.code x code maxLocals ret :: tables_1) room_1).applies x e0.platform about1 = true :=
  (Spec.applies_iff w_frames).mpr ⟨w_running, w_runnable, w_alone, w_named, w_hears, w_ripe, w_room, w_tables⟩
theorem atStart : AtStart classFile x code maxLocals ret World_1 tables_1 room_1 Calls_1 rest_1 Pre_1 launch0 p0 e0 about1 theMethod args0 below0 :=
  ⟨lists_1, trivial, launch0.admits_env _ _ _, launch0.least_env, fairChoices_fair.cas, fairChoices_fair.clock, w_frames, w_args, w_heap, w_applies, trivial, trivial, w_case⟩
end start1
theorem witness_1 : WitnessClaimed_1 := ⟨start1.p0, start1.e0, start1.about1, start1.theMethod, start1.args0, start1.below0, start1.atStart⟩
end Jvm.Pilot.@@N@@
