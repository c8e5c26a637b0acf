import JvmDerived
import JvmDerived.Pilot.@@N@@Statement
import JvmDerived.Pilot.@@N@@Code
set_option linter.unusedVariables false
set_option linter.unusedSimpArgs false
namespace Jvm.Pilot.@@N@@
open Jvm Jvm.ClassFile Sem Op Lib Jvm.Free Jvm.Stand Jvm.LawKit Jvm.RoadKit Bundle Jvm.Pilot.@@N@@.Jvm.D
theorem own_pd0 : parseMethodDescriptor "()V" = some ⟨[], none⟩ := by decide +kernel
theorem own_pd1 : parseMethodDescriptor "(IIIIIIII)V" = some ⟨[.int, .int, .int, .int, .int, .int, .int, .int], none⟩ := by decide +kernel
theorem own_pd2 : parseMethodDescriptor "()I" = some ⟨[], some .int⟩ := by decide +kernel
theorem own_pd3 : parseMethodDescriptor "(Ljava/lang/Object;)Z" = some ⟨[(.object "java/lang/Object")], some .boolean⟩ := by decide +kernel
theorem own_d2_0 : decode jdk_30_method_1_code 0 = .ok (.aload_n 0, 1) := by decide +kernel
theorem own_d2_1 : decode jdk_30_method_1_code 1 = .ok (.invokespecial 1, 3) := by decide +kernel
theorem own_d2_4 : decode jdk_30_method_1_code 4 = .ok (.return_, 1) := by decide +kernel
theorem own_pn2 : plainName "java/lang/Record" = true := by first | (simp [plainName, overriddenIn]; done) | decide +kernel
theorem own_ef2 (m : MethodId) (a : Addr) : entryFrame m #[(.ref a)] 1 = mkF m 0 #[.val (.ref a)] [] := by first | (simp [entryFrame, mkF, argsToLocals, Value.category]; done) | rfl
def own_Q2 (Z : State) (a : Addr) (h0 : Heap) (n0 : Nat) (v : Option Value) (h : Heap) (L : List Loc) : Prop := (v = none) ∧ (Fr n0 L) ∧ (h = h0)
set_option maxRecDepth 65536 in
set_option maxHeartbeats 40000000 in
theorem own_rm2 (l : Launch) (Z : State) (a0 : Array Value) (hw : ∀ d ∈ tables_1, d.before a0 Z = true) (ws : List Jvm.Cond) (a : Addr) (h0 : Heap) (n0 : Nat) (Z0 : n0 ≤ h0.size)  :
    MetFree l (⟨"java/lang/Record", "<init>", "()V"⟩ : MethodName) (head1 (Jvm.Cond.code (⟨"java/lang/Record", "<init>", "()V"⟩ : MethodName) jdk_30_method_1_code 1 none :: ws) ({ frames := 1, cells := 0, slots := 0, locals := 12 } : Room)) (fun ar_ U_ => ar_ = #[(.ref a)] ∧ Z.Warmed39 U_.vm ∧ U_.heap = h0) (fun _ _ _ _ _ => True) (fun _ U_ o_ U_' => ∃ v_ L_, o_ = .returned v_ ∧ own_Q2 Z a h0 n0 v_ U_'.heap L_ ∧ FrameEnd U_ o_ U_' L_ ({ frames := 1, cells := 0, slots := 0, locals := 12 } : Room).cells ({ frames := 1, cells := 0, slots := 0, locals := 12 } : Room).slots) := by
  refine MetFree.of_bodySF (plainFor_of_name own_pn2) hisR ?_
  intro p e s m args below meth c s₁ Bd hml0 hP hK
  obtain ⟨rfl, hZ, hh⟩ := hP
  have hx := Bd.exec
  have hby := Bd.bytes
  have hml : c.maxLocals = 1 := hml0
  have hown : s.vm.findClass "java/lang/Record" = some m.cls := findClass_of_methodNamed Bd.named
  have hnm := (name_of_methodNamed Bd.named Bd.method).1
  have X0 : Stand p l e ({ frames := 1, cells := 0, slots := 0, locals := 12 } : Room) s m #[(.ref a)] below meth c s₁ [] 0 0 := Stand.of_body Bd
  have e0 : s₁.heap = h0 := by rw [← hh, Bd.state]; rfl
  have N0 := Fr.nil n0
  have pre0 : ∀ t, Steps p.tables e below (s₁.setTop (mkF m 0 #[.val (.ref a)] [])) t → Steps p.tables e below (s₁.setTop (entryFrame m #[(.ref a)] 1)) t := fun t k => castTop (own_ef2 m a) k
  obtain ⟨T1, X1, e1, st1⟩ := initO X0 hx hZ hown (hw _ (List.mem_of_getElem? (i := 11) rfl)) (hw _ (List.mem_of_getElem? (i := 12) rfl)) (hw _ (List.mem_of_getElem? (i := 13) rfl)) e0 (g := (mkF m 1 #[.val (.ref a)] [(.ref a)])) rfl (by rw [hml]; rfl) rfl (hb hby own_d2_1) (by decide) (W := 0) (by show 2 * 0 + _ ≤ _; exact Nat.le_of_eq rfl) (by decide)
  obtain ⟨fs, hr, hrun, hended, hW, hsame⟩ := X1.leave (v := none) (fun _ => rfl)
  refine ⟨_, _, pre0 _ ?_, hrun, hended, _, _, rfl, ?_, ⟨_, rfl⟩, hW, hsame.mono (by decide) (by decide)⟩
  · show Steps p.tables e below (s₁.setTop (mkF m 0 #[.val (.ref a)] [])) _
    refine XS.aloadN X0.here hx rfl (hb hby own_d2_0) rfl rfl ?_
    show Steps p.tables e below (s₁.setTop (mkF m 1 #[.val (.ref a)] [(.ref a)])) _
    refine st1 _ ?_
    show Steps p.tables e below (T1.setTop (mkF m 4 #[.val (.ref a)] [])) _
    exact X1.returnOut hx Bd.returns (hb hby own_d2_4) hr
  · show own_Q2 Z a h0 n0 _ T1.heap _
    exact ⟨rfl, N0, e1⟩
theorem own_d1_0 : decode prog_27_method_1_code 0 = .ok (.aload_n 0, 1) := by decide +kernel
theorem own_d1_1 : decode prog_27_method_1_code 1 = .ok (.invokespecial 1, 3) := by decide +kernel
theorem own_d1_4 : decode prog_27_method_1_code 4 = .ok (.aload_n 0, 1) := by decide +kernel
theorem own_d1_5 : decode prog_27_method_1_code 5 = .ok (.iload_n 1, 1) := by decide +kernel
theorem own_d1_6 : decode prog_27_method_1_code 6 = .ok (.putfield 7, 3) := by decide +kernel
theorem own_d1_9 : decode prog_27_method_1_code 9 = .ok (.aload_n 0, 1) := by decide +kernel
theorem own_d1_10 : decode prog_27_method_1_code 10 = .ok (.iload_n 2, 1) := by decide +kernel
theorem own_d1_11 : decode prog_27_method_1_code 11 = .ok (.putfield 13, 3) := by decide +kernel
theorem own_d1_14 : decode prog_27_method_1_code 14 = .ok (.aload_n 0, 1) := by decide +kernel
theorem own_d1_15 : decode prog_27_method_1_code 15 = .ok (.iload_n 3, 1) := by decide +kernel
theorem own_d1_16 : decode prog_27_method_1_code 16 = .ok (.putfield 16, 3) := by decide +kernel
theorem own_d1_19 : decode prog_27_method_1_code 19 = .ok (.aload_n 0, 1) := by decide +kernel
theorem own_d1_20 : decode prog_27_method_1_code 20 = .ok (.iload 4, 2) := by decide +kernel
theorem own_d1_22 : decode prog_27_method_1_code 22 = .ok (.putfield 19, 3) := by decide +kernel
theorem own_d1_25 : decode prog_27_method_1_code 25 = .ok (.aload_n 0, 1) := by decide +kernel
theorem own_d1_26 : decode prog_27_method_1_code 26 = .ok (.iload 5, 2) := by decide +kernel
theorem own_d1_28 : decode prog_27_method_1_code 28 = .ok (.putfield 22, 3) := by decide +kernel
theorem own_d1_31 : decode prog_27_method_1_code 31 = .ok (.aload_n 0, 1) := by decide +kernel
theorem own_d1_32 : decode prog_27_method_1_code 32 = .ok (.iload 6, 2) := by decide +kernel
theorem own_d1_34 : decode prog_27_method_1_code 34 = .ok (.putfield 25, 3) := by decide +kernel
theorem own_d1_37 : decode prog_27_method_1_code 37 = .ok (.aload_n 0, 1) := by decide +kernel
theorem own_d1_38 : decode prog_27_method_1_code 38 = .ok (.iload 7, 2) := by decide +kernel
theorem own_d1_40 : decode prog_27_method_1_code 40 = .ok (.putfield 28, 3) := by decide +kernel
theorem own_d1_43 : decode prog_27_method_1_code 43 = .ok (.aload_n 0, 1) := by decide +kernel
theorem own_d1_44 : decode prog_27_method_1_code 44 = .ok (.iload 8, 2) := by decide +kernel
theorem own_d1_46 : decode prog_27_method_1_code 46 = .ok (.putfield 31, 3) := by decide +kernel
theorem own_d1_49 : decode prog_27_method_1_code 49 = .ok (.return_, 1) := by decide +kernel
theorem own_pn1 : plainName "com/example/traversim/traversim/aodv/Packet$Rreq" = true := by first | (simp [plainName, overriddenIn]; done) | decide +kernel
theorem own_ef1 (m : MethodId) (a1 : Addr) (x0 : Int32) (x1 : Int32) (x2 : Int32) (x3 : Int32) (x4 : Int32) (x5 : Int32) (x6 : Int32) (x7 : Int32) : entryFrame m #[(.ref a1), (.int x0), (.int x1), (.int x2), (.int x3), (.int x4), (.int x5), (.int x6), (.int x7)] 9 = mkF m 0 #[.val (.ref a1), .val (.int x0), .val (.int x1), .val (.int x2), .val (.int x3), .val (.int x4), .val (.int x5), .val (.int x6), .val (.int x7)] [] := by first | (simp [entryFrame, mkF, argsToLocals, Value.category]; done) | rfl
def own_Q1 (Z : State) (a1 : Addr) (x0 : Int32) (x1 : Int32) (x2 : Int32) (x3 : Int32) (x4 : Int32) (x5 : Int32) (x6 : Int32) (x7 : Int32) (u_from : Value) (u_to : Value) (u_orig : Value) (u_bid : Value) (u_hops : Value) (u_dst : Value) (u_dstseq : Value) (u_origseq : Value) (h0 : Heap) (n0 : Nat) (v : Option Value) (h : Heap) (L : List Loc) : Prop := (v = none) ∧ (Fr n0 L) ∧ (Keep h0 h [a1]) ∧ (Exa Z h a1 "com/example/traversim/traversim/aodv/Packet$Rreq") ∧ (Fld Z h a1 "com/example/traversim/traversim/aodv/Packet$Rreq" "from" "I" (.int x0)) ∧ (Fld Z h a1 "com/example/traversim/traversim/aodv/Packet$Rreq" "to" "I" (.int x1)) ∧ (Fld Z h a1 "com/example/traversim/traversim/aodv/Packet$Rreq" "orig" "I" (.int x2)) ∧ (Fld Z h a1 "com/example/traversim/traversim/aodv/Packet$Rreq" "bid" "I" (.int x3)) ∧ (Fld Z h a1 "com/example/traversim/traversim/aodv/Packet$Rreq" "hops" "I" (.int x4)) ∧ (Fld Z h a1 "com/example/traversim/traversim/aodv/Packet$Rreq" "dst" "I" (.int x5)) ∧ (Fld Z h a1 "com/example/traversim/traversim/aodv/Packet$Rreq" "dstseq" "I" (.int x6)) ∧ (Fld Z h a1 "com/example/traversim/traversim/aodv/Packet$Rreq" "origseq" "I" (.int x7))
set_option maxRecDepth 65536 in
set_option maxHeartbeats 40000000 in
theorem own_rm1 (l : Launch) (Z : State) (a0 : Array Value) (hw : ∀ d ∈ tables_1, d.before a0 Z = true) (ws : List Jvm.Cond) (a1 : Addr) (x0 : Int32) (x1 : Int32) (x2 : Int32) (x3 : Int32) (x4 : Int32) (x5 : Int32) (x6 : Int32) (x7 : Int32) (u_from : Value) (u_to : Value) (u_orig : Value) (u_bid : Value) (u_hops : Value) (u_dst : Value) (u_dstseq : Value) (u_origseq : Value) (h0 : Heap) (n0 : Nat) (Z0 : n0 ≤ h0.size) (P_E_a1 : Exa Z h0 a1 "com/example/traversim/traversim/aodv/Packet$Rreq") (P_F_a1_from : Fld Z h0 a1 "com/example/traversim/traversim/aodv/Packet$Rreq" "from" "I" u_from) (P_F_a1_to : Fld Z h0 a1 "com/example/traversim/traversim/aodv/Packet$Rreq" "to" "I" u_to) (P_F_a1_orig : Fld Z h0 a1 "com/example/traversim/traversim/aodv/Packet$Rreq" "orig" "I" u_orig) (P_F_a1_bid : Fld Z h0 a1 "com/example/traversim/traversim/aodv/Packet$Rreq" "bid" "I" u_bid) (P_F_a1_hops : Fld Z h0 a1 "com/example/traversim/traversim/aodv/Packet$Rreq" "hops" "I" u_hops) (P_F_a1_dst : Fld Z h0 a1 "com/example/traversim/traversim/aodv/Packet$Rreq" "dst" "I" u_dst) (P_F_a1_dstseq : Fld Z h0 a1 "com/example/traversim/traversim/aodv/Packet$Rreq" "dstseq" "I" u_dstseq) (P_F_a1_origseq : Fld Z h0 a1 "com/example/traversim/traversim/aodv/Packet$Rreq" "origseq" "I" u_origseq) (g_a1 : n0 ≤ a1) :
    MetFree l (⟨"com/example/traversim/traversim/aodv/Packet$Rreq", "<init>", "(IIIIIIII)V"⟩ : MethodName) (head1 (Jvm.Cond.code (⟨"com/example/traversim/traversim/aodv/Packet$Rreq", "<init>", "(IIIIIIII)V"⟩ : MethodName) prog_27_method_1_code 9 none :: ws) ({ frames := 2, cells := 0, slots := 0, locals := 24 } : Room)) (fun ar_ U_ => ar_ = #[(.ref a1), (.int x0), (.int x1), (.int x2), (.int x3), (.int x4), (.int x5), (.int x6), (.int x7)] ∧ Z.Warmed39 U_.vm ∧ U_.heap = h0) (fun _ _ _ _ _ => True) (fun _ U_ o_ U_' => ∃ v_ L_, o_ = .returned v_ ∧ own_Q1 Z a1 x0 x1 x2 x3 x4 x5 x6 x7 u_from u_to u_orig u_bid u_hops u_dst u_dstseq u_origseq h0 n0 v_ U_'.heap L_ ∧ FrameEnd U_ o_ U_' L_ ({ frames := 2, cells := 0, slots := 0, locals := 24 } : Room).cells ({ frames := 2, cells := 0, slots := 0, locals := 24 } : Room).slots) := by
  refine MetFree.of_bodySF (plainFor_of_name own_pn1) hisR ?_
  intro p e s m args below meth c s₁ Bd hml0 hP hK
  obtain ⟨rfl, hZ, hh⟩ := hP
  have hx := Bd.exec
  have hby := Bd.bytes
  have hml : c.maxLocals = 9 := hml0
  have hown : s.vm.findClass "com/example/traversim/traversim/aodv/Packet$Rreq" = some m.cls := findClass_of_methodNamed Bd.named
  have hnm := (name_of_methodNamed Bd.named Bd.method).1
  have X0 : Stand p l e ({ frames := 2, cells := 0, slots := 0, locals := 24 } : Room) s m #[(.ref a1), (.int x0), (.int x1), (.int x2), (.int x3), (.int x4), (.int x5), (.int x6), (.int x7)] below meth c s₁ [] 0 0 := Stand.of_body Bd
  have e0 : s₁.heap = h0 := by rw [← hh, Bd.state]; rfl
  have N0 := Fr.nil n0
  have pre0 : ∀ t, Steps p.tables e below (s₁.setTop (mkF m 0 #[.val (.ref a1), .val (.int x0), .val (.int x1), .val (.int x2), .val (.int x3), .val (.int x4), .val (.int x5), .val (.int x6), .val (.int x7)] [])) t → Steps p.tables e below (s₁.setTop (entryFrame m #[(.ref a1), (.int x0), (.int x1), (.int x2), (.int x3), (.int x4), (.int x5), (.int x6), (.int x7)] 9)) t := fun t k => castTop (own_ef1 m a1 x0 x1 x2 x3 x4 x5 x6 x7) k
  obtain ⟨_, _, ⟨T1, tL1, tk1, tn1⟩, -, X1, ⟨Lc1, hQ1, tl1, ty1, tz1⟩, st1⟩ := X0.specialBack hx (y := (⟨"java/lang/Record", "<init>", "()V"⟩ : MethodName)) rfl hown (mvT hZ (hw _ (List.mem_of_getElem? (i := 6) rfl))) (mvT hZ (hw _ (List.mem_of_getElem? (i := 7) rfl))) (mvT hZ (hw _ (List.mem_of_getElem? (i := 10) rfl))) (by decide) (backOf (W := 0) (own_rm2 l Z a0 hw [] a1 h0 n0 Z0 ) hZ (hw _ (List.mem_of_getElem? (i := 10) rfl)) (hw _ (List.mem_of_getElem? (i := 9) rfl)) (by decide) (by decide)) (g := (mkF m 1 #[.val (.ref a1), .val (.int x0), .val (.int x1), .val (.int x2), .val (.int x3), .val (.int x4), .val (.int x5), .val (.int x6), .val (.int x7)] [(.ref a1)])) rfl (by rw [hml]; rfl) (Steps.refl _) (a := a1) (argsL := []) (rest := []) (lenOf own_pd0 rfl) rfl (by show 2 * 0 + _ ≤ _; exact Nat.le_of_eq rfl) (hb hby own_d1_1) (fun _ _ => ⟨rfl, e0, (by decide : 0 + 0 ≤ _), (by decide : 0 + 0 ≤ _)⟩)
  dsimp only [Pt.U, Pt.locs, Pt.cells, Pt.slots] at X1 tl1 ty1 tz1 st1 hQ1
  rw [tl1, ty1, tz1] at X1
  obtain ⟨rfl, Nq1, K1⟩ := hQ1
  have N1 := Fr.app N0 Nq1
  obtain ⟨T2, h2, X2, e2, W2, st2⟩ := putF X1 hx hZ hown (host := "") (Or.inl (hw _ (List.mem_of_getElem? (i := 14) rfl))) Via.refl K1 P_F_a1_from P_E_a1 (Or.inr ⟨(hw _ (List.mem_of_getElem? (i := 15) rfl)), rfl, hnm⟩) (hw _ (List.mem_of_getElem? (i := 1) rfl)) (ty := .int) (by decide) rfl rfl (g := (mkF m 6 #[.val (.ref a1), .val (.int x0), .val (.int x1), .val (.int x2), .val (.int x3), .val (.int x4), .val (.int x5), .val (.int x6), .val (.int x7)] [(.int x0), (.ref a1)])) rfl rfl (hb hby own_d1_6)
  have Fw2 : Fld Z h2 a1 "com/example/traversim/traversim/aodv/Packet$Rreq" "from" "I" (.int x0) := Fld.same W2 P_F_a1_from
  have K2 : Keep h0 h2 [a1] := (Keep.refl h0 [a1]).wr W2 (Or.inl (List.mem_of_getElem? (i := 0) rfl))
  have N2 := Fr.snoc X2 N1 g_a1
  have FF_a1_to_3 : Fld Z h2 a1 "com/example/traversim/traversim/aodv/Packet$Rreq" "to" "I" u_to := (P_F_a1_to.other W2 (Or.inr (slot_ne (Or.inr (hw _ (List.mem_of_getElem? (i := 17) rfl))) (Or.inr (hw _ (List.mem_of_getElem? (i := 15) rfl))) (by decide) (t := .int) (t' := .int) (by decide) (by decide))))
  have FE_a1_4 : Exa Z h2 a1 "com/example/traversim/traversim/aodv/Packet$Rreq" := (P_E_a1.wr W2)
  obtain ⟨T5, h5, X5, e5, W5, st5⟩ := putF X2 hx hZ hown (host := "") (Or.inl (hw _ (List.mem_of_getElem? (i := 16) rfl))) Via.refl e2 FF_a1_to_3 FE_a1_4 (Or.inr ⟨(hw _ (List.mem_of_getElem? (i := 17) rfl)), rfl, hnm⟩) (hw _ (List.mem_of_getElem? (i := 1) rfl)) (ty := .int) (by decide) rfl rfl (g := (mkF m 11 #[.val (.ref a1), .val (.int x0), .val (.int x1), .val (.int x2), .val (.int x3), .val (.int x4), .val (.int x5), .val (.int x6), .val (.int x7)] [(.int x1), (.ref a1)])) rfl rfl (hb hby own_d1_11)
  have Fw5 : Fld Z h5 a1 "com/example/traversim/traversim/aodv/Packet$Rreq" "to" "I" (.int x1) := Fld.same W5 FF_a1_to_3
  have K5 : Keep h0 h5 [a1] := K2.wr W5 (Or.inl (List.mem_of_getElem? (i := 0) rfl))
  have N5 := Fr.snoc X5 N2 g_a1
  have FF_a1_orig_6 : Fld Z h5 a1 "com/example/traversim/traversim/aodv/Packet$Rreq" "orig" "I" u_orig := ((P_F_a1_orig.other W2 (Or.inr (slot_ne (Or.inr (hw _ (List.mem_of_getElem? (i := 19) rfl))) (Or.inr (hw _ (List.mem_of_getElem? (i := 15) rfl))) (by decide) (t := .int) (t' := .int) (by decide) (by decide)))).other W5 (Or.inr (slot_ne (Or.inr (hw _ (List.mem_of_getElem? (i := 19) rfl))) (Or.inr (hw _ (List.mem_of_getElem? (i := 17) rfl))) (by decide) (t := .int) (t' := .int) (by decide) (by decide))))
  have FE_a1_7 : Exa Z h5 a1 "com/example/traversim/traversim/aodv/Packet$Rreq" := (FE_a1_4.wr W5)
  obtain ⟨T8, h8, X8, e8, W8, st8⟩ := putF X5 hx hZ hown (host := "") (Or.inl (hw _ (List.mem_of_getElem? (i := 18) rfl))) Via.refl e5 FF_a1_orig_6 FE_a1_7 (Or.inr ⟨(hw _ (List.mem_of_getElem? (i := 19) rfl)), rfl, hnm⟩) (hw _ (List.mem_of_getElem? (i := 1) rfl)) (ty := .int) (by decide) rfl rfl (g := (mkF m 16 #[.val (.ref a1), .val (.int x0), .val (.int x1), .val (.int x2), .val (.int x3), .val (.int x4), .val (.int x5), .val (.int x6), .val (.int x7)] [(.int x2), (.ref a1)])) rfl rfl (hb hby own_d1_16)
  have Fw8 : Fld Z h8 a1 "com/example/traversim/traversim/aodv/Packet$Rreq" "orig" "I" (.int x2) := Fld.same W8 FF_a1_orig_6
  have K8 : Keep h0 h8 [a1] := K5.wr W8 (Or.inl (List.mem_of_getElem? (i := 0) rfl))
  have N8 := Fr.snoc X8 N5 g_a1
  have FF_a1_bid_9 : Fld Z h8 a1 "com/example/traversim/traversim/aodv/Packet$Rreq" "bid" "I" u_bid := (((P_F_a1_bid.other W2 (Or.inr (slot_ne (Or.inr (hw _ (List.mem_of_getElem? (i := 21) rfl))) (Or.inr (hw _ (List.mem_of_getElem? (i := 15) rfl))) (by decide) (t := .int) (t' := .int) (by decide) (by decide)))).other W5 (Or.inr (slot_ne (Or.inr (hw _ (List.mem_of_getElem? (i := 21) rfl))) (Or.inr (hw _ (List.mem_of_getElem? (i := 17) rfl))) (by decide) (t := .int) (t' := .int) (by decide) (by decide)))).other W8 (Or.inr (slot_ne (Or.inr (hw _ (List.mem_of_getElem? (i := 21) rfl))) (Or.inr (hw _ (List.mem_of_getElem? (i := 19) rfl))) (by decide) (t := .int) (t' := .int) (by decide) (by decide))))
  have FE_a1_10 : Exa Z h8 a1 "com/example/traversim/traversim/aodv/Packet$Rreq" := (FE_a1_7.wr W8)
  obtain ⟨T11, h11, X11, e11, W11, st11⟩ := putF X8 hx hZ hown (host := "") (Or.inl (hw _ (List.mem_of_getElem? (i := 20) rfl))) Via.refl e8 FF_a1_bid_9 FE_a1_10 (Or.inr ⟨(hw _ (List.mem_of_getElem? (i := 21) rfl)), rfl, hnm⟩) (hw _ (List.mem_of_getElem? (i := 1) rfl)) (ty := .int) (by decide) rfl rfl (g := (mkF m 22 #[.val (.ref a1), .val (.int x0), .val (.int x1), .val (.int x2), .val (.int x3), .val (.int x4), .val (.int x5), .val (.int x6), .val (.int x7)] [(.int x3), (.ref a1)])) rfl rfl (hb hby own_d1_22)
  have Fw11 : Fld Z h11 a1 "com/example/traversim/traversim/aodv/Packet$Rreq" "bid" "I" (.int x3) := Fld.same W11 FF_a1_bid_9
  have K11 : Keep h0 h11 [a1] := K8.wr W11 (Or.inl (List.mem_of_getElem? (i := 0) rfl))
  have N11 := Fr.snoc X11 N8 g_a1
  have FF_a1_hops_12 : Fld Z h11 a1 "com/example/traversim/traversim/aodv/Packet$Rreq" "hops" "I" u_hops := ((((P_F_a1_hops.other W2 (Or.inr (slot_ne (Or.inr (hw _ (List.mem_of_getElem? (i := 23) rfl))) (Or.inr (hw _ (List.mem_of_getElem? (i := 15) rfl))) (by decide) (t := .int) (t' := .int) (by decide) (by decide)))).other W5 (Or.inr (slot_ne (Or.inr (hw _ (List.mem_of_getElem? (i := 23) rfl))) (Or.inr (hw _ (List.mem_of_getElem? (i := 17) rfl))) (by decide) (t := .int) (t' := .int) (by decide) (by decide)))).other W8 (Or.inr (slot_ne (Or.inr (hw _ (List.mem_of_getElem? (i := 23) rfl))) (Or.inr (hw _ (List.mem_of_getElem? (i := 19) rfl))) (by decide) (t := .int) (t' := .int) (by decide) (by decide)))).other W11 (Or.inr (slot_ne (Or.inr (hw _ (List.mem_of_getElem? (i := 23) rfl))) (Or.inr (hw _ (List.mem_of_getElem? (i := 21) rfl))) (by decide) (t := .int) (t' := .int) (by decide) (by decide))))
  have FE_a1_13 : Exa Z h11 a1 "com/example/traversim/traversim/aodv/Packet$Rreq" := (FE_a1_10.wr W11)
  obtain ⟨T14, h14, X14, e14, W14, st14⟩ := putF X11 hx hZ hown (host := "") (Or.inl (hw _ (List.mem_of_getElem? (i := 22) rfl))) Via.refl e11 FF_a1_hops_12 FE_a1_13 (Or.inr ⟨(hw _ (List.mem_of_getElem? (i := 23) rfl)), rfl, hnm⟩) (hw _ (List.mem_of_getElem? (i := 1) rfl)) (ty := .int) (by decide) rfl rfl (g := (mkF m 28 #[.val (.ref a1), .val (.int x0), .val (.int x1), .val (.int x2), .val (.int x3), .val (.int x4), .val (.int x5), .val (.int x6), .val (.int x7)] [(.int x4), (.ref a1)])) rfl rfl (hb hby own_d1_28)
  have Fw14 : Fld Z h14 a1 "com/example/traversim/traversim/aodv/Packet$Rreq" "hops" "I" (.int x4) := Fld.same W14 FF_a1_hops_12
  have K14 : Keep h0 h14 [a1] := K11.wr W14 (Or.inl (List.mem_of_getElem? (i := 0) rfl))
  have N14 := Fr.snoc X14 N11 g_a1
  have FF_a1_dst_15 : Fld Z h14 a1 "com/example/traversim/traversim/aodv/Packet$Rreq" "dst" "I" u_dst := (((((P_F_a1_dst.other W2 (Or.inr (slot_ne (Or.inr (hw _ (List.mem_of_getElem? (i := 25) rfl))) (Or.inr (hw _ (List.mem_of_getElem? (i := 15) rfl))) (by decide) (t := .int) (t' := .int) (by decide) (by decide)))).other W5 (Or.inr (slot_ne (Or.inr (hw _ (List.mem_of_getElem? (i := 25) rfl))) (Or.inr (hw _ (List.mem_of_getElem? (i := 17) rfl))) (by decide) (t := .int) (t' := .int) (by decide) (by decide)))).other W8 (Or.inr (slot_ne (Or.inr (hw _ (List.mem_of_getElem? (i := 25) rfl))) (Or.inr (hw _ (List.mem_of_getElem? (i := 19) rfl))) (by decide) (t := .int) (t' := .int) (by decide) (by decide)))).other W11 (Or.inr (slot_ne (Or.inr (hw _ (List.mem_of_getElem? (i := 25) rfl))) (Or.inr (hw _ (List.mem_of_getElem? (i := 21) rfl))) (by decide) (t := .int) (t' := .int) (by decide) (by decide)))).other W14 (Or.inr (slot_ne (Or.inr (hw _ (List.mem_of_getElem? (i := 25) rfl))) (Or.inr (hw _ (List.mem_of_getElem? (i := 23) rfl))) (by decide) (t := .int) (t' := .int) (by decide) (by decide))))
  have FE_a1_16 : Exa Z h14 a1 "com/example/traversim/traversim/aodv/Packet$Rreq" := (FE_a1_13.wr W14)
  obtain ⟨T17, h17, X17, e17, W17, st17⟩ := putF X14 hx hZ hown (host := "") (Or.inl (hw _ (List.mem_of_getElem? (i := 24) rfl))) Via.refl e14 FF_a1_dst_15 FE_a1_16 (Or.inr ⟨(hw _ (List.mem_of_getElem? (i := 25) rfl)), rfl, hnm⟩) (hw _ (List.mem_of_getElem? (i := 1) rfl)) (ty := .int) (by decide) rfl rfl (g := (mkF m 34 #[.val (.ref a1), .val (.int x0), .val (.int x1), .val (.int x2), .val (.int x3), .val (.int x4), .val (.int x5), .val (.int x6), .val (.int x7)] [(.int x5), (.ref a1)])) rfl rfl (hb hby own_d1_34)
  have Fw17 : Fld Z h17 a1 "com/example/traversim/traversim/aodv/Packet$Rreq" "dst" "I" (.int x5) := Fld.same W17 FF_a1_dst_15
  have K17 : Keep h0 h17 [a1] := K14.wr W17 (Or.inl (List.mem_of_getElem? (i := 0) rfl))
  have N17 := Fr.snoc X17 N14 g_a1
  have FF_a1_dstseq_18 : Fld Z h17 a1 "com/example/traversim/traversim/aodv/Packet$Rreq" "dstseq" "I" u_dstseq := ((((((P_F_a1_dstseq.other W2 (Or.inr (slot_ne (Or.inr (hw _ (List.mem_of_getElem? (i := 27) rfl))) (Or.inr (hw _ (List.mem_of_getElem? (i := 15) rfl))) (by decide) (t := .int) (t' := .int) (by decide) (by decide)))).other W5 (Or.inr (slot_ne (Or.inr (hw _ (List.mem_of_getElem? (i := 27) rfl))) (Or.inr (hw _ (List.mem_of_getElem? (i := 17) rfl))) (by decide) (t := .int) (t' := .int) (by decide) (by decide)))).other W8 (Or.inr (slot_ne (Or.inr (hw _ (List.mem_of_getElem? (i := 27) rfl))) (Or.inr (hw _ (List.mem_of_getElem? (i := 19) rfl))) (by decide) (t := .int) (t' := .int) (by decide) (by decide)))).other W11 (Or.inr (slot_ne (Or.inr (hw _ (List.mem_of_getElem? (i := 27) rfl))) (Or.inr (hw _ (List.mem_of_getElem? (i := 21) rfl))) (by decide) (t := .int) (t' := .int) (by decide) (by decide)))).other W14 (Or.inr (slot_ne (Or.inr (hw _ (List.mem_of_getElem? (i := 27) rfl))) (Or.inr (hw _ (List.mem_of_getElem? (i := 23) rfl))) (by decide) (t := .int) (t' := .int) (by decide) (by decide)))).other W17 (Or.inr (slot_ne (Or.inr (hw _ (List.mem_of_getElem? (i := 27) rfl))) (Or.inr (hw _ (List.mem_of_getElem? (i := 25) rfl))) (by decide) (t := .int) (t' := .int) (by decide) (by decide))))
  have FE_a1_19 : Exa Z h17 a1 "com/example/traversim/traversim/aodv/Packet$Rreq" := (FE_a1_16.wr W17)
  obtain ⟨T20, h20, X20, e20, W20, st20⟩ := putF X17 hx hZ hown (host := "") (Or.inl (hw _ (List.mem_of_getElem? (i := 26) rfl))) Via.refl e17 FF_a1_dstseq_18 FE_a1_19 (Or.inr ⟨(hw _ (List.mem_of_getElem? (i := 27) rfl)), rfl, hnm⟩) (hw _ (List.mem_of_getElem? (i := 1) rfl)) (ty := .int) (by decide) rfl rfl (g := (mkF m 40 #[.val (.ref a1), .val (.int x0), .val (.int x1), .val (.int x2), .val (.int x3), .val (.int x4), .val (.int x5), .val (.int x6), .val (.int x7)] [(.int x6), (.ref a1)])) rfl rfl (hb hby own_d1_40)
  have Fw20 : Fld Z h20 a1 "com/example/traversim/traversim/aodv/Packet$Rreq" "dstseq" "I" (.int x6) := Fld.same W20 FF_a1_dstseq_18
  have K20 : Keep h0 h20 [a1] := K17.wr W20 (Or.inl (List.mem_of_getElem? (i := 0) rfl))
  have N20 := Fr.snoc X20 N17 g_a1
  have FF_a1_origseq_21 : Fld Z h20 a1 "com/example/traversim/traversim/aodv/Packet$Rreq" "origseq" "I" u_origseq := (((((((P_F_a1_origseq.other W2 (Or.inr (slot_ne (Or.inr (hw _ (List.mem_of_getElem? (i := 29) rfl))) (Or.inr (hw _ (List.mem_of_getElem? (i := 15) rfl))) (by decide) (t := .int) (t' := .int) (by decide) (by decide)))).other W5 (Or.inr (slot_ne (Or.inr (hw _ (List.mem_of_getElem? (i := 29) rfl))) (Or.inr (hw _ (List.mem_of_getElem? (i := 17) rfl))) (by decide) (t := .int) (t' := .int) (by decide) (by decide)))).other W8 (Or.inr (slot_ne (Or.inr (hw _ (List.mem_of_getElem? (i := 29) rfl))) (Or.inr (hw _ (List.mem_of_getElem? (i := 19) rfl))) (by decide) (t := .int) (t' := .int) (by decide) (by decide)))).other W11 (Or.inr (slot_ne (Or.inr (hw _ (List.mem_of_getElem? (i := 29) rfl))) (Or.inr (hw _ (List.mem_of_getElem? (i := 21) rfl))) (by decide) (t := .int) (t' := .int) (by decide) (by decide)))).other W14 (Or.inr (slot_ne (Or.inr (hw _ (List.mem_of_getElem? (i := 29) rfl))) (Or.inr (hw _ (List.mem_of_getElem? (i := 23) rfl))) (by decide) (t := .int) (t' := .int) (by decide) (by decide)))).other W17 (Or.inr (slot_ne (Or.inr (hw _ (List.mem_of_getElem? (i := 29) rfl))) (Or.inr (hw _ (List.mem_of_getElem? (i := 25) rfl))) (by decide) (t := .int) (t' := .int) (by decide) (by decide)))).other W20 (Or.inr (slot_ne (Or.inr (hw _ (List.mem_of_getElem? (i := 29) rfl))) (Or.inr (hw _ (List.mem_of_getElem? (i := 27) rfl))) (by decide) (t := .int) (t' := .int) (by decide) (by decide))))
  have FE_a1_22 : Exa Z h20 a1 "com/example/traversim/traversim/aodv/Packet$Rreq" := (FE_a1_19.wr W20)
  obtain ⟨T23, h23, X23, e23, W23, st23⟩ := putF X20 hx hZ hown (host := "") (Or.inl (hw _ (List.mem_of_getElem? (i := 28) rfl))) Via.refl e20 FF_a1_origseq_21 FE_a1_22 (Or.inr ⟨(hw _ (List.mem_of_getElem? (i := 29) rfl)), rfl, hnm⟩) (hw _ (List.mem_of_getElem? (i := 1) rfl)) (ty := .int) (by decide) rfl rfl (g := (mkF m 46 #[.val (.ref a1), .val (.int x0), .val (.int x1), .val (.int x2), .val (.int x3), .val (.int x4), .val (.int x5), .val (.int x6), .val (.int x7)] [(.int x7), (.ref a1)])) rfl rfl (hb hby own_d1_46)
  have Fw23 : Fld Z h23 a1 "com/example/traversim/traversim/aodv/Packet$Rreq" "origseq" "I" (.int x7) := Fld.same W23 FF_a1_origseq_21
  have K23 : Keep h0 h23 [a1] := K20.wr W23 (Or.inl (List.mem_of_getElem? (i := 0) rfl))
  have N23 := Fr.snoc X23 N20 g_a1
  obtain ⟨fs, hr, hrun, hended, hW, hsame⟩ := X23.leave (v := none) (fun _ => rfl)
  refine ⟨_, _, pre0 _ ?_, hrun, hended, _, _, rfl, ?_, ⟨_, rfl⟩, hW, hsame.mono (by decide) (by decide)⟩
  · show Steps p.tables e below (s₁.setTop (mkF m 0 #[.val (.ref a1), .val (.int x0), .val (.int x1), .val (.int x2), .val (.int x3), .val (.int x4), .val (.int x5), .val (.int x6), .val (.int x7)] [])) _
    refine XS.aloadN X0.here hx rfl (hb hby own_d1_0) rfl rfl ?_
    show Steps p.tables e below (s₁.setTop (mkF m 1 #[.val (.ref a1), .val (.int x0), .val (.int x1), .val (.int x2), .val (.int x3), .val (.int x4), .val (.int x5), .val (.int x6), .val (.int x7)] [(.ref a1)])) _
    refine st1.trans ?_
    show Steps p.tables e below (T1.setTop (mkF m 4 #[.val (.ref a1), .val (.int x0), .val (.int x1), .val (.int x2), .val (.int x3), .val (.int x4), .val (.int x5), .val (.int x6), .val (.int x7)] [])) _
    refine XS.aloadN X1.here hx rfl (hb hby own_d1_4) rfl rfl ?_
    show Steps p.tables e below (T1.setTop (mkF m 5 #[.val (.ref a1), .val (.int x0), .val (.int x1), .val (.int x2), .val (.int x3), .val (.int x4), .val (.int x5), .val (.int x6), .val (.int x7)] [(.ref a1)])) _
    refine XS.iloadN X1.here hx rfl (hb hby own_d1_5) rfl ?_
    show Steps p.tables e below (T1.setTop (mkF m 6 #[.val (.ref a1), .val (.int x0), .val (.int x1), .val (.int x2), .val (.int x3), .val (.int x4), .val (.int x5), .val (.int x6), .val (.int x7)] [(.int x0), (.ref a1)])) _
    refine st2 _ ?_
    show Steps p.tables e below (T2.setTop (mkF m 9 #[.val (.ref a1), .val (.int x0), .val (.int x1), .val (.int x2), .val (.int x3), .val (.int x4), .val (.int x5), .val (.int x6), .val (.int x7)] [])) _
    refine XS.aloadN X2.here hx rfl (hb hby own_d1_9) rfl rfl ?_
    show Steps p.tables e below (T2.setTop (mkF m 10 #[.val (.ref a1), .val (.int x0), .val (.int x1), .val (.int x2), .val (.int x3), .val (.int x4), .val (.int x5), .val (.int x6), .val (.int x7)] [(.ref a1)])) _
    refine XS.iloadN X2.here hx rfl (hb hby own_d1_10) rfl ?_
    show Steps p.tables e below (T2.setTop (mkF m 11 #[.val (.ref a1), .val (.int x0), .val (.int x1), .val (.int x2), .val (.int x3), .val (.int x4), .val (.int x5), .val (.int x6), .val (.int x7)] [(.int x1), (.ref a1)])) _
    refine st5 _ ?_
    show Steps p.tables e below (T5.setTop (mkF m 14 #[.val (.ref a1), .val (.int x0), .val (.int x1), .val (.int x2), .val (.int x3), .val (.int x4), .val (.int x5), .val (.int x6), .val (.int x7)] [])) _
    refine XS.aloadN X5.here hx rfl (hb hby own_d1_14) rfl rfl ?_
    show Steps p.tables e below (T5.setTop (mkF m 15 #[.val (.ref a1), .val (.int x0), .val (.int x1), .val (.int x2), .val (.int x3), .val (.int x4), .val (.int x5), .val (.int x6), .val (.int x7)] [(.ref a1)])) _
    refine XS.iloadN X5.here hx rfl (hb hby own_d1_15) rfl ?_
    show Steps p.tables e below (T5.setTop (mkF m 16 #[.val (.ref a1), .val (.int x0), .val (.int x1), .val (.int x2), .val (.int x3), .val (.int x4), .val (.int x5), .val (.int x6), .val (.int x7)] [(.int x2), (.ref a1)])) _
    refine st8 _ ?_
    show Steps p.tables e below (T8.setTop (mkF m 19 #[.val (.ref a1), .val (.int x0), .val (.int x1), .val (.int x2), .val (.int x3), .val (.int x4), .val (.int x5), .val (.int x6), .val (.int x7)] [])) _
    refine XS.aloadN X8.here hx rfl (hb hby own_d1_19) rfl rfl ?_
    show Steps p.tables e below (T8.setTop (mkF m 20 #[.val (.ref a1), .val (.int x0), .val (.int x1), .val (.int x2), .val (.int x3), .val (.int x4), .val (.int x5), .val (.int x6), .val (.int x7)] [(.ref a1)])) _
    refine XS.iload X8.here hx rfl (hb hby own_d1_20) rfl ?_
    show Steps p.tables e below (T8.setTop (mkF m 22 #[.val (.ref a1), .val (.int x0), .val (.int x1), .val (.int x2), .val (.int x3), .val (.int x4), .val (.int x5), .val (.int x6), .val (.int x7)] [(.int x3), (.ref a1)])) _
    refine st11 _ ?_
    show Steps p.tables e below (T11.setTop (mkF m 25 #[.val (.ref a1), .val (.int x0), .val (.int x1), .val (.int x2), .val (.int x3), .val (.int x4), .val (.int x5), .val (.int x6), .val (.int x7)] [])) _
    refine XS.aloadN X11.here hx rfl (hb hby own_d1_25) rfl rfl ?_
    show Steps p.tables e below (T11.setTop (mkF m 26 #[.val (.ref a1), .val (.int x0), .val (.int x1), .val (.int x2), .val (.int x3), .val (.int x4), .val (.int x5), .val (.int x6), .val (.int x7)] [(.ref a1)])) _
    refine XS.iload X11.here hx rfl (hb hby own_d1_26) rfl ?_
    show Steps p.tables e below (T11.setTop (mkF m 28 #[.val (.ref a1), .val (.int x0), .val (.int x1), .val (.int x2), .val (.int x3), .val (.int x4), .val (.int x5), .val (.int x6), .val (.int x7)] [(.int x4), (.ref a1)])) _
    refine st14 _ ?_
    show Steps p.tables e below (T14.setTop (mkF m 31 #[.val (.ref a1), .val (.int x0), .val (.int x1), .val (.int x2), .val (.int x3), .val (.int x4), .val (.int x5), .val (.int x6), .val (.int x7)] [])) _
    refine XS.aloadN X14.here hx rfl (hb hby own_d1_31) rfl rfl ?_
    show Steps p.tables e below (T14.setTop (mkF m 32 #[.val (.ref a1), .val (.int x0), .val (.int x1), .val (.int x2), .val (.int x3), .val (.int x4), .val (.int x5), .val (.int x6), .val (.int x7)] [(.ref a1)])) _
    refine XS.iload X14.here hx rfl (hb hby own_d1_32) rfl ?_
    show Steps p.tables e below (T14.setTop (mkF m 34 #[.val (.ref a1), .val (.int x0), .val (.int x1), .val (.int x2), .val (.int x3), .val (.int x4), .val (.int x5), .val (.int x6), .val (.int x7)] [(.int x5), (.ref a1)])) _
    refine st17 _ ?_
    show Steps p.tables e below (T17.setTop (mkF m 37 #[.val (.ref a1), .val (.int x0), .val (.int x1), .val (.int x2), .val (.int x3), .val (.int x4), .val (.int x5), .val (.int x6), .val (.int x7)] [])) _
    refine XS.aloadN X17.here hx rfl (hb hby own_d1_37) rfl rfl ?_
    show Steps p.tables e below (T17.setTop (mkF m 38 #[.val (.ref a1), .val (.int x0), .val (.int x1), .val (.int x2), .val (.int x3), .val (.int x4), .val (.int x5), .val (.int x6), .val (.int x7)] [(.ref a1)])) _
    refine XS.iload X17.here hx rfl (hb hby own_d1_38) rfl ?_
    show Steps p.tables e below (T17.setTop (mkF m 40 #[.val (.ref a1), .val (.int x0), .val (.int x1), .val (.int x2), .val (.int x3), .val (.int x4), .val (.int x5), .val (.int x6), .val (.int x7)] [(.int x6), (.ref a1)])) _
    refine st20 _ ?_
    show Steps p.tables e below (T20.setTop (mkF m 43 #[.val (.ref a1), .val (.int x0), .val (.int x1), .val (.int x2), .val (.int x3), .val (.int x4), .val (.int x5), .val (.int x6), .val (.int x7)] [])) _
    refine XS.aloadN X20.here hx rfl (hb hby own_d1_43) rfl rfl ?_
    show Steps p.tables e below (T20.setTop (mkF m 44 #[.val (.ref a1), .val (.int x0), .val (.int x1), .val (.int x2), .val (.int x3), .val (.int x4), .val (.int x5), .val (.int x6), .val (.int x7)] [(.ref a1)])) _
    refine XS.iload X20.here hx rfl (hb hby own_d1_44) rfl ?_
    show Steps p.tables e below (T20.setTop (mkF m 46 #[.val (.ref a1), .val (.int x0), .val (.int x1), .val (.int x2), .val (.int x3), .val (.int x4), .val (.int x5), .val (.int x6), .val (.int x7)] [(.int x7), (.ref a1)])) _
    refine st23 _ ?_
    show Steps p.tables e below (T23.setTop (mkF m 49 #[.val (.ref a1), .val (.int x0), .val (.int x1), .val (.int x2), .val (.int x3), .val (.int x4), .val (.int x5), .val (.int x6), .val (.int x7)] [])) _
    exact X23.returnOut hx Bd.returns (hb hby own_d1_49) hr
  · show own_Q1 Z a1 x0 x1 x2 x3 x4 x5 x6 x7 u_from u_to u_orig u_bid u_hops u_dst u_dstseq u_origseq h0 n0 _ T23.heap _
    rw [e23]
    have FE_a1_24 : Exa Z h23 a1 "com/example/traversim/traversim/aodv/Packet$Rreq" := (FE_a1_22.wr W23)
    have FF_a1_from_25 : Fld Z h23 a1 "com/example/traversim/traversim/aodv/Packet$Rreq" "from" "I" (.int x0) := (((((((Fw2.other W5 (Or.inr (slot_ne (Or.inr (hw _ (List.mem_of_getElem? (i := 15) rfl))) (Or.inr (hw _ (List.mem_of_getElem? (i := 17) rfl))) (by decide) (t := .int) (t' := .int) (by decide) (by decide)))).other W8 (Or.inr (slot_ne (Or.inr (hw _ (List.mem_of_getElem? (i := 15) rfl))) (Or.inr (hw _ (List.mem_of_getElem? (i := 19) rfl))) (by decide) (t := .int) (t' := .int) (by decide) (by decide)))).other W11 (Or.inr (slot_ne (Or.inr (hw _ (List.mem_of_getElem? (i := 15) rfl))) (Or.inr (hw _ (List.mem_of_getElem? (i := 21) rfl))) (by decide) (t := .int) (t' := .int) (by decide) (by decide)))).other W14 (Or.inr (slot_ne (Or.inr (hw _ (List.mem_of_getElem? (i := 15) rfl))) (Or.inr (hw _ (List.mem_of_getElem? (i := 23) rfl))) (by decide) (t := .int) (t' := .int) (by decide) (by decide)))).other W17 (Or.inr (slot_ne (Or.inr (hw _ (List.mem_of_getElem? (i := 15) rfl))) (Or.inr (hw _ (List.mem_of_getElem? (i := 25) rfl))) (by decide) (t := .int) (t' := .int) (by decide) (by decide)))).other W20 (Or.inr (slot_ne (Or.inr (hw _ (List.mem_of_getElem? (i := 15) rfl))) (Or.inr (hw _ (List.mem_of_getElem? (i := 27) rfl))) (by decide) (t := .int) (t' := .int) (by decide) (by decide)))).other W23 (Or.inr (slot_ne (Or.inr (hw _ (List.mem_of_getElem? (i := 15) rfl))) (Or.inr (hw _ (List.mem_of_getElem? (i := 29) rfl))) (by decide) (t := .int) (t' := .int) (by decide) (by decide))))
    have FF_a1_to_26 : Fld Z h23 a1 "com/example/traversim/traversim/aodv/Packet$Rreq" "to" "I" (.int x1) := ((((((Fw5.other W8 (Or.inr (slot_ne (Or.inr (hw _ (List.mem_of_getElem? (i := 17) rfl))) (Or.inr (hw _ (List.mem_of_getElem? (i := 19) rfl))) (by decide) (t := .int) (t' := .int) (by decide) (by decide)))).other W11 (Or.inr (slot_ne (Or.inr (hw _ (List.mem_of_getElem? (i := 17) rfl))) (Or.inr (hw _ (List.mem_of_getElem? (i := 21) rfl))) (by decide) (t := .int) (t' := .int) (by decide) (by decide)))).other W14 (Or.inr (slot_ne (Or.inr (hw _ (List.mem_of_getElem? (i := 17) rfl))) (Or.inr (hw _ (List.mem_of_getElem? (i := 23) rfl))) (by decide) (t := .int) (t' := .int) (by decide) (by decide)))).other W17 (Or.inr (slot_ne (Or.inr (hw _ (List.mem_of_getElem? (i := 17) rfl))) (Or.inr (hw _ (List.mem_of_getElem? (i := 25) rfl))) (by decide) (t := .int) (t' := .int) (by decide) (by decide)))).other W20 (Or.inr (slot_ne (Or.inr (hw _ (List.mem_of_getElem? (i := 17) rfl))) (Or.inr (hw _ (List.mem_of_getElem? (i := 27) rfl))) (by decide) (t := .int) (t' := .int) (by decide) (by decide)))).other W23 (Or.inr (slot_ne (Or.inr (hw _ (List.mem_of_getElem? (i := 17) rfl))) (Or.inr (hw _ (List.mem_of_getElem? (i := 29) rfl))) (by decide) (t := .int) (t' := .int) (by decide) (by decide))))
    have FF_a1_orig_27 : Fld Z h23 a1 "com/example/traversim/traversim/aodv/Packet$Rreq" "orig" "I" (.int x2) := (((((Fw8.other W11 (Or.inr (slot_ne (Or.inr (hw _ (List.mem_of_getElem? (i := 19) rfl))) (Or.inr (hw _ (List.mem_of_getElem? (i := 21) rfl))) (by decide) (t := .int) (t' := .int) (by decide) (by decide)))).other W14 (Or.inr (slot_ne (Or.inr (hw _ (List.mem_of_getElem? (i := 19) rfl))) (Or.inr (hw _ (List.mem_of_getElem? (i := 23) rfl))) (by decide) (t := .int) (t' := .int) (by decide) (by decide)))).other W17 (Or.inr (slot_ne (Or.inr (hw _ (List.mem_of_getElem? (i := 19) rfl))) (Or.inr (hw _ (List.mem_of_getElem? (i := 25) rfl))) (by decide) (t := .int) (t' := .int) (by decide) (by decide)))).other W20 (Or.inr (slot_ne (Or.inr (hw _ (List.mem_of_getElem? (i := 19) rfl))) (Or.inr (hw _ (List.mem_of_getElem? (i := 27) rfl))) (by decide) (t := .int) (t' := .int) (by decide) (by decide)))).other W23 (Or.inr (slot_ne (Or.inr (hw _ (List.mem_of_getElem? (i := 19) rfl))) (Or.inr (hw _ (List.mem_of_getElem? (i := 29) rfl))) (by decide) (t := .int) (t' := .int) (by decide) (by decide))))
    have FF_a1_bid_28 : Fld Z h23 a1 "com/example/traversim/traversim/aodv/Packet$Rreq" "bid" "I" (.int x3) := ((((Fw11.other W14 (Or.inr (slot_ne (Or.inr (hw _ (List.mem_of_getElem? (i := 21) rfl))) (Or.inr (hw _ (List.mem_of_getElem? (i := 23) rfl))) (by decide) (t := .int) (t' := .int) (by decide) (by decide)))).other W17 (Or.inr (slot_ne (Or.inr (hw _ (List.mem_of_getElem? (i := 21) rfl))) (Or.inr (hw _ (List.mem_of_getElem? (i := 25) rfl))) (by decide) (t := .int) (t' := .int) (by decide) (by decide)))).other W20 (Or.inr (slot_ne (Or.inr (hw _ (List.mem_of_getElem? (i := 21) rfl))) (Or.inr (hw _ (List.mem_of_getElem? (i := 27) rfl))) (by decide) (t := .int) (t' := .int) (by decide) (by decide)))).other W23 (Or.inr (slot_ne (Or.inr (hw _ (List.mem_of_getElem? (i := 21) rfl))) (Or.inr (hw _ (List.mem_of_getElem? (i := 29) rfl))) (by decide) (t := .int) (t' := .int) (by decide) (by decide))))
    have FF_a1_hops_29 : Fld Z h23 a1 "com/example/traversim/traversim/aodv/Packet$Rreq" "hops" "I" (.int x4) := (((Fw14.other W17 (Or.inr (slot_ne (Or.inr (hw _ (List.mem_of_getElem? (i := 23) rfl))) (Or.inr (hw _ (List.mem_of_getElem? (i := 25) rfl))) (by decide) (t := .int) (t' := .int) (by decide) (by decide)))).other W20 (Or.inr (slot_ne (Or.inr (hw _ (List.mem_of_getElem? (i := 23) rfl))) (Or.inr (hw _ (List.mem_of_getElem? (i := 27) rfl))) (by decide) (t := .int) (t' := .int) (by decide) (by decide)))).other W23 (Or.inr (slot_ne (Or.inr (hw _ (List.mem_of_getElem? (i := 23) rfl))) (Or.inr (hw _ (List.mem_of_getElem? (i := 29) rfl))) (by decide) (t := .int) (t' := .int) (by decide) (by decide))))
    have FF_a1_dst_30 : Fld Z h23 a1 "com/example/traversim/traversim/aodv/Packet$Rreq" "dst" "I" (.int x5) := ((Fw17.other W20 (Or.inr (slot_ne (Or.inr (hw _ (List.mem_of_getElem? (i := 25) rfl))) (Or.inr (hw _ (List.mem_of_getElem? (i := 27) rfl))) (by decide) (t := .int) (t' := .int) (by decide) (by decide)))).other W23 (Or.inr (slot_ne (Or.inr (hw _ (List.mem_of_getElem? (i := 25) rfl))) (Or.inr (hw _ (List.mem_of_getElem? (i := 29) rfl))) (by decide) (t := .int) (t' := .int) (by decide) (by decide))))
    have FF_a1_dstseq_31 : Fld Z h23 a1 "com/example/traversim/traversim/aodv/Packet$Rreq" "dstseq" "I" (.int x6) := (Fw20.other W23 (Or.inr (slot_ne (Or.inr (hw _ (List.mem_of_getElem? (i := 27) rfl))) (Or.inr (hw _ (List.mem_of_getElem? (i := 29) rfl))) (by decide) (t := .int) (t' := .int) (by decide) (by decide))))
    exact ⟨rfl, N23, K23, FE_a1_24, FF_a1_from_25, FF_a1_to_26, FF_a1_orig_27, FF_a1_bid_28, FF_a1_hops_29, FF_a1_dst_30, FF_a1_dstseq_31, Fw23⟩
def own_hash (x0 x1 x2 x3 x4 x5 x6 x7 : Int32) : Int32 := (((31 : Int32) * (((31 : Int32) * (((31 : Int32) * (((31 : Int32) * (((31 : Int32) * (((31 : Int32) * (((31 : Int32) * x0) + x1)) + x2)) + x3)) + x4)) + x5)) + x6)) + x7)
theorem own_hash_eq (x0 x1 x2 x3 x4 x5 x6 x7 : Int32) : own_hash x0 x1 x2 x3 x4 x5 x6 x7 = ((((((((x0 * (1742810335 : Int32)) + (x1 * (887503681 : Int32))) + (x2 * (28629151 : Int32))) + (x3 * (923521 : Int32))) + (x4 * (29791 : Int32))) + (x5 * (961 : Int32))) + (x6 * (31 : Int32))) + x7) := by
  unfold own_hash
  grind
theorem own_d4_0 : decode prog_27_method_8_code 0 = .ok (.bipush 31, 2) := by decide +kernel
theorem own_d4_2 : decode prog_27_method_8_code 2 = .ok (.bipush 31, 2) := by decide +kernel
theorem own_d4_4 : decode prog_27_method_8_code 4 = .ok (.bipush 31, 2) := by decide +kernel
theorem own_d4_6 : decode prog_27_method_8_code 6 = .ok (.aload_n 0, 1) := by decide +kernel
theorem own_d4_7 : decode prog_27_method_8_code 7 = .ok (.getfield 7, 3) := by decide +kernel
theorem own_d4_10 : decode prog_27_method_8_code 10 = .ok (.imul, 1) := by decide +kernel
theorem own_d4_11 : decode prog_27_method_8_code 11 = .ok (.aload_n 0, 1) := by decide +kernel
theorem own_d4_12 : decode prog_27_method_8_code 12 = .ok (.getfield 13, 3) := by decide +kernel
theorem own_d4_15 : decode prog_27_method_8_code 15 = .ok (.iadd, 1) := by decide +kernel
theorem own_d4_16 : decode prog_27_method_8_code 16 = .ok (.imul, 1) := by decide +kernel
theorem own_d4_17 : decode prog_27_method_8_code 17 = .ok (.aload_n 0, 1) := by decide +kernel
theorem own_d4_18 : decode prog_27_method_8_code 18 = .ok (.getfield 16, 3) := by decide +kernel
theorem own_d4_21 : decode prog_27_method_8_code 21 = .ok (.iadd, 1) := by decide +kernel
theorem own_d4_22 : decode prog_27_method_8_code 22 = .ok (.imul, 1) := by decide +kernel
theorem own_d4_23 : decode prog_27_method_8_code 23 = .ok (.aload_n 0, 1) := by decide +kernel
theorem own_d4_24 : decode prog_27_method_8_code 24 = .ok (.getfield 19, 3) := by decide +kernel
theorem own_d4_27 : decode prog_27_method_8_code 27 = .ok (.iadd, 1) := by decide +kernel
theorem own_d4_28 : decode prog_27_method_8_code 28 = .ok (.istore_n 1, 1) := by decide +kernel
theorem own_d4_29 : decode prog_27_method_8_code 29 = .ok (.bipush 31, 2) := by decide +kernel
theorem own_d4_31 : decode prog_27_method_8_code 31 = .ok (.bipush 31, 2) := by decide +kernel
theorem own_d4_33 : decode prog_27_method_8_code 33 = .ok (.bipush 31, 2) := by decide +kernel
theorem own_d4_35 : decode prog_27_method_8_code 35 = .ok (.bipush 31, 2) := by decide +kernel
theorem own_d4_37 : decode prog_27_method_8_code 37 = .ok (.iload_n 1, 1) := by decide +kernel
theorem own_d4_38 : decode prog_27_method_8_code 38 = .ok (.imul, 1) := by decide +kernel
theorem own_d4_39 : decode prog_27_method_8_code 39 = .ok (.aload_n 0, 1) := by decide +kernel
theorem own_d4_40 : decode prog_27_method_8_code 40 = .ok (.getfield 22, 3) := by decide +kernel
theorem own_d4_43 : decode prog_27_method_8_code 43 = .ok (.iadd, 1) := by decide +kernel
theorem own_d4_44 : decode prog_27_method_8_code 44 = .ok (.imul, 1) := by decide +kernel
theorem own_d4_45 : decode prog_27_method_8_code 45 = .ok (.aload_n 0, 1) := by decide +kernel
theorem own_d4_46 : decode prog_27_method_8_code 46 = .ok (.getfield 25, 3) := by decide +kernel
theorem own_d4_49 : decode prog_27_method_8_code 49 = .ok (.iadd, 1) := by decide +kernel
theorem own_d4_50 : decode prog_27_method_8_code 50 = .ok (.imul, 1) := by decide +kernel
theorem own_d4_51 : decode prog_27_method_8_code 51 = .ok (.aload_n 0, 1) := by decide +kernel
theorem own_d4_52 : decode prog_27_method_8_code 52 = .ok (.getfield 28, 3) := by decide +kernel
theorem own_d4_55 : decode prog_27_method_8_code 55 = .ok (.iadd, 1) := by decide +kernel
theorem own_d4_56 : decode prog_27_method_8_code 56 = .ok (.imul, 1) := by decide +kernel
theorem own_d4_57 : decode prog_27_method_8_code 57 = .ok (.aload_n 0, 1) := by decide +kernel
theorem own_d4_58 : decode prog_27_method_8_code 58 = .ok (.getfield 31, 3) := by decide +kernel
theorem own_d4_61 : decode prog_27_method_8_code 61 = .ok (.iadd, 1) := by decide +kernel
theorem own_d4_62 : decode prog_27_method_8_code 62 = .ok (.ireturn, 1) := by decide +kernel
theorem own_pn4 : plainName "com/example/traversim/traversim/aodv/Packet$Rreq" = true := by first | (simp [plainName, overriddenIn]; done) | decide +kernel
theorem own_ef4 (m : MethodId) (a1 : Addr) : entryFrame m #[(.ref a1)] 2 = mkF m 0 #[.val (.ref a1), .unset] [] := by first | (simp [entryFrame, mkF, argsToLocals, Value.category]; done) | rfl
def own_Q4 (Z : State) (a1 : Addr) (x0 : Int32) (x1 : Int32) (x2 : Int32) (x3 : Int32) (x4 : Int32) (x5 : Int32) (x6 : Int32) (x7 : Int32) (h0 : Heap) (n0 : Nat) (v : Option Value) (h : Heap) (L : List Loc) : Prop := (v = some (.int (own_hash x0 x1 x2 x3 x4 x5 x6 x7))) ∧ (Fr n0 L) ∧ (h = h0)
set_option maxRecDepth 65536 in
set_option maxHeartbeats 40000000 in
theorem own_rm4 (l : Launch) (Z : State) (a0 : Array Value) (hw : ∀ d ∈ tables_1, d.before a0 Z = true) (ws : List Jvm.Cond) (a1 : Addr) (x0 : Int32) (x1 : Int32) (x2 : Int32) (x3 : Int32) (x4 : Int32) (x5 : Int32) (x6 : Int32) (x7 : Int32) (h0 : Heap) (n0 : Nat) (Z0 : n0 ≤ h0.size) (P_E_a1 : Exa Z h0 a1 "com/example/traversim/traversim/aodv/Packet$Rreq") (P_F_a1_from : Fld Z h0 a1 "com/example/traversim/traversim/aodv/Packet$Rreq" "from" "I" (.int x0)) (P_F_a1_to : Fld Z h0 a1 "com/example/traversim/traversim/aodv/Packet$Rreq" "to" "I" (.int x1)) (P_F_a1_orig : Fld Z h0 a1 "com/example/traversim/traversim/aodv/Packet$Rreq" "orig" "I" (.int x2)) (P_F_a1_bid : Fld Z h0 a1 "com/example/traversim/traversim/aodv/Packet$Rreq" "bid" "I" (.int x3)) (P_F_a1_hops : Fld Z h0 a1 "com/example/traversim/traversim/aodv/Packet$Rreq" "hops" "I" (.int x4)) (P_F_a1_dst : Fld Z h0 a1 "com/example/traversim/traversim/aodv/Packet$Rreq" "dst" "I" (.int x5)) (P_F_a1_dstseq : Fld Z h0 a1 "com/example/traversim/traversim/aodv/Packet$Rreq" "dstseq" "I" (.int x6)) (P_F_a1_origseq : Fld Z h0 a1 "com/example/traversim/traversim/aodv/Packet$Rreq" "origseq" "I" (.int x7)) :
    MetFree l (⟨"com/example/traversim/traversim/aodv/Packet$Rreq", "hashCode", "()I"⟩ : MethodName) (head1 (Jvm.Cond.code (⟨"com/example/traversim/traversim/aodv/Packet$Rreq", "hashCode", "()I"⟩ : MethodName) prog_27_method_8_code 2 (some .int) :: ws) ({ frames := 0, cells := 0, slots := 0, locals := 0 } : Room)) (fun ar_ U_ => ar_ = #[(.ref a1)] ∧ Z.Warmed39 U_.vm ∧ U_.heap = h0) (fun _ _ _ _ _ => True) (fun _ U_ o_ U_' => ∃ v_ L_, o_ = .returned v_ ∧ own_Q4 Z a1 x0 x1 x2 x3 x4 x5 x6 x7 h0 n0 v_ U_'.heap L_ ∧ FrameEnd U_ o_ U_' L_ ({ frames := 0, cells := 0, slots := 0, locals := 0 } : Room).cells ({ frames := 0, cells := 0, slots := 0, locals := 0 } : Room).slots) := by
  refine MetFree.of_bodySF (plainFor_of_name own_pn4) hisR ?_
  intro p e s m args below meth c s₁ Bd hml0 hP hK
  obtain ⟨rfl, hZ, hh⟩ := hP
  have hx := Bd.exec
  have hby := Bd.bytes
  have hml : c.maxLocals = 2 := hml0
  have hown : s.vm.findClass "com/example/traversim/traversim/aodv/Packet$Rreq" = some m.cls := findClass_of_methodNamed Bd.named
  have hnm := (name_of_methodNamed Bd.named Bd.method).1
  have X0 : Stand p l e ({ frames := 0, cells := 0, slots := 0, locals := 0 } : Room) s m #[(.ref a1)] below meth c s₁ [] 0 0 := Stand.of_body Bd
  have e0 : s₁.heap = h0 := by rw [← hh, Bd.state]; rfl
  have N0 := Fr.nil n0
  have pre0 : ∀ t, Steps p.tables e below (s₁.setTop (mkF m 0 #[.val (.ref a1), .unset] [])) t → Steps p.tables e below (s₁.setTop (entryFrame m #[(.ref a1)] 2)) t := fun t k => castTop (own_ef4 m a1) k
  obtain ⟨T1, X1, e1, st1⟩ := getF X0 hx hZ hown (host := "") (Or.inl (hw _ (List.mem_of_getElem? (i := 14) rfl))) Via.refl e0 P_F_a1_from (g := (mkF m 7 #[.val (.ref a1), .unset] [(.ref a1), (.int (31 : Int32)), (.int (31 : Int32)), (.int (31 : Int32))])) rfl rfl (hb hby own_d4_7)
  obtain ⟨T2, X2, e2, st2⟩ := getF X1 hx hZ hown (host := "") (Or.inl (hw _ (List.mem_of_getElem? (i := 16) rfl))) Via.refl e1 P_F_a1_to (g := (mkF m 12 #[.val (.ref a1), .unset] [(.ref a1), (.int ((31 : Int32) * x0)), (.int (31 : Int32)), (.int (31 : Int32))])) rfl rfl (hb hby own_d4_12)
  obtain ⟨T3, X3, e3, st3⟩ := getF X2 hx hZ hown (host := "") (Or.inl (hw _ (List.mem_of_getElem? (i := 18) rfl))) Via.refl e2 P_F_a1_orig (g := (mkF m 18 #[.val (.ref a1), .unset] [(.ref a1), (.int ((31 : Int32) * (((31 : Int32) * x0) + x1))), (.int (31 : Int32))])) rfl rfl (hb hby own_d4_18)
  obtain ⟨T4, X4, e4, st4⟩ := getF X3 hx hZ hown (host := "") (Or.inl (hw _ (List.mem_of_getElem? (i := 20) rfl))) Via.refl e3 P_F_a1_bid (g := (mkF m 24 #[.val (.ref a1), .unset] [(.ref a1), (.int ((31 : Int32) * (((31 : Int32) * (((31 : Int32) * x0) + x1)) + x2)))])) rfl rfl (hb hby own_d4_24)
  obtain ⟨T5, X5, e5, st5⟩ := getF X4 hx hZ hown (host := "") (Or.inl (hw _ (List.mem_of_getElem? (i := 22) rfl))) Via.refl e4 P_F_a1_hops (g := (mkF m 40 #[.val (.ref a1), .val (.int (((31 : Int32) * (((31 : Int32) * (((31 : Int32) * x0) + x1)) + x2)) + x3))] [(.ref a1), (.int ((31 : Int32) * (((31 : Int32) * (((31 : Int32) * (((31 : Int32) * x0) + x1)) + x2)) + x3))), (.int (31 : Int32)), (.int (31 : Int32)), (.int (31 : Int32))])) rfl rfl (hb hby own_d4_40)
  obtain ⟨T6, X6, e6, st6⟩ := getF X5 hx hZ hown (host := "") (Or.inl (hw _ (List.mem_of_getElem? (i := 24) rfl))) Via.refl e5 P_F_a1_dst (g := (mkF m 46 #[.val (.ref a1), .val (.int (((31 : Int32) * (((31 : Int32) * (((31 : Int32) * x0) + x1)) + x2)) + x3))] [(.ref a1), (.int ((31 : Int32) * (((31 : Int32) * (((31 : Int32) * (((31 : Int32) * (((31 : Int32) * x0) + x1)) + x2)) + x3)) + x4))), (.int (31 : Int32)), (.int (31 : Int32))])) rfl rfl (hb hby own_d4_46)
  obtain ⟨T7, X7, e7, st7⟩ := getF X6 hx hZ hown (host := "") (Or.inl (hw _ (List.mem_of_getElem? (i := 26) rfl))) Via.refl e6 P_F_a1_dstseq (g := (mkF m 52 #[.val (.ref a1), .val (.int (((31 : Int32) * (((31 : Int32) * (((31 : Int32) * x0) + x1)) + x2)) + x3))] [(.ref a1), (.int ((31 : Int32) * (((31 : Int32) * (((31 : Int32) * (((31 : Int32) * (((31 : Int32) * (((31 : Int32) * x0) + x1)) + x2)) + x3)) + x4)) + x5))), (.int (31 : Int32))])) rfl rfl (hb hby own_d4_52)
  obtain ⟨T8, X8, e8, st8⟩ := getF X7 hx hZ hown (host := "") (Or.inl (hw _ (List.mem_of_getElem? (i := 28) rfl))) Via.refl e7 P_F_a1_origseq (g := (mkF m 58 #[.val (.ref a1), .val (.int (((31 : Int32) * (((31 : Int32) * (((31 : Int32) * x0) + x1)) + x2)) + x3))] [(.ref a1), (.int ((31 : Int32) * (((31 : Int32) * (((31 : Int32) * (((31 : Int32) * (((31 : Int32) * (((31 : Int32) * (((31 : Int32) * x0) + x1)) + x2)) + x3)) + x4)) + x5)) + x6)))])) rfl rfl (hb hby own_d4_58)
  obtain ⟨fs, hr, hrun, hended, hW, hsame⟩ := X8.leave (v := some (.int (((31 : Int32) * (((31 : Int32) * (((31 : Int32) * (((31 : Int32) * (((31 : Int32) * (((31 : Int32) * (((31 : Int32) * x0) + x1)) + x2)) + x3)) + x4)) + x5)) + x6)) + x7))) (fun h => by rw [Bd.returns] at h; cases h)
  refine ⟨_, _, pre0 _ ?_, hrun, hended, _, _, rfl, ?_, ⟨_, rfl⟩, hW, hsame.mono (by decide) (by decide)⟩
  · show Steps p.tables e below (s₁.setTop (mkF m 0 #[.val (.ref a1), .unset] [])) _
    refine XT.bipushV X0.here hx rfl (31 : Int32) (hb hby own_d4_0) rfl ?_
    show Steps p.tables e below (s₁.setTop (mkF m 2 #[.val (.ref a1), .unset] [(.int (31 : Int32))])) _
    refine XT.bipushV X0.here hx rfl (31 : Int32) (hb hby own_d4_2) rfl ?_
    show Steps p.tables e below (s₁.setTop (mkF m 4 #[.val (.ref a1), .unset] [(.int (31 : Int32)), (.int (31 : Int32))])) _
    refine XT.bipushV X0.here hx rfl (31 : Int32) (hb hby own_d4_4) rfl ?_
    show Steps p.tables e below (s₁.setTop (mkF m 6 #[.val (.ref a1), .unset] [(.int (31 : Int32)), (.int (31 : Int32)), (.int (31 : Int32))])) _
    refine XS.aloadN X0.here hx rfl (hb hby own_d4_6) rfl rfl ?_
    show Steps p.tables e below (s₁.setTop (mkF m 7 #[.val (.ref a1), .unset] [(.ref a1), (.int (31 : Int32)), (.int (31 : Int32)), (.int (31 : Int32))])) _
    refine st1 _ ?_
    show Steps p.tables e below (T1.setTop (mkF m 10 #[.val (.ref a1), .unset] [(.int x0), (.int (31 : Int32)), (.int (31 : Int32)), (.int (31 : Int32))])) _
    refine XS.imul X1.here hx rfl (hb hby own_d4_10) rfl ?_
    show Steps p.tables e below (T1.setTop (mkF m 11 #[.val (.ref a1), .unset] [(.int ((31 : Int32) * x0)), (.int (31 : Int32)), (.int (31 : Int32))])) _
    refine XS.aloadN X1.here hx rfl (hb hby own_d4_11) rfl rfl ?_
    show Steps p.tables e below (T1.setTop (mkF m 12 #[.val (.ref a1), .unset] [(.ref a1), (.int ((31 : Int32) * x0)), (.int (31 : Int32)), (.int (31 : Int32))])) _
    refine st2 _ ?_
    show Steps p.tables e below (T2.setTop (mkF m 15 #[.val (.ref a1), .unset] [(.int x1), (.int ((31 : Int32) * x0)), (.int (31 : Int32)), (.int (31 : Int32))])) _
    refine XS.iadd X2.here hx rfl (hb hby own_d4_15) rfl ?_
    show Steps p.tables e below (T2.setTop (mkF m 16 #[.val (.ref a1), .unset] [(.int (((31 : Int32) * x0) + x1)), (.int (31 : Int32)), (.int (31 : Int32))])) _
    refine XS.imul X2.here hx rfl (hb hby own_d4_16) rfl ?_
    show Steps p.tables e below (T2.setTop (mkF m 17 #[.val (.ref a1), .unset] [(.int ((31 : Int32) * (((31 : Int32) * x0) + x1))), (.int (31 : Int32))])) _
    refine XS.aloadN X2.here hx rfl (hb hby own_d4_17) rfl rfl ?_
    show Steps p.tables e below (T2.setTop (mkF m 18 #[.val (.ref a1), .unset] [(.ref a1), (.int ((31 : Int32) * (((31 : Int32) * x0) + x1))), (.int (31 : Int32))])) _
    refine st3 _ ?_
    show Steps p.tables e below (T3.setTop (mkF m 21 #[.val (.ref a1), .unset] [(.int x2), (.int ((31 : Int32) * (((31 : Int32) * x0) + x1))), (.int (31 : Int32))])) _
    refine XS.iadd X3.here hx rfl (hb hby own_d4_21) rfl ?_
    show Steps p.tables e below (T3.setTop (mkF m 22 #[.val (.ref a1), .unset] [(.int (((31 : Int32) * (((31 : Int32) * x0) + x1)) + x2)), (.int (31 : Int32))])) _
    refine XS.imul X3.here hx rfl (hb hby own_d4_22) rfl ?_
    show Steps p.tables e below (T3.setTop (mkF m 23 #[.val (.ref a1), .unset] [(.int ((31 : Int32) * (((31 : Int32) * (((31 : Int32) * x0) + x1)) + x2)))])) _
    refine XS.aloadN X3.here hx rfl (hb hby own_d4_23) rfl rfl ?_
    show Steps p.tables e below (T3.setTop (mkF m 24 #[.val (.ref a1), .unset] [(.ref a1), (.int ((31 : Int32) * (((31 : Int32) * (((31 : Int32) * x0) + x1)) + x2)))])) _
    refine st4 _ ?_
    show Steps p.tables e below (T4.setTop (mkF m 27 #[.val (.ref a1), .unset] [(.int x3), (.int ((31 : Int32) * (((31 : Int32) * (((31 : Int32) * x0) + x1)) + x2)))])) _
    refine XS.iadd X4.here hx rfl (hb hby own_d4_27) rfl ?_
    show Steps p.tables e below (T4.setTop (mkF m 28 #[.val (.ref a1), .unset] [(.int (((31 : Int32) * (((31 : Int32) * (((31 : Int32) * x0) + x1)) + x2)) + x3))])) _
    refine XS.istoreN X4.here hx rfl (hb hby own_d4_28) rfl (l' := #[.val (.ref a1), .val (.int (((31 : Int32) * (((31 : Int32) * (((31 : Int32) * x0) + x1)) + x2)) + x3))]) rfl ?_
    show Steps p.tables e below (T4.setTop (mkF m 29 #[.val (.ref a1), .val (.int (((31 : Int32) * (((31 : Int32) * (((31 : Int32) * x0) + x1)) + x2)) + x3))] [])) _
    refine XT.bipushV X4.here hx rfl (31 : Int32) (hb hby own_d4_29) rfl ?_
    show Steps p.tables e below (T4.setTop (mkF m 31 #[.val (.ref a1), .val (.int (((31 : Int32) * (((31 : Int32) * (((31 : Int32) * x0) + x1)) + x2)) + x3))] [(.int (31 : Int32))])) _
    refine XT.bipushV X4.here hx rfl (31 : Int32) (hb hby own_d4_31) rfl ?_
    show Steps p.tables e below (T4.setTop (mkF m 33 #[.val (.ref a1), .val (.int (((31 : Int32) * (((31 : Int32) * (((31 : Int32) * x0) + x1)) + x2)) + x3))] [(.int (31 : Int32)), (.int (31 : Int32))])) _
    refine XT.bipushV X4.here hx rfl (31 : Int32) (hb hby own_d4_33) rfl ?_
    show Steps p.tables e below (T4.setTop (mkF m 35 #[.val (.ref a1), .val (.int (((31 : Int32) * (((31 : Int32) * (((31 : Int32) * x0) + x1)) + x2)) + x3))] [(.int (31 : Int32)), (.int (31 : Int32)), (.int (31 : Int32))])) _
    refine XT.bipushV X4.here hx rfl (31 : Int32) (hb hby own_d4_35) rfl ?_
    show Steps p.tables e below (T4.setTop (mkF m 37 #[.val (.ref a1), .val (.int (((31 : Int32) * (((31 : Int32) * (((31 : Int32) * x0) + x1)) + x2)) + x3))] [(.int (31 : Int32)), (.int (31 : Int32)), (.int (31 : Int32)), (.int (31 : Int32))])) _
    refine XS.iloadN X4.here hx rfl (hb hby own_d4_37) rfl ?_
    show Steps p.tables e below (T4.setTop (mkF m 38 #[.val (.ref a1), .val (.int (((31 : Int32) * (((31 : Int32) * (((31 : Int32) * x0) + x1)) + x2)) + x3))] [(.int (((31 : Int32) * (((31 : Int32) * (((31 : Int32) * x0) + x1)) + x2)) + x3)), (.int (31 : Int32)), (.int (31 : Int32)), (.int (31 : Int32)), (.int (31 : Int32))])) _
    refine XS.imul X4.here hx rfl (hb hby own_d4_38) rfl ?_
    show Steps p.tables e below (T4.setTop (mkF m 39 #[.val (.ref a1), .val (.int (((31 : Int32) * (((31 : Int32) * (((31 : Int32) * x0) + x1)) + x2)) + x3))] [(.int ((31 : Int32) * (((31 : Int32) * (((31 : Int32) * (((31 : Int32) * x0) + x1)) + x2)) + x3))), (.int (31 : Int32)), (.int (31 : Int32)), (.int (31 : Int32))])) _
    refine XS.aloadN X4.here hx rfl (hb hby own_d4_39) rfl rfl ?_
    show Steps p.tables e below (T4.setTop (mkF m 40 #[.val (.ref a1), .val (.int (((31 : Int32) * (((31 : Int32) * (((31 : Int32) * x0) + x1)) + x2)) + x3))] [(.ref a1), (.int ((31 : Int32) * (((31 : Int32) * (((31 : Int32) * (((31 : Int32) * x0) + x1)) + x2)) + x3))), (.int (31 : Int32)), (.int (31 : Int32)), (.int (31 : Int32))])) _
    refine st5 _ ?_
    show Steps p.tables e below (T5.setTop (mkF m 43 #[.val (.ref a1), .val (.int (((31 : Int32) * (((31 : Int32) * (((31 : Int32) * x0) + x1)) + x2)) + x3))] [(.int x4), (.int ((31 : Int32) * (((31 : Int32) * (((31 : Int32) * (((31 : Int32) * x0) + x1)) + x2)) + x3))), (.int (31 : Int32)), (.int (31 : Int32)), (.int (31 : Int32))])) _
    refine XS.iadd X5.here hx rfl (hb hby own_d4_43) rfl ?_
    show Steps p.tables e below (T5.setTop (mkF m 44 #[.val (.ref a1), .val (.int (((31 : Int32) * (((31 : Int32) * (((31 : Int32) * x0) + x1)) + x2)) + x3))] [(.int (((31 : Int32) * (((31 : Int32) * (((31 : Int32) * (((31 : Int32) * x0) + x1)) + x2)) + x3)) + x4)), (.int (31 : Int32)), (.int (31 : Int32)), (.int (31 : Int32))])) _
    refine XS.imul X5.here hx rfl (hb hby own_d4_44) rfl ?_
    show Steps p.tables e below (T5.setTop (mkF m 45 #[.val (.ref a1), .val (.int (((31 : Int32) * (((31 : Int32) * (((31 : Int32) * x0) + x1)) + x2)) + x3))] [(.int ((31 : Int32) * (((31 : Int32) * (((31 : Int32) * (((31 : Int32) * (((31 : Int32) * x0) + x1)) + x2)) + x3)) + x4))), (.int (31 : Int32)), (.int (31 : Int32))])) _
    refine XS.aloadN X5.here hx rfl (hb hby own_d4_45) rfl rfl ?_
    show Steps p.tables e below (T5.setTop (mkF m 46 #[.val (.ref a1), .val (.int (((31 : Int32) * (((31 : Int32) * (((31 : Int32) * x0) + x1)) + x2)) + x3))] [(.ref a1), (.int ((31 : Int32) * (((31 : Int32) * (((31 : Int32) * (((31 : Int32) * (((31 : Int32) * x0) + x1)) + x2)) + x3)) + x4))), (.int (31 : Int32)), (.int (31 : Int32))])) _
    refine st6 _ ?_
    show Steps p.tables e below (T6.setTop (mkF m 49 #[.val (.ref a1), .val (.int (((31 : Int32) * (((31 : Int32) * (((31 : Int32) * x0) + x1)) + x2)) + x3))] [(.int x5), (.int ((31 : Int32) * (((31 : Int32) * (((31 : Int32) * (((31 : Int32) * (((31 : Int32) * x0) + x1)) + x2)) + x3)) + x4))), (.int (31 : Int32)), (.int (31 : Int32))])) _
    refine XS.iadd X6.here hx rfl (hb hby own_d4_49) rfl ?_
    show Steps p.tables e below (T6.setTop (mkF m 50 #[.val (.ref a1), .val (.int (((31 : Int32) * (((31 : Int32) * (((31 : Int32) * x0) + x1)) + x2)) + x3))] [(.int (((31 : Int32) * (((31 : Int32) * (((31 : Int32) * (((31 : Int32) * (((31 : Int32) * x0) + x1)) + x2)) + x3)) + x4)) + x5)), (.int (31 : Int32)), (.int (31 : Int32))])) _
    refine XS.imul X6.here hx rfl (hb hby own_d4_50) rfl ?_
    show Steps p.tables e below (T6.setTop (mkF m 51 #[.val (.ref a1), .val (.int (((31 : Int32) * (((31 : Int32) * (((31 : Int32) * x0) + x1)) + x2)) + x3))] [(.int ((31 : Int32) * (((31 : Int32) * (((31 : Int32) * (((31 : Int32) * (((31 : Int32) * (((31 : Int32) * x0) + x1)) + x2)) + x3)) + x4)) + x5))), (.int (31 : Int32))])) _
    refine XS.aloadN X6.here hx rfl (hb hby own_d4_51) rfl rfl ?_
    show Steps p.tables e below (T6.setTop (mkF m 52 #[.val (.ref a1), .val (.int (((31 : Int32) * (((31 : Int32) * (((31 : Int32) * x0) + x1)) + x2)) + x3))] [(.ref a1), (.int ((31 : Int32) * (((31 : Int32) * (((31 : Int32) * (((31 : Int32) * (((31 : Int32) * (((31 : Int32) * x0) + x1)) + x2)) + x3)) + x4)) + x5))), (.int (31 : Int32))])) _
    refine st7 _ ?_
    show Steps p.tables e below (T7.setTop (mkF m 55 #[.val (.ref a1), .val (.int (((31 : Int32) * (((31 : Int32) * (((31 : Int32) * x0) + x1)) + x2)) + x3))] [(.int x6), (.int ((31 : Int32) * (((31 : Int32) * (((31 : Int32) * (((31 : Int32) * (((31 : Int32) * (((31 : Int32) * x0) + x1)) + x2)) + x3)) + x4)) + x5))), (.int (31 : Int32))])) _
    refine XS.iadd X7.here hx rfl (hb hby own_d4_55) rfl ?_
    show Steps p.tables e below (T7.setTop (mkF m 56 #[.val (.ref a1), .val (.int (((31 : Int32) * (((31 : Int32) * (((31 : Int32) * x0) + x1)) + x2)) + x3))] [(.int (((31 : Int32) * (((31 : Int32) * (((31 : Int32) * (((31 : Int32) * (((31 : Int32) * (((31 : Int32) * x0) + x1)) + x2)) + x3)) + x4)) + x5)) + x6)), (.int (31 : Int32))])) _
    refine XS.imul X7.here hx rfl (hb hby own_d4_56) rfl ?_
    show Steps p.tables e below (T7.setTop (mkF m 57 #[.val (.ref a1), .val (.int (((31 : Int32) * (((31 : Int32) * (((31 : Int32) * x0) + x1)) + x2)) + x3))] [(.int ((31 : Int32) * (((31 : Int32) * (((31 : Int32) * (((31 : Int32) * (((31 : Int32) * (((31 : Int32) * (((31 : Int32) * x0) + x1)) + x2)) + x3)) + x4)) + x5)) + x6)))])) _
    refine XS.aloadN X7.here hx rfl (hb hby own_d4_57) rfl rfl ?_
    show Steps p.tables e below (T7.setTop (mkF m 58 #[.val (.ref a1), .val (.int (((31 : Int32) * (((31 : Int32) * (((31 : Int32) * x0) + x1)) + x2)) + x3))] [(.ref a1), (.int ((31 : Int32) * (((31 : Int32) * (((31 : Int32) * (((31 : Int32) * (((31 : Int32) * (((31 : Int32) * (((31 : Int32) * x0) + x1)) + x2)) + x3)) + x4)) + x5)) + x6)))])) _
    refine st8 _ ?_
    show Steps p.tables e below (T8.setTop (mkF m 61 #[.val (.ref a1), .val (.int (((31 : Int32) * (((31 : Int32) * (((31 : Int32) * x0) + x1)) + x2)) + x3))] [(.int x7), (.int ((31 : Int32) * (((31 : Int32) * (((31 : Int32) * (((31 : Int32) * (((31 : Int32) * (((31 : Int32) * (((31 : Int32) * x0) + x1)) + x2)) + x3)) + x4)) + x5)) + x6)))])) _
    refine XS.iadd X8.here hx rfl (hb hby own_d4_61) rfl ?_
    show Steps p.tables e below (T8.setTop (mkF m 62 #[.val (.ref a1), .val (.int (((31 : Int32) * (((31 : Int32) * (((31 : Int32) * x0) + x1)) + x2)) + x3))] [(.int (((31 : Int32) * (((31 : Int32) * (((31 : Int32) * (((31 : Int32) * (((31 : Int32) * (((31 : Int32) * (((31 : Int32) * x0) + x1)) + x2)) + x3)) + x4)) + x5)) + x6)) + x7))])) _
    exact retOut X8 hx (t := .int) Bd.returns rfl (Or.inl ⟨rfl, Or.inl rfl, _, rfl⟩) (hb hby own_d4_62) hr
  · show own_Q4 Z a1 x0 x1 x2 x3 x4 x5 x6 x7 h0 n0 _ T8.heap _
    exact ⟨rfl, N0, e8⟩
def own_eq (x0 x1 x2 x3 x4 x5 x6 x7 y0 y1 y2 y3 y4 y5 y6 y7 : Int32) : Int32 := if x0 = y0 ∧ x1 = y1 ∧ x2 = y2 ∧ x3 = y3 ∧ x4 = y4 ∧ x5 = y5 ∧ x6 = y6 ∧ x7 = y7 then (1 : Int32) else (0 : Int32)
theorem own_d5_0 : decode prog_27_method_7_code 0 = .ok (.aload_n 1, 1) := by decide +kernel
theorem own_d5_1 : decode prog_27_method_7_code 1 = .ok (.instanceof 8, 3) := by decide +kernel
theorem own_d5_4 : decode prog_27_method_7_code 4 = .ok (.ifCond .eq 100, 3) := by decide +kernel
theorem own_d5_7 : decode prog_27_method_7_code 7 = .ok (.aload_n 1, 1) := by decide +kernel
theorem own_d5_8 : decode prog_27_method_7_code 8 = .ok (.checkcast 8, 3) := by decide +kernel
theorem own_d5_11 : decode prog_27_method_7_code 11 = .ok (.astore_n 2, 1) := by decide +kernel
theorem own_d5_12 : decode prog_27_method_7_code 12 = .ok (.aload_n 0, 1) := by decide +kernel
theorem own_d5_13 : decode prog_27_method_7_code 13 = .ok (.getfield 7, 3) := by decide +kernel
theorem own_d5_16 : decode prog_27_method_7_code 16 = .ok (.aload_n 2, 1) := by decide +kernel
theorem own_d5_17 : decode prog_27_method_7_code 17 = .ok (.getfield 7, 3) := by decide +kernel
theorem own_d5_20 : decode prog_27_method_7_code 20 = .ok (.if_icmp .ne 84, 3) := by decide +kernel
theorem own_d5_23 : decode prog_27_method_7_code 23 = .ok (.aload_n 0, 1) := by decide +kernel
theorem own_d5_24 : decode prog_27_method_7_code 24 = .ok (.getfield 13, 3) := by decide +kernel
theorem own_d5_27 : decode prog_27_method_7_code 27 = .ok (.aload_n 2, 1) := by decide +kernel
theorem own_d5_28 : decode prog_27_method_7_code 28 = .ok (.getfield 13, 3) := by decide +kernel
theorem own_d5_31 : decode prog_27_method_7_code 31 = .ok (.if_icmp .ne 73, 3) := by decide +kernel
theorem own_d5_34 : decode prog_27_method_7_code 34 = .ok (.aload_n 0, 1) := by decide +kernel
theorem own_d5_35 : decode prog_27_method_7_code 35 = .ok (.getfield 16, 3) := by decide +kernel
theorem own_d5_38 : decode prog_27_method_7_code 38 = .ok (.aload_n 2, 1) := by decide +kernel
theorem own_d5_39 : decode prog_27_method_7_code 39 = .ok (.getfield 16, 3) := by decide +kernel
theorem own_d5_42 : decode prog_27_method_7_code 42 = .ok (.if_icmp .ne 62, 3) := by decide +kernel
theorem own_d5_45 : decode prog_27_method_7_code 45 = .ok (.aload_n 0, 1) := by decide +kernel
theorem own_d5_46 : decode prog_27_method_7_code 46 = .ok (.getfield 19, 3) := by decide +kernel
theorem own_d5_49 : decode prog_27_method_7_code 49 = .ok (.aload_n 2, 1) := by decide +kernel
theorem own_d5_50 : decode prog_27_method_7_code 50 = .ok (.getfield 19, 3) := by decide +kernel
theorem own_d5_53 : decode prog_27_method_7_code 53 = .ok (.if_icmp .ne 51, 3) := by decide +kernel
theorem own_d5_56 : decode prog_27_method_7_code 56 = .ok (.aload_n 0, 1) := by decide +kernel
theorem own_d5_57 : decode prog_27_method_7_code 57 = .ok (.getfield 22, 3) := by decide +kernel
theorem own_d5_60 : decode prog_27_method_7_code 60 = .ok (.aload_n 2, 1) := by decide +kernel
theorem own_d5_61 : decode prog_27_method_7_code 61 = .ok (.getfield 22, 3) := by decide +kernel
theorem own_d5_64 : decode prog_27_method_7_code 64 = .ok (.if_icmp .ne 40, 3) := by decide +kernel
theorem own_d5_67 : decode prog_27_method_7_code 67 = .ok (.aload_n 0, 1) := by decide +kernel
theorem own_d5_68 : decode prog_27_method_7_code 68 = .ok (.getfield 25, 3) := by decide +kernel
theorem own_d5_71 : decode prog_27_method_7_code 71 = .ok (.aload_n 2, 1) := by decide +kernel
theorem own_d5_72 : decode prog_27_method_7_code 72 = .ok (.getfield 25, 3) := by decide +kernel
theorem own_d5_75 : decode prog_27_method_7_code 75 = .ok (.if_icmp .ne 29, 3) := by decide +kernel
theorem own_d5_78 : decode prog_27_method_7_code 78 = .ok (.aload_n 0, 1) := by decide +kernel
theorem own_d5_79 : decode prog_27_method_7_code 79 = .ok (.getfield 28, 3) := by decide +kernel
theorem own_d5_82 : decode prog_27_method_7_code 82 = .ok (.aload_n 2, 1) := by decide +kernel
theorem own_d5_83 : decode prog_27_method_7_code 83 = .ok (.getfield 28, 3) := by decide +kernel
theorem own_d5_86 : decode prog_27_method_7_code 86 = .ok (.if_icmp .ne 18, 3) := by decide +kernel
theorem own_d5_89 : decode prog_27_method_7_code 89 = .ok (.aload_n 0, 1) := by decide +kernel
theorem own_d5_90 : decode prog_27_method_7_code 90 = .ok (.getfield 31, 3) := by decide +kernel
theorem own_d5_93 : decode prog_27_method_7_code 93 = .ok (.aload_n 2, 1) := by decide +kernel
theorem own_d5_94 : decode prog_27_method_7_code 94 = .ok (.getfield 31, 3) := by decide +kernel
theorem own_d5_97 : decode prog_27_method_7_code 97 = .ok (.if_icmp .ne 7, 3) := by decide +kernel
theorem own_d5_100 : decode prog_27_method_7_code 100 = .ok (.iconst 1, 1) := by decide +kernel
theorem own_d5_101 : decode prog_27_method_7_code 101 = .ok (.goto 4, 3) := by decide +kernel
theorem own_d5_104 : decode prog_27_method_7_code 104 = .ok (.iconst 0, 1) := by decide +kernel
theorem own_d5_105 : decode prog_27_method_7_code 105 = .ok (.ireturn, 1) := by decide +kernel
theorem own_pn5 : plainName "com/example/traversim/traversim/aodv/Packet$Rreq" = true := by first | (simp [plainName, overriddenIn]; done) | decide +kernel
theorem own_ef5 (m : MethodId) (a1 : Addr) (a2 : Addr) : entryFrame m #[(.ref a1), (.ref a2)] 3 = mkF m 0 #[.val (.ref a1), .val (.ref a2), .unset] [] := by first | (simp [entryFrame, mkF, argsToLocals, Value.category]; done) | rfl
def own_Q5 (Z : State) (a1 : Addr) (a2 : Addr) (x0 : Int32) (x1 : Int32) (x2 : Int32) (x3 : Int32) (x4 : Int32) (x5 : Int32) (x6 : Int32) (x7 : Int32) (y0 : Int32) (y1 : Int32) (y2 : Int32) (y3 : Int32) (y4 : Int32) (y5 : Int32) (y6 : Int32) (y7 : Int32) (h0 : Heap) (n0 : Nat) (v : Option Value) (h : Heap) (L : List Loc) : Prop := (v = some (.int (own_eq x0 x1 x2 x3 x4 x5 x6 x7 y0 y1 y2 y3 y4 y5 y6 y7))) ∧ (Fr n0 L) ∧ (h = h0)
set_option maxRecDepth 65536 in
set_option maxHeartbeats 40000000 in
theorem own_rm5 (l : Launch) (Z : State) (a0 : Array Value) (hw : ∀ d ∈ tables_1, d.before a0 Z = true) (ws : List Jvm.Cond) (a1 : Addr) (a2 : Addr) (x0 : Int32) (x1 : Int32) (x2 : Int32) (x3 : Int32) (x4 : Int32) (x5 : Int32) (x6 : Int32) (x7 : Int32) (y0 : Int32) (y1 : Int32) (y2 : Int32) (y3 : Int32) (y4 : Int32) (y5 : Int32) (y6 : Int32) (y7 : Int32) (h0 : Heap) (n0 : Nat) (Z0 : n0 ≤ h0.size) (P_E_a1 : Exa Z h0 a1 "com/example/traversim/traversim/aodv/Packet$Rreq") (P_F_a1_from : Fld Z h0 a1 "com/example/traversim/traversim/aodv/Packet$Rreq" "from" "I" (.int x0)) (P_F_a1_to : Fld Z h0 a1 "com/example/traversim/traversim/aodv/Packet$Rreq" "to" "I" (.int x1)) (P_F_a1_orig : Fld Z h0 a1 "com/example/traversim/traversim/aodv/Packet$Rreq" "orig" "I" (.int x2)) (P_F_a1_bid : Fld Z h0 a1 "com/example/traversim/traversim/aodv/Packet$Rreq" "bid" "I" (.int x3)) (P_F_a1_hops : Fld Z h0 a1 "com/example/traversim/traversim/aodv/Packet$Rreq" "hops" "I" (.int x4)) (P_F_a1_dst : Fld Z h0 a1 "com/example/traversim/traversim/aodv/Packet$Rreq" "dst" "I" (.int x5)) (P_F_a1_dstseq : Fld Z h0 a1 "com/example/traversim/traversim/aodv/Packet$Rreq" "dstseq" "I" (.int x6)) (P_F_a1_origseq : Fld Z h0 a1 "com/example/traversim/traversim/aodv/Packet$Rreq" "origseq" "I" (.int x7)) (P_E_a2 : Exa Z h0 a2 "com/example/traversim/traversim/aodv/Packet$Rreq") (P_F_a2_from : Fld Z h0 a2 "com/example/traversim/traversim/aodv/Packet$Rreq" "from" "I" (.int y0)) (P_F_a2_to : Fld Z h0 a2 "com/example/traversim/traversim/aodv/Packet$Rreq" "to" "I" (.int y1)) (P_F_a2_orig : Fld Z h0 a2 "com/example/traversim/traversim/aodv/Packet$Rreq" "orig" "I" (.int y2)) (P_F_a2_bid : Fld Z h0 a2 "com/example/traversim/traversim/aodv/Packet$Rreq" "bid" "I" (.int y3)) (P_F_a2_hops : Fld Z h0 a2 "com/example/traversim/traversim/aodv/Packet$Rreq" "hops" "I" (.int y4)) (P_F_a2_dst : Fld Z h0 a2 "com/example/traversim/traversim/aodv/Packet$Rreq" "dst" "I" (.int y5)) (P_F_a2_dstseq : Fld Z h0 a2 "com/example/traversim/traversim/aodv/Packet$Rreq" "dstseq" "I" (.int y6)) (P_F_a2_origseq : Fld Z h0 a2 "com/example/traversim/traversim/aodv/Packet$Rreq" "origseq" "I" (.int y7)) :
    MetFree l (⟨"com/example/traversim/traversim/aodv/Packet$Rreq", "equals", "(Ljava/lang/Object;)Z"⟩ : MethodName) (head1 (Jvm.Cond.code (⟨"com/example/traversim/traversim/aodv/Packet$Rreq", "equals", "(Ljava/lang/Object;)Z"⟩ : MethodName) prog_27_method_7_code 3 (some .boolean) :: ws) ({ frames := 0, cells := 0, slots := 0, locals := 0 } : Room)) (fun ar_ U_ => ar_ = #[(.ref a1), (.ref a2)] ∧ Z.Warmed39 U_.vm ∧ U_.heap = h0) (fun _ _ _ _ _ => True) (fun _ U_ o_ U_' => ∃ v_ L_, o_ = .returned v_ ∧ own_Q5 Z a1 a2 x0 x1 x2 x3 x4 x5 x6 x7 y0 y1 y2 y3 y4 y5 y6 y7 h0 n0 v_ U_'.heap L_ ∧ FrameEnd U_ o_ U_' L_ ({ frames := 0, cells := 0, slots := 0, locals := 0 } : Room).cells ({ frames := 0, cells := 0, slots := 0, locals := 0 } : Room).slots) := by
  refine MetFree.of_bodySF (plainFor_of_name own_pn5) hisR ?_
  intro p e s m args below meth c s₁ Bd hml0 hP hK
  obtain ⟨rfl, hZ, hh⟩ := hP
  have hx := Bd.exec
  have hby := Bd.bytes
  have hml : c.maxLocals = 3 := hml0
  have hown : s.vm.findClass "com/example/traversim/traversim/aodv/Packet$Rreq" = some m.cls := findClass_of_methodNamed Bd.named
  have hnm := (name_of_methodNamed Bd.named Bd.method).1
  have X0 : Stand p l e ({ frames := 0, cells := 0, slots := 0, locals := 0 } : Room) s m #[(.ref a1), (.ref a2)] below meth c s₁ [] 0 0 := Stand.of_body Bd
  have e0 : s₁.heap = h0 := by rw [← hh, Bd.state]; rfl
  have N0 := Fr.nil n0
  have pre0 : ∀ t, Steps p.tables e below (s₁.setTop (mkF m 0 #[.val (.ref a1), .val (.ref a2), .unset] [])) t → Steps p.tables e below (s₁.setTop (entryFrame m #[(.ref a1), (.ref a2)] 3)) t := fun t k => castTop (own_ef5 m a1 a2) k
  obtain ⟨T1, X1, e1, st1⟩ := instY X0 hx hZ hown (hw _ (List.mem_of_getElem? (i := 44) rfl)) e0 (Ins.self P_E_a2) (g := (mkF m 1 #[.val (.ref a1), .val (.ref a2), .unset] [(.ref a2)])) rfl rfl (hb hby own_d5_1)
  obtain ⟨T2, X2, e2, st2⟩ := castY X1 hx hZ hown (hw _ (List.mem_of_getElem? (i := 44) rfl)) e1 (Ins.self P_E_a2) (g := (mkF m 8 #[.val (.ref a1), .val (.ref a2), .unset] [(.ref a2)])) rfl rfl (hb hby own_d5_8)
  obtain ⟨T3, X3, e3, st3⟩ := getF X2 hx hZ hown (host := "") (Or.inl (hw _ (List.mem_of_getElem? (i := 14) rfl))) Via.refl e2 P_F_a1_from (g := (mkF m 13 #[.val (.ref a1), .val (.ref a2), .val (.ref a2)] [(.ref a1)])) rfl rfl (hb hby own_d5_13)
  obtain ⟨T4, X4, e4, st4⟩ := getF X3 hx hZ hown (host := "") (Or.inl (hw _ (List.mem_of_getElem? (i := 14) rfl))) Via.refl e3 P_F_a2_from (g := (mkF m 17 #[.val (.ref a1), .val (.ref a2), .val (.ref a2)] [(.ref a2), (.int x0)])) rfl rfl (hb hby own_d5_17)
  have pre5 : ∀ t, Steps p.tables e below (T4.setTop (mkF m 20 #[.val (.ref a1), .val (.ref a2), .val (.ref a2)] [(.int y0), (.int x0)])) t → Steps p.tables e below (s₁.setTop (entryFrame m #[(.ref a1), (.ref a2)] 3)) t := fun t k => pre0 t (by
    show Steps p.tables e below (s₁.setTop (mkF m 0 #[.val (.ref a1), .val (.ref a2), .unset] [])) _
    refine XS.aloadN X0.here hx rfl (hb hby own_d5_0) rfl rfl ?_
    show Steps p.tables e below (s₁.setTop (mkF m 1 #[.val (.ref a1), .val (.ref a2), .unset] [(.ref a2)])) _
    refine st1 _ ?_
    show Steps p.tables e below (T1.setTop (mkF m 4 #[.val (.ref a1), .val (.ref a2), .unset] [(.int (1 : Int32))])) _
    refine XS.ifNo X1.here hx rfl (hb hby own_d5_4) rfl (XT.i0_eq_f (by decide)) ?_
    show Steps p.tables e below (T1.setTop (mkF m 7 #[.val (.ref a1), .val (.ref a2), .unset] [])) _
    refine XS.aloadN X1.here hx rfl (hb hby own_d5_7) rfl rfl ?_
    show Steps p.tables e below (T1.setTop (mkF m 8 #[.val (.ref a1), .val (.ref a2), .unset] [(.ref a2)])) _
    refine st2 _ ?_
    show Steps p.tables e below (T2.setTop (mkF m 11 #[.val (.ref a1), .val (.ref a2), .unset] [(.ref a2)])) _
    refine XS.astoreN X2.here hx rfl (hb hby own_d5_11) rfl rfl (l' := #[.val (.ref a1), .val (.ref a2), .val (.ref a2)]) rfl ?_
    show Steps p.tables e below (T2.setTop (mkF m 12 #[.val (.ref a1), .val (.ref a2), .val (.ref a2)] [])) _
    refine XS.aloadN X2.here hx rfl (hb hby own_d5_12) rfl rfl ?_
    show Steps p.tables e below (T2.setTop (mkF m 13 #[.val (.ref a1), .val (.ref a2), .val (.ref a2)] [(.ref a1)])) _
    refine st3 _ ?_
    show Steps p.tables e below (T3.setTop (mkF m 16 #[.val (.ref a1), .val (.ref a2), .val (.ref a2)] [(.int x0)])) _
    refine XS.aloadN X3.here hx rfl (hb hby own_d5_16) rfl rfl ?_
    show Steps p.tables e below (T3.setTop (mkF m 17 #[.val (.ref a1), .val (.ref a2), .val (.ref a2)] [(.ref a2), (.int x0)])) _
    refine st4 _ ?_
    exact k)
  by_cases he0 : x0 = y0
  · obtain ⟨T6, X6, e6, st6⟩ := getF X4 hx hZ hown (host := "") (Or.inl (hw _ (List.mem_of_getElem? (i := 16) rfl))) Via.refl e4 P_F_a1_to (g := (mkF m 24 #[.val (.ref a1), .val (.ref a2), .val (.ref a2)] [(.ref a1)])) rfl rfl (hb hby own_d5_24)
    obtain ⟨T7, X7, e7, st7⟩ := getF X6 hx hZ hown (host := "") (Or.inl (hw _ (List.mem_of_getElem? (i := 16) rfl))) Via.refl e6 P_F_a2_to (g := (mkF m 28 #[.val (.ref a1), .val (.ref a2), .val (.ref a2)] [(.ref a2), (.int x1)])) rfl rfl (hb hby own_d5_28)
    have pre8 : ∀ t, Steps p.tables e below (T7.setTop (mkF m 31 #[.val (.ref a1), .val (.ref a2), .val (.ref a2)] [(.int y1), (.int x1)])) t → Steps p.tables e below (s₁.setTop (entryFrame m #[(.ref a1), (.ref a2)] 3)) t := fun t k => pre5 t (by
      show Steps p.tables e below (T4.setTop (mkF m 20 #[.val (.ref a1), .val (.ref a2), .val (.ref a2)] [(.int y0), (.int x0)])) _
      refine XS.icmpNo X4.here hx rfl (hb hby own_d5_20) rfl (XT.ii_ne_f he0) ?_
      show Steps p.tables e below (T4.setTop (mkF m 23 #[.val (.ref a1), .val (.ref a2), .val (.ref a2)] [])) _
      refine XS.aloadN X4.here hx rfl (hb hby own_d5_23) rfl rfl ?_
      show Steps p.tables e below (T4.setTop (mkF m 24 #[.val (.ref a1), .val (.ref a2), .val (.ref a2)] [(.ref a1)])) _
      refine st6 _ ?_
      show Steps p.tables e below (T6.setTop (mkF m 27 #[.val (.ref a1), .val (.ref a2), .val (.ref a2)] [(.int x1)])) _
      refine XS.aloadN X6.here hx rfl (hb hby own_d5_27) rfl rfl ?_
      show Steps p.tables e below (T6.setTop (mkF m 28 #[.val (.ref a1), .val (.ref a2), .val (.ref a2)] [(.ref a2), (.int x1)])) _
      refine st7 _ ?_
      exact k)
    by_cases he1 : x1 = y1
    · obtain ⟨T9, X9, e9, st9⟩ := getF X7 hx hZ hown (host := "") (Or.inl (hw _ (List.mem_of_getElem? (i := 18) rfl))) Via.refl e7 P_F_a1_orig (g := (mkF m 35 #[.val (.ref a1), .val (.ref a2), .val (.ref a2)] [(.ref a1)])) rfl rfl (hb hby own_d5_35)
      obtain ⟨T10, X10, e10, st10⟩ := getF X9 hx hZ hown (host := "") (Or.inl (hw _ (List.mem_of_getElem? (i := 18) rfl))) Via.refl e9 P_F_a2_orig (g := (mkF m 39 #[.val (.ref a1), .val (.ref a2), .val (.ref a2)] [(.ref a2), (.int x2)])) rfl rfl (hb hby own_d5_39)
      have pre11 : ∀ t, Steps p.tables e below (T10.setTop (mkF m 42 #[.val (.ref a1), .val (.ref a2), .val (.ref a2)] [(.int y2), (.int x2)])) t → Steps p.tables e below (s₁.setTop (entryFrame m #[(.ref a1), (.ref a2)] 3)) t := fun t k => pre8 t (by
        show Steps p.tables e below (T7.setTop (mkF m 31 #[.val (.ref a1), .val (.ref a2), .val (.ref a2)] [(.int y1), (.int x1)])) _
        refine XS.icmpNo X7.here hx rfl (hb hby own_d5_31) rfl (XT.ii_ne_f he1) ?_
        show Steps p.tables e below (T7.setTop (mkF m 34 #[.val (.ref a1), .val (.ref a2), .val (.ref a2)] [])) _
        refine XS.aloadN X7.here hx rfl (hb hby own_d5_34) rfl rfl ?_
        show Steps p.tables e below (T7.setTop (mkF m 35 #[.val (.ref a1), .val (.ref a2), .val (.ref a2)] [(.ref a1)])) _
        refine st9 _ ?_
        show Steps p.tables e below (T9.setTop (mkF m 38 #[.val (.ref a1), .val (.ref a2), .val (.ref a2)] [(.int x2)])) _
        refine XS.aloadN X9.here hx rfl (hb hby own_d5_38) rfl rfl ?_
        show Steps p.tables e below (T9.setTop (mkF m 39 #[.val (.ref a1), .val (.ref a2), .val (.ref a2)] [(.ref a2), (.int x2)])) _
        refine st10 _ ?_
        exact k)
      by_cases he2 : x2 = y2
      · obtain ⟨T12, X12, e12, st12⟩ := getF X10 hx hZ hown (host := "") (Or.inl (hw _ (List.mem_of_getElem? (i := 20) rfl))) Via.refl e10 P_F_a1_bid (g := (mkF m 46 #[.val (.ref a1), .val (.ref a2), .val (.ref a2)] [(.ref a1)])) rfl rfl (hb hby own_d5_46)
        obtain ⟨T13, X13, e13, st13⟩ := getF X12 hx hZ hown (host := "") (Or.inl (hw _ (List.mem_of_getElem? (i := 20) rfl))) Via.refl e12 P_F_a2_bid (g := (mkF m 50 #[.val (.ref a1), .val (.ref a2), .val (.ref a2)] [(.ref a2), (.int x3)])) rfl rfl (hb hby own_d5_50)
        have pre14 : ∀ t, Steps p.tables e below (T13.setTop (mkF m 53 #[.val (.ref a1), .val (.ref a2), .val (.ref a2)] [(.int y3), (.int x3)])) t → Steps p.tables e below (s₁.setTop (entryFrame m #[(.ref a1), (.ref a2)] 3)) t := fun t k => pre11 t (by
          show Steps p.tables e below (T10.setTop (mkF m 42 #[.val (.ref a1), .val (.ref a2), .val (.ref a2)] [(.int y2), (.int x2)])) _
          refine XS.icmpNo X10.here hx rfl (hb hby own_d5_42) rfl (XT.ii_ne_f he2) ?_
          show Steps p.tables e below (T10.setTop (mkF m 45 #[.val (.ref a1), .val (.ref a2), .val (.ref a2)] [])) _
          refine XS.aloadN X10.here hx rfl (hb hby own_d5_45) rfl rfl ?_
          show Steps p.tables e below (T10.setTop (mkF m 46 #[.val (.ref a1), .val (.ref a2), .val (.ref a2)] [(.ref a1)])) _
          refine st12 _ ?_
          show Steps p.tables e below (T12.setTop (mkF m 49 #[.val (.ref a1), .val (.ref a2), .val (.ref a2)] [(.int x3)])) _
          refine XS.aloadN X12.here hx rfl (hb hby own_d5_49) rfl rfl ?_
          show Steps p.tables e below (T12.setTop (mkF m 50 #[.val (.ref a1), .val (.ref a2), .val (.ref a2)] [(.ref a2), (.int x3)])) _
          refine st13 _ ?_
          exact k)
        by_cases he3 : x3 = y3
        · obtain ⟨T15, X15, e15, st15⟩ := getF X13 hx hZ hown (host := "") (Or.inl (hw _ (List.mem_of_getElem? (i := 22) rfl))) Via.refl e13 P_F_a1_hops (g := (mkF m 57 #[.val (.ref a1), .val (.ref a2), .val (.ref a2)] [(.ref a1)])) rfl rfl (hb hby own_d5_57)
          obtain ⟨T16, X16, e16, st16⟩ := getF X15 hx hZ hown (host := "") (Or.inl (hw _ (List.mem_of_getElem? (i := 22) rfl))) Via.refl e15 P_F_a2_hops (g := (mkF m 61 #[.val (.ref a1), .val (.ref a2), .val (.ref a2)] [(.ref a2), (.int x4)])) rfl rfl (hb hby own_d5_61)
          have pre17 : ∀ t, Steps p.tables e below (T16.setTop (mkF m 64 #[.val (.ref a1), .val (.ref a2), .val (.ref a2)] [(.int y4), (.int x4)])) t → Steps p.tables e below (s₁.setTop (entryFrame m #[(.ref a1), (.ref a2)] 3)) t := fun t k => pre14 t (by
            show Steps p.tables e below (T13.setTop (mkF m 53 #[.val (.ref a1), .val (.ref a2), .val (.ref a2)] [(.int y3), (.int x3)])) _
            refine XS.icmpNo X13.here hx rfl (hb hby own_d5_53) rfl (XT.ii_ne_f he3) ?_
            show Steps p.tables e below (T13.setTop (mkF m 56 #[.val (.ref a1), .val (.ref a2), .val (.ref a2)] [])) _
            refine XS.aloadN X13.here hx rfl (hb hby own_d5_56) rfl rfl ?_
            show Steps p.tables e below (T13.setTop (mkF m 57 #[.val (.ref a1), .val (.ref a2), .val (.ref a2)] [(.ref a1)])) _
            refine st15 _ ?_
            show Steps p.tables e below (T15.setTop (mkF m 60 #[.val (.ref a1), .val (.ref a2), .val (.ref a2)] [(.int x4)])) _
            refine XS.aloadN X15.here hx rfl (hb hby own_d5_60) rfl rfl ?_
            show Steps p.tables e below (T15.setTop (mkF m 61 #[.val (.ref a1), .val (.ref a2), .val (.ref a2)] [(.ref a2), (.int x4)])) _
            refine st16 _ ?_
            exact k)
          by_cases he4 : x4 = y4
          · obtain ⟨T18, X18, e18, st18⟩ := getF X16 hx hZ hown (host := "") (Or.inl (hw _ (List.mem_of_getElem? (i := 24) rfl))) Via.refl e16 P_F_a1_dst (g := (mkF m 68 #[.val (.ref a1), .val (.ref a2), .val (.ref a2)] [(.ref a1)])) rfl rfl (hb hby own_d5_68)
            obtain ⟨T19, X19, e19, st19⟩ := getF X18 hx hZ hown (host := "") (Or.inl (hw _ (List.mem_of_getElem? (i := 24) rfl))) Via.refl e18 P_F_a2_dst (g := (mkF m 72 #[.val (.ref a1), .val (.ref a2), .val (.ref a2)] [(.ref a2), (.int x5)])) rfl rfl (hb hby own_d5_72)
            have pre20 : ∀ t, Steps p.tables e below (T19.setTop (mkF m 75 #[.val (.ref a1), .val (.ref a2), .val (.ref a2)] [(.int y5), (.int x5)])) t → Steps p.tables e below (s₁.setTop (entryFrame m #[(.ref a1), (.ref a2)] 3)) t := fun t k => pre17 t (by
              show Steps p.tables e below (T16.setTop (mkF m 64 #[.val (.ref a1), .val (.ref a2), .val (.ref a2)] [(.int y4), (.int x4)])) _
              refine XS.icmpNo X16.here hx rfl (hb hby own_d5_64) rfl (XT.ii_ne_f he4) ?_
              show Steps p.tables e below (T16.setTop (mkF m 67 #[.val (.ref a1), .val (.ref a2), .val (.ref a2)] [])) _
              refine XS.aloadN X16.here hx rfl (hb hby own_d5_67) rfl rfl ?_
              show Steps p.tables e below (T16.setTop (mkF m 68 #[.val (.ref a1), .val (.ref a2), .val (.ref a2)] [(.ref a1)])) _
              refine st18 _ ?_
              show Steps p.tables e below (T18.setTop (mkF m 71 #[.val (.ref a1), .val (.ref a2), .val (.ref a2)] [(.int x5)])) _
              refine XS.aloadN X18.here hx rfl (hb hby own_d5_71) rfl rfl ?_
              show Steps p.tables e below (T18.setTop (mkF m 72 #[.val (.ref a1), .val (.ref a2), .val (.ref a2)] [(.ref a2), (.int x5)])) _
              refine st19 _ ?_
              exact k)
            by_cases he5 : x5 = y5
            · obtain ⟨T21, X21, e21, st21⟩ := getF X19 hx hZ hown (host := "") (Or.inl (hw _ (List.mem_of_getElem? (i := 26) rfl))) Via.refl e19 P_F_a1_dstseq (g := (mkF m 79 #[.val (.ref a1), .val (.ref a2), .val (.ref a2)] [(.ref a1)])) rfl rfl (hb hby own_d5_79)
              obtain ⟨T22, X22, e22, st22⟩ := getF X21 hx hZ hown (host := "") (Or.inl (hw _ (List.mem_of_getElem? (i := 26) rfl))) Via.refl e21 P_F_a2_dstseq (g := (mkF m 83 #[.val (.ref a1), .val (.ref a2), .val (.ref a2)] [(.ref a2), (.int x6)])) rfl rfl (hb hby own_d5_83)
              have pre23 : ∀ t, Steps p.tables e below (T22.setTop (mkF m 86 #[.val (.ref a1), .val (.ref a2), .val (.ref a2)] [(.int y6), (.int x6)])) t → Steps p.tables e below (s₁.setTop (entryFrame m #[(.ref a1), (.ref a2)] 3)) t := fun t k => pre20 t (by
                show Steps p.tables e below (T19.setTop (mkF m 75 #[.val (.ref a1), .val (.ref a2), .val (.ref a2)] [(.int y5), (.int x5)])) _
                refine XS.icmpNo X19.here hx rfl (hb hby own_d5_75) rfl (XT.ii_ne_f he5) ?_
                show Steps p.tables e below (T19.setTop (mkF m 78 #[.val (.ref a1), .val (.ref a2), .val (.ref a2)] [])) _
                refine XS.aloadN X19.here hx rfl (hb hby own_d5_78) rfl rfl ?_
                show Steps p.tables e below (T19.setTop (mkF m 79 #[.val (.ref a1), .val (.ref a2), .val (.ref a2)] [(.ref a1)])) _
                refine st21 _ ?_
                show Steps p.tables e below (T21.setTop (mkF m 82 #[.val (.ref a1), .val (.ref a2), .val (.ref a2)] [(.int x6)])) _
                refine XS.aloadN X21.here hx rfl (hb hby own_d5_82) rfl rfl ?_
                show Steps p.tables e below (T21.setTop (mkF m 83 #[.val (.ref a1), .val (.ref a2), .val (.ref a2)] [(.ref a2), (.int x6)])) _
                refine st22 _ ?_
                exact k)
              by_cases he6 : x6 = y6
              · obtain ⟨T24, X24, e24, st24⟩ := getF X22 hx hZ hown (host := "") (Or.inl (hw _ (List.mem_of_getElem? (i := 28) rfl))) Via.refl e22 P_F_a1_origseq (g := (mkF m 90 #[.val (.ref a1), .val (.ref a2), .val (.ref a2)] [(.ref a1)])) rfl rfl (hb hby own_d5_90)
                obtain ⟨T25, X25, e25, st25⟩ := getF X24 hx hZ hown (host := "") (Or.inl (hw _ (List.mem_of_getElem? (i := 28) rfl))) Via.refl e24 P_F_a2_origseq (g := (mkF m 94 #[.val (.ref a1), .val (.ref a2), .val (.ref a2)] [(.ref a2), (.int x7)])) rfl rfl (hb hby own_d5_94)
                have pre26 : ∀ t, Steps p.tables e below (T25.setTop (mkF m 97 #[.val (.ref a1), .val (.ref a2), .val (.ref a2)] [(.int y7), (.int x7)])) t → Steps p.tables e below (s₁.setTop (entryFrame m #[(.ref a1), (.ref a2)] 3)) t := fun t k => pre23 t (by
                  show Steps p.tables e below (T22.setTop (mkF m 86 #[.val (.ref a1), .val (.ref a2), .val (.ref a2)] [(.int y6), (.int x6)])) _
                  refine XS.icmpNo X22.here hx rfl (hb hby own_d5_86) rfl (XT.ii_ne_f he6) ?_
                  show Steps p.tables e below (T22.setTop (mkF m 89 #[.val (.ref a1), .val (.ref a2), .val (.ref a2)] [])) _
                  refine XS.aloadN X22.here hx rfl (hb hby own_d5_89) rfl rfl ?_
                  show Steps p.tables e below (T22.setTop (mkF m 90 #[.val (.ref a1), .val (.ref a2), .val (.ref a2)] [(.ref a1)])) _
                  refine st24 _ ?_
                  show Steps p.tables e below (T24.setTop (mkF m 93 #[.val (.ref a1), .val (.ref a2), .val (.ref a2)] [(.int x7)])) _
                  refine XS.aloadN X24.here hx rfl (hb hby own_d5_93) rfl rfl ?_
                  show Steps p.tables e below (T24.setTop (mkF m 94 #[.val (.ref a1), .val (.ref a2), .val (.ref a2)] [(.ref a2), (.int x7)])) _
                  refine st25 _ ?_
                  exact k)
                by_cases he7 : x7 = y7
                · obtain ⟨fs, hr, hrun, hended, hW, hsame⟩ := X25.leave (v := some (.int (1 : Int32))) (fun h => by rw [Bd.returns] at h; cases h)
                  refine ⟨_, _, pre26 _ ?_, hrun, hended, _, _, rfl, ?_, ⟨_, rfl⟩, hW, hsame.mono (by decide) (by decide)⟩
                  · show Steps p.tables e below (T25.setTop (mkF m 97 #[.val (.ref a1), .val (.ref a2), .val (.ref a2)] [(.int y7), (.int x7)])) _
                    refine XS.icmpNo X25.here hx rfl (hb hby own_d5_97) rfl (XT.ii_ne_f he7) ?_
                    show Steps p.tables e below (T25.setTop (mkF m 100 #[.val (.ref a1), .val (.ref a2), .val (.ref a2)] [])) _
                    refine XT.iconstV X25.here hx rfl (1 : Int32) (hb hby own_d5_100) rfl ?_
                    show Steps p.tables e below (T25.setTop (mkF m 101 #[.val (.ref a1), .val (.ref a2), .val (.ref a2)] [(.int (1 : Int32))])) _
                    refine XS.goto X25.here hx rfl (pc0 := 101) (pc' := 105) rfl (hb hby own_d5_101) (by decide) (by decide) ?_
                    show Steps p.tables e below (T25.setTop (mkF m 105 #[.val (.ref a1), .val (.ref a2), .val (.ref a2)] [(.int (1 : Int32))])) _
                    exact retN X25 hx (t := .boolean) Bd.returns (by simp) (hb hby own_d5_105) hr
                  · show own_Q5 Z a1 a2 x0 x1 x2 x3 x4 x5 x6 x7 y0 y1 y2 y3 y4 y5 y6 y7 h0 n0 _ T25.heap _
                    exact ⟨by unfold own_eq; rw [if_pos ⟨he0, he1, he2, he3, he4, he5, he6, he7⟩], N0, e25⟩
                · obtain ⟨fs, hr, hrun, hended, hW, hsame⟩ := X25.leave (v := some (.int (0 : Int32))) (fun h => by rw [Bd.returns] at h; cases h)
                  refine ⟨_, _, pre26 _ ?_, hrun, hended, _, _, rfl, ?_, ⟨_, rfl⟩, hW, hsame.mono (by decide) (by decide)⟩
                  · show Steps p.tables e below (T25.setTop (mkF m 97 #[.val (.ref a1), .val (.ref a2), .val (.ref a2)] [(.int y7), (.int x7)])) _
                    refine XS.icmpYes X25.here hx rfl (pc0 := 97) (pc' := 104) rfl (hb hby own_d5_97) rfl (XT.ii_ne_t he7) (by decide) (by decide) ?_
                    show Steps p.tables e below (T25.setTop (mkF m 104 #[.val (.ref a1), .val (.ref a2), .val (.ref a2)] [])) _
                    refine XT.iconstV X25.here hx rfl (0 : Int32) (hb hby own_d5_104) rfl ?_
                    show Steps p.tables e below (T25.setTop (mkF m 105 #[.val (.ref a1), .val (.ref a2), .val (.ref a2)] [(.int (0 : Int32))])) _
                    exact retN X25 hx (t := .boolean) Bd.returns (by simp) (hb hby own_d5_105) hr
                  · show own_Q5 Z a1 a2 x0 x1 x2 x3 x4 x5 x6 x7 y0 y1 y2 y3 y4 y5 y6 y7 h0 n0 _ T25.heap _
                    exact ⟨by unfold own_eq; rw [if_neg (fun q => he7 q.2.2.2.2.2.2.2)], N0, e25⟩
              · obtain ⟨fs, hr, hrun, hended, hW, hsame⟩ := X22.leave (v := some (.int (0 : Int32))) (fun h => by rw [Bd.returns] at h; cases h)
                refine ⟨_, _, pre23 _ ?_, hrun, hended, _, _, rfl, ?_, ⟨_, rfl⟩, hW, hsame.mono (by decide) (by decide)⟩
                · show Steps p.tables e below (T22.setTop (mkF m 86 #[.val (.ref a1), .val (.ref a2), .val (.ref a2)] [(.int y6), (.int x6)])) _
                  refine XS.icmpYes X22.here hx rfl (pc0 := 86) (pc' := 104) rfl (hb hby own_d5_86) rfl (XT.ii_ne_t he6) (by decide) (by decide) ?_
                  show Steps p.tables e below (T22.setTop (mkF m 104 #[.val (.ref a1), .val (.ref a2), .val (.ref a2)] [])) _
                  refine XT.iconstV X22.here hx rfl (0 : Int32) (hb hby own_d5_104) rfl ?_
                  show Steps p.tables e below (T22.setTop (mkF m 105 #[.val (.ref a1), .val (.ref a2), .val (.ref a2)] [(.int (0 : Int32))])) _
                  exact retN X22 hx (t := .boolean) Bd.returns (by simp) (hb hby own_d5_105) hr
                · show own_Q5 Z a1 a2 x0 x1 x2 x3 x4 x5 x6 x7 y0 y1 y2 y3 y4 y5 y6 y7 h0 n0 _ T22.heap _
                  exact ⟨by unfold own_eq; rw [if_neg (fun q => he6 q.2.2.2.2.2.2.1)], N0, e22⟩
            · obtain ⟨fs, hr, hrun, hended, hW, hsame⟩ := X19.leave (v := some (.int (0 : Int32))) (fun h => by rw [Bd.returns] at h; cases h)
              refine ⟨_, _, pre20 _ ?_, hrun, hended, _, _, rfl, ?_, ⟨_, rfl⟩, hW, hsame.mono (by decide) (by decide)⟩
              · show Steps p.tables e below (T19.setTop (mkF m 75 #[.val (.ref a1), .val (.ref a2), .val (.ref a2)] [(.int y5), (.int x5)])) _
                refine XS.icmpYes X19.here hx rfl (pc0 := 75) (pc' := 104) rfl (hb hby own_d5_75) rfl (XT.ii_ne_t he5) (by decide) (by decide) ?_
                show Steps p.tables e below (T19.setTop (mkF m 104 #[.val (.ref a1), .val (.ref a2), .val (.ref a2)] [])) _
                refine XT.iconstV X19.here hx rfl (0 : Int32) (hb hby own_d5_104) rfl ?_
                show Steps p.tables e below (T19.setTop (mkF m 105 #[.val (.ref a1), .val (.ref a2), .val (.ref a2)] [(.int (0 : Int32))])) _
                exact retN X19 hx (t := .boolean) Bd.returns (by simp) (hb hby own_d5_105) hr
              · show own_Q5 Z a1 a2 x0 x1 x2 x3 x4 x5 x6 x7 y0 y1 y2 y3 y4 y5 y6 y7 h0 n0 _ T19.heap _
                exact ⟨by unfold own_eq; rw [if_neg (fun q => he5 q.2.2.2.2.2.1)], N0, e19⟩
          · obtain ⟨fs, hr, hrun, hended, hW, hsame⟩ := X16.leave (v := some (.int (0 : Int32))) (fun h => by rw [Bd.returns] at h; cases h)
            refine ⟨_, _, pre17 _ ?_, hrun, hended, _, _, rfl, ?_, ⟨_, rfl⟩, hW, hsame.mono (by decide) (by decide)⟩
            · show Steps p.tables e below (T16.setTop (mkF m 64 #[.val (.ref a1), .val (.ref a2), .val (.ref a2)] [(.int y4), (.int x4)])) _
              refine XS.icmpYes X16.here hx rfl (pc0 := 64) (pc' := 104) rfl (hb hby own_d5_64) rfl (XT.ii_ne_t he4) (by decide) (by decide) ?_
              show Steps p.tables e below (T16.setTop (mkF m 104 #[.val (.ref a1), .val (.ref a2), .val (.ref a2)] [])) _
              refine XT.iconstV X16.here hx rfl (0 : Int32) (hb hby own_d5_104) rfl ?_
              show Steps p.tables e below (T16.setTop (mkF m 105 #[.val (.ref a1), .val (.ref a2), .val (.ref a2)] [(.int (0 : Int32))])) _
              exact retN X16 hx (t := .boolean) Bd.returns (by simp) (hb hby own_d5_105) hr
            · show own_Q5 Z a1 a2 x0 x1 x2 x3 x4 x5 x6 x7 y0 y1 y2 y3 y4 y5 y6 y7 h0 n0 _ T16.heap _
              exact ⟨by unfold own_eq; rw [if_neg (fun q => he4 q.2.2.2.2.1)], N0, e16⟩
        · obtain ⟨fs, hr, hrun, hended, hW, hsame⟩ := X13.leave (v := some (.int (0 : Int32))) (fun h => by rw [Bd.returns] at h; cases h)
          refine ⟨_, _, pre14 _ ?_, hrun, hended, _, _, rfl, ?_, ⟨_, rfl⟩, hW, hsame.mono (by decide) (by decide)⟩
          · show Steps p.tables e below (T13.setTop (mkF m 53 #[.val (.ref a1), .val (.ref a2), .val (.ref a2)] [(.int y3), (.int x3)])) _
            refine XS.icmpYes X13.here hx rfl (pc0 := 53) (pc' := 104) rfl (hb hby own_d5_53) rfl (XT.ii_ne_t he3) (by decide) (by decide) ?_
            show Steps p.tables e below (T13.setTop (mkF m 104 #[.val (.ref a1), .val (.ref a2), .val (.ref a2)] [])) _
            refine XT.iconstV X13.here hx rfl (0 : Int32) (hb hby own_d5_104) rfl ?_
            show Steps p.tables e below (T13.setTop (mkF m 105 #[.val (.ref a1), .val (.ref a2), .val (.ref a2)] [(.int (0 : Int32))])) _
            exact retN X13 hx (t := .boolean) Bd.returns (by simp) (hb hby own_d5_105) hr
          · show own_Q5 Z a1 a2 x0 x1 x2 x3 x4 x5 x6 x7 y0 y1 y2 y3 y4 y5 y6 y7 h0 n0 _ T13.heap _
            exact ⟨by unfold own_eq; rw [if_neg (fun q => he3 q.2.2.2.1)], N0, e13⟩
      · obtain ⟨fs, hr, hrun, hended, hW, hsame⟩ := X10.leave (v := some (.int (0 : Int32))) (fun h => by rw [Bd.returns] at h; cases h)
        refine ⟨_, _, pre11 _ ?_, hrun, hended, _, _, rfl, ?_, ⟨_, rfl⟩, hW, hsame.mono (by decide) (by decide)⟩
        · show Steps p.tables e below (T10.setTop (mkF m 42 #[.val (.ref a1), .val (.ref a2), .val (.ref a2)] [(.int y2), (.int x2)])) _
          refine XS.icmpYes X10.here hx rfl (pc0 := 42) (pc' := 104) rfl (hb hby own_d5_42) rfl (XT.ii_ne_t he2) (by decide) (by decide) ?_
          show Steps p.tables e below (T10.setTop (mkF m 104 #[.val (.ref a1), .val (.ref a2), .val (.ref a2)] [])) _
          refine XT.iconstV X10.here hx rfl (0 : Int32) (hb hby own_d5_104) rfl ?_
          show Steps p.tables e below (T10.setTop (mkF m 105 #[.val (.ref a1), .val (.ref a2), .val (.ref a2)] [(.int (0 : Int32))])) _
          exact retN X10 hx (t := .boolean) Bd.returns (by simp) (hb hby own_d5_105) hr
        · show own_Q5 Z a1 a2 x0 x1 x2 x3 x4 x5 x6 x7 y0 y1 y2 y3 y4 y5 y6 y7 h0 n0 _ T10.heap _
          exact ⟨by unfold own_eq; rw [if_neg (fun q => he2 q.2.2.1)], N0, e10⟩
    · obtain ⟨fs, hr, hrun, hended, hW, hsame⟩ := X7.leave (v := some (.int (0 : Int32))) (fun h => by rw [Bd.returns] at h; cases h)
      refine ⟨_, _, pre8 _ ?_, hrun, hended, _, _, rfl, ?_, ⟨_, rfl⟩, hW, hsame.mono (by decide) (by decide)⟩
      · show Steps p.tables e below (T7.setTop (mkF m 31 #[.val (.ref a1), .val (.ref a2), .val (.ref a2)] [(.int y1), (.int x1)])) _
        refine XS.icmpYes X7.here hx rfl (pc0 := 31) (pc' := 104) rfl (hb hby own_d5_31) rfl (XT.ii_ne_t he1) (by decide) (by decide) ?_
        show Steps p.tables e below (T7.setTop (mkF m 104 #[.val (.ref a1), .val (.ref a2), .val (.ref a2)] [])) _
        refine XT.iconstV X7.here hx rfl (0 : Int32) (hb hby own_d5_104) rfl ?_
        show Steps p.tables e below (T7.setTop (mkF m 105 #[.val (.ref a1), .val (.ref a2), .val (.ref a2)] [(.int (0 : Int32))])) _
        exact retN X7 hx (t := .boolean) Bd.returns (by simp) (hb hby own_d5_105) hr
      · show own_Q5 Z a1 a2 x0 x1 x2 x3 x4 x5 x6 x7 y0 y1 y2 y3 y4 y5 y6 y7 h0 n0 _ T7.heap _
        exact ⟨by unfold own_eq; rw [if_neg (fun q => he1 q.2.1)], N0, e7⟩
  · obtain ⟨fs, hr, hrun, hended, hW, hsame⟩ := X4.leave (v := some (.int (0 : Int32))) (fun h => by rw [Bd.returns] at h; cases h)
    refine ⟨_, _, pre5 _ ?_, hrun, hended, _, _, rfl, ?_, ⟨_, rfl⟩, hW, hsame.mono (by decide) (by decide)⟩
    · show Steps p.tables e below (T4.setTop (mkF m 20 #[.val (.ref a1), .val (.ref a2), .val (.ref a2)] [(.int y0), (.int x0)])) _
      refine XS.icmpYes X4.here hx rfl (pc0 := 20) (pc' := 104) rfl (hb hby own_d5_20) rfl (XT.ii_ne_t he0) (by decide) (by decide) ?_
      show Steps p.tables e below (T4.setTop (mkF m 104 #[.val (.ref a1), .val (.ref a2), .val (.ref a2)] [])) _
      refine XT.iconstV X4.here hx rfl (0 : Int32) (hb hby own_d5_104) rfl ?_
      show Steps p.tables e below (T4.setTop (mkF m 105 #[.val (.ref a1), .val (.ref a2), .val (.ref a2)] [(.int (0 : Int32))])) _
      exact retN X4 hx (t := .boolean) Bd.returns (by simp) (hb hby own_d5_105) hr
    · show own_Q5 Z a1 a2 x0 x1 x2 x3 x4 x5 x6 x7 y0 y1 y2 y3 y4 y5 y6 y7 h0 n0 _ T4.heap _
      exact ⟨by unfold own_eq; rw [if_neg (fun q => he0 q.1)], N0, e4⟩
theorem own_eq_self (x0 x1 x2 x3 x4 x5 x6 x7 : Int32) : ¬ own_eq x0 x1 x2 x3 x4 x5 x6 x7 x0 x1 x2 x3 x4 x5 x6 x7 = 0 := by unfold own_eq; rw [if_pos ⟨rfl, rfl, rfl, rfl, rfl, rfl, rfl, rfl⟩]; decide
theorem own_pn0 : plainName "com/example/traversim/traversim/aodv/RreqHashCodePinLaw" = true := by first | (simp [plainName, overriddenIn]; done) | decide +kernel
theorem own_ef0 (m : MethodId) (ja : Int64) (jb : Int64) (jc : Int64) (jd : Int64) : entryFrame m #[(.long ja), (.long jb), (.long jc), (.long jd)] maxLocals = mkF m 0 #[.val (.long ja), .second, .val (.long jb), .second, .val (.long jc), .second, .val (.long jd), .second, .unset, .unset, .unset, .unset, .unset, .unset, .unset, .unset, .unset, .unset, .unset, .unset, .unset] [] := by first | (simp [entryFrame, mkF, argsToLocals, Value.category, maxLocals]; done) | rfl
def own_Q0 (Z : State) (ja : Int64) (jb : Int64) (jc : Int64) (jd : Int64) (h0 : Heap) (n0 : Nat) (v : Option Value) (h : Heap) (L : List Loc) : Prop := (v = some (.int (1 : Int32))) ∧ (Fr n0 L)
set_option maxRecDepth 65536 in
set_option maxHeartbeats 40000000 in
theorem own_rm0 (l : Launch) (Z : State) (a0 : Array Value) (hw : ∀ d ∈ tables_1, d.before a0 Z = true) (ws : List Jvm.Cond) (ja : Int64) (jb : Int64) (jc : Int64) (jd : Int64) (h0 : Heap) (n0 : Nat) (Z0 : n0 ≤ h0.size)  :
    MetFree l x (head1 (Jvm.Cond.code x code maxLocals ret :: ws) room_1) (fun ar_ U_ => ar_ = #[(.long ja), (.long jb), (.long jc), (.long jd)] ∧ Z.Warmed39 U_.vm ∧ U_.heap = h0) (fun _ _ _ _ _ => True) (fun _ U_ o_ U_' => ∃ v_ L_, o_ = .returned v_ ∧ own_Q0 Z ja jb jc jd h0 n0 v_ U_'.heap L_ ∧ FrameEnd U_ o_ U_' L_ room_1.cells room_1.slots) := by
  refine MetFree.of_bodySF (plainFor_of_name own_pn0) hisR ?_
  intro p e s m args below meth c s₁ Bd hml0 hP hK
  obtain ⟨rfl, hZ, hh⟩ := hP
  have hx := Bd.exec
  have hby := Bd.bytes
  have hml : c.maxLocals = 21 := hml0
  have hown : s.vm.findClass "com/example/traversim/traversim/aodv/RreqHashCodePinLaw" = some m.cls := findClass_of_methodNamed Bd.named
  have hnm := (name_of_methodNamed Bd.named Bd.method).1
  have X0 : Stand p l e room_1 s m #[(.long ja), (.long jb), (.long jc), (.long jd)] below meth c s₁ [] 0 0 := Stand.of_body Bd
  have e0 : s₁.heap = h0 := by rw [← hh, Bd.state]; rfl
  have N0 := Fr.nil n0
  have pre0 : ∀ t, Steps p.tables e below (s₁.setTop (mkF m 0 #[.val (.long ja), .second, .val (.long jb), .second, .val (.long jc), .second, .val (.long jd), .second, .unset, .unset, .unset, .unset, .unset, .unset, .unset, .unset, .unset, .unset, .unset, .unset, .unset] [])) t → Steps p.tables e below (s₁.setTop (entryFrame m #[(.long ja), (.long jb), (.long jc), (.long jd)] maxLocals)) t := fun t k => castTop (own_ef0 m ja jb jc jd) k
  have pre1 : ∀ t, Steps p.tables e below (s₁.setTop (mkF m 4 #[.val (.long ja), .second, .val (.long jb), .second, .val (.long jc), .second, .val (.long jd), .second, .val (.int (ja.toInt32)), .unset, .unset, .unset, .unset, .unset, .unset, .unset, .unset, .unset, .unset, .unset, .unset] [])) t → Steps p.tables e below (s₁.setTop (entryFrame m #[(.long ja), (.long jb), (.long jc), (.long jd)] maxLocals)) t := fun t k => pre0 t (by
    show Steps p.tables e below (s₁.setTop (mkF m 0 #[.val (.long ja), .second, .val (.long jb), .second, .val (.long jc), .second, .val (.long jd), .second, .unset, .unset, .unset, .unset, .unset, .unset, .unset, .unset, .unset, .unset, .unset, .unset, .unset] [])) _
    refine XT.lloadN X0.here hx rfl (hb hby at_0) rfl ?_
    show Steps p.tables e below (s₁.setTop (mkF m 1 #[.val (.long ja), .second, .val (.long jb), .second, .val (.long jc), .second, .val (.long jd), .second, .unset, .unset, .unset, .unset, .unset, .unset, .unset, .unset, .unset, .unset, .unset, .unset, .unset] [(.long ja)])) _
    refine XT.l2i X0.here hx rfl (hb hby at_1) rfl ?_
    show Steps p.tables e below (s₁.setTop (mkF m 2 #[.val (.long ja), .second, .val (.long jb), .second, .val (.long jc), .second, .val (.long jd), .second, .unset, .unset, .unset, .unset, .unset, .unset, .unset, .unset, .unset, .unset, .unset, .unset, .unset] [(.int (ja.toInt32))])) _
    refine XS.istore X0.here hx rfl (hb hby at_2) rfl (l' := #[.val (.long ja), .second, .val (.long jb), .second, .val (.long jc), .second, .val (.long jd), .second, .val (.int (ja.toInt32)), .unset, .unset, .unset, .unset, .unset, .unset, .unset, .unset, .unset, .unset, .unset, .unset]) rfl ?_
    exact k)
  obtain ⟨x0, q_x0⟩ : ∃ z : Int32, z = (ja.toInt32) := ⟨_, rfl⟩
  rw [← q_x0] at pre1
  have pre2 : ∀ t, Steps p.tables e below (s₁.setTop (mkF m 11 #[.val (.long ja), .second, .val (.long jb), .second, .val (.long jc), .second, .val (.long jd), .second, .val (.int x0), .val (.int ((ja >>> ((32 : Int32).toInt64 &&& 63)).toInt32)), .unset, .unset, .unset, .unset, .unset, .unset, .unset, .unset, .unset, .unset, .unset] [])) t → Steps p.tables e below (s₁.setTop (entryFrame m #[(.long ja), (.long jb), (.long jc), (.long jd)] maxLocals)) t := fun t k => pre1 t (by
    show Steps p.tables e below (s₁.setTop (mkF m 4 #[.val (.long ja), .second, .val (.long jb), .second, .val (.long jc), .second, .val (.long jd), .second, .val (.int x0), .unset, .unset, .unset, .unset, .unset, .unset, .unset, .unset, .unset, .unset, .unset, .unset] [])) _
    refine XT.lloadN X0.here hx rfl (hb hby at_4) rfl ?_
    show Steps p.tables e below (s₁.setTop (mkF m 5 #[.val (.long ja), .second, .val (.long jb), .second, .val (.long jc), .second, .val (.long jd), .second, .val (.int x0), .unset, .unset, .unset, .unset, .unset, .unset, .unset, .unset, .unset, .unset, .unset, .unset] [(.long ja)])) _
    refine XT.bipushV X0.here hx rfl (32 : Int32) (hb hby at_5) rfl ?_
    show Steps p.tables e below (s₁.setTop (mkF m 7 #[.val (.long ja), .second, .val (.long jb), .second, .val (.long jc), .second, .val (.long jd), .second, .val (.int x0), .unset, .unset, .unset, .unset, .unset, .unset, .unset, .unset, .unset, .unset, .unset, .unset] [(.int (32 : Int32)), (.long ja)])) _
    refine XT.lshr X0.here hx rfl (hb hby at_7) rfl ?_
    show Steps p.tables e below (s₁.setTop (mkF m 8 #[.val (.long ja), .second, .val (.long jb), .second, .val (.long jc), .second, .val (.long jd), .second, .val (.int x0), .unset, .unset, .unset, .unset, .unset, .unset, .unset, .unset, .unset, .unset, .unset, .unset] [(.long (ja >>> ((32 : Int32).toInt64 &&& 63)))])) _
    refine XT.l2i X0.here hx rfl (hb hby at_8) rfl ?_
    show Steps p.tables e below (s₁.setTop (mkF m 9 #[.val (.long ja), .second, .val (.long jb), .second, .val (.long jc), .second, .val (.long jd), .second, .val (.int x0), .unset, .unset, .unset, .unset, .unset, .unset, .unset, .unset, .unset, .unset, .unset, .unset] [(.int ((ja >>> ((32 : Int32).toInt64 &&& 63)).toInt32))])) _
    refine XS.istore X0.here hx rfl (hb hby at_9) rfl (l' := #[.val (.long ja), .second, .val (.long jb), .second, .val (.long jc), .second, .val (.long jd), .second, .val (.int x0), .val (.int ((ja >>> ((32 : Int32).toInt64 &&& 63)).toInt32)), .unset, .unset, .unset, .unset, .unset, .unset, .unset, .unset, .unset, .unset, .unset]) rfl ?_
    exact k)
  obtain ⟨x1, q_x1⟩ : ∃ z : Int32, z = ((ja >>> ((32 : Int32).toInt64 &&& 63)).toInt32) := ⟨_, rfl⟩
  rw [← q_x1] at pre2
  have pre3 : ∀ t, Steps p.tables e below (s₁.setTop (mkF m 15 #[.val (.long ja), .second, .val (.long jb), .second, .val (.long jc), .second, .val (.long jd), .second, .val (.int x0), .val (.int x1), .val (.int (jb.toInt32)), .unset, .unset, .unset, .unset, .unset, .unset, .unset, .unset, .unset, .unset] [])) t → Steps p.tables e below (s₁.setTop (entryFrame m #[(.long ja), (.long jb), (.long jc), (.long jd)] maxLocals)) t := fun t k => pre2 t (by
    show Steps p.tables e below (s₁.setTop (mkF m 11 #[.val (.long ja), .second, .val (.long jb), .second, .val (.long jc), .second, .val (.long jd), .second, .val (.int x0), .val (.int x1), .unset, .unset, .unset, .unset, .unset, .unset, .unset, .unset, .unset, .unset, .unset] [])) _
    refine XT.lloadN X0.here hx rfl (hb hby at_11) rfl ?_
    show Steps p.tables e below (s₁.setTop (mkF m 12 #[.val (.long ja), .second, .val (.long jb), .second, .val (.long jc), .second, .val (.long jd), .second, .val (.int x0), .val (.int x1), .unset, .unset, .unset, .unset, .unset, .unset, .unset, .unset, .unset, .unset, .unset] [(.long jb)])) _
    refine XT.l2i X0.here hx rfl (hb hby at_12) rfl ?_
    show Steps p.tables e below (s₁.setTop (mkF m 13 #[.val (.long ja), .second, .val (.long jb), .second, .val (.long jc), .second, .val (.long jd), .second, .val (.int x0), .val (.int x1), .unset, .unset, .unset, .unset, .unset, .unset, .unset, .unset, .unset, .unset, .unset] [(.int (jb.toInt32))])) _
    refine XS.istore X0.here hx rfl (hb hby at_13) rfl (l' := #[.val (.long ja), .second, .val (.long jb), .second, .val (.long jc), .second, .val (.long jd), .second, .val (.int x0), .val (.int x1), .val (.int (jb.toInt32)), .unset, .unset, .unset, .unset, .unset, .unset, .unset, .unset, .unset, .unset]) rfl ?_
    exact k)
  obtain ⟨x2, q_x2⟩ : ∃ z : Int32, z = (jb.toInt32) := ⟨_, rfl⟩
  rw [← q_x2] at pre3
  have pre4 : ∀ t, Steps p.tables e below (s₁.setTop (mkF m 22 #[.val (.long ja), .second, .val (.long jb), .second, .val (.long jc), .second, .val (.long jd), .second, .val (.int x0), .val (.int x1), .val (.int x2), .val (.int ((jb >>> ((32 : Int32).toInt64 &&& 63)).toInt32)), .unset, .unset, .unset, .unset, .unset, .unset, .unset, .unset, .unset] [])) t → Steps p.tables e below (s₁.setTop (entryFrame m #[(.long ja), (.long jb), (.long jc), (.long jd)] maxLocals)) t := fun t k => pre3 t (by
    show Steps p.tables e below (s₁.setTop (mkF m 15 #[.val (.long ja), .second, .val (.long jb), .second, .val (.long jc), .second, .val (.long jd), .second, .val (.int x0), .val (.int x1), .val (.int x2), .unset, .unset, .unset, .unset, .unset, .unset, .unset, .unset, .unset, .unset] [])) _
    refine XT.lloadN X0.here hx rfl (hb hby at_15) rfl ?_
    show Steps p.tables e below (s₁.setTop (mkF m 16 #[.val (.long ja), .second, .val (.long jb), .second, .val (.long jc), .second, .val (.long jd), .second, .val (.int x0), .val (.int x1), .val (.int x2), .unset, .unset, .unset, .unset, .unset, .unset, .unset, .unset, .unset, .unset] [(.long jb)])) _
    refine XT.bipushV X0.here hx rfl (32 : Int32) (hb hby at_16) rfl ?_
    show Steps p.tables e below (s₁.setTop (mkF m 18 #[.val (.long ja), .second, .val (.long jb), .second, .val (.long jc), .second, .val (.long jd), .second, .val (.int x0), .val (.int x1), .val (.int x2), .unset, .unset, .unset, .unset, .unset, .unset, .unset, .unset, .unset, .unset] [(.int (32 : Int32)), (.long jb)])) _
    refine XT.lshr X0.here hx rfl (hb hby at_18) rfl ?_
    show Steps p.tables e below (s₁.setTop (mkF m 19 #[.val (.long ja), .second, .val (.long jb), .second, .val (.long jc), .second, .val (.long jd), .second, .val (.int x0), .val (.int x1), .val (.int x2), .unset, .unset, .unset, .unset, .unset, .unset, .unset, .unset, .unset, .unset] [(.long (jb >>> ((32 : Int32).toInt64 &&& 63)))])) _
    refine XT.l2i X0.here hx rfl (hb hby at_19) rfl ?_
    show Steps p.tables e below (s₁.setTop (mkF m 20 #[.val (.long ja), .second, .val (.long jb), .second, .val (.long jc), .second, .val (.long jd), .second, .val (.int x0), .val (.int x1), .val (.int x2), .unset, .unset, .unset, .unset, .unset, .unset, .unset, .unset, .unset, .unset] [(.int ((jb >>> ((32 : Int32).toInt64 &&& 63)).toInt32))])) _
    refine XS.istore X0.here hx rfl (hb hby at_20) rfl (l' := #[.val (.long ja), .second, .val (.long jb), .second, .val (.long jc), .second, .val (.long jd), .second, .val (.int x0), .val (.int x1), .val (.int x2), .val (.int ((jb >>> ((32 : Int32).toInt64 &&& 63)).toInt32)), .unset, .unset, .unset, .unset, .unset, .unset, .unset, .unset, .unset]) rfl ?_
    exact k)
  obtain ⟨x3, q_x3⟩ : ∃ z : Int32, z = ((jb >>> ((32 : Int32).toInt64 &&& 63)).toInt32) := ⟨_, rfl⟩
  rw [← q_x3] at pre4
  have pre5 : ∀ t, Steps p.tables e below (s₁.setTop (mkF m 27 #[.val (.long ja), .second, .val (.long jb), .second, .val (.long jc), .second, .val (.long jd), .second, .val (.int x0), .val (.int x1), .val (.int x2), .val (.int x3), .val (.int (jc.toInt32)), .unset, .unset, .unset, .unset, .unset, .unset, .unset, .unset] [])) t → Steps p.tables e below (s₁.setTop (entryFrame m #[(.long ja), (.long jb), (.long jc), (.long jd)] maxLocals)) t := fun t k => pre4 t (by
    show Steps p.tables e below (s₁.setTop (mkF m 22 #[.val (.long ja), .second, .val (.long jb), .second, .val (.long jc), .second, .val (.long jd), .second, .val (.int x0), .val (.int x1), .val (.int x2), .val (.int x3), .unset, .unset, .unset, .unset, .unset, .unset, .unset, .unset, .unset] [])) _
    refine XT.lload X0.here hx rfl (hb hby at_22) rfl ?_
    show Steps p.tables e below (s₁.setTop (mkF m 24 #[.val (.long ja), .second, .val (.long jb), .second, .val (.long jc), .second, .val (.long jd), .second, .val (.int x0), .val (.int x1), .val (.int x2), .val (.int x3), .unset, .unset, .unset, .unset, .unset, .unset, .unset, .unset, .unset] [(.long jc)])) _
    refine XT.l2i X0.here hx rfl (hb hby at_24) rfl ?_
    show Steps p.tables e below (s₁.setTop (mkF m 25 #[.val (.long ja), .second, .val (.long jb), .second, .val (.long jc), .second, .val (.long jd), .second, .val (.int x0), .val (.int x1), .val (.int x2), .val (.int x3), .unset, .unset, .unset, .unset, .unset, .unset, .unset, .unset, .unset] [(.int (jc.toInt32))])) _
    refine XS.istore X0.here hx rfl (hb hby at_25) rfl (l' := #[.val (.long ja), .second, .val (.long jb), .second, .val (.long jc), .second, .val (.long jd), .second, .val (.int x0), .val (.int x1), .val (.int x2), .val (.int x3), .val (.int (jc.toInt32)), .unset, .unset, .unset, .unset, .unset, .unset, .unset, .unset]) rfl ?_
    exact k)
  obtain ⟨x4, q_x4⟩ : ∃ z : Int32, z = (jc.toInt32) := ⟨_, rfl⟩
  rw [← q_x4] at pre5
  have pre6 : ∀ t, Steps p.tables e below (s₁.setTop (mkF m 35 #[.val (.long ja), .second, .val (.long jb), .second, .val (.long jc), .second, .val (.long jd), .second, .val (.int x0), .val (.int x1), .val (.int x2), .val (.int x3), .val (.int x4), .val (.int ((jc >>> ((32 : Int32).toInt64 &&& 63)).toInt32)), .unset, .unset, .unset, .unset, .unset, .unset, .unset] [])) t → Steps p.tables e below (s₁.setTop (entryFrame m #[(.long ja), (.long jb), (.long jc), (.long jd)] maxLocals)) t := fun t k => pre5 t (by
    show Steps p.tables e below (s₁.setTop (mkF m 27 #[.val (.long ja), .second, .val (.long jb), .second, .val (.long jc), .second, .val (.long jd), .second, .val (.int x0), .val (.int x1), .val (.int x2), .val (.int x3), .val (.int x4), .unset, .unset, .unset, .unset, .unset, .unset, .unset, .unset] [])) _
    refine XT.lload X0.here hx rfl (hb hby at_27) rfl ?_
    show Steps p.tables e below (s₁.setTop (mkF m 29 #[.val (.long ja), .second, .val (.long jb), .second, .val (.long jc), .second, .val (.long jd), .second, .val (.int x0), .val (.int x1), .val (.int x2), .val (.int x3), .val (.int x4), .unset, .unset, .unset, .unset, .unset, .unset, .unset, .unset] [(.long jc)])) _
    refine XT.bipushV X0.here hx rfl (32 : Int32) (hb hby at_29) rfl ?_
    show Steps p.tables e below (s₁.setTop (mkF m 31 #[.val (.long ja), .second, .val (.long jb), .second, .val (.long jc), .second, .val (.long jd), .second, .val (.int x0), .val (.int x1), .val (.int x2), .val (.int x3), .val (.int x4), .unset, .unset, .unset, .unset, .unset, .unset, .unset, .unset] [(.int (32 : Int32)), (.long jc)])) _
    refine XT.lshr X0.here hx rfl (hb hby at_31) rfl ?_
    show Steps p.tables e below (s₁.setTop (mkF m 32 #[.val (.long ja), .second, .val (.long jb), .second, .val (.long jc), .second, .val (.long jd), .second, .val (.int x0), .val (.int x1), .val (.int x2), .val (.int x3), .val (.int x4), .unset, .unset, .unset, .unset, .unset, .unset, .unset, .unset] [(.long (jc >>> ((32 : Int32).toInt64 &&& 63)))])) _
    refine XT.l2i X0.here hx rfl (hb hby at_32) rfl ?_
    show Steps p.tables e below (s₁.setTop (mkF m 33 #[.val (.long ja), .second, .val (.long jb), .second, .val (.long jc), .second, .val (.long jd), .second, .val (.int x0), .val (.int x1), .val (.int x2), .val (.int x3), .val (.int x4), .unset, .unset, .unset, .unset, .unset, .unset, .unset, .unset] [(.int ((jc >>> ((32 : Int32).toInt64 &&& 63)).toInt32))])) _
    refine XS.istore X0.here hx rfl (hb hby at_33) rfl (l' := #[.val (.long ja), .second, .val (.long jb), .second, .val (.long jc), .second, .val (.long jd), .second, .val (.int x0), .val (.int x1), .val (.int x2), .val (.int x3), .val (.int x4), .val (.int ((jc >>> ((32 : Int32).toInt64 &&& 63)).toInt32)), .unset, .unset, .unset, .unset, .unset, .unset, .unset]) rfl ?_
    exact k)
  obtain ⟨x5, q_x5⟩ : ∃ z : Int32, z = ((jc >>> ((32 : Int32).toInt64 &&& 63)).toInt32) := ⟨_, rfl⟩
  rw [← q_x5] at pre6
  have pre7 : ∀ t, Steps p.tables e below (s₁.setTop (mkF m 40 #[.val (.long ja), .second, .val (.long jb), .second, .val (.long jc), .second, .val (.long jd), .second, .val (.int x0), .val (.int x1), .val (.int x2), .val (.int x3), .val (.int x4), .val (.int x5), .val (.int (jd.toInt32)), .unset, .unset, .unset, .unset, .unset, .unset] [])) t → Steps p.tables e below (s₁.setTop (entryFrame m #[(.long ja), (.long jb), (.long jc), (.long jd)] maxLocals)) t := fun t k => pre6 t (by
    show Steps p.tables e below (s₁.setTop (mkF m 35 #[.val (.long ja), .second, .val (.long jb), .second, .val (.long jc), .second, .val (.long jd), .second, .val (.int x0), .val (.int x1), .val (.int x2), .val (.int x3), .val (.int x4), .val (.int x5), .unset, .unset, .unset, .unset, .unset, .unset, .unset] [])) _
    refine XT.lload X0.here hx rfl (hb hby at_35) rfl ?_
    show Steps p.tables e below (s₁.setTop (mkF m 37 #[.val (.long ja), .second, .val (.long jb), .second, .val (.long jc), .second, .val (.long jd), .second, .val (.int x0), .val (.int x1), .val (.int x2), .val (.int x3), .val (.int x4), .val (.int x5), .unset, .unset, .unset, .unset, .unset, .unset, .unset] [(.long jd)])) _
    refine XT.l2i X0.here hx rfl (hb hby at_37) rfl ?_
    show Steps p.tables e below (s₁.setTop (mkF m 38 #[.val (.long ja), .second, .val (.long jb), .second, .val (.long jc), .second, .val (.long jd), .second, .val (.int x0), .val (.int x1), .val (.int x2), .val (.int x3), .val (.int x4), .val (.int x5), .unset, .unset, .unset, .unset, .unset, .unset, .unset] [(.int (jd.toInt32))])) _
    refine XS.istore X0.here hx rfl (hb hby at_38) rfl (l' := #[.val (.long ja), .second, .val (.long jb), .second, .val (.long jc), .second, .val (.long jd), .second, .val (.int x0), .val (.int x1), .val (.int x2), .val (.int x3), .val (.int x4), .val (.int x5), .val (.int (jd.toInt32)), .unset, .unset, .unset, .unset, .unset, .unset]) rfl ?_
    exact k)
  obtain ⟨x6, q_x6⟩ : ∃ z : Int32, z = (jd.toInt32) := ⟨_, rfl⟩
  rw [← q_x6] at pre7
  have pre8 : ∀ t, Steps p.tables e below (s₁.setTop (mkF m 48 #[.val (.long ja), .second, .val (.long jb), .second, .val (.long jc), .second, .val (.long jd), .second, .val (.int x0), .val (.int x1), .val (.int x2), .val (.int x3), .val (.int x4), .val (.int x5), .val (.int x6), .val (.int ((jd >>> ((32 : Int32).toInt64 &&& 63)).toInt32)), .unset, .unset, .unset, .unset, .unset] [])) t → Steps p.tables e below (s₁.setTop (entryFrame m #[(.long ja), (.long jb), (.long jc), (.long jd)] maxLocals)) t := fun t k => pre7 t (by
    show Steps p.tables e below (s₁.setTop (mkF m 40 #[.val (.long ja), .second, .val (.long jb), .second, .val (.long jc), .second, .val (.long jd), .second, .val (.int x0), .val (.int x1), .val (.int x2), .val (.int x3), .val (.int x4), .val (.int x5), .val (.int x6), .unset, .unset, .unset, .unset, .unset, .unset] [])) _
    refine XT.lload X0.here hx rfl (hb hby at_40) rfl ?_
    show Steps p.tables e below (s₁.setTop (mkF m 42 #[.val (.long ja), .second, .val (.long jb), .second, .val (.long jc), .second, .val (.long jd), .second, .val (.int x0), .val (.int x1), .val (.int x2), .val (.int x3), .val (.int x4), .val (.int x5), .val (.int x6), .unset, .unset, .unset, .unset, .unset, .unset] [(.long jd)])) _
    refine XT.bipushV X0.here hx rfl (32 : Int32) (hb hby at_42) rfl ?_
    show Steps p.tables e below (s₁.setTop (mkF m 44 #[.val (.long ja), .second, .val (.long jb), .second, .val (.long jc), .second, .val (.long jd), .second, .val (.int x0), .val (.int x1), .val (.int x2), .val (.int x3), .val (.int x4), .val (.int x5), .val (.int x6), .unset, .unset, .unset, .unset, .unset, .unset] [(.int (32 : Int32)), (.long jd)])) _
    refine XT.lshr X0.here hx rfl (hb hby at_44) rfl ?_
    show Steps p.tables e below (s₁.setTop (mkF m 45 #[.val (.long ja), .second, .val (.long jb), .second, .val (.long jc), .second, .val (.long jd), .second, .val (.int x0), .val (.int x1), .val (.int x2), .val (.int x3), .val (.int x4), .val (.int x5), .val (.int x6), .unset, .unset, .unset, .unset, .unset, .unset] [(.long (jd >>> ((32 : Int32).toInt64 &&& 63)))])) _
    refine XT.l2i X0.here hx rfl (hb hby at_45) rfl ?_
    show Steps p.tables e below (s₁.setTop (mkF m 46 #[.val (.long ja), .second, .val (.long jb), .second, .val (.long jc), .second, .val (.long jd), .second, .val (.int x0), .val (.int x1), .val (.int x2), .val (.int x3), .val (.int x4), .val (.int x5), .val (.int x6), .unset, .unset, .unset, .unset, .unset, .unset] [(.int ((jd >>> ((32 : Int32).toInt64 &&& 63)).toInt32))])) _
    refine XS.istore X0.here hx rfl (hb hby at_46) rfl (l' := #[.val (.long ja), .second, .val (.long jb), .second, .val (.long jc), .second, .val (.long jd), .second, .val (.int x0), .val (.int x1), .val (.int x2), .val (.int x3), .val (.int x4), .val (.int x5), .val (.int x6), .val (.int ((jd >>> ((32 : Int32).toInt64 &&& 63)).toInt32)), .unset, .unset, .unset, .unset, .unset]) rfl ?_
    exact k)
  obtain ⟨x7, q_x7⟩ : ∃ z : Int32, z = ((jd >>> ((32 : Int32).toInt64 &&& 63)).toInt32) := ⟨_, rfl⟩
  rw [← q_x7] at pre8
  obtain ⟨T9, h9, X9, e9, E9, A9, D9, -, st9⟩ := newO X0 hx hZ hown (hw _ (List.mem_of_getElem? (i := 0) rfl)) (hw _ (List.mem_of_getElem? (i := 1) rfl)) (hw _ (List.mem_of_getElem? (i := 2) rfl)) e0 (g := (mkF m 48 #[.val (.long ja), .second, .val (.long jb), .second, .val (.long jc), .second, .val (.long jd), .second, .val (.int x0), .val (.int x1), .val (.int x2), .val (.int x3), .val (.int x4), .val (.int x5), .val (.int x6), .val (.int x7), .unset, .unset, .unset, .unset, .unset] [])) rfl (hb hby at_48) (by decide) (by decide)
  obtain ⟨ob9, g9⟩ : ∃ z, z = h0.size := ⟨_, rfl⟩
  rw [← g9] at A9 D9 st9
  have sz9 : n0 ≤ h9.size := Nat.le_trans Z0 E9.1
  have gn_ob9 : n0 ≤ ob9 := Nat.le_trans Z0 (Nat.le_of_eq g9.symm)
  have bo_ob9 : h0.size ≤ ob9 := Nat.le_trans (Keep.refl h0 []).1 (Nat.le_of_eq g9.symm)
  have K9 : Keep h0 h9 [] := (Keep.refl h0 []).ext E9
  have F0_from_ob9 : Fld Z h9 ob9 "com/example/traversim/traversim/aodv/Packet$Rreq" "from" "I" (.int (0 : Int32)) := D9 (Or.inr (hw _ (List.mem_of_getElem? (i := 15) rfl))) (ty := .int) (by decide)
  have F0_to_ob9 : Fld Z h9 ob9 "com/example/traversim/traversim/aodv/Packet$Rreq" "to" "I" (.int (0 : Int32)) := D9 (Or.inr (hw _ (List.mem_of_getElem? (i := 17) rfl))) (ty := .int) (by decide)
  have F0_orig_ob9 : Fld Z h9 ob9 "com/example/traversim/traversim/aodv/Packet$Rreq" "orig" "I" (.int (0 : Int32)) := D9 (Or.inr (hw _ (List.mem_of_getElem? (i := 19) rfl))) (ty := .int) (by decide)
  have F0_bid_ob9 : Fld Z h9 ob9 "com/example/traversim/traversim/aodv/Packet$Rreq" "bid" "I" (.int (0 : Int32)) := D9 (Or.inr (hw _ (List.mem_of_getElem? (i := 21) rfl))) (ty := .int) (by decide)
  have F0_hops_ob9 : Fld Z h9 ob9 "com/example/traversim/traversim/aodv/Packet$Rreq" "hops" "I" (.int (0 : Int32)) := D9 (Or.inr (hw _ (List.mem_of_getElem? (i := 23) rfl))) (ty := .int) (by decide)
  have F0_dst_ob9 : Fld Z h9 ob9 "com/example/traversim/traversim/aodv/Packet$Rreq" "dst" "I" (.int (0 : Int32)) := D9 (Or.inr (hw _ (List.mem_of_getElem? (i := 25) rfl))) (ty := .int) (by decide)
  have F0_dstseq_ob9 : Fld Z h9 ob9 "com/example/traversim/traversim/aodv/Packet$Rreq" "dstseq" "I" (.int (0 : Int32)) := D9 (Or.inr (hw _ (List.mem_of_getElem? (i := 27) rfl))) (ty := .int) (by decide)
  have F0_origseq_ob9 : Fld Z h9 ob9 "com/example/traversim/traversim/aodv/Packet$Rreq" "origseq" "I" (.int (0 : Int32)) := D9 (Or.inr (hw _ (List.mem_of_getElem? (i := 29) rfl))) (ty := .int) (by decide)
  obtain ⟨_, _, ⟨T10, tL10, tk10, tn10⟩, -, X10, ⟨Lc10, hQ10, tl10, ty10, tz10⟩, st10⟩ := X9.specialBack hx (y := (⟨"com/example/traversim/traversim/aodv/Packet$Rreq", "<init>", "(IIIIIIII)V"⟩ : MethodName)) rfl hown (mvT hZ (hw _ (List.mem_of_getElem? (i := 3) rfl))) (mvT hZ (hw _ (List.mem_of_getElem? (i := 4) rfl))) (mvT hZ (hw _ (List.mem_of_getElem? (i := 5) rfl))) (by decide) (backOf (W := 1) (own_rm1 l Z a0 hw [] ob9 x0 x1 x2 x3 x4 x5 x6 x7 ((.int (0 : Int32)) : Value) ((.int (0 : Int32)) : Value) ((.int (0 : Int32)) : Value) ((.int (0 : Int32)) : Value) ((.int (0 : Int32)) : Value) ((.int (0 : Int32)) : Value) ((.int (0 : Int32)) : Value) ((.int (0 : Int32)) : Value) h9 n0 sz9 A9 F0_from_ob9 F0_to_ob9 F0_orig_ob9 F0_bid_ob9 F0_hops_ob9 F0_dst_ob9 F0_dstseq_ob9 F0_origseq_ob9 gn_ob9) hZ (hw _ (List.mem_of_getElem? (i := 5) rfl)) (hw _ (List.mem_of_getElem? (i := 2) rfl)) (by decide) (by decide)) (g := (mkF m 68 #[.val (.long ja), .second, .val (.long jb), .second, .val (.long jc), .second, .val (.long jd), .second, .val (.int x0), .val (.int x1), .val (.int x2), .val (.int x3), .val (.int x4), .val (.int x5), .val (.int x6), .val (.int x7), .unset, .unset, .unset, .unset, .unset] [(.int x7), (.int x6), (.int x5), (.int x4), (.int x3), (.int x2), (.int x1), (.int x0), (.ref ob9), (.ref ob9)])) rfl (by rw [hml]; rfl) (Steps.refl _) (a := ob9) (argsL := [(.int x0), (.int x1), (.int x2), (.int x3), (.int x4), (.int x5), (.int x6), (.int x7)]) (rest := [(.ref ob9)]) (lenOf own_pd1 rfl) rfl (by show 2 * 0 + _ ≤ _; exact Nat.le_of_eq rfl) (hb hby at_68) (fun _ _ => ⟨rfl, e9, (by decide : 1 + 0 ≤ _), (by decide : 8 + 0 ≤ _)⟩)
  dsimp only [Pt.U, Pt.locs, Pt.cells, Pt.slots] at X10 tl10 ty10 tz10 st10 hQ10
  rw [tl10, ty10, tz10] at X10
  obtain ⟨rfl, Nq10, K10, Fa10_E_a1, Fa10_F_a1_from, Fa10_F_a1_to, Fa10_F_a1_orig, Fa10_F_a1_bid, Fa10_F_a1_hops, Fa10_F_a1_dst, Fa10_F_a1_dstseq, Fa10_F_a1_origseq⟩ := hQ10
  have N10 := Fr.app N0 Nq10
  have sz10 : n0 ≤ T10.heap.size := Nat.le_trans sz9 K10.1
  have KK10 : Keep h0 T10.heap [] := K9.trans K10 (allS (Or.inr bo_ob9) all0)
  obtain ⟨T11, h11, X11, e11, E11, A11, D11, -, st11⟩ := newO X10 hx hZ hown (hw _ (List.mem_of_getElem? (i := 0) rfl)) (hw _ (List.mem_of_getElem? (i := 1) rfl)) (hw _ (List.mem_of_getElem? (i := 2) rfl)) rfl (g := (mkF m 73 #[.val (.long ja), .second, .val (.long jb), .second, .val (.long jc), .second, .val (.long jd), .second, .val (.int x0), .val (.int x1), .val (.int x2), .val (.int x3), .val (.int x4), .val (.int x5), .val (.int x6), .val (.int x7), .val (.ref ob9), .unset, .unset, .unset, .unset] [])) rfl (hb hby at_73) (by decide) (by decide)
  obtain ⟨ob11, g11⟩ : ∃ z, z = T10.heap.size := ⟨_, rfl⟩
  rw [← g11] at A11 D11 st11
  have ne_ob9_ob11 : ob9 ≠ ob11 := Nat.ne_of_lt (Nat.lt_of_lt_of_le Fa10_E_a1.lt (Nat.le_of_eq g11.symm))
  have sz11 : n0 ≤ h11.size := Nat.le_trans sz10 E11.1
  have gn_ob11 : n0 ≤ ob11 := Nat.le_trans sz10 (Nat.le_of_eq g11.symm)
  have bo_ob11 : h0.size ≤ ob11 := Nat.le_trans KK10.1 (Nat.le_of_eq g11.symm)
  have K11 : Keep h0 h11 [] := KK10.ext E11
  have F0_from_ob11 : Fld Z h11 ob11 "com/example/traversim/traversim/aodv/Packet$Rreq" "from" "I" (.int (0 : Int32)) := D11 (Or.inr (hw _ (List.mem_of_getElem? (i := 15) rfl))) (ty := .int) (by decide)
  have F0_to_ob11 : Fld Z h11 ob11 "com/example/traversim/traversim/aodv/Packet$Rreq" "to" "I" (.int (0 : Int32)) := D11 (Or.inr (hw _ (List.mem_of_getElem? (i := 17) rfl))) (ty := .int) (by decide)
  have F0_orig_ob11 : Fld Z h11 ob11 "com/example/traversim/traversim/aodv/Packet$Rreq" "orig" "I" (.int (0 : Int32)) := D11 (Or.inr (hw _ (List.mem_of_getElem? (i := 19) rfl))) (ty := .int) (by decide)
  have F0_bid_ob11 : Fld Z h11 ob11 "com/example/traversim/traversim/aodv/Packet$Rreq" "bid" "I" (.int (0 : Int32)) := D11 (Or.inr (hw _ (List.mem_of_getElem? (i := 21) rfl))) (ty := .int) (by decide)
  have F0_hops_ob11 : Fld Z h11 ob11 "com/example/traversim/traversim/aodv/Packet$Rreq" "hops" "I" (.int (0 : Int32)) := D11 (Or.inr (hw _ (List.mem_of_getElem? (i := 23) rfl))) (ty := .int) (by decide)
  have F0_dst_ob11 : Fld Z h11 ob11 "com/example/traversim/traversim/aodv/Packet$Rreq" "dst" "I" (.int (0 : Int32)) := D11 (Or.inr (hw _ (List.mem_of_getElem? (i := 25) rfl))) (ty := .int) (by decide)
  have F0_dstseq_ob11 : Fld Z h11 ob11 "com/example/traversim/traversim/aodv/Packet$Rreq" "dstseq" "I" (.int (0 : Int32)) := D11 (Or.inr (hw _ (List.mem_of_getElem? (i := 27) rfl))) (ty := .int) (by decide)
  have F0_origseq_ob11 : Fld Z h11 ob11 "com/example/traversim/traversim/aodv/Packet$Rreq" "origseq" "I" (.int (0 : Int32)) := D11 (Or.inr (hw _ (List.mem_of_getElem? (i := 29) rfl))) (ty := .int) (by decide)
  obtain ⟨_, _, ⟨T12, tL12, tk12, tn12⟩, -, X12, ⟨Lc12, hQ12, tl12, ty12, tz12⟩, st12⟩ := X11.specialBack hx (y := (⟨"com/example/traversim/traversim/aodv/Packet$Rreq", "<init>", "(IIIIIIII)V"⟩ : MethodName)) rfl hown (mvT hZ (hw _ (List.mem_of_getElem? (i := 3) rfl))) (mvT hZ (hw _ (List.mem_of_getElem? (i := 4) rfl))) (mvT hZ (hw _ (List.mem_of_getElem? (i := 5) rfl))) (by decide) (backOf (W := 1) (own_rm1 l Z a0 hw [] ob11 x0 x1 x2 x3 x4 x5 x6 x7 ((.int (0 : Int32)) : Value) ((.int (0 : Int32)) : Value) ((.int (0 : Int32)) : Value) ((.int (0 : Int32)) : Value) ((.int (0 : Int32)) : Value) ((.int (0 : Int32)) : Value) ((.int (0 : Int32)) : Value) ((.int (0 : Int32)) : Value) h11 n0 sz11 A11 F0_from_ob11 F0_to_ob11 F0_orig_ob11 F0_bid_ob11 F0_hops_ob11 F0_dst_ob11 F0_dstseq_ob11 F0_origseq_ob11 gn_ob11) hZ (hw _ (List.mem_of_getElem? (i := 5) rfl)) (hw _ (List.mem_of_getElem? (i := 2) rfl)) (by decide) (by decide)) (g := (mkF m 93 #[.val (.long ja), .second, .val (.long jb), .second, .val (.long jc), .second, .val (.long jd), .second, .val (.int x0), .val (.int x1), .val (.int x2), .val (.int x3), .val (.int x4), .val (.int x5), .val (.int x6), .val (.int x7), .val (.ref ob9), .unset, .unset, .unset, .unset] [(.int x7), (.int x6), (.int x5), (.int x4), (.int x3), (.int x2), (.int x1), (.int x0), (.ref ob11), (.ref ob11)])) rfl (by rw [hml]; rfl) (Steps.refl _) (a := ob11) (argsL := [(.int x0), (.int x1), (.int x2), (.int x3), (.int x4), (.int x5), (.int x6), (.int x7)]) (rest := [(.ref ob11)]) (lenOf own_pd1 rfl) rfl (by show 2 * 0 + _ ≤ _; exact Nat.le_of_eq rfl) (hb hby at_93) (fun _ _ => ⟨rfl, e11, (by decide : 2 + 0 ≤ _), (by decide : 16 + 0 ≤ _)⟩)
  dsimp only [Pt.U, Pt.locs, Pt.cells, Pt.slots] at X12 tl12 ty12 tz12 st12 hQ12
  rw [tl12, ty12, tz12] at X12
  obtain ⟨rfl, Nq12, K12, Fa12_E_a1, Fa12_F_a1_from, Fa12_F_a1_to, Fa12_F_a1_orig, Fa12_F_a1_bid, Fa12_F_a1_hops, Fa12_F_a1_dst, Fa12_F_a1_dstseq, Fa12_F_a1_origseq⟩ := hQ12
  have N12 := Fr.app N10 Nq12
  have sz12 : n0 ≤ T12.heap.size := Nat.le_trans sz11 K12.1
  have KK12 : Keep h0 T12.heap [] := K11.trans K12 (allS (Or.inr bo_ob11) all0)
  have FE_ob9_13 : Exa Z T12.heap ob9 "com/example/traversim/traversim/aodv/Packet$Rreq" := ((Fa10_E_a1.ext E11).keep K12)
  have FF_ob9_from_14 : Fld Z T12.heap ob9 "com/example/traversim/traversim/aodv/Packet$Rreq" "from" "I" (.int x0) := ((Fa10_F_a1_from.ext E11).keep K12 (ninS ne_ob9_ob11 nin0))
  have FF_ob9_to_15 : Fld Z T12.heap ob9 "com/example/traversim/traversim/aodv/Packet$Rreq" "to" "I" (.int x1) := ((Fa10_F_a1_to.ext E11).keep K12 (ninS ne_ob9_ob11 nin0))
  have FF_ob9_orig_16 : Fld Z T12.heap ob9 "com/example/traversim/traversim/aodv/Packet$Rreq" "orig" "I" (.int x2) := ((Fa10_F_a1_orig.ext E11).keep K12 (ninS ne_ob9_ob11 nin0))
  have FF_ob9_bid_17 : Fld Z T12.heap ob9 "com/example/traversim/traversim/aodv/Packet$Rreq" "bid" "I" (.int x3) := ((Fa10_F_a1_bid.ext E11).keep K12 (ninS ne_ob9_ob11 nin0))
  have FF_ob9_hops_18 : Fld Z T12.heap ob9 "com/example/traversim/traversim/aodv/Packet$Rreq" "hops" "I" (.int x4) := ((Fa10_F_a1_hops.ext E11).keep K12 (ninS ne_ob9_ob11 nin0))
  have FF_ob9_dst_19 : Fld Z T12.heap ob9 "com/example/traversim/traversim/aodv/Packet$Rreq" "dst" "I" (.int x5) := ((Fa10_F_a1_dst.ext E11).keep K12 (ninS ne_ob9_ob11 nin0))
  have FF_ob9_dstseq_20 : Fld Z T12.heap ob9 "com/example/traversim/traversim/aodv/Packet$Rreq" "dstseq" "I" (.int x6) := ((Fa10_F_a1_dstseq.ext E11).keep K12 (ninS ne_ob9_ob11 nin0))
  have FF_ob9_origseq_21 : Fld Z T12.heap ob9 "com/example/traversim/traversim/aodv/Packet$Rreq" "origseq" "I" (.int x7) := ((Fa10_F_a1_origseq.ext E11).keep K12 (ninS ne_ob9_ob11 nin0))
  obtain ⟨cq22, kq22, q22a, q22b, q22c⟩ := isOf hZ rfl FE_ob9_13
  obtain ⟨_, _, ⟨T22, tL22, tk22, tn22⟩, -, X22, ⟨Lc22, hQ22, tl22, ty22, tz22⟩, st22⟩ := X12.virtualBack hx (y := (⟨"com/example/traversim/traversim/aodv/Packet$Rreq", "hashCode", "()I"⟩ : MethodName)) (z := (⟨"com/example/traversim/traversim/aodv/Packet$Rreq", "hashCode", "()I"⟩ : MethodName)) hown (mvT hZ (hw _ (List.mem_of_getElem? (i := 34) rfl))) (mvT hZ (hw _ (List.mem_of_getElem? (i := 35) rfl))) (notFace_of_selects (args := #[]) (mvT hZ (hw _ (List.mem_of_getElem? (i := 37) rfl)))) (mvT hZ (hw _ (List.mem_of_getElem? (i := 37) rfl))) (mvT hZ (hw _ (List.mem_of_getElem? (i := 36) rfl))) (by decide) (backOf (W := 0) (own_rm4 l Z a0 hw [] ob9 x0 x1 x2 x3 x4 x5 x6 x7 T12.heap n0 sz12 FE_ob9_13 FF_ob9_from_14 FF_ob9_to_15 FF_ob9_orig_16 FF_ob9_bid_17 FF_ob9_hops_18 FF_ob9_dst_19 FF_ob9_dstseq_20 FF_ob9_origseq_21) hZ (hw _ (List.mem_of_getElem? (i := 38) rfl)) (hw _ (List.mem_of_getElem? (i := 2) rfl)) (by decide) (by decide)) q22a q22c (g := (mkF m 148 #[.val (.long ja), .second, .val (.long jb), .second, .val (.long jc), .second, .val (.long jd), .second, .val (.int x0), .val (.int x1), .val (.int x2), .val (.int x3), .val (.int x4), .val (.int x5), .val (.int x6), .val (.int x7), .val (.ref ob9), .val (.ref ob11), .val (.int ((((((((x0 * (1742810335 : Int32)) + (x1 * (887503681 : Int32))) + (x2 * (28629151 : Int32))) + (x3 * (923521 : Int32))) + (x4 * (29791 : Int32))) + (x5 * (961 : Int32))) + (x6 * (31 : Int32))) + x7)), .unset, .unset] [(.ref ob9)])) rfl (by rw [hml]; rfl) (Steps.refl _) (argsL := []) (rest := []) (lenOf own_pd2 rfl) rfl (by show 2 * 0 + _ ≤ _; exact Nat.le_of_eq rfl) (hb hby at_148) (fun _ _ => ⟨rfl, rfl, (by decide : 2 + 0 ≤ _), (by decide : 16 + 0 ≤ _)⟩)
  dsimp only [Pt.U, Pt.locs, Pt.cells, Pt.slots] at X22 tl22 ty22 tz22 st22 hQ22
  rw [tl22, ty22, tz22] at X22
  obtain ⟨rfl, Nq22, K22⟩ := hQ22
  have N22 := Fr.app N12 Nq22
  obtain ⟨cq23, kq23, q23a, q23b, q23c⟩ := isOf hZ K22 Fa12_E_a1
  obtain ⟨_, _, ⟨T23, tL23, tk23, tn23⟩, -, X23, ⟨Lc23, hQ23, tl23, ty23, tz23⟩, st23⟩ := X22.virtualBack hx (y := (⟨"com/example/traversim/traversim/aodv/Packet$Rreq", "hashCode", "()I"⟩ : MethodName)) (z := (⟨"com/example/traversim/traversim/aodv/Packet$Rreq", "hashCode", "()I"⟩ : MethodName)) hown (mvT hZ (hw _ (List.mem_of_getElem? (i := 34) rfl))) (mvT hZ (hw _ (List.mem_of_getElem? (i := 35) rfl))) (notFace_of_selects (args := #[]) (mvT hZ (hw _ (List.mem_of_getElem? (i := 37) rfl)))) (mvT hZ (hw _ (List.mem_of_getElem? (i := 37) rfl))) (mvT hZ (hw _ (List.mem_of_getElem? (i := 36) rfl))) (by decide) (backOf (W := 0) (own_rm4 l Z a0 hw [] ob11 x0 x1 x2 x3 x4 x5 x6 x7 T12.heap n0 sz12 Fa12_E_a1 Fa12_F_a1_from Fa12_F_a1_to Fa12_F_a1_orig Fa12_F_a1_bid Fa12_F_a1_hops Fa12_F_a1_dst Fa12_F_a1_dstseq Fa12_F_a1_origseq) hZ (hw _ (List.mem_of_getElem? (i := 38) rfl)) (hw _ (List.mem_of_getElem? (i := 2) rfl)) (by decide) (by decide)) q23a q23c (g := (mkF m 155 #[.val (.long ja), .second, .val (.long jb), .second, .val (.long jc), .second, .val (.long jd), .second, .val (.int x0), .val (.int x1), .val (.int x2), .val (.int x3), .val (.int x4), .val (.int x5), .val (.int x6), .val (.int x7), .val (.ref ob9), .val (.ref ob11), .val (.int ((((((((x0 * (1742810335 : Int32)) + (x1 * (887503681 : Int32))) + (x2 * (28629151 : Int32))) + (x3 * (923521 : Int32))) + (x4 * (29791 : Int32))) + (x5 * (961 : Int32))) + (x6 * (31 : Int32))) + x7)), .val (.int (own_hash x0 x1 x2 x3 x4 x5 x6 x7)), .unset] [(.ref ob11)])) rfl (by rw [hml]; rfl) (Steps.refl _) (argsL := []) (rest := []) (lenOf own_pd2 rfl) rfl (by show 2 * 0 + _ ≤ _; exact Nat.le_of_eq rfl) (hb hby at_155) (fun _ _ => ⟨rfl, K22, (by decide : 2 + 0 ≤ _), (by decide : 16 + 0 ≤ _)⟩)
  dsimp only [Pt.U, Pt.locs, Pt.cells, Pt.slots] at X23 tl23 ty23 tz23 st23 hQ23
  rw [tl23, ty23, tz23] at X23
  obtain ⟨rfl, Nq23, K23⟩ := hQ23
  have N23 := Fr.app N22 Nq23
  obtain ⟨cq24, kq24, q24a, q24b, q24c⟩ := isOf hZ K23 FE_ob9_13
  obtain ⟨_, _, ⟨T24, tL24, tk24, tn24⟩, -, X24, ⟨Lc24, hQ24, tl24, ty24, tz24⟩, st24⟩ := X23.virtualBack hx (y := (⟨"com/example/traversim/traversim/aodv/Packet$Rreq", "equals", "(Ljava/lang/Object;)Z"⟩ : MethodName)) (z := (⟨"com/example/traversim/traversim/aodv/Packet$Rreq", "equals", "(Ljava/lang/Object;)Z"⟩ : MethodName)) hown (mvT hZ (hw _ (List.mem_of_getElem? (i := 39) rfl))) (mvT hZ (hw _ (List.mem_of_getElem? (i := 40) rfl))) (notFace_of_selects (args := #[]) (mvT hZ (hw _ (List.mem_of_getElem? (i := 42) rfl)))) (mvT hZ (hw _ (List.mem_of_getElem? (i := 42) rfl))) (mvT hZ (hw _ (List.mem_of_getElem? (i := 41) rfl))) (by decide) (backOf (W := 0) (own_rm5 l Z a0 hw [] ob9 ob11 x0 x1 x2 x3 x4 x5 x6 x7 x0 x1 x2 x3 x4 x5 x6 x7 T12.heap n0 sz12 FE_ob9_13 FF_ob9_from_14 FF_ob9_to_15 FF_ob9_orig_16 FF_ob9_bid_17 FF_ob9_hops_18 FF_ob9_dst_19 FF_ob9_dstseq_20 FF_ob9_origseq_21 Fa12_E_a1 Fa12_F_a1_from Fa12_F_a1_to Fa12_F_a1_orig Fa12_F_a1_bid Fa12_F_a1_hops Fa12_F_a1_dst Fa12_F_a1_dstseq Fa12_F_a1_origseq) hZ (hw _ (List.mem_of_getElem? (i := 43) rfl)) (hw _ (List.mem_of_getElem? (i := 2) rfl)) (by decide) (by decide)) q24a q24c (g := (mkF m 178 #[.val (.long ja), .second, .val (.long jb), .second, .val (.long jc), .second, .val (.long jd), .second, .val (.int x0), .val (.int x1), .val (.int x2), .val (.int x3), .val (.int x4), .val (.int x5), .val (.int x6), .val (.int x7), .val (.ref ob9), .val (.ref ob11), .val (.int ((((((((x0 * (1742810335 : Int32)) + (x1 * (887503681 : Int32))) + (x2 * (28629151 : Int32))) + (x3 * (923521 : Int32))) + (x4 * (29791 : Int32))) + (x5 * (961 : Int32))) + (x6 * (31 : Int32))) + x7)), .val (.int (own_hash x0 x1 x2 x3 x4 x5 x6 x7)), .val (.int (own_hash x0 x1 x2 x3 x4 x5 x6 x7))] [(.ref ob11), (.ref ob9)])) rfl (by rw [hml]; rfl) (Steps.refl _) (argsL := [(.ref ob11)]) (rest := []) (lenOf own_pd3 rfl) rfl (by show 2 * 0 + _ ≤ _; exact Nat.le_of_eq rfl) (hb hby at_178) (fun _ _ => ⟨rfl, K23, (by decide : 2 + 0 ≤ _), (by decide : 16 + 0 ≤ _)⟩)
  dsimp only [Pt.U, Pt.locs, Pt.cells, Pt.slots] at X24 tl24 ty24 tz24 st24 hQ24
  rw [tl24, ty24, tz24] at X24
  obtain ⟨rfl, Nq24, K24⟩ := hQ24
  have N24 := Fr.app N23 Nq24
  obtain ⟨fs, hr, hrun, hended, hW, hsame⟩ := X24.leave (v := some (.int (1 : Int32))) (fun h => by rw [Bd.returns] at h; cases h)
  refine ⟨_, _, pre8 _ ?_, hrun, hended, _, _, rfl, ?_, ⟨_, rfl⟩, hW, hsame.mono (by decide) (by decide)⟩
  · show Steps p.tables e below (s₁.setTop (mkF m 48 #[.val (.long ja), .second, .val (.long jb), .second, .val (.long jc), .second, .val (.long jd), .second, .val (.int x0), .val (.int x1), .val (.int x2), .val (.int x3), .val (.int x4), .val (.int x5), .val (.int x6), .val (.int x7), .unset, .unset, .unset, .unset, .unset] [])) _
    refine st9 _ ?_
    show Steps p.tables e below (T9.setTop (mkF m 51 #[.val (.long ja), .second, .val (.long jb), .second, .val (.long jc), .second, .val (.long jd), .second, .val (.int x0), .val (.int x1), .val (.int x2), .val (.int x3), .val (.int x4), .val (.int x5), .val (.int x6), .val (.int x7), .unset, .unset, .unset, .unset, .unset] [(.ref ob9)])) _
    refine XS.dup X9.here hx rfl (hb hby at_51) rfl rfl ?_
    show Steps p.tables e below (T9.setTop (mkF m 52 #[.val (.long ja), .second, .val (.long jb), .second, .val (.long jc), .second, .val (.long jd), .second, .val (.int x0), .val (.int x1), .val (.int x2), .val (.int x3), .val (.int x4), .val (.int x5), .val (.int x6), .val (.int x7), .unset, .unset, .unset, .unset, .unset] [(.ref ob9), (.ref ob9)])) _
    refine XS.iload X9.here hx rfl (hb hby at_52) rfl ?_
    show Steps p.tables e below (T9.setTop (mkF m 54 #[.val (.long ja), .second, .val (.long jb), .second, .val (.long jc), .second, .val (.long jd), .second, .val (.int x0), .val (.int x1), .val (.int x2), .val (.int x3), .val (.int x4), .val (.int x5), .val (.int x6), .val (.int x7), .unset, .unset, .unset, .unset, .unset] [(.int x0), (.ref ob9), (.ref ob9)])) _
    refine XS.iload X9.here hx rfl (hb hby at_54) rfl ?_
    show Steps p.tables e below (T9.setTop (mkF m 56 #[.val (.long ja), .second, .val (.long jb), .second, .val (.long jc), .second, .val (.long jd), .second, .val (.int x0), .val (.int x1), .val (.int x2), .val (.int x3), .val (.int x4), .val (.int x5), .val (.int x6), .val (.int x7), .unset, .unset, .unset, .unset, .unset] [(.int x1), (.int x0), (.ref ob9), (.ref ob9)])) _
    refine XS.iload X9.here hx rfl (hb hby at_56) rfl ?_
    show Steps p.tables e below (T9.setTop (mkF m 58 #[.val (.long ja), .second, .val (.long jb), .second, .val (.long jc), .second, .val (.long jd), .second, .val (.int x0), .val (.int x1), .val (.int x2), .val (.int x3), .val (.int x4), .val (.int x5), .val (.int x6), .val (.int x7), .unset, .unset, .unset, .unset, .unset] [(.int x2), (.int x1), (.int x0), (.ref ob9), (.ref ob9)])) _
    refine XS.iload X9.here hx rfl (hb hby at_58) rfl ?_
    show Steps p.tables e below (T9.setTop (mkF m 60 #[.val (.long ja), .second, .val (.long jb), .second, .val (.long jc), .second, .val (.long jd), .second, .val (.int x0), .val (.int x1), .val (.int x2), .val (.int x3), .val (.int x4), .val (.int x5), .val (.int x6), .val (.int x7), .unset, .unset, .unset, .unset, .unset] [(.int x3), (.int x2), (.int x1), (.int x0), (.ref ob9), (.ref ob9)])) _
    refine XS.iload X9.here hx rfl (hb hby at_60) rfl ?_
    show Steps p.tables e below (T9.setTop (mkF m 62 #[.val (.long ja), .second, .val (.long jb), .second, .val (.long jc), .second, .val (.long jd), .second, .val (.int x0), .val (.int x1), .val (.int x2), .val (.int x3), .val (.int x4), .val (.int x5), .val (.int x6), .val (.int x7), .unset, .unset, .unset, .unset, .unset] [(.int x4), (.int x3), (.int x2), (.int x1), (.int x0), (.ref ob9), (.ref ob9)])) _
    refine XS.iload X9.here hx rfl (hb hby at_62) rfl ?_
    show Steps p.tables e below (T9.setTop (mkF m 64 #[.val (.long ja), .second, .val (.long jb), .second, .val (.long jc), .second, .val (.long jd), .second, .val (.int x0), .val (.int x1), .val (.int x2), .val (.int x3), .val (.int x4), .val (.int x5), .val (.int x6), .val (.int x7), .unset, .unset, .unset, .unset, .unset] [(.int x5), (.int x4), (.int x3), (.int x2), (.int x1), (.int x0), (.ref ob9), (.ref ob9)])) _
    refine XS.iload X9.here hx rfl (hb hby at_64) rfl ?_
    show Steps p.tables e below (T9.setTop (mkF m 66 #[.val (.long ja), .second, .val (.long jb), .second, .val (.long jc), .second, .val (.long jd), .second, .val (.int x0), .val (.int x1), .val (.int x2), .val (.int x3), .val (.int x4), .val (.int x5), .val (.int x6), .val (.int x7), .unset, .unset, .unset, .unset, .unset] [(.int x6), (.int x5), (.int x4), (.int x3), (.int x2), (.int x1), (.int x0), (.ref ob9), (.ref ob9)])) _
    refine XS.iload X9.here hx rfl (hb hby at_66) rfl ?_
    show Steps p.tables e below (T9.setTop (mkF m 68 #[.val (.long ja), .second, .val (.long jb), .second, .val (.long jc), .second, .val (.long jd), .second, .val (.int x0), .val (.int x1), .val (.int x2), .val (.int x3), .val (.int x4), .val (.int x5), .val (.int x6), .val (.int x7), .unset, .unset, .unset, .unset, .unset] [(.int x7), (.int x6), (.int x5), (.int x4), (.int x3), (.int x2), (.int x1), (.int x0), (.ref ob9), (.ref ob9)])) _
    refine st10.trans ?_
    show Steps p.tables e below (T10.setTop (mkF m 71 #[.val (.long ja), .second, .val (.long jb), .second, .val (.long jc), .second, .val (.long jd), .second, .val (.int x0), .val (.int x1), .val (.int x2), .val (.int x3), .val (.int x4), .val (.int x5), .val (.int x6), .val (.int x7), .unset, .unset, .unset, .unset, .unset] [(.ref ob9)])) _
    refine XS.astore X10.here hx rfl (hb hby at_71) rfl rfl (l' := #[.val (.long ja), .second, .val (.long jb), .second, .val (.long jc), .second, .val (.long jd), .second, .val (.int x0), .val (.int x1), .val (.int x2), .val (.int x3), .val (.int x4), .val (.int x5), .val (.int x6), .val (.int x7), .val (.ref ob9), .unset, .unset, .unset, .unset]) rfl ?_
    show Steps p.tables e below (T10.setTop (mkF m 73 #[.val (.long ja), .second, .val (.long jb), .second, .val (.long jc), .second, .val (.long jd), .second, .val (.int x0), .val (.int x1), .val (.int x2), .val (.int x3), .val (.int x4), .val (.int x5), .val (.int x6), .val (.int x7), .val (.ref ob9), .unset, .unset, .unset, .unset] [])) _
    refine st11 _ ?_
    show Steps p.tables e below (T11.setTop (mkF m 76 #[.val (.long ja), .second, .val (.long jb), .second, .val (.long jc), .second, .val (.long jd), .second, .val (.int x0), .val (.int x1), .val (.int x2), .val (.int x3), .val (.int x4), .val (.int x5), .val (.int x6), .val (.int x7), .val (.ref ob9), .unset, .unset, .unset, .unset] [(.ref ob11)])) _
    refine XS.dup X11.here hx rfl (hb hby at_76) rfl rfl ?_
    show Steps p.tables e below (T11.setTop (mkF m 77 #[.val (.long ja), .second, .val (.long jb), .second, .val (.long jc), .second, .val (.long jd), .second, .val (.int x0), .val (.int x1), .val (.int x2), .val (.int x3), .val (.int x4), .val (.int x5), .val (.int x6), .val (.int x7), .val (.ref ob9), .unset, .unset, .unset, .unset] [(.ref ob11), (.ref ob11)])) _
    refine XS.iload X11.here hx rfl (hb hby at_77) rfl ?_
    show Steps p.tables e below (T11.setTop (mkF m 79 #[.val (.long ja), .second, .val (.long jb), .second, .val (.long jc), .second, .val (.long jd), .second, .val (.int x0), .val (.int x1), .val (.int x2), .val (.int x3), .val (.int x4), .val (.int x5), .val (.int x6), .val (.int x7), .val (.ref ob9), .unset, .unset, .unset, .unset] [(.int x0), (.ref ob11), (.ref ob11)])) _
    refine XS.iload X11.here hx rfl (hb hby at_79) rfl ?_
    show Steps p.tables e below (T11.setTop (mkF m 81 #[.val (.long ja), .second, .val (.long jb), .second, .val (.long jc), .second, .val (.long jd), .second, .val (.int x0), .val (.int x1), .val (.int x2), .val (.int x3), .val (.int x4), .val (.int x5), .val (.int x6), .val (.int x7), .val (.ref ob9), .unset, .unset, .unset, .unset] [(.int x1), (.int x0), (.ref ob11), (.ref ob11)])) _
    refine XS.iload X11.here hx rfl (hb hby at_81) rfl ?_
    show Steps p.tables e below (T11.setTop (mkF m 83 #[.val (.long ja), .second, .val (.long jb), .second, .val (.long jc), .second, .val (.long jd), .second, .val (.int x0), .val (.int x1), .val (.int x2), .val (.int x3), .val (.int x4), .val (.int x5), .val (.int x6), .val (.int x7), .val (.ref ob9), .unset, .unset, .unset, .unset] [(.int x2), (.int x1), (.int x0), (.ref ob11), (.ref ob11)])) _
    refine XS.iload X11.here hx rfl (hb hby at_83) rfl ?_
    show Steps p.tables e below (T11.setTop (mkF m 85 #[.val (.long ja), .second, .val (.long jb), .second, .val (.long jc), .second, .val (.long jd), .second, .val (.int x0), .val (.int x1), .val (.int x2), .val (.int x3), .val (.int x4), .val (.int x5), .val (.int x6), .val (.int x7), .val (.ref ob9), .unset, .unset, .unset, .unset] [(.int x3), (.int x2), (.int x1), (.int x0), (.ref ob11), (.ref ob11)])) _
    refine XS.iload X11.here hx rfl (hb hby at_85) rfl ?_
    show Steps p.tables e below (T11.setTop (mkF m 87 #[.val (.long ja), .second, .val (.long jb), .second, .val (.long jc), .second, .val (.long jd), .second, .val (.int x0), .val (.int x1), .val (.int x2), .val (.int x3), .val (.int x4), .val (.int x5), .val (.int x6), .val (.int x7), .val (.ref ob9), .unset, .unset, .unset, .unset] [(.int x4), (.int x3), (.int x2), (.int x1), (.int x0), (.ref ob11), (.ref ob11)])) _
    refine XS.iload X11.here hx rfl (hb hby at_87) rfl ?_
    show Steps p.tables e below (T11.setTop (mkF m 89 #[.val (.long ja), .second, .val (.long jb), .second, .val (.long jc), .second, .val (.long jd), .second, .val (.int x0), .val (.int x1), .val (.int x2), .val (.int x3), .val (.int x4), .val (.int x5), .val (.int x6), .val (.int x7), .val (.ref ob9), .unset, .unset, .unset, .unset] [(.int x5), (.int x4), (.int x3), (.int x2), (.int x1), (.int x0), (.ref ob11), (.ref ob11)])) _
    refine XS.iload X11.here hx rfl (hb hby at_89) rfl ?_
    show Steps p.tables e below (T11.setTop (mkF m 91 #[.val (.long ja), .second, .val (.long jb), .second, .val (.long jc), .second, .val (.long jd), .second, .val (.int x0), .val (.int x1), .val (.int x2), .val (.int x3), .val (.int x4), .val (.int x5), .val (.int x6), .val (.int x7), .val (.ref ob9), .unset, .unset, .unset, .unset] [(.int x6), (.int x5), (.int x4), (.int x3), (.int x2), (.int x1), (.int x0), (.ref ob11), (.ref ob11)])) _
    refine XS.iload X11.here hx rfl (hb hby at_91) rfl ?_
    show Steps p.tables e below (T11.setTop (mkF m 93 #[.val (.long ja), .second, .val (.long jb), .second, .val (.long jc), .second, .val (.long jd), .second, .val (.int x0), .val (.int x1), .val (.int x2), .val (.int x3), .val (.int x4), .val (.int x5), .val (.int x6), .val (.int x7), .val (.ref ob9), .unset, .unset, .unset, .unset] [(.int x7), (.int x6), (.int x5), (.int x4), (.int x3), (.int x2), (.int x1), (.int x0), (.ref ob11), (.ref ob11)])) _
    refine st12.trans ?_
    show Steps p.tables e below (T12.setTop (mkF m 96 #[.val (.long ja), .second, .val (.long jb), .second, .val (.long jc), .second, .val (.long jd), .second, .val (.int x0), .val (.int x1), .val (.int x2), .val (.int x3), .val (.int x4), .val (.int x5), .val (.int x6), .val (.int x7), .val (.ref ob9), .unset, .unset, .unset, .unset] [(.ref ob11)])) _
    refine XS.astore X12.here hx rfl (hb hby at_96) rfl rfl (l' := #[.val (.long ja), .second, .val (.long jb), .second, .val (.long jc), .second, .val (.long jd), .second, .val (.int x0), .val (.int x1), .val (.int x2), .val (.int x3), .val (.int x4), .val (.int x5), .val (.int x6), .val (.int x7), .val (.ref ob9), .val (.ref ob11), .unset, .unset, .unset]) rfl ?_
    show Steps p.tables e below (T12.setTop (mkF m 98 #[.val (.long ja), .second, .val (.long jb), .second, .val (.long jc), .second, .val (.long jd), .second, .val (.int x0), .val (.int x1), .val (.int x2), .val (.int x3), .val (.int x4), .val (.int x5), .val (.int x6), .val (.int x7), .val (.ref ob9), .val (.ref ob11), .unset, .unset, .unset] [])) _
    refine XS.iload X12.here hx rfl (hb hby at_98) rfl ?_
    show Steps p.tables e below (T12.setTop (mkF m 100 #[.val (.long ja), .second, .val (.long jb), .second, .val (.long jc), .second, .val (.long jd), .second, .val (.int x0), .val (.int x1), .val (.int x2), .val (.int x3), .val (.int x4), .val (.int x5), .val (.int x6), .val (.int x7), .val (.ref ob9), .val (.ref ob11), .unset, .unset, .unset] [(.int x0)])) _
    refine X12.ldcI hx hown (mvT hZ (hw _ (List.mem_of_getElem? (i := 30) rfl))) (g := (mkF m 100 #[.val (.long ja), .second, .val (.long jb), .second, .val (.long jc), .second, .val (.long jd), .second, .val (.int x0), .val (.int x1), .val (.int x2), .val (.int x3), .val (.int x4), .val (.int x5), .val (.int x6), .val (.int x7), .val (.ref ob9), .val (.ref ob11), .unset, .unset, .unset] [(.int x0)])) rfl (hb hby at_100) ?_
    show Steps p.tables e below (T12.setTop (mkF m 102 #[.val (.long ja), .second, .val (.long jb), .second, .val (.long jc), .second, .val (.long jd), .second, .val (.int x0), .val (.int x1), .val (.int x2), .val (.int x3), .val (.int x4), .val (.int x5), .val (.int x6), .val (.int x7), .val (.ref ob9), .val (.ref ob11), .unset, .unset, .unset] [(.int (1742810335 : Int32)), (.int x0)])) _
    refine XS.imul X12.here hx rfl (hb hby at_102) rfl ?_
    show Steps p.tables e below (T12.setTop (mkF m 103 #[.val (.long ja), .second, .val (.long jb), .second, .val (.long jc), .second, .val (.long jd), .second, .val (.int x0), .val (.int x1), .val (.int x2), .val (.int x3), .val (.int x4), .val (.int x5), .val (.int x6), .val (.int x7), .val (.ref ob9), .val (.ref ob11), .unset, .unset, .unset] [(.int (x0 * (1742810335 : Int32)))])) _
    refine XS.iload X12.here hx rfl (hb hby at_103) rfl ?_
    show Steps p.tables e below (T12.setTop (mkF m 105 #[.val (.long ja), .second, .val (.long jb), .second, .val (.long jc), .second, .val (.long jd), .second, .val (.int x0), .val (.int x1), .val (.int x2), .val (.int x3), .val (.int x4), .val (.int x5), .val (.int x6), .val (.int x7), .val (.ref ob9), .val (.ref ob11), .unset, .unset, .unset] [(.int x1), (.int (x0 * (1742810335 : Int32)))])) _
    refine X12.ldcI hx hown (mvT hZ (hw _ (List.mem_of_getElem? (i := 31) rfl))) (g := (mkF m 105 #[.val (.long ja), .second, .val (.long jb), .second, .val (.long jc), .second, .val (.long jd), .second, .val (.int x0), .val (.int x1), .val (.int x2), .val (.int x3), .val (.int x4), .val (.int x5), .val (.int x6), .val (.int x7), .val (.ref ob9), .val (.ref ob11), .unset, .unset, .unset] [(.int x1), (.int (x0 * (1742810335 : Int32)))])) rfl (hb hby at_105) ?_
    show Steps p.tables e below (T12.setTop (mkF m 107 #[.val (.long ja), .second, .val (.long jb), .second, .val (.long jc), .second, .val (.long jd), .second, .val (.int x0), .val (.int x1), .val (.int x2), .val (.int x3), .val (.int x4), .val (.int x5), .val (.int x6), .val (.int x7), .val (.ref ob9), .val (.ref ob11), .unset, .unset, .unset] [(.int (887503681 : Int32)), (.int x1), (.int (x0 * (1742810335 : Int32)))])) _
    refine XS.imul X12.here hx rfl (hb hby at_107) rfl ?_
    show Steps p.tables e below (T12.setTop (mkF m 108 #[.val (.long ja), .second, .val (.long jb), .second, .val (.long jc), .second, .val (.long jd), .second, .val (.int x0), .val (.int x1), .val (.int x2), .val (.int x3), .val (.int x4), .val (.int x5), .val (.int x6), .val (.int x7), .val (.ref ob9), .val (.ref ob11), .unset, .unset, .unset] [(.int (x1 * (887503681 : Int32))), (.int (x0 * (1742810335 : Int32)))])) _
    refine XS.iadd X12.here hx rfl (hb hby at_108) rfl ?_
    show Steps p.tables e below (T12.setTop (mkF m 109 #[.val (.long ja), .second, .val (.long jb), .second, .val (.long jc), .second, .val (.long jd), .second, .val (.int x0), .val (.int x1), .val (.int x2), .val (.int x3), .val (.int x4), .val (.int x5), .val (.int x6), .val (.int x7), .val (.ref ob9), .val (.ref ob11), .unset, .unset, .unset] [(.int ((x0 * (1742810335 : Int32)) + (x1 * (887503681 : Int32))))])) _
    refine XS.iload X12.here hx rfl (hb hby at_109) rfl ?_
    show Steps p.tables e below (T12.setTop (mkF m 111 #[.val (.long ja), .second, .val (.long jb), .second, .val (.long jc), .second, .val (.long jd), .second, .val (.int x0), .val (.int x1), .val (.int x2), .val (.int x3), .val (.int x4), .val (.int x5), .val (.int x6), .val (.int x7), .val (.ref ob9), .val (.ref ob11), .unset, .unset, .unset] [(.int x2), (.int ((x0 * (1742810335 : Int32)) + (x1 * (887503681 : Int32))))])) _
    refine X12.ldcI hx hown (mvT hZ (hw _ (List.mem_of_getElem? (i := 32) rfl))) (g := (mkF m 111 #[.val (.long ja), .second, .val (.long jb), .second, .val (.long jc), .second, .val (.long jd), .second, .val (.int x0), .val (.int x1), .val (.int x2), .val (.int x3), .val (.int x4), .val (.int x5), .val (.int x6), .val (.int x7), .val (.ref ob9), .val (.ref ob11), .unset, .unset, .unset] [(.int x2), (.int ((x0 * (1742810335 : Int32)) + (x1 * (887503681 : Int32))))])) rfl (hb hby at_111) ?_
    show Steps p.tables e below (T12.setTop (mkF m 113 #[.val (.long ja), .second, .val (.long jb), .second, .val (.long jc), .second, .val (.long jd), .second, .val (.int x0), .val (.int x1), .val (.int x2), .val (.int x3), .val (.int x4), .val (.int x5), .val (.int x6), .val (.int x7), .val (.ref ob9), .val (.ref ob11), .unset, .unset, .unset] [(.int (28629151 : Int32)), (.int x2), (.int ((x0 * (1742810335 : Int32)) + (x1 * (887503681 : Int32))))])) _
    refine XS.imul X12.here hx rfl (hb hby at_113) rfl ?_
    show Steps p.tables e below (T12.setTop (mkF m 114 #[.val (.long ja), .second, .val (.long jb), .second, .val (.long jc), .second, .val (.long jd), .second, .val (.int x0), .val (.int x1), .val (.int x2), .val (.int x3), .val (.int x4), .val (.int x5), .val (.int x6), .val (.int x7), .val (.ref ob9), .val (.ref ob11), .unset, .unset, .unset] [(.int (x2 * (28629151 : Int32))), (.int ((x0 * (1742810335 : Int32)) + (x1 * (887503681 : Int32))))])) _
    refine XS.iadd X12.here hx rfl (hb hby at_114) rfl ?_
    show Steps p.tables e below (T12.setTop (mkF m 115 #[.val (.long ja), .second, .val (.long jb), .second, .val (.long jc), .second, .val (.long jd), .second, .val (.int x0), .val (.int x1), .val (.int x2), .val (.int x3), .val (.int x4), .val (.int x5), .val (.int x6), .val (.int x7), .val (.ref ob9), .val (.ref ob11), .unset, .unset, .unset] [(.int (((x0 * (1742810335 : Int32)) + (x1 * (887503681 : Int32))) + (x2 * (28629151 : Int32))))])) _
    refine XS.iload X12.here hx rfl (hb hby at_115) rfl ?_
    show Steps p.tables e below (T12.setTop (mkF m 117 #[.val (.long ja), .second, .val (.long jb), .second, .val (.long jc), .second, .val (.long jd), .second, .val (.int x0), .val (.int x1), .val (.int x2), .val (.int x3), .val (.int x4), .val (.int x5), .val (.int x6), .val (.int x7), .val (.ref ob9), .val (.ref ob11), .unset, .unset, .unset] [(.int x3), (.int (((x0 * (1742810335 : Int32)) + (x1 * (887503681 : Int32))) + (x2 * (28629151 : Int32))))])) _
    refine X12.ldcI hx hown (mvT hZ (hw _ (List.mem_of_getElem? (i := 33) rfl))) (g := (mkF m 117 #[.val (.long ja), .second, .val (.long jb), .second, .val (.long jc), .second, .val (.long jd), .second, .val (.int x0), .val (.int x1), .val (.int x2), .val (.int x3), .val (.int x4), .val (.int x5), .val (.int x6), .val (.int x7), .val (.ref ob9), .val (.ref ob11), .unset, .unset, .unset] [(.int x3), (.int (((x0 * (1742810335 : Int32)) + (x1 * (887503681 : Int32))) + (x2 * (28629151 : Int32))))])) rfl (hb hby at_117) ?_
    show Steps p.tables e below (T12.setTop (mkF m 119 #[.val (.long ja), .second, .val (.long jb), .second, .val (.long jc), .second, .val (.long jd), .second, .val (.int x0), .val (.int x1), .val (.int x2), .val (.int x3), .val (.int x4), .val (.int x5), .val (.int x6), .val (.int x7), .val (.ref ob9), .val (.ref ob11), .unset, .unset, .unset] [(.int (923521 : Int32)), (.int x3), (.int (((x0 * (1742810335 : Int32)) + (x1 * (887503681 : Int32))) + (x2 * (28629151 : Int32))))])) _
    refine XS.imul X12.here hx rfl (hb hby at_119) rfl ?_
    show Steps p.tables e below (T12.setTop (mkF m 120 #[.val (.long ja), .second, .val (.long jb), .second, .val (.long jc), .second, .val (.long jd), .second, .val (.int x0), .val (.int x1), .val (.int x2), .val (.int x3), .val (.int x4), .val (.int x5), .val (.int x6), .val (.int x7), .val (.ref ob9), .val (.ref ob11), .unset, .unset, .unset] [(.int (x3 * (923521 : Int32))), (.int (((x0 * (1742810335 : Int32)) + (x1 * (887503681 : Int32))) + (x2 * (28629151 : Int32))))])) _
    refine XS.iadd X12.here hx rfl (hb hby at_120) rfl ?_
    show Steps p.tables e below (T12.setTop (mkF m 121 #[.val (.long ja), .second, .val (.long jb), .second, .val (.long jc), .second, .val (.long jd), .second, .val (.int x0), .val (.int x1), .val (.int x2), .val (.int x3), .val (.int x4), .val (.int x5), .val (.int x6), .val (.int x7), .val (.ref ob9), .val (.ref ob11), .unset, .unset, .unset] [(.int ((((x0 * (1742810335 : Int32)) + (x1 * (887503681 : Int32))) + (x2 * (28629151 : Int32))) + (x3 * (923521 : Int32))))])) _
    refine XS.iload X12.here hx rfl (hb hby at_121) rfl ?_
    show Steps p.tables e below (T12.setTop (mkF m 123 #[.val (.long ja), .second, .val (.long jb), .second, .val (.long jc), .second, .val (.long jd), .second, .val (.int x0), .val (.int x1), .val (.int x2), .val (.int x3), .val (.int x4), .val (.int x5), .val (.int x6), .val (.int x7), .val (.ref ob9), .val (.ref ob11), .unset, .unset, .unset] [(.int x4), (.int ((((x0 * (1742810335 : Int32)) + (x1 * (887503681 : Int32))) + (x2 * (28629151 : Int32))) + (x3 * (923521 : Int32))))])) _
    refine XT.sipushV X12.here hx rfl (29791 : Int32) (hb hby at_123) rfl ?_
    show Steps p.tables e below (T12.setTop (mkF m 126 #[.val (.long ja), .second, .val (.long jb), .second, .val (.long jc), .second, .val (.long jd), .second, .val (.int x0), .val (.int x1), .val (.int x2), .val (.int x3), .val (.int x4), .val (.int x5), .val (.int x6), .val (.int x7), .val (.ref ob9), .val (.ref ob11), .unset, .unset, .unset] [(.int (29791 : Int32)), (.int x4), (.int ((((x0 * (1742810335 : Int32)) + (x1 * (887503681 : Int32))) + (x2 * (28629151 : Int32))) + (x3 * (923521 : Int32))))])) _
    refine XS.imul X12.here hx rfl (hb hby at_126) rfl ?_
    show Steps p.tables e below (T12.setTop (mkF m 127 #[.val (.long ja), .second, .val (.long jb), .second, .val (.long jc), .second, .val (.long jd), .second, .val (.int x0), .val (.int x1), .val (.int x2), .val (.int x3), .val (.int x4), .val (.int x5), .val (.int x6), .val (.int x7), .val (.ref ob9), .val (.ref ob11), .unset, .unset, .unset] [(.int (x4 * (29791 : Int32))), (.int ((((x0 * (1742810335 : Int32)) + (x1 * (887503681 : Int32))) + (x2 * (28629151 : Int32))) + (x3 * (923521 : Int32))))])) _
    refine XS.iadd X12.here hx rfl (hb hby at_127) rfl ?_
    show Steps p.tables e below (T12.setTop (mkF m 128 #[.val (.long ja), .second, .val (.long jb), .second, .val (.long jc), .second, .val (.long jd), .second, .val (.int x0), .val (.int x1), .val (.int x2), .val (.int x3), .val (.int x4), .val (.int x5), .val (.int x6), .val (.int x7), .val (.ref ob9), .val (.ref ob11), .unset, .unset, .unset] [(.int (((((x0 * (1742810335 : Int32)) + (x1 * (887503681 : Int32))) + (x2 * (28629151 : Int32))) + (x3 * (923521 : Int32))) + (x4 * (29791 : Int32))))])) _
    refine XS.iload X12.here hx rfl (hb hby at_128) rfl ?_
    show Steps p.tables e below (T12.setTop (mkF m 130 #[.val (.long ja), .second, .val (.long jb), .second, .val (.long jc), .second, .val (.long jd), .second, .val (.int x0), .val (.int x1), .val (.int x2), .val (.int x3), .val (.int x4), .val (.int x5), .val (.int x6), .val (.int x7), .val (.ref ob9), .val (.ref ob11), .unset, .unset, .unset] [(.int x5), (.int (((((x0 * (1742810335 : Int32)) + (x1 * (887503681 : Int32))) + (x2 * (28629151 : Int32))) + (x3 * (923521 : Int32))) + (x4 * (29791 : Int32))))])) _
    refine XT.sipushV X12.here hx rfl (961 : Int32) (hb hby at_130) rfl ?_
    show Steps p.tables e below (T12.setTop (mkF m 133 #[.val (.long ja), .second, .val (.long jb), .second, .val (.long jc), .second, .val (.long jd), .second, .val (.int x0), .val (.int x1), .val (.int x2), .val (.int x3), .val (.int x4), .val (.int x5), .val (.int x6), .val (.int x7), .val (.ref ob9), .val (.ref ob11), .unset, .unset, .unset] [(.int (961 : Int32)), (.int x5), (.int (((((x0 * (1742810335 : Int32)) + (x1 * (887503681 : Int32))) + (x2 * (28629151 : Int32))) + (x3 * (923521 : Int32))) + (x4 * (29791 : Int32))))])) _
    refine XS.imul X12.here hx rfl (hb hby at_133) rfl ?_
    show Steps p.tables e below (T12.setTop (mkF m 134 #[.val (.long ja), .second, .val (.long jb), .second, .val (.long jc), .second, .val (.long jd), .second, .val (.int x0), .val (.int x1), .val (.int x2), .val (.int x3), .val (.int x4), .val (.int x5), .val (.int x6), .val (.int x7), .val (.ref ob9), .val (.ref ob11), .unset, .unset, .unset] [(.int (x5 * (961 : Int32))), (.int (((((x0 * (1742810335 : Int32)) + (x1 * (887503681 : Int32))) + (x2 * (28629151 : Int32))) + (x3 * (923521 : Int32))) + (x4 * (29791 : Int32))))])) _
    refine XS.iadd X12.here hx rfl (hb hby at_134) rfl ?_
    show Steps p.tables e below (T12.setTop (mkF m 135 #[.val (.long ja), .second, .val (.long jb), .second, .val (.long jc), .second, .val (.long jd), .second, .val (.int x0), .val (.int x1), .val (.int x2), .val (.int x3), .val (.int x4), .val (.int x5), .val (.int x6), .val (.int x7), .val (.ref ob9), .val (.ref ob11), .unset, .unset, .unset] [(.int ((((((x0 * (1742810335 : Int32)) + (x1 * (887503681 : Int32))) + (x2 * (28629151 : Int32))) + (x3 * (923521 : Int32))) + (x4 * (29791 : Int32))) + (x5 * (961 : Int32))))])) _
    refine XS.iload X12.here hx rfl (hb hby at_135) rfl ?_
    show Steps p.tables e below (T12.setTop (mkF m 137 #[.val (.long ja), .second, .val (.long jb), .second, .val (.long jc), .second, .val (.long jd), .second, .val (.int x0), .val (.int x1), .val (.int x2), .val (.int x3), .val (.int x4), .val (.int x5), .val (.int x6), .val (.int x7), .val (.ref ob9), .val (.ref ob11), .unset, .unset, .unset] [(.int x6), (.int ((((((x0 * (1742810335 : Int32)) + (x1 * (887503681 : Int32))) + (x2 * (28629151 : Int32))) + (x3 * (923521 : Int32))) + (x4 * (29791 : Int32))) + (x5 * (961 : Int32))))])) _
    refine XT.bipushV X12.here hx rfl (31 : Int32) (hb hby at_137) rfl ?_
    show Steps p.tables e below (T12.setTop (mkF m 139 #[.val (.long ja), .second, .val (.long jb), .second, .val (.long jc), .second, .val (.long jd), .second, .val (.int x0), .val (.int x1), .val (.int x2), .val (.int x3), .val (.int x4), .val (.int x5), .val (.int x6), .val (.int x7), .val (.ref ob9), .val (.ref ob11), .unset, .unset, .unset] [(.int (31 : Int32)), (.int x6), (.int ((((((x0 * (1742810335 : Int32)) + (x1 * (887503681 : Int32))) + (x2 * (28629151 : Int32))) + (x3 * (923521 : Int32))) + (x4 * (29791 : Int32))) + (x5 * (961 : Int32))))])) _
    refine XS.imul X12.here hx rfl (hb hby at_139) rfl ?_
    show Steps p.tables e below (T12.setTop (mkF m 140 #[.val (.long ja), .second, .val (.long jb), .second, .val (.long jc), .second, .val (.long jd), .second, .val (.int x0), .val (.int x1), .val (.int x2), .val (.int x3), .val (.int x4), .val (.int x5), .val (.int x6), .val (.int x7), .val (.ref ob9), .val (.ref ob11), .unset, .unset, .unset] [(.int (x6 * (31 : Int32))), (.int ((((((x0 * (1742810335 : Int32)) + (x1 * (887503681 : Int32))) + (x2 * (28629151 : Int32))) + (x3 * (923521 : Int32))) + (x4 * (29791 : Int32))) + (x5 * (961 : Int32))))])) _
    refine XS.iadd X12.here hx rfl (hb hby at_140) rfl ?_
    show Steps p.tables e below (T12.setTop (mkF m 141 #[.val (.long ja), .second, .val (.long jb), .second, .val (.long jc), .second, .val (.long jd), .second, .val (.int x0), .val (.int x1), .val (.int x2), .val (.int x3), .val (.int x4), .val (.int x5), .val (.int x6), .val (.int x7), .val (.ref ob9), .val (.ref ob11), .unset, .unset, .unset] [(.int (((((((x0 * (1742810335 : Int32)) + (x1 * (887503681 : Int32))) + (x2 * (28629151 : Int32))) + (x3 * (923521 : Int32))) + (x4 * (29791 : Int32))) + (x5 * (961 : Int32))) + (x6 * (31 : Int32))))])) _
    refine XS.iload X12.here hx rfl (hb hby at_141) rfl ?_
    show Steps p.tables e below (T12.setTop (mkF m 143 #[.val (.long ja), .second, .val (.long jb), .second, .val (.long jc), .second, .val (.long jd), .second, .val (.int x0), .val (.int x1), .val (.int x2), .val (.int x3), .val (.int x4), .val (.int x5), .val (.int x6), .val (.int x7), .val (.ref ob9), .val (.ref ob11), .unset, .unset, .unset] [(.int x7), (.int (((((((x0 * (1742810335 : Int32)) + (x1 * (887503681 : Int32))) + (x2 * (28629151 : Int32))) + (x3 * (923521 : Int32))) + (x4 * (29791 : Int32))) + (x5 * (961 : Int32))) + (x6 * (31 : Int32))))])) _
    refine XS.iadd X12.here hx rfl (hb hby at_143) rfl ?_
    show Steps p.tables e below (T12.setTop (mkF m 144 #[.val (.long ja), .second, .val (.long jb), .second, .val (.long jc), .second, .val (.long jd), .second, .val (.int x0), .val (.int x1), .val (.int x2), .val (.int x3), .val (.int x4), .val (.int x5), .val (.int x6), .val (.int x7), .val (.ref ob9), .val (.ref ob11), .unset, .unset, .unset] [(.int ((((((((x0 * (1742810335 : Int32)) + (x1 * (887503681 : Int32))) + (x2 * (28629151 : Int32))) + (x3 * (923521 : Int32))) + (x4 * (29791 : Int32))) + (x5 * (961 : Int32))) + (x6 * (31 : Int32))) + x7))])) _
    refine XS.istore X12.here hx rfl (hb hby at_144) rfl (l' := #[.val (.long ja), .second, .val (.long jb), .second, .val (.long jc), .second, .val (.long jd), .second, .val (.int x0), .val (.int x1), .val (.int x2), .val (.int x3), .val (.int x4), .val (.int x5), .val (.int x6), .val (.int x7), .val (.ref ob9), .val (.ref ob11), .val (.int ((((((((x0 * (1742810335 : Int32)) + (x1 * (887503681 : Int32))) + (x2 * (28629151 : Int32))) + (x3 * (923521 : Int32))) + (x4 * (29791 : Int32))) + (x5 * (961 : Int32))) + (x6 * (31 : Int32))) + x7)), .unset, .unset]) rfl ?_
    show Steps p.tables e below (T12.setTop (mkF m 146 #[.val (.long ja), .second, .val (.long jb), .second, .val (.long jc), .second, .val (.long jd), .second, .val (.int x0), .val (.int x1), .val (.int x2), .val (.int x3), .val (.int x4), .val (.int x5), .val (.int x6), .val (.int x7), .val (.ref ob9), .val (.ref ob11), .val (.int ((((((((x0 * (1742810335 : Int32)) + (x1 * (887503681 : Int32))) + (x2 * (28629151 : Int32))) + (x3 * (923521 : Int32))) + (x4 * (29791 : Int32))) + (x5 * (961 : Int32))) + (x6 * (31 : Int32))) + x7)), .unset, .unset] [])) _
    refine XS.aload X12.here hx rfl (hb hby at_146) rfl rfl ?_
    show Steps p.tables e below (T12.setTop (mkF m 148 #[.val (.long ja), .second, .val (.long jb), .second, .val (.long jc), .second, .val (.long jd), .second, .val (.int x0), .val (.int x1), .val (.int x2), .val (.int x3), .val (.int x4), .val (.int x5), .val (.int x6), .val (.int x7), .val (.ref ob9), .val (.ref ob11), .val (.int ((((((((x0 * (1742810335 : Int32)) + (x1 * (887503681 : Int32))) + (x2 * (28629151 : Int32))) + (x3 * (923521 : Int32))) + (x4 * (29791 : Int32))) + (x5 * (961 : Int32))) + (x6 * (31 : Int32))) + x7)), .unset, .unset] [(.ref ob9)])) _
    refine st22.trans ?_
    show Steps p.tables e below (T22.setTop (mkF m 151 #[.val (.long ja), .second, .val (.long jb), .second, .val (.long jc), .second, .val (.long jd), .second, .val (.int x0), .val (.int x1), .val (.int x2), .val (.int x3), .val (.int x4), .val (.int x5), .val (.int x6), .val (.int x7), .val (.ref ob9), .val (.ref ob11), .val (.int ((((((((x0 * (1742810335 : Int32)) + (x1 * (887503681 : Int32))) + (x2 * (28629151 : Int32))) + (x3 * (923521 : Int32))) + (x4 * (29791 : Int32))) + (x5 * (961 : Int32))) + (x6 * (31 : Int32))) + x7)), .unset, .unset] [(.int (own_hash x0 x1 x2 x3 x4 x5 x6 x7))])) _
    refine XS.istore X22.here hx rfl (hb hby at_151) rfl (l' := #[.val (.long ja), .second, .val (.long jb), .second, .val (.long jc), .second, .val (.long jd), .second, .val (.int x0), .val (.int x1), .val (.int x2), .val (.int x3), .val (.int x4), .val (.int x5), .val (.int x6), .val (.int x7), .val (.ref ob9), .val (.ref ob11), .val (.int ((((((((x0 * (1742810335 : Int32)) + (x1 * (887503681 : Int32))) + (x2 * (28629151 : Int32))) + (x3 * (923521 : Int32))) + (x4 * (29791 : Int32))) + (x5 * (961 : Int32))) + (x6 * (31 : Int32))) + x7)), .val (.int (own_hash x0 x1 x2 x3 x4 x5 x6 x7)), .unset]) rfl ?_
    show Steps p.tables e below (T22.setTop (mkF m 153 #[.val (.long ja), .second, .val (.long jb), .second, .val (.long jc), .second, .val (.long jd), .second, .val (.int x0), .val (.int x1), .val (.int x2), .val (.int x3), .val (.int x4), .val (.int x5), .val (.int x6), .val (.int x7), .val (.ref ob9), .val (.ref ob11), .val (.int ((((((((x0 * (1742810335 : Int32)) + (x1 * (887503681 : Int32))) + (x2 * (28629151 : Int32))) + (x3 * (923521 : Int32))) + (x4 * (29791 : Int32))) + (x5 * (961 : Int32))) + (x6 * (31 : Int32))) + x7)), .val (.int (own_hash x0 x1 x2 x3 x4 x5 x6 x7)), .unset] [])) _
    refine XS.aload X22.here hx rfl (hb hby at_153) rfl rfl ?_
    show Steps p.tables e below (T22.setTop (mkF m 155 #[.val (.long ja), .second, .val (.long jb), .second, .val (.long jc), .second, .val (.long jd), .second, .val (.int x0), .val (.int x1), .val (.int x2), .val (.int x3), .val (.int x4), .val (.int x5), .val (.int x6), .val (.int x7), .val (.ref ob9), .val (.ref ob11), .val (.int ((((((((x0 * (1742810335 : Int32)) + (x1 * (887503681 : Int32))) + (x2 * (28629151 : Int32))) + (x3 * (923521 : Int32))) + (x4 * (29791 : Int32))) + (x5 * (961 : Int32))) + (x6 * (31 : Int32))) + x7)), .val (.int (own_hash x0 x1 x2 x3 x4 x5 x6 x7)), .unset] [(.ref ob11)])) _
    refine st23.trans ?_
    show Steps p.tables e below (T23.setTop (mkF m 158 #[.val (.long ja), .second, .val (.long jb), .second, .val (.long jc), .second, .val (.long jd), .second, .val (.int x0), .val (.int x1), .val (.int x2), .val (.int x3), .val (.int x4), .val (.int x5), .val (.int x6), .val (.int x7), .val (.ref ob9), .val (.ref ob11), .val (.int ((((((((x0 * (1742810335 : Int32)) + (x1 * (887503681 : Int32))) + (x2 * (28629151 : Int32))) + (x3 * (923521 : Int32))) + (x4 * (29791 : Int32))) + (x5 * (961 : Int32))) + (x6 * (31 : Int32))) + x7)), .val (.int (own_hash x0 x1 x2 x3 x4 x5 x6 x7)), .unset] [(.int (own_hash x0 x1 x2 x3 x4 x5 x6 x7))])) _
    refine XS.istore X23.here hx rfl (hb hby at_158) rfl (l' := #[.val (.long ja), .second, .val (.long jb), .second, .val (.long jc), .second, .val (.long jd), .second, .val (.int x0), .val (.int x1), .val (.int x2), .val (.int x3), .val (.int x4), .val (.int x5), .val (.int x6), .val (.int x7), .val (.ref ob9), .val (.ref ob11), .val (.int ((((((((x0 * (1742810335 : Int32)) + (x1 * (887503681 : Int32))) + (x2 * (28629151 : Int32))) + (x3 * (923521 : Int32))) + (x4 * (29791 : Int32))) + (x5 * (961 : Int32))) + (x6 * (31 : Int32))) + x7)), .val (.int (own_hash x0 x1 x2 x3 x4 x5 x6 x7)), .val (.int (own_hash x0 x1 x2 x3 x4 x5 x6 x7))]) rfl ?_
    show Steps p.tables e below (T23.setTop (mkF m 160 #[.val (.long ja), .second, .val (.long jb), .second, .val (.long jc), .second, .val (.long jd), .second, .val (.int x0), .val (.int x1), .val (.int x2), .val (.int x3), .val (.int x4), .val (.int x5), .val (.int x6), .val (.int x7), .val (.ref ob9), .val (.ref ob11), .val (.int ((((((((x0 * (1742810335 : Int32)) + (x1 * (887503681 : Int32))) + (x2 * (28629151 : Int32))) + (x3 * (923521 : Int32))) + (x4 * (29791 : Int32))) + (x5 * (961 : Int32))) + (x6 * (31 : Int32))) + x7)), .val (.int (own_hash x0 x1 x2 x3 x4 x5 x6 x7)), .val (.int (own_hash x0 x1 x2 x3 x4 x5 x6 x7))] [])) _
    refine XS.iload X23.here hx rfl (hb hby at_160) rfl ?_
    show Steps p.tables e below (T23.setTop (mkF m 162 #[.val (.long ja), .second, .val (.long jb), .second, .val (.long jc), .second, .val (.long jd), .second, .val (.int x0), .val (.int x1), .val (.int x2), .val (.int x3), .val (.int x4), .val (.int x5), .val (.int x6), .val (.int x7), .val (.ref ob9), .val (.ref ob11), .val (.int ((((((((x0 * (1742810335 : Int32)) + (x1 * (887503681 : Int32))) + (x2 * (28629151 : Int32))) + (x3 * (923521 : Int32))) + (x4 * (29791 : Int32))) + (x5 * (961 : Int32))) + (x6 * (31 : Int32))) + x7)), .val (.int (own_hash x0 x1 x2 x3 x4 x5 x6 x7)), .val (.int (own_hash x0 x1 x2 x3 x4 x5 x6 x7))] [(.int (own_hash x0 x1 x2 x3 x4 x5 x6 x7))])) _
    refine XS.iload X23.here hx rfl (hb hby at_162) rfl ?_
    show Steps p.tables e below (T23.setTop (mkF m 164 #[.val (.long ja), .second, .val (.long jb), .second, .val (.long jc), .second, .val (.long jd), .second, .val (.int x0), .val (.int x1), .val (.int x2), .val (.int x3), .val (.int x4), .val (.int x5), .val (.int x6), .val (.int x7), .val (.ref ob9), .val (.ref ob11), .val (.int ((((((((x0 * (1742810335 : Int32)) + (x1 * (887503681 : Int32))) + (x2 * (28629151 : Int32))) + (x3 * (923521 : Int32))) + (x4 * (29791 : Int32))) + (x5 * (961 : Int32))) + (x6 * (31 : Int32))) + x7)), .val (.int (own_hash x0 x1 x2 x3 x4 x5 x6 x7)), .val (.int (own_hash x0 x1 x2 x3 x4 x5 x6 x7))] [(.int ((((((((x0 * (1742810335 : Int32)) + (x1 * (887503681 : Int32))) + (x2 * (28629151 : Int32))) + (x3 * (923521 : Int32))) + (x4 * (29791 : Int32))) + (x5 * (961 : Int32))) + (x6 * (31 : Int32))) + x7)), (.int (own_hash x0 x1 x2 x3 x4 x5 x6 x7))])) _
    refine XS.icmpNo X23.here hx rfl (hb hby at_164) rfl (XT.ii_ne_f (own_hash_eq _ _ _ _ _ _ _ _)) ?_
    show Steps p.tables e below (T23.setTop (mkF m 167 #[.val (.long ja), .second, .val (.long jb), .second, .val (.long jc), .second, .val (.long jd), .second, .val (.int x0), .val (.int x1), .val (.int x2), .val (.int x3), .val (.int x4), .val (.int x5), .val (.int x6), .val (.int x7), .val (.ref ob9), .val (.ref ob11), .val (.int ((((((((x0 * (1742810335 : Int32)) + (x1 * (887503681 : Int32))) + (x2 * (28629151 : Int32))) + (x3 * (923521 : Int32))) + (x4 * (29791 : Int32))) + (x5 * (961 : Int32))) + (x6 * (31 : Int32))) + x7)), .val (.int (own_hash x0 x1 x2 x3 x4 x5 x6 x7)), .val (.int (own_hash x0 x1 x2 x3 x4 x5 x6 x7))] [])) _
    refine XS.iload X23.here hx rfl (hb hby at_167) rfl ?_
    show Steps p.tables e below (T23.setTop (mkF m 169 #[.val (.long ja), .second, .val (.long jb), .second, .val (.long jc), .second, .val (.long jd), .second, .val (.int x0), .val (.int x1), .val (.int x2), .val (.int x3), .val (.int x4), .val (.int x5), .val (.int x6), .val (.int x7), .val (.ref ob9), .val (.ref ob11), .val (.int ((((((((x0 * (1742810335 : Int32)) + (x1 * (887503681 : Int32))) + (x2 * (28629151 : Int32))) + (x3 * (923521 : Int32))) + (x4 * (29791 : Int32))) + (x5 * (961 : Int32))) + (x6 * (31 : Int32))) + x7)), .val (.int (own_hash x0 x1 x2 x3 x4 x5 x6 x7)), .val (.int (own_hash x0 x1 x2 x3 x4 x5 x6 x7))] [(.int (own_hash x0 x1 x2 x3 x4 x5 x6 x7))])) _
    refine XS.iload X23.here hx rfl (hb hby at_169) rfl ?_
    show Steps p.tables e below (T23.setTop (mkF m 171 #[.val (.long ja), .second, .val (.long jb), .second, .val (.long jc), .second, .val (.long jd), .second, .val (.int x0), .val (.int x1), .val (.int x2), .val (.int x3), .val (.int x4), .val (.int x5), .val (.int x6), .val (.int x7), .val (.ref ob9), .val (.ref ob11), .val (.int ((((((((x0 * (1742810335 : Int32)) + (x1 * (887503681 : Int32))) + (x2 * (28629151 : Int32))) + (x3 * (923521 : Int32))) + (x4 * (29791 : Int32))) + (x5 * (961 : Int32))) + (x6 * (31 : Int32))) + x7)), .val (.int (own_hash x0 x1 x2 x3 x4 x5 x6 x7)), .val (.int (own_hash x0 x1 x2 x3 x4 x5 x6 x7))] [(.int (own_hash x0 x1 x2 x3 x4 x5 x6 x7)), (.int (own_hash x0 x1 x2 x3 x4 x5 x6 x7))])) _
    refine XS.icmpNo X23.here hx rfl (hb hby at_171) rfl (XT.ii_ne_f rfl) ?_
    show Steps p.tables e below (T23.setTop (mkF m 174 #[.val (.long ja), .second, .val (.long jb), .second, .val (.long jc), .second, .val (.long jd), .second, .val (.int x0), .val (.int x1), .val (.int x2), .val (.int x3), .val (.int x4), .val (.int x5), .val (.int x6), .val (.int x7), .val (.ref ob9), .val (.ref ob11), .val (.int ((((((((x0 * (1742810335 : Int32)) + (x1 * (887503681 : Int32))) + (x2 * (28629151 : Int32))) + (x3 * (923521 : Int32))) + (x4 * (29791 : Int32))) + (x5 * (961 : Int32))) + (x6 * (31 : Int32))) + x7)), .val (.int (own_hash x0 x1 x2 x3 x4 x5 x6 x7)), .val (.int (own_hash x0 x1 x2 x3 x4 x5 x6 x7))] [])) _
    refine XS.aload X23.here hx rfl (hb hby at_174) rfl rfl ?_
    show Steps p.tables e below (T23.setTop (mkF m 176 #[.val (.long ja), .second, .val (.long jb), .second, .val (.long jc), .second, .val (.long jd), .second, .val (.int x0), .val (.int x1), .val (.int x2), .val (.int x3), .val (.int x4), .val (.int x5), .val (.int x6), .val (.int x7), .val (.ref ob9), .val (.ref ob11), .val (.int ((((((((x0 * (1742810335 : Int32)) + (x1 * (887503681 : Int32))) + (x2 * (28629151 : Int32))) + (x3 * (923521 : Int32))) + (x4 * (29791 : Int32))) + (x5 * (961 : Int32))) + (x6 * (31 : Int32))) + x7)), .val (.int (own_hash x0 x1 x2 x3 x4 x5 x6 x7)), .val (.int (own_hash x0 x1 x2 x3 x4 x5 x6 x7))] [(.ref ob9)])) _
    refine XS.aload X23.here hx rfl (hb hby at_176) rfl rfl ?_
    show Steps p.tables e below (T23.setTop (mkF m 178 #[.val (.long ja), .second, .val (.long jb), .second, .val (.long jc), .second, .val (.long jd), .second, .val (.int x0), .val (.int x1), .val (.int x2), .val (.int x3), .val (.int x4), .val (.int x5), .val (.int x6), .val (.int x7), .val (.ref ob9), .val (.ref ob11), .val (.int ((((((((x0 * (1742810335 : Int32)) + (x1 * (887503681 : Int32))) + (x2 * (28629151 : Int32))) + (x3 * (923521 : Int32))) + (x4 * (29791 : Int32))) + (x5 * (961 : Int32))) + (x6 * (31 : Int32))) + x7)), .val (.int (own_hash x0 x1 x2 x3 x4 x5 x6 x7)), .val (.int (own_hash x0 x1 x2 x3 x4 x5 x6 x7))] [(.ref ob11), (.ref ob9)])) _
    refine st24.trans ?_
    show Steps p.tables e below (T24.setTop (mkF m 181 #[.val (.long ja), .second, .val (.long jb), .second, .val (.long jc), .second, .val (.long jd), .second, .val (.int x0), .val (.int x1), .val (.int x2), .val (.int x3), .val (.int x4), .val (.int x5), .val (.int x6), .val (.int x7), .val (.ref ob9), .val (.ref ob11), .val (.int ((((((((x0 * (1742810335 : Int32)) + (x1 * (887503681 : Int32))) + (x2 * (28629151 : Int32))) + (x3 * (923521 : Int32))) + (x4 * (29791 : Int32))) + (x5 * (961 : Int32))) + (x6 * (31 : Int32))) + x7)), .val (.int (own_hash x0 x1 x2 x3 x4 x5 x6 x7)), .val (.int (own_hash x0 x1 x2 x3 x4 x5 x6 x7))] [(.int (own_eq x0 x1 x2 x3 x4 x5 x6 x7 x0 x1 x2 x3 x4 x5 x6 x7))])) _
    refine XS.ifNo X24.here hx rfl (hb hby at_181) rfl (XT.i0_eq_f (own_eq_self _ _ _ _ _ _ _ _)) ?_
    show Steps p.tables e below (T24.setTop (mkF m 184 #[.val (.long ja), .second, .val (.long jb), .second, .val (.long jc), .second, .val (.long jd), .second, .val (.int x0), .val (.int x1), .val (.int x2), .val (.int x3), .val (.int x4), .val (.int x5), .val (.int x6), .val (.int x7), .val (.ref ob9), .val (.ref ob11), .val (.int ((((((((x0 * (1742810335 : Int32)) + (x1 * (887503681 : Int32))) + (x2 * (28629151 : Int32))) + (x3 * (923521 : Int32))) + (x4 * (29791 : Int32))) + (x5 * (961 : Int32))) + (x6 * (31 : Int32))) + x7)), .val (.int (own_hash x0 x1 x2 x3 x4 x5 x6 x7)), .val (.int (own_hash x0 x1 x2 x3 x4 x5 x6 x7))] [])) _
    refine XT.iconstV X24.here hx rfl (1 : Int32) (hb hby at_184) rfl ?_
    show Steps p.tables e below (T24.setTop (mkF m 185 #[.val (.long ja), .second, .val (.long jb), .second, .val (.long jc), .second, .val (.long jd), .second, .val (.int x0), .val (.int x1), .val (.int x2), .val (.int x3), .val (.int x4), .val (.int x5), .val (.int x6), .val (.int x7), .val (.ref ob9), .val (.ref ob11), .val (.int ((((((((x0 * (1742810335 : Int32)) + (x1 * (887503681 : Int32))) + (x2 * (28629151 : Int32))) + (x3 * (923521 : Int32))) + (x4 * (29791 : Int32))) + (x5 * (961 : Int32))) + (x6 * (31 : Int32))) + x7)), .val (.int (own_hash x0 x1 x2 x3 x4 x5 x6 x7)), .val (.int (own_hash x0 x1 x2 x3 x4 x5 x6 x7))] [(.int (1 : Int32))])) _
    refine XS.goto X24.here hx rfl (pc0 := 185) (pc' := 189) rfl (hb hby at_185) (by decide) (by decide) ?_
    show Steps p.tables e below (T24.setTop (mkF m 189 #[.val (.long ja), .second, .val (.long jb), .second, .val (.long jc), .second, .val (.long jd), .second, .val (.int x0), .val (.int x1), .val (.int x2), .val (.int x3), .val (.int x4), .val (.int x5), .val (.int x6), .val (.int x7), .val (.ref ob9), .val (.ref ob11), .val (.int ((((((((x0 * (1742810335 : Int32)) + (x1 * (887503681 : Int32))) + (x2 * (28629151 : Int32))) + (x3 * (923521 : Int32))) + (x4 * (29791 : Int32))) + (x5 * (961 : Int32))) + (x6 * (31 : Int32))) + x7)), .val (.int (own_hash x0 x1 x2 x3 x4 x5 x6 x7)), .val (.int (own_hash x0 x1 x2 x3 x4 x5 x6 x7))] [(.int (1 : Int32))])) _
    exact retN X24 hx (t := .boolean) Bd.returns (by simp) (hb hby at_189) hr
  · show own_Q0 Z ja jb jc jd h0 n0 _ T24.heap _
    exact ⟨rfl, N24⟩
set_option maxRecDepth 65536 in
set_option maxHeartbeats 40000000 in
theorem comes_1 {Post : Tables → Env → Array Value → State → Outcome → State → Prop} (hpost : ∀ tb e args s v u, (limb_1_1.after args s (.returned v) u = true ∧ limb_1_2.after args s (.returned v) u = true ∧ True) → FrameEnd s (.returned v) u (Jvm.fieldLocs frame_1_writes args s ++ Jvm.arrayLocs frame_1_arrays args s ++ Jvm.staticLocs frame_1_statics s) 16 128 → Post tb e args s (.returned v) u) :
    ArmFor flags0 classFile x code maxLocals ret World_1 tables_1 room_1 Calls_1 rest_1 Pre_1 Post := by
  intro l hfl _ _ p e ha hc hk s m args below hf hA hF happ hP
  obtain ⟨hcalls, hrest, hpre⟩ := hP
  obtain ⟨-, -, -, hnamed, -, -, -, hat⟩ := (Spec.applies_iff hf).mp happ
  obtain ⟨hg, hn⟩ := and_e (Cond.before_iff.mp (show (Jvm.Cond.and given_1 narrow_1).before args s = true from hpre))
  obtain ⟨gc, gr0⟩ := and_e hg
  obtain ⟨ga0, gr1⟩ := and_e gr0
  obtain ⟨ga1, gr2⟩ := and_e gr1
  obtain ⟨ga2, gr3⟩ := and_e gr2
  obtain ⟨w0, w1, w2, w3, rfl⟩ : ∃ w0 w1 w2 w3 : Value, args = #[w0, w1, w2, w3] := by
    have hs : args.size = 4 := by simpa [Cond.value, given_1] using gc
    obtain ⟨L⟩ := args
    match L, hs with
    | [w0, w1, w2, w3], _ => exact ⟨w0, w1, w2, w3, rfl⟩
  have hw := fun d (hd : d ∈ tables_1) => atoms_spec (ws := Jvm.Cond.code x code maxLocals ret :: tables_1) hat d (List.mem_cons_of_mem _ hd)
  obtain ⟨i0, ei0⟩ := isL_v ga0
  obtain rfl : w0 = (.long i0) := Option.some.inj ei0
  obtain ⟨i1, ei1⟩ := isL_v ga1
  obtain rfl : w1 = (.long i1) := Option.some.inj ei1
  obtain ⟨i2, ei2⟩ := isL_v ga2
  obtain rfl : w2 = (.long i2) := Option.some.inj ei2
  obtain ⟨i3, ei3⟩ := isL_v gr3
  obtain rfl : w3 = (.long i3) := Option.some.inj ei3
  obtain ⟨n, o, h1, h2, h3, _, L, rfl, ⟨rfl, N⟩, hq⟩ := own_rm0 l s _ hw tables_1 i0 i1 i2 i3 s.heap s.heap.size (Nat.le_refl _) p e ha hc hk s m _ below hf ((Spec.applies_iff_loose hf).mp happ).1 ⟨rfl, State.Warmed39.refl s, rfl⟩ trivial
  refine ⟨n, _, h1, h2, h3, hpost _ _ _ _ _ _ ⟨Cond.after_iff.mpr rfl, Cond.after_iff.mpr (eq_i res_at (Term.int_eval (1)) rfl), trivial⟩ ⟨hq.1, hq.2.1, (hq.2.2.sift fun y hy => Or.inr (N y hy)).mono (by decide) (by decide)⟩⟩
theorem main_1_1 : Claimed_1_1 := comes_1 fun _ _ _ _ _ _ h hF => ⟨h.1, hF⟩
theorem main_1_2 : Claimed_1_2 := comes_1 fun _ _ _ _ _ _ h hF => ⟨h.2.1, hF⟩
end Jvm.Pilot.@@N@@
namespace Jvm.Pilot.@@N@@
open Jvm Jvm.ClassFile Sem Op Lib Jvm.Free Jvm.Stand Jvm.Pilot.@@N@@.Jvm.D
/-! MADE BY PROGRAM (witnessworld.py) out of the Statement's table words and the real class files: 12 classes; the members and pool entries that the words name. The judged class is class 1, her method 1. -/
namespace start1
open Jvm.ClassFile
def u (s : String) : CpInfo := .utf8 (stringToUtf16 s)
/-- a pool by its gaps: so many unusable entries, then the entry; so many at the end -/
def gap : Nat → List CpInfo → List CpInfo
  | 0, r => r
  | n + 1, r => .unusable :: gap n r
def poolList (es : List (Nat × CpInfo)) (last : Nat) : List CpInfo := es.foldr (fun e r => gap e.1 (e.2 :: r)) (gap last [])
def pool (es : List (Nat × CpInfo)) (last : Nat) : Array CpInfo := ⟨poolList es last⟩
def fileOf (pool : Array CpInfo) (this : Nat) (attrs : Array Attribute := #[]) (ms : Array MethodInfo := #[]) (fl : Nat := 33) (sup : Nat := 0) (ifs : Array Nat := #[]) (fds : Array FieldInfo := #[]) : ClassFile where
  minorVersion := 0
  majorVersion := 65
  constantPool := pool
  accessFlags := fl
  thisClass := this
  superClass := sup
  interfaces := ifs
  fields := fds
  methods := ms
  attributes := attrs
def plain (name : String) (sup : Option ClassId) : Class where
  name := name
  kind := .ordinary
  loader := none
  accessFlags := 33
  super := sup
  interfaces := #[]
  cf := none
  fields := #[]
  methods := #[]
  instanceTypes := #[]
  staticTypes := #[]
  resolved := #[]
  callSites := []
  init := .initialized
  statics := none
  mirror := none

def pool0 : Array CpInfo := pool [(5, u "<init>"), (0, u "()V"), (1, .class_ 10), (1, u "java/lang/Object")] 113

def k0c0 : Code := { maxStack := 0, maxLocals := 1, code := object_method_1_code, exceptionTable := #[], attributes := #[] }
def k0m0 : Method := { name := "<init>", desc := "()V", sig := { parameters := [], returnType := none }, accessFlags := 1, code := some k0c0 }
/-- java/lang/Object -/
def k0 : Class := { plain "java/lang/Object" none with
  accessFlags := 33
  interfaces := #[]
  cf := some (fileOf pool0 8 #[] #[{ accessFlags := 1, nameIndex := 5, descriptorIndex := 6, attributes := #[] }] 33 0 #[] #[])
  fields := #[]
  methods := #[k0m0]
  instanceTypes := #[]
  staticTypes := #[]
  resolved := Array.replicate 124 none
  statics := none }

def pool1 : Array CpInfo := pool [(2, .class_ 4), (1, u "java/lang/Object"), (0, u "<init>"), (0, u "()V"), (0, .class_ 8), (0, u "com/example/traversim/traversim/aodv/Packet$Rreq"), (0, .methodref 7 10), (0, .nameAndType 5 11), (0, u "(IIIIIIII)V"), (0, .integer 1742810335), (0, .integer 887503681), (0, .integer 28629151), (0, .integer 923521), (0, .methodref 7 17), (0, .nameAndType 18 19), (0, u "hashCode"), (0, u "()I"), (0, .methodref 7 21), (0, .nameAndType 22 23), (0, u "equals"), (0, u "(Ljava/lang/Object;)Z"), (0, .class_ 25), (0, u "com/example/traversim/traversim/aodv/RreqHashCodePinLaw"), (2, u "law"), (0, u "(JJJJ)Z")] 7

def k1m0 : Method := { name := "<init>", desc := "()V", sig := { parameters := [], returnType := none }, accessFlags := 2, code := none }
def k1c1 : Code := { maxStack := 10, maxLocals := 21, code := code, exceptionTable := #[], attributes := #[] }
def k1m1 : Method := { name := "law", desc := "(JJJJ)Z", sig := { parameters := [.long, .long, .long, .long], returnType := some .boolean }, accessFlags := 9, code := some k1c1 }
/-- com/example/traversim/traversim/aodv/RreqHashCodePinLaw -/
def k1 : Class := { plain "com/example/traversim/traversim/aodv/RreqHashCodePinLaw" (some 0) with
  accessFlags := 49
  interfaces := #[]
  cf := some (fileOf pool1 24 #[] #[{ accessFlags := 2, nameIndex := 5, descriptorIndex := 6, attributes := #[] }, { accessFlags := 9, nameIndex := 28, descriptorIndex := 29, attributes := #[] }] 49 2 #[] #[])
  fields := #[]
  methods := #[k1m0, k1m1]
  instanceTypes := #[]
  staticTypes := #[]
  resolved := Array.replicate 37 none
  statics := none }

def pool2 : Array CpInfo := pool [(1, .methodref 2 3), (0, .class_ 4), (0, .nameAndType 5 6), (0, u "java/lang/Object"), (0, u "<init>"), (0, u "()V"), (0, .class_ 8), (0, u "java/lang/Record")] 13

def k2c0 : Code := { maxStack := 1, maxLocals := 1, code := jdk_30_method_1_code, exceptionTable := #[], attributes := #[] }
def k2m0 : Method := { name := "<init>", desc := "()V", sig := { parameters := [], returnType := none }, accessFlags := 4, code := some k2c0 }
/-- java/lang/Record -/
def k2 : Class := { plain "java/lang/Record" (some 0) with
  accessFlags := 1057
  interfaces := #[]
  cf := some (fileOf pool2 7 #[] #[{ accessFlags := 4, nameIndex := 5, descriptorIndex := 6, attributes := #[] }] 1057 2 #[] #[])
  fields := #[]
  methods := #[k2m0]
  instanceTypes := #[]
  staticTypes := #[]
  resolved := Array.replicate 22 none
  statics := none }

def pool3 : Array CpInfo := pool [(2, .class_ 4), (1, u "com/example/traversim/traversim/network/LinkPacket"), (98, u "ORDER"), (0, u "Ljava/util/Comparator;"), (0, .class_ 106), (0, u "java/lang/Object")] 40

/-- com/example/traversim/traversim/network/LinkPacket -/
def k3 : Class := { plain "com/example/traversim/traversim/network/LinkPacket" (some 0) with
  accessFlags := 1537
  interfaces := #[]
  cf := some (fileOf pool3 2 #[] #[] 1537 105 #[] #[{ accessFlags := 25, nameIndex := 103, descriptorIndex := 104, attributes := #[] }])
  fields := #[{ name := "ORDER", type := (.object "java/util/Comparator"), accessFlags := 25, slot := 0, constantValue := 0 }]
  methods := #[]
  instanceTypes := #[]
  staticTypes := #[(.object "java/util/Comparator")]
  resolved := Array.replicate 147 none
  statics := none }

def pool4 : Array CpInfo := pool [(2, .class_ 4), (1, u "com/example/traversim/traversim/aodv/Packet$Rreq"), (3, .class_ 9), (0, u "com/example/traversim/traversim/aodv/Packet$Rrep"), (7, .class_ 19), (1, u "com/example/traversim/traversim/aodv/Packet"), (0, u "TYPES"), (0, u "Ljava/util/List;"), (0, .class_ 23), (0, u "java/lang/Object"), (0, .class_ 25), (0, u "com/example/traversim/traversim/network/LinkPacket")] 13

/-- com/example/traversim/traversim/aodv/Packet -/
def k4 : Class := { plain "com/example/traversim/traversim/aodv/Packet" (some 0) with
  accessFlags := 1537
  interfaces := #[3]
  cf := some (fileOf pool4 17 #[.nestMembers #[8, 2]] #[] 1537 22 #[24] #[{ accessFlags := 25, nameIndex := 20, descriptorIndex := 21, attributes := #[] }])
  fields := #[{ name := "TYPES", type := (.object "java/util/List"), accessFlags := 25, slot := 0, constantValue := 0 }]
  methods := #[]
  instanceTypes := #[]
  staticTypes := #[(.object "java/util/List")]
  resolved := Array.replicate 39 none
  statics := none }

def pool5 : Array CpInfo := pool [(1, .methodref 2 3), (0, .class_ 4), (0, .nameAndType 5 6), (0, u "java/lang/Record"), (0, u "<init>"), (0, u "()V"), (0, .fieldref 8 9), (0, .class_ 10), (0, .nameAndType 11 12), (0, u "com/example/traversim/traversim/aodv/Packet$Rreq"), (0, u "from"), (0, u "I"), (0, .fieldref 8 14), (0, .nameAndType 15 12), (0, u "to"), (0, .fieldref 8 17), (0, .nameAndType 18 12), (0, u "orig"), (0, .fieldref 8 20), (0, .nameAndType 21 12), (0, u "bid"), (0, .fieldref 8 23), (0, .nameAndType 24 12), (0, u "hops"), (0, .fieldref 8 26), (0, .nameAndType 27 12), (0, u "dst"), (0, .fieldref 8 29), (0, .nameAndType 30 12), (0, u "dstseq"), (0, .fieldref 8 32), (0, .nameAndType 33 12), (0, u "origseq"), (2, u "TYPE"), (0, u "Lcom/example/traversim/traversim/network/PacketType;"), (12, u "(IIIIIIII)V"), (22, .class_ 74), (0, u "com/example/traversim/traversim/aodv/Packet"), (13, u "equals"), (0, u "(Ljava/lang/Object;)Z"), (1, u "hashCode"), (0, u "()I")] 30

def k5c0 : Code := { maxStack := 2, maxLocals := 9, code := prog_27_method_1_code, exceptionTable := #[], attributes := #[] }
def k5m0 : Method := { name := "<init>", desc := "(IIIIIIII)V", sig := { parameters := [.int, .int, .int, .int, .int, .int, .int, .int], returnType := none }, accessFlags := 1, code := some k5c0 }
def k5c1 : Code := { maxStack := 2, maxLocals := 3, code := prog_27_method_7_code, exceptionTable := #[], attributes := #[] }
def k5m1 : Method := { name := "equals", desc := "(Ljava/lang/Object;)Z", sig := { parameters := [(.object "java/lang/Object")], returnType := some .boolean }, accessFlags := 1, code := some k5c1 }
def k5c2 : Code := { maxStack := 5, maxLocals := 2, code := prog_27_method_8_code, exceptionTable := #[], attributes := #[] }
def k5m2 : Method := { name := "hashCode", desc := "()I", sig := { parameters := [], returnType := some .int }, accessFlags := 1, code := some k5c2 }
/-- com/example/traversim/traversim/aodv/Packet$Rreq -/
def k5 : Class := { plain "com/example/traversim/traversim/aodv/Packet$Rreq" (some 2) with
  accessFlags := 49
  interfaces := #[4]
  cf := some (fileOf pool5 8 #[.nestHost 73] #[{ accessFlags := 1, nameIndex := 5, descriptorIndex := 50, attributes := #[] }, { accessFlags := 1, nameIndex := 88, descriptorIndex := 89, attributes := #[] }, { accessFlags := 1, nameIndex := 91, descriptorIndex := 92, attributes := #[] }] 49 2 #[73] #[{ accessFlags := 18, nameIndex := 11, descriptorIndex := 12, attributes := #[] }, { accessFlags := 18, nameIndex := 15, descriptorIndex := 12, attributes := #[] }, { accessFlags := 18, nameIndex := 18, descriptorIndex := 12, attributes := #[] }, { accessFlags := 18, nameIndex := 21, descriptorIndex := 12, attributes := #[] }, { accessFlags := 18, nameIndex := 24, descriptorIndex := 12, attributes := #[] }, { accessFlags := 18, nameIndex := 27, descriptorIndex := 12, attributes := #[] }, { accessFlags := 18, nameIndex := 30, descriptorIndex := 12, attributes := #[] }, { accessFlags := 18, nameIndex := 33, descriptorIndex := 12, attributes := #[] }, { accessFlags := 24, nameIndex := 36, descriptorIndex := 37, attributes := #[] }])
  fields := #[{ name := "from", type := .int, accessFlags := 18, slot := 0, constantValue := 0 }, { name := "to", type := .int, accessFlags := 18, slot := 1, constantValue := 0 }, { name := "orig", type := .int, accessFlags := 18, slot := 2, constantValue := 0 }, { name := "bid", type := .int, accessFlags := 18, slot := 3, constantValue := 0 }, { name := "hops", type := .int, accessFlags := 18, slot := 4, constantValue := 0 }, { name := "dst", type := .int, accessFlags := 18, slot := 5, constantValue := 0 }, { name := "dstseq", type := .int, accessFlags := 18, slot := 6, constantValue := 0 }, { name := "origseq", type := .int, accessFlags := 18, slot := 7, constantValue := 0 }, { name := "TYPE", type := (.object "com/example/traversim/traversim/network/PacketType"), accessFlags := 24, slot := 0, constantValue := 0 }]
  methods := #[k5m0, k5m1, k5m2]
  instanceTypes := #[.int, .int, .int, .int, .int, .int, .int, .int]
  staticTypes := #[(.object "com/example/traversim/traversim/network/PacketType")]
  resolved := Array.replicate 123 none
  statics := none }

def pool6 : Array CpInfo := pool [(1, u "java/lang/Cloneable"), (0, .class_ 1), (0, u "java/lang/Object"), (0, .class_ 3)] 3

/-- java/lang/Cloneable -/
def k6 : Class := { plain "java/lang/Cloneable" (some 0) with
  accessFlags := 1537
  interfaces := #[]
  cf := some (fileOf pool6 2 #[] #[] 1537 4 #[] #[])
  fields := #[]
  methods := #[]
  instanceTypes := #[]
  staticTypes := #[]
  resolved := Array.replicate 8 none
  statics := none }

def pool7 : Array CpInfo := pool [(1, u "java/io/Serializable"), (0, .class_ 1), (0, u "java/lang/Object"), (0, .class_ 3)] 3

/-- java/io/Serializable -/
def k7 : Class := { plain "java/io/Serializable" (some 0) with
  accessFlags := 1537
  interfaces := #[]
  cf := some (fileOf pool7 2 #[] #[] 1537 4 #[] #[])
  fields := #[]
  methods := #[]
  instanceTypes := #[]
  staticTypes := #[]
  resolved := Array.replicate 8 none
  statics := none }

/-- the primitive byte -/
def k8 : Class := { plain "byte" none with kind := .primitive 'B', accessFlags := 0x411 }
/-- [B -/
def k9 : Class := { plain "[B" (some 0) with kind := .array 8 .byte, interfaces := #[6, 7], accessFlags := 1041 }

/-- the primitive int -/
def k10 : Class := { plain "int" none with kind := .primitive 'I', accessFlags := 0x411 }
/-- [I -/
def k11 : Class := { plain "[I" (some 0) with kind := .array 10 .int, interfaces := #[6, 7], accessFlags := 1041 }

def heap : Heap := #[]
def classes : Array Class := #[k0, k1, k2, k3, k4, k5, k6, k7, k8, k9, k10, k11]
def interned : List (Array UInt16 × Addr) := []
def slotsUsed : Nat := 0
def theMethod : MethodId := ⟨1, 1⟩
def args0 : Array Value := #[.long 5, .long 5, .long 5, .long 5]
def aboutOver (below : List Frame) : State where
  vm := { classes := classes, interned := interned.toArray }
  heap := heap
  slotsUsed := slotsUsed
  threads := #[{ frames := .invoking theMethod args0 :: below }]
def below0 : List Frame := [.native { method := ⟨0, 0⟩, args := #[] }]
def about1 : State := aboutOver below0
def p0 : Program := .bare "" "" ""
def e0 : Env := launch0.env 0 0 0
theorem w_frames : about1.frames = Frame.invoking theMethod args0 :: below0 := rfl
set_option maxRecDepth 65536 in
theorem w_args : argsFit about1.vm theMethod args0 = true := by decide +kernel
set_option maxRecDepth 65536 in
theorem w_heap : heapFits about1 = true := by decide +kernel
set_option maxRecDepth 65536 in
theorem w_runnable : about1.curStatus? = some .runnable := by decide +kernel
set_option maxRecDepth 65536 in
theorem w_alone : about1.alone = true := by decide +kernel
set_option maxRecDepth 65536 in
theorem w_named : about1.methodNamed? x = some theMethod := by decide +kernel
set_option maxRecDepth 65536 in
theorem w_hears : about1.hears theMethod below0 = true := by decide +kernel
set_option maxRecDepth 65536 in
theorem w_ripe : about1.ripe theMethod args0 below0 = true := by decide +kernel
theorem w_running : about1.status = .running := rfl
set_option maxRecDepth 65536 in
theorem w_room : about1.hasRoom e0.platform room_1 = true :=
  launch0.hasRoom_least _ room_1 (by decide +kernel) (by decide +kernel) (by decide +kernel) (by decide +kernel) (by decide +kernel) (by decide +kernel)
theorem allAtoms_all (ts : List Jvm.Cond) (a : Array Jvm.Value) (st : Jvm.State) : (allAtoms ts).before a st = ts.all (fun c => c.before a st) := by
  induction ts with
  | nil => rfl
  | cons c t ih =>
    show (Jvm.Cond.and c (allAtoms t)).before a st = _
    rw [Jvm.Cond.before_and, ih, List.all_cons]
def words1 : List Jvm.Cond := Jvm.Cond.code x code maxLocals ret :: tables_1
/-- a 'code' word, met by the world's own term for the bytes: nothing is compared byte by byte -/
theorem code_word {y : MethodName} {bytes : ByteArray} {mx : Nat} {rt : Option FieldType} {a : Array Value} {s : State} {m : MethodId} {meth : Method} {c : Code} (h1 : s.methodNamed? y = some m) (h2 : s.vm.method? m = some meth) (h3 : meth.code = some c) (h4 : c.code = bytes)
    (h5 : (c.maxLocals == mx && c.exceptionTable.isEmpty && decide (c.maxStack ≤ mostOperands) && decide (meth.sig.returnType = rt) && !meth.locks && decide (parseMethodDescriptor y.desc = some meth.sig)) = true) : (Jvm.Cond.code y bytes mx rt).before a s = true := by
  simp only [Bool.and_eq_true, beq_iff_eq, Bool.not_eq_true', decide_eq_true_eq] at h5
  obtain ⟨⟨⟨⟨⟨g1, g2⟩, g3⟩, g4⟩, g5⟩, g6⟩ := h5
  simp [Cond.before, Cond.holds, Cond.value, h1, h2, h3, h4, g1, g2, g3, g4, g5, g6]
def isCode : Jvm.Cond → Bool
  | .code _ _ _ _ => true
  | _ => false
theorem all_split {L : List Jvm.Cond} {P : Jvm.Cond → Bool} (h1 : L.all (fun c => isCode c || P c) = true) (h2 : ∀ c ∈ L.filter isCode, P c = true) : L.all P = true := by
  refine List.all_eq_true.mpr fun c hc => ?_
  have h := List.all_eq_true.mp h1 c hc
  rcases Bool.eq_false_or_eq_true (isCode c) with hi | hi
  · exact h2 c (List.mem_filter.mpr ⟨hc, hi⟩)
  · simpa [hi] using h
set_option maxRecDepth 65536 in
theorem w_c0 : (Jvm.Cond.code x code maxLocals ret).before args0 about1 = true := code_word (m := ⟨1, 1⟩) (meth := k1m1) (c := k1c1) (by decide +kernel) rfl rfl rfl (by decide +kernel)
set_option maxRecDepth 65536 in
theorem w_c1 : (Jvm.Cond.code ({ cls := "com/example/traversim/traversim/aodv/Packet$Rreq", name := "<init>", desc := "(IIIIIIII)V" } : Jvm.MethodName) prog_27_method_1_code (9 : Nat) (Option.none : Option Jvm.ClassFile.FieldType)).before args0 about1 = true := code_word (m := ⟨5, 0⟩) (meth := k5m0) (c := k5c0) (by decide +kernel) rfl rfl rfl (by decide +kernel)
set_option maxRecDepth 65536 in
theorem w_c2 : (Jvm.Cond.code ({ cls := "java/lang/Record", name := "<init>", desc := "()V" } : Jvm.MethodName) jdk_30_method_1_code (1 : Nat) (Option.none : Option Jvm.ClassFile.FieldType)).before args0 about1 = true := code_word (m := ⟨2, 0⟩) (meth := k2m0) (c := k2c0) (by decide +kernel) rfl rfl rfl (by decide +kernel)
set_option maxRecDepth 65536 in
theorem w_c3 : (Jvm.Cond.code ({ cls := "java/lang/Object", name := "<init>", desc := "()V" } : Jvm.MethodName) object_method_1_code (1 : Nat) (Option.none : Option Jvm.ClassFile.FieldType)).before args0 about1 = true := code_word (m := ⟨0, 0⟩) (meth := k0m0) (c := k0c0) (by decide +kernel) rfl rfl rfl (by decide +kernel)
set_option maxRecDepth 65536 in
theorem w_c4 : (Jvm.Cond.code ({ cls := "com/example/traversim/traversim/aodv/Packet$Rreq", name := "hashCode", desc := "()I" } : Jvm.MethodName) prog_27_method_8_code (2 : Nat) (Option.some Jvm.ClassFile.FieldType.int)).before args0 about1 = true := code_word (m := ⟨5, 2⟩) (meth := k5m2) (c := k5c2) (by decide +kernel) rfl rfl rfl (by decide +kernel)
set_option maxRecDepth 65536 in
theorem w_c5 : (Jvm.Cond.code ({ cls := "com/example/traversim/traversim/aodv/Packet$Rreq", name := "equals", desc := "(Ljava/lang/Object;)Z" } : Jvm.MethodName) prog_27_method_7_code (3 : Nat) (Option.some Jvm.ClassFile.FieldType.boolean)).before args0 about1 = true := code_word (m := ⟨5, 1⟩) (meth := k5m1) (c := k5c1) (by decide +kernel) rfl rfl rfl (by decide +kernel)
def codes1 : List Jvm.Cond := [Jvm.Cond.code x code maxLocals ret, Jvm.Cond.code ({ cls := "com/example/traversim/traversim/aodv/Packet$Rreq", name := "<init>", desc := "(IIIIIIII)V" } : Jvm.MethodName) prog_27_method_1_code (9 : Nat) (Option.none : Option Jvm.ClassFile.FieldType), Jvm.Cond.code ({ cls := "java/lang/Record", name := "<init>", desc := "()V" } : Jvm.MethodName) jdk_30_method_1_code (1 : Nat) (Option.none : Option Jvm.ClassFile.FieldType), Jvm.Cond.code ({ cls := "java/lang/Object", name := "<init>", desc := "()V" } : Jvm.MethodName) object_method_1_code (1 : Nat) (Option.none : Option Jvm.ClassFile.FieldType), Jvm.Cond.code ({ cls := "com/example/traversim/traversim/aodv/Packet$Rreq", name := "hashCode", desc := "()I" } : Jvm.MethodName) prog_27_method_8_code (2 : Nat) (Option.some Jvm.ClassFile.FieldType.int), Jvm.Cond.code ({ cls := "com/example/traversim/traversim/aodv/Packet$Rreq", name := "equals", desc := "(Ljava/lang/Object;)Z" } : Jvm.MethodName) prog_27_method_7_code (3 : Nat) (Option.some Jvm.ClassFile.FieldType.boolean)]
set_option maxRecDepth 65536 in
theorem codes_eq : words1.filter isCode = codes1 := rfl
theorem w_codes : ∀ c ∈ words1.filter isCode, c.before args0 about1 = true := by
  rw [codes_eq]
  intro c hc
  simp only [codes1, List.mem_cons, List.not_mem_nil, or_false] at hc
  rcases hc with rfl | rfl | rfl | rfl | rfl | rfl
  · exact w_c0
  · exact w_c1
  · exact w_c2
  · exact w_c3
  · exact w_c4
  · exact w_c5
set_option maxRecDepth 65536 in
theorem w_t1 : (words1.take 24).all (fun c => isCode c || c.before args0 about1) = true := by decide +kernel
set_option maxRecDepth 65536 in
theorem w_t2 : (words1.drop 24).all (fun c => isCode c || c.before args0 about1) = true := by decide +kernel
theorem w_tables : (allAtoms (Jvm.Cond.code x code maxLocals ret :: tables_1)).before args0 about1 = true := by
  rw [allAtoms_all]
  show words1.all (fun c => c.before args0 about1) = true
  refine all_split ?_ w_codes
  rw [← List.take_append_drop 24 words1, List.all_append, w_t1, w_t2]
  rfl
set_option maxRecDepth 65536 in
theorem w_case : (Jvm.Cond.and given_1 narrow_1).before args0 about1 = true := by decide +kernel
theorem w_applies : (headSpec (Jvm.Cond.code x code maxLocals ret :: tables_1) room_1).applies x e0.platform about1 = true :=
  (Spec.applies_iff w_frames).mpr ⟨w_running, w_runnable, w_alone, w_named, w_hears, w_ripe, w_room, w_tables⟩
theorem atStart : AtStart classFile x code maxLocals ret World_1 tables_1 room_1 Calls_1 rest_1 Pre_1 launch0 p0 e0 about1 theMethod args0 below0 :=
  ⟨lists_1, trivial, launch0.admits_env _ _ _, launch0.least_env, fairChoices_fair.cas, fairChoices_fair.clock, w_frames, w_args, w_heap, w_applies, trivial, trivial, w_case⟩
end start1
theorem witness_1 : WitnessClaimed_1 := ⟨start1.p0, start1.e0, start1.about1, start1.theMethod, start1.args0, start1.below0, start1.atStart⟩
end Jvm.Pilot.@@N@@
