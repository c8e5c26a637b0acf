import JvmDerived
import JvmDerived.Pilot.@@N@@Statement
import JvmDerived.Pilot.@@N@@Code
set_option linter.unusedVariables false
set_option linter.unusedSimpArgs false
namespace Jvm.Pilot.@@N@@
open Jvm Jvm.ClassFile Sem Op Lib Jvm.Free Jvm.Stand Jvm.LawKit Jvm.RoadKit Bundle Jvm.Pilot.@@N@@.Jvm.D
theorem own_pd0 : parseMethodDescriptor "()V" = some ⟨[], none⟩ := by decide +kernel
theorem own_pd1 : parseMethodDescriptor "(Lcom/example/tracegauge/tracegauge/TraceTokens$Tally;JJJJ)V" = some ⟨[(.object "com/example/tracegauge/tracegauge/TraceTokens$Tally"), .long, .long, .long, .long], none⟩ := by decide +kernel
theorem own_pd2 : parseMethodDescriptor "(Lcom/example/tracegauge/tracegauge/TraceTokens$Tally;J)V" = some ⟨[(.object "com/example/tracegauge/tracegauge/TraceTokens$Tally"), .long], none⟩ := by decide +kernel
theorem own_pd3 : parseMethodDescriptor "(Lcom/example/tracegauge/tracegauge/TraceTokens$Tally;Lcom/example/tracegauge/tracegauge/TraceTokens$Tally;)Z" = some ⟨[(.object "com/example/tracegauge/tracegauge/TraceTokens$Tally"), (.object "com/example/tracegauge/tracegauge/TraceTokens$Tally")], some .boolean⟩ := by decide +kernel
theorem own_dist (x y m n : Int64) : x + y * m + y * n = x + y * (m + n) := by rw [Int64.mul_add, Int64.add_assoc]
theorem own_unit (a : Int64) : (0 : Int64) + a * (1 : Int64) = a := by rw [Int64.mul_one, Int64.zero_add]
theorem own_d1_0 : decode prog_146_method_1_code 0 = .ok (.aload_n 0, 1) := by decide +kernel
theorem own_d1_1 : decode prog_146_method_1_code 1 = .ok (.invokespecial 1, 3) := by decide +kernel
theorem own_d1_4 : decode prog_146_method_1_code 4 = .ok (.return_, 1) := by decide +kernel
theorem own_pn1 : plainName "com/example/tracegauge/tracegauge/TraceTokens$Tally" = true := by first | (simp [plainName, overriddenIn]; done) | decide +kernel
theorem own_ef1 (m : MethodId) (a : Addr) : entryFrame m #[(.ref a)] 1 = mkF m 0 #[.val (.ref a)] [] := by first | (simp [entryFrame, mkF, argsToLocals, Value.category]; done) | rfl
def own_Q1 (Z : State) (a : Addr) (h0 : Heap) (n0 : Nat) (v : Option Value) (h : Heap) (L : List Loc) : Prop := (v = none) ∧ (Fr n0 L) ∧ (h = h0)
set_option maxRecDepth 65536 in
set_option maxHeartbeats 40000000 in
theorem own_rm1 (l : Launch) (Z : State) (a0 : Array Value) (hw : ∀ d ∈ tables_1, d.before a0 Z = true) (ws : List Jvm.Cond) (a : Addr) (h0 : Heap) (n0 : Nat) (Z0 : n0 ≤ h0.size)  :
    MetFree l (⟨"com/example/tracegauge/tracegauge/TraceTokens$Tally", "<init>", "()V"⟩ : MethodName) (head1 (Jvm.Cond.code (⟨"com/example/tracegauge/tracegauge/TraceTokens$Tally", "<init>", "()V"⟩ : MethodName) prog_146_method_1_code 1 none :: ws) ({ frames := 1, cells := 0, slots := 0, locals := 12 } : Room)) (fun ar_ U_ => ar_ = #[(.ref a)] ∧ Z.Warmed39 U_.vm ∧ U_.heap = h0) (fun _ _ _ _ _ => True) (fun _ U_ o_ U_' => ∃ v_ L_, o_ = .returned v_ ∧ own_Q1 Z a h0 n0 v_ U_'.heap L_ ∧ FrameEnd U_ o_ U_' L_ ({ frames := 1, cells := 0, slots := 0, locals := 12 } : Room).cells ({ frames := 1, cells := 0, slots := 0, locals := 12 } : Room).slots) := by
  refine MetFree.of_bodySF (plainFor_of_name own_pn1) hisR ?_
  intro p e s m args below meth c s₁ Bd hml0 hP hK
  obtain ⟨rfl, hZ, hh⟩ := hP
  have hx := Bd.exec
  have hby := Bd.bytes
  have hml : c.maxLocals = 1 := hml0
  have hown : s.vm.findClass "com/example/tracegauge/tracegauge/TraceTokens$Tally" = some m.cls := findClass_of_methodNamed Bd.named
  have hnm := (name_of_methodNamed Bd.named Bd.method).1
  have X0 : Stand p l e ({ frames := 1, cells := 0, slots := 0, locals := 12 } : Room) s m #[(.ref a)] below meth c s₁ [] 0 0 := Stand.of_body Bd
  have e0 : s₁.heap = h0 := by rw [← hh, Bd.state]; rfl
  have N0 := Fr.nil n0
  have pre0 : ∀ t, Steps p.tables e below (s₁.setTop (mkF m 0 #[.val (.ref a)] [])) t → Steps p.tables e below (s₁.setTop (entryFrame m #[(.ref a)] 1)) t := fun t k => castTop (own_ef1 m a) k
  obtain ⟨T1, X1, e1, st1⟩ := initO X0 hx hZ hown (hw _ (List.mem_of_getElem? (i := 6) rfl)) (hw _ (List.mem_of_getElem? (i := 7) rfl)) (hw _ (List.mem_of_getElem? (i := 8) rfl)) e0 (g := (mkF m 1 #[.val (.ref a)] [(.ref a)])) rfl (by rw [hml]; rfl) rfl (hb hby own_d1_1) (by decide) (W := 0) (by show 2 * 0 + _ ≤ _; exact Nat.le_of_eq rfl) (by decide)
  obtain ⟨fs, hr, hrun, hended, hW, hsame⟩ := X1.leave (v := none) (fun _ => rfl)
  refine ⟨_, _, pre0 _ ?_, hrun, hended, _, _, rfl, ?_, ⟨_, rfl⟩, hW, hsame.mono (by decide) (by decide)⟩
  · show Steps p.tables e below (s₁.setTop (mkF m 0 #[.val (.ref a)] [])) _
    refine XS.aloadN X0.here hx rfl (hb hby own_d1_0) rfl rfl ?_
    show Steps p.tables e below (s₁.setTop (mkF m 1 #[.val (.ref a)] [(.ref a)])) _
    refine st1 _ ?_
    show Steps p.tables e below (T1.setTop (mkF m 4 #[.val (.ref a)] [])) _
    exact X1.returnOut hx Bd.returns (hb hby own_d1_4) hr
  · show own_Q1 Z a h0 n0 _ T1.heap _
    exact ⟨rfl, N0, e1⟩
theorem own_d3_0 : decode method_3_code 0 = .ok (.aload_n 0, 1) := by decide +kernel
theorem own_d3_1 : decode method_3_code 1 = .ok (.lload 7, 2) := by decide +kernel
theorem own_d3_3 : decode method_3_code 3 = .ok (.putfield 10, 3) := by decide +kernel
theorem own_d3_6 : decode method_3_code 6 = .ok (.aload_n 0, 1) := by decide +kernel
theorem own_d3_7 : decode method_3_code 7 = .ok (.lload 5, 2) := by decide +kernel
theorem own_d3_9 : decode method_3_code 9 = .ok (.putfield 14, 3) := by decide +kernel
theorem own_d3_12 : decode method_3_code 12 = .ok (.aload_n 0, 1) := by decide +kernel
theorem own_d3_13 : decode method_3_code 13 = .ok (.lload_n 3, 1) := by decide +kernel
theorem own_d3_14 : decode method_3_code 14 = .ok (.putfield 17, 3) := by decide +kernel
theorem own_d3_17 : decode method_3_code 17 = .ok (.aload_n 0, 1) := by decide +kernel
theorem own_d3_18 : decode method_3_code 18 = .ok (.lload_n 1, 1) := by decide +kernel
theorem own_d3_19 : decode method_3_code 19 = .ok (.putfield 20, 3) := by decide +kernel
theorem own_d3_22 : decode method_3_code 22 = .ok (.aload_n 0, 1) := by decide +kernel
theorem own_d3_23 : decode method_3_code 23 = .ok (.lload_n 3, 1) := by decide +kernel
theorem own_d3_24 : decode method_3_code 24 = .ok (.lload 5, 2) := by decide +kernel
theorem own_d3_26 : decode method_3_code 26 = .ok (.lxor, 1) := by decide +kernel
theorem own_d3_27 : decode method_3_code 27 = .ok (.putfield 23, 3) := by decide +kernel
theorem own_d3_30 : decode method_3_code 30 = .ok (.return_, 1) := by decide +kernel
theorem own_pn3 : plainName "com/example/tracegauge/tracegauge/TallyAddPinLaw" = true := by first | (simp [plainName, overriddenIn]; done) | decide +kernel
theorem own_ef3 (m : MethodId) (t0 : Addr) (j1 : Int64) (j2 : Int64) (j3 : Int64) (j4 : Int64) : entryFrame m #[(.ref t0), (.long j1), (.long j2), (.long j3), (.long j4)] 9 = mkF m 0 #[.val (.ref t0), .val (.long j1), .second, .val (.long j2), .second, .val (.long j3), .second, .val (.long j4), .second] [] := by first | (simp [entryFrame, mkF, argsToLocals, Value.category]; done) | rfl
def own_Q3 (Z : State) (t0 : Addr) (j1 : Int64) (j2 : Int64) (j3 : Int64) (j4 : Int64) (u_produced : Value) (u_consumed : Value) (u_missing : Value) (u_remaining : Value) (u_violated : Value) (h0 : Heap) (n0 : Nat) (v : Option Value) (h : Heap) (L : List Loc) : Prop := (v = none) ∧ (Fr n0 L) ∧ (Keep h0 h [t0]) ∧ (Exa Z h t0 "com/example/tracegauge/tracegauge/TraceTokens$Tally") ∧ (Fld Z h t0 "com/example/tracegauge/tracegauge/TraceTokens$Tally" "produced" "J" (.long j4)) ∧ (Fld Z h t0 "com/example/tracegauge/tracegauge/TraceTokens$Tally" "consumed" "J" (.long j3)) ∧ (Fld Z h t0 "com/example/tracegauge/tracegauge/TraceTokens$Tally" "missing" "J" (.long j2)) ∧ (Fld Z h t0 "com/example/tracegauge/tracegauge/TraceTokens$Tally" "remaining" "J" (.long j1)) ∧ (Fld Z h t0 "com/example/tracegauge/tracegauge/TraceTokens$Tally" "violated" "J" (.long (j2 ^^^ j3)))
set_option maxRecDepth 65536 in
set_option maxHeartbeats 40000000 in
theorem own_rm3 (l : Launch) (Z : State) (a0 : Array Value) (hw : ∀ d ∈ tables_1, d.before a0 Z = true) (ws : List Jvm.Cond) (t0 : Addr) (j1 : Int64) (j2 : Int64) (j3 : Int64) (j4 : Int64) (u_produced : Value) (u_consumed : Value) (u_missing : Value) (u_remaining : Value) (u_violated : Value) (h0 : Heap) (n0 : Nat) (Z0 : n0 ≤ h0.size) (P_E_t0 : Exa Z h0 t0 "com/example/tracegauge/tracegauge/TraceTokens$Tally") (P_F_t0_produced : Fld Z h0 t0 "com/example/tracegauge/tracegauge/TraceTokens$Tally" "produced" "J" u_produced) (P_F_t0_consumed : Fld Z h0 t0 "com/example/tracegauge/tracegauge/TraceTokens$Tally" "consumed" "J" u_consumed) (P_F_t0_missing : Fld Z h0 t0 "com/example/tracegauge/tracegauge/TraceTokens$Tally" "missing" "J" u_missing) (P_F_t0_remaining : Fld Z h0 t0 "com/example/tracegauge/tracegauge/TraceTokens$Tally" "remaining" "J" u_remaining) (P_F_t0_violated : Fld Z h0 t0 "com/example/tracegauge/tracegauge/TraceTokens$Tally" "violated" "J" u_violated) (g_t : n0 ≤ t0) :
    MetFree l (⟨"com/example/tracegauge/tracegauge/TallyAddPinLaw", "fill", "(Lcom/example/tracegauge/tracegauge/TraceTokens$Tally;JJJJ)V"⟩ : MethodName) (head1 (Jvm.Cond.code (⟨"com/example/tracegauge/tracegauge/TallyAddPinLaw", "fill", "(Lcom/example/tracegauge/tracegauge/TraceTokens$Tally;JJJJ)V"⟩ : MethodName) method_3_code 9 none :: ws) ({ frames := 0, cells := 0, slots := 0, locals := 0 } : Room)) (fun ar_ U_ => ar_ = #[(.ref t0), (.long j1), (.long j2), (.long j3), (.long j4)] ∧ Z.Warmed39 U_.vm ∧ U_.heap = h0) (fun _ _ _ _ _ => True) (fun _ U_ o_ U_' => ∃ v_ L_, o_ = .returned v_ ∧ own_Q3 Z t0 j1 j2 j3 j4 u_produced u_consumed u_missing u_remaining u_violated h0 n0 v_ U_'.heap L_ ∧ FrameEnd U_ o_ U_' L_ ({ frames := 0, cells := 0, slots := 0, locals := 0 } : Room).cells ({ frames := 0, cells := 0, slots := 0, locals := 0 } : Room).slots) := by
  refine MetFree.of_bodySF (plainFor_of_name own_pn3) hisR ?_
  intro p e s m args below meth c s₁ Bd hml0 hP hK
  obtain ⟨rfl, hZ, hh⟩ := hP
  have hx := Bd.exec
  have hby := Bd.bytes
  have hml : c.maxLocals = 9 := hml0
  have hown : s.vm.findClass "com/example/tracegauge/tracegauge/TallyAddPinLaw" = some m.cls := findClass_of_methodNamed Bd.named
  have hnm := (name_of_methodNamed Bd.named Bd.method).1
  have X0 : Stand p l e ({ frames := 0, cells := 0, slots := 0, locals := 0 } : Room) s m #[(.ref t0), (.long j1), (.long j2), (.long j3), (.long j4)] below meth c s₁ [] 0 0 := Stand.of_body Bd
  have e0 : s₁.heap = h0 := by rw [← hh, Bd.state]; rfl
  have N0 := Fr.nil n0
  have pre0 : ∀ t, Steps p.tables e below (s₁.setTop (mkF m 0 #[.val (.ref t0), .val (.long j1), .second, .val (.long j2), .second, .val (.long j3), .second, .val (.long j4), .second] [])) t → Steps p.tables e below (s₁.setTop (entryFrame m #[(.ref t0), (.long j1), (.long j2), (.long j3), (.long j4)] 9)) t := fun t k => castTop (own_ef3 m t0 j1 j2 j3 j4) k
  obtain ⟨T1, h1, X1, e1, W1, st1⟩ := putF X0 hx hZ hown (host := "") (Or.inl (hw _ (List.mem_of_getElem? (i := 9) rfl))) Via.refl e0 P_F_t0_produced P_E_t0 (Or.inl (hw _ (List.mem_of_getElem? (i := 10) rfl))) (hw _ (List.mem_of_getElem? (i := 1) rfl)) (ty := .long) (by decide) rfl rfl (g := (mkF m 3 #[.val (.ref t0), .val (.long j1), .second, .val (.long j2), .second, .val (.long j3), .second, .val (.long j4), .second] [(.long j4), (.ref t0)])) rfl rfl (hb hby own_d3_3)
  have Fw1 : Fld Z h1 t0 "com/example/tracegauge/tracegauge/TraceTokens$Tally" "produced" "J" (.long j4) := Fld.same W1 P_F_t0_produced
  have K1 : Keep h0 h1 [t0] := (Keep.refl h0 [t0]).wr W1 (Or.inl (List.mem_of_getElem? (i := 0) rfl))
  have N1 := Fr.snoc X1 N0 g_t
  have FF_t0_consumed_2 : Fld Z h1 t0 "com/example/tracegauge/tracegauge/TraceTokens$Tally" "consumed" "J" u_consumed := (P_F_t0_consumed.other W1 (Or.inr (slot_ne (Or.inl (hw _ (List.mem_of_getElem? (i := 12) rfl))) (Or.inl (hw _ (List.mem_of_getElem? (i := 10) rfl))) (by decide) (t := .long) (t' := .long) (by decide) (by decide))))
  have FE_t0_3 : Exa Z h1 t0 "com/example/tracegauge/tracegauge/TraceTokens$Tally" := (P_E_t0.wr W1)
  obtain ⟨T4, h4, X4, e4, W4, st4⟩ := putF X1 hx hZ hown (host := "") (Or.inl (hw _ (List.mem_of_getElem? (i := 11) rfl))) Via.refl e1 FF_t0_consumed_2 FE_t0_3 (Or.inl (hw _ (List.mem_of_getElem? (i := 12) rfl))) (hw _ (List.mem_of_getElem? (i := 1) rfl)) (ty := .long) (by decide) rfl rfl (g := (mkF m 9 #[.val (.ref t0), .val (.long j1), .second, .val (.long j2), .second, .val (.long j3), .second, .val (.long j4), .second] [(.long j3), (.ref t0)])) rfl rfl (hb hby own_d3_9)
  have Fw4 : Fld Z h4 t0 "com/example/tracegauge/tracegauge/TraceTokens$Tally" "consumed" "J" (.long j3) := Fld.same W4 FF_t0_consumed_2
  have K4 : Keep h0 h4 [t0] := K1.wr W4 (Or.inl (List.mem_of_getElem? (i := 0) rfl))
  have N4 := Fr.snoc X4 N1 g_t
  have FF_t0_missing_5 : Fld Z h4 t0 "com/example/tracegauge/tracegauge/TraceTokens$Tally" "missing" "J" u_missing := ((P_F_t0_missing.other W1 (Or.inr (slot_ne (Or.inl (hw _ (List.mem_of_getElem? (i := 14) rfl))) (Or.inl (hw _ (List.mem_of_getElem? (i := 10) rfl))) (by decide) (t := .long) (t' := .long) (by decide) (by decide)))).other W4 (Or.inr (slot_ne (Or.inl (hw _ (List.mem_of_getElem? (i := 14) rfl))) (Or.inl (hw _ (List.mem_of_getElem? (i := 12) rfl))) (by decide) (t := .long) (t' := .long) (by decide) (by decide))))
  have FE_t0_6 : Exa Z h4 t0 "com/example/tracegauge/tracegauge/TraceTokens$Tally" := (FE_t0_3.wr W4)
  obtain ⟨T7, h7, X7, e7, W7, st7⟩ := putF X4 hx hZ hown (host := "") (Or.inl (hw _ (List.mem_of_getElem? (i := 13) rfl))) Via.refl e4 FF_t0_missing_5 FE_t0_6 (Or.inl (hw _ (List.mem_of_getElem? (i := 14) rfl))) (hw _ (List.mem_of_getElem? (i := 1) rfl)) (ty := .long) (by decide) rfl rfl (g := (mkF m 14 #[.val (.ref t0), .val (.long j1), .second, .val (.long j2), .second, .val (.long j3), .second, .val (.long j4), .second] [(.long j2), (.ref t0)])) rfl rfl (hb hby own_d3_14)
  have Fw7 : Fld Z h7 t0 "com/example/tracegauge/tracegauge/TraceTokens$Tally" "missing" "J" (.long j2) := Fld.same W7 FF_t0_missing_5
  have K7 : Keep h0 h7 [t0] := K4.wr W7 (Or.inl (List.mem_of_getElem? (i := 0) rfl))
  have N7 := Fr.snoc X7 N4 g_t
  have FF_t0_remaining_8 : Fld Z h7 t0 "com/example/tracegauge/tracegauge/TraceTokens$Tally" "remaining" "J" u_remaining := (((P_F_t0_remaining.other W1 (Or.inr (slot_ne (Or.inl (hw _ (List.mem_of_getElem? (i := 16) rfl))) (Or.inl (hw _ (List.mem_of_getElem? (i := 10) rfl))) (by decide) (t := .long) (t' := .long) (by decide) (by decide)))).other W4 (Or.inr (slot_ne (Or.inl (hw _ (List.mem_of_getElem? (i := 16) rfl))) (Or.inl (hw _ (List.mem_of_getElem? (i := 12) rfl))) (by decide) (t := .long) (t' := .long) (by decide) (by decide)))).other W7 (Or.inr (slot_ne (Or.inl (hw _ (List.mem_of_getElem? (i := 16) rfl))) (Or.inl (hw _ (List.mem_of_getElem? (i := 14) rfl))) (by decide) (t := .long) (t' := .long) (by decide) (by decide))))
  have FE_t0_9 : Exa Z h7 t0 "com/example/tracegauge/tracegauge/TraceTokens$Tally" := (FE_t0_6.wr W7)
  obtain ⟨T10, h10, X10, e10, W10, st10⟩ := putF X7 hx hZ hown (host := "") (Or.inl (hw _ (List.mem_of_getElem? (i := 15) rfl))) Via.refl e7 FF_t0_remaining_8 FE_t0_9 (Or.inl (hw _ (List.mem_of_getElem? (i := 16) rfl))) (hw _ (List.mem_of_getElem? (i := 1) rfl)) (ty := .long) (by decide) rfl rfl (g := (mkF m 19 #[.val (.ref t0), .val (.long j1), .second, .val (.long j2), .second, .val (.long j3), .second, .val (.long j4), .second] [(.long j1), (.ref t0)])) rfl rfl (hb hby own_d3_19)
  have Fw10 : Fld Z h10 t0 "com/example/tracegauge/tracegauge/TraceTokens$Tally" "remaining" "J" (.long j1) := Fld.same W10 FF_t0_remaining_8
  have K10 : Keep h0 h10 [t0] := K7.wr W10 (Or.inl (List.mem_of_getElem? (i := 0) rfl))
  have N10 := Fr.snoc X10 N7 g_t
  have FF_t0_violated_11 : Fld Z h10 t0 "com/example/tracegauge/tracegauge/TraceTokens$Tally" "violated" "J" u_violated := ((((P_F_t0_violated.other W1 (Or.inr (slot_ne (Or.inl (hw _ (List.mem_of_getElem? (i := 18) rfl))) (Or.inl (hw _ (List.mem_of_getElem? (i := 10) rfl))) (by decide) (t := .long) (t' := .long) (by decide) (by decide)))).other W4 (Or.inr (slot_ne (Or.inl (hw _ (List.mem_of_getElem? (i := 18) rfl))) (Or.inl (hw _ (List.mem_of_getElem? (i := 12) rfl))) (by decide) (t := .long) (t' := .long) (by decide) (by decide)))).other W7 (Or.inr (slot_ne (Or.inl (hw _ (List.mem_of_getElem? (i := 18) rfl))) (Or.inl (hw _ (List.mem_of_getElem? (i := 14) rfl))) (by decide) (t := .long) (t' := .long) (by decide) (by decide)))).other W10 (Or.inr (slot_ne (Or.inl (hw _ (List.mem_of_getElem? (i := 18) rfl))) (Or.inl (hw _ (List.mem_of_getElem? (i := 16) rfl))) (by decide) (t := .long) (t' := .long) (by decide) (by decide))))
  have FE_t0_12 : Exa Z h10 t0 "com/example/tracegauge/tracegauge/TraceTokens$Tally" := (FE_t0_9.wr W10)
  obtain ⟨T13, h13, X13, e13, W13, st13⟩ := putF X10 hx hZ hown (host := "") (Or.inl (hw _ (List.mem_of_getElem? (i := 17) rfl))) Via.refl e10 FF_t0_violated_11 FE_t0_12 (Or.inl (hw _ (List.mem_of_getElem? (i := 18) rfl))) (hw _ (List.mem_of_getElem? (i := 1) rfl)) (ty := .long) (by decide) rfl rfl (g := (mkF m 27 #[.val (.ref t0), .val (.long j1), .second, .val (.long j2), .second, .val (.long j3), .second, .val (.long j4), .second] [(.long (j2 ^^^ j3)), (.ref t0)])) rfl rfl (hb hby own_d3_27)
  have Fw13 : Fld Z h13 t0 "com/example/tracegauge/tracegauge/TraceTokens$Tally" "violated" "J" (.long (j2 ^^^ j3)) := Fld.same W13 FF_t0_violated_11
  have K13 : Keep h0 h13 [t0] := K10.wr W13 (Or.inl (List.mem_of_getElem? (i := 0) rfl))
  have N13 := Fr.snoc X13 N10 g_t
  obtain ⟨fs, hr, hrun, hended, hW, hsame⟩ := X13.leave (v := none) (fun _ => rfl)
  refine ⟨_, _, pre0 _ ?_, hrun, hended, _, _, rfl, ?_, ⟨_, rfl⟩, hW, hsame.mono (by decide) (by decide)⟩
  · show Steps p.tables e below (s₁.setTop (mkF m 0 #[.val (.ref t0), .val (.long j1), .second, .val (.long j2), .second, .val (.long j3), .second, .val (.long j4), .second] [])) _
    refine XS.aloadN X0.here hx rfl (hb hby own_d3_0) rfl rfl ?_
    show Steps p.tables e below (s₁.setTop (mkF m 1 #[.val (.ref t0), .val (.long j1), .second, .val (.long j2), .second, .val (.long j3), .second, .val (.long j4), .second] [(.ref t0)])) _
    refine XT.lload X0.here hx rfl (hb hby own_d3_1) rfl ?_
    show Steps p.tables e below (s₁.setTop (mkF m 3 #[.val (.ref t0), .val (.long j1), .second, .val (.long j2), .second, .val (.long j3), .second, .val (.long j4), .second] [(.long j4), (.ref t0)])) _
    refine st1 _ ?_
    show Steps p.tables e below (T1.setTop (mkF m 6 #[.val (.ref t0), .val (.long j1), .second, .val (.long j2), .second, .val (.long j3), .second, .val (.long j4), .second] [])) _
    refine XS.aloadN X1.here hx rfl (hb hby own_d3_6) rfl rfl ?_
    show Steps p.tables e below (T1.setTop (mkF m 7 #[.val (.ref t0), .val (.long j1), .second, .val (.long j2), .second, .val (.long j3), .second, .val (.long j4), .second] [(.ref t0)])) _
    refine XT.lload X1.here hx rfl (hb hby own_d3_7) rfl ?_
    show Steps p.tables e below (T1.setTop (mkF m 9 #[.val (.ref t0), .val (.long j1), .second, .val (.long j2), .second, .val (.long j3), .second, .val (.long j4), .second] [(.long j3), (.ref t0)])) _
    refine st4 _ ?_
    show Steps p.tables e below (T4.setTop (mkF m 12 #[.val (.ref t0), .val (.long j1), .second, .val (.long j2), .second, .val (.long j3), .second, .val (.long j4), .second] [])) _
    refine XS.aloadN X4.here hx rfl (hb hby own_d3_12) rfl rfl ?_
    show Steps p.tables e below (T4.setTop (mkF m 13 #[.val (.ref t0), .val (.long j1), .second, .val (.long j2), .second, .val (.long j3), .second, .val (.long j4), .second] [(.ref t0)])) _
    refine XT.lloadN X4.here hx rfl (hb hby own_d3_13) rfl ?_
    show Steps p.tables e below (T4.setTop (mkF m 14 #[.val (.ref t0), .val (.long j1), .second, .val (.long j2), .second, .val (.long j3), .second, .val (.long j4), .second] [(.long j2), (.ref t0)])) _
    refine st7 _ ?_
    show Steps p.tables e below (T7.setTop (mkF m 17 #[.val (.ref t0), .val (.long j1), .second, .val (.long j2), .second, .val (.long j3), .second, .val (.long j4), .second] [])) _
    refine XS.aloadN X7.here hx rfl (hb hby own_d3_17) rfl rfl ?_
    show Steps p.tables e below (T7.setTop (mkF m 18 #[.val (.ref t0), .val (.long j1), .second, .val (.long j2), .second, .val (.long j3), .second, .val (.long j4), .second] [(.ref t0)])) _
    refine XT.lloadN X7.here hx rfl (hb hby own_d3_18) rfl ?_
    show Steps p.tables e below (T7.setTop (mkF m 19 #[.val (.ref t0), .val (.long j1), .second, .val (.long j2), .second, .val (.long j3), .second, .val (.long j4), .second] [(.long j1), (.ref t0)])) _
    refine st10 _ ?_
    show Steps p.tables e below (T10.setTop (mkF m 22 #[.val (.ref t0), .val (.long j1), .second, .val (.long j2), .second, .val (.long j3), .second, .val (.long j4), .second] [])) _
    refine XS.aloadN X10.here hx rfl (hb hby own_d3_22) rfl rfl ?_
    show Steps p.tables e below (T10.setTop (mkF m 23 #[.val (.ref t0), .val (.long j1), .second, .val (.long j2), .second, .val (.long j3), .second, .val (.long j4), .second] [(.ref t0)])) _
    refine XT.lloadN X10.here hx rfl (hb hby own_d3_23) rfl ?_
    show Steps p.tables e below (T10.setTop (mkF m 24 #[.val (.ref t0), .val (.long j1), .second, .val (.long j2), .second, .val (.long j3), .second, .val (.long j4), .second] [(.long j2), (.ref t0)])) _
    refine XT.lload X10.here hx rfl (hb hby own_d3_24) rfl ?_
    show Steps p.tables e below (T10.setTop (mkF m 26 #[.val (.ref t0), .val (.long j1), .second, .val (.long j2), .second, .val (.long j3), .second, .val (.long j4), .second] [(.long j3), (.long j2), (.ref t0)])) _
    refine XT.lxor X10.here hx rfl (hb hby own_d3_26) rfl ?_
    show Steps p.tables e below (T10.setTop (mkF m 27 #[.val (.ref t0), .val (.long j1), .second, .val (.long j2), .second, .val (.long j3), .second, .val (.long j4), .second] [(.long (j2 ^^^ j3)), (.ref t0)])) _
    refine st13 _ ?_
    show Steps p.tables e below (T13.setTop (mkF m 30 #[.val (.ref t0), .val (.long j1), .second, .val (.long j2), .second, .val (.long j3), .second, .val (.long j4), .second] [])) _
    exact X13.returnOut hx Bd.returns (hb hby own_d3_30) hr
  · show own_Q3 Z t0 j1 j2 j3 j4 u_produced u_consumed u_missing u_remaining u_violated h0 n0 _ T13.heap _
    rw [e13]
    have FE_t0_14 : Exa Z h13 t0 "com/example/tracegauge/tracegauge/TraceTokens$Tally" := (FE_t0_12.wr W13)
    have FF_t0_produced_15 : Fld Z h13 t0 "com/example/tracegauge/tracegauge/TraceTokens$Tally" "produced" "J" (.long j4) := ((((Fw1.other W4 (Or.inr (slot_ne (Or.inl (hw _ (List.mem_of_getElem? (i := 10) rfl))) (Or.inl (hw _ (List.mem_of_getElem? (i := 12) rfl))) (by decide) (t := .long) (t' := .long) (by decide) (by decide)))).other W7 (Or.inr (slot_ne (Or.inl (hw _ (List.mem_of_getElem? (i := 10) rfl))) (Or.inl (hw _ (List.mem_of_getElem? (i := 14) rfl))) (by decide) (t := .long) (t' := .long) (by decide) (by decide)))).other W10 (Or.inr (slot_ne (Or.inl (hw _ (List.mem_of_getElem? (i := 10) rfl))) (Or.inl (hw _ (List.mem_of_getElem? (i := 16) rfl))) (by decide) (t := .long) (t' := .long) (by decide) (by decide)))).other W13 (Or.inr (slot_ne (Or.inl (hw _ (List.mem_of_getElem? (i := 10) rfl))) (Or.inl (hw _ (List.mem_of_getElem? (i := 18) rfl))) (by decide) (t := .long) (t' := .long) (by decide) (by decide))))
    have FF_t0_consumed_16 : Fld Z h13 t0 "com/example/tracegauge/tracegauge/TraceTokens$Tally" "consumed" "J" (.long j3) := (((Fw4.other W7 (Or.inr (slot_ne (Or.inl (hw _ (List.mem_of_getElem? (i := 12) rfl))) (Or.inl (hw _ (List.mem_of_getElem? (i := 14) rfl))) (by decide) (t := .long) (t' := .long) (by decide) (by decide)))).other W10 (Or.inr (slot_ne (Or.inl (hw _ (List.mem_of_getElem? (i := 12) rfl))) (Or.inl (hw _ (List.mem_of_getElem? (i := 16) rfl))) (by decide) (t := .long) (t' := .long) (by decide) (by decide)))).other W13 (Or.inr (slot_ne (Or.inl (hw _ (List.mem_of_getElem? (i := 12) rfl))) (Or.inl (hw _ (List.mem_of_getElem? (i := 18) rfl))) (by decide) (t := .long) (t' := .long) (by decide) (by decide))))
    have FF_t0_missing_17 : Fld Z h13 t0 "com/example/tracegauge/tracegauge/TraceTokens$Tally" "missing" "J" (.long j2) := ((Fw7.other W10 (Or.inr (slot_ne (Or.inl (hw _ (List.mem_of_getElem? (i := 14) rfl))) (Or.inl (hw _ (List.mem_of_getElem? (i := 16) rfl))) (by decide) (t := .long) (t' := .long) (by decide) (by decide)))).other W13 (Or.inr (slot_ne (Or.inl (hw _ (List.mem_of_getElem? (i := 14) rfl))) (Or.inl (hw _ (List.mem_of_getElem? (i := 18) rfl))) (by decide) (t := .long) (t' := .long) (by decide) (by decide))))
    have FF_t0_remaining_18 : Fld Z h13 t0 "com/example/tracegauge/tracegauge/TraceTokens$Tally" "remaining" "J" (.long j1) := (Fw10.other W13 (Or.inr (slot_ne (Or.inl (hw _ (List.mem_of_getElem? (i := 16) rfl))) (Or.inl (hw _ (List.mem_of_getElem? (i := 18) rfl))) (by decide) (t := .long) (t' := .long) (by decide) (by decide))))
    exact ⟨rfl, N13, K13, FE_t0_14, FF_t0_produced_15, FF_t0_consumed_16, FF_t0_missing_17, FF_t0_remaining_18, Fw13⟩
theorem own_d4_0 : decode prog_146_method_2_code 0 = .ok (.aload_n 0, 1) := by decide +kernel
theorem own_d4_1 : decode prog_146_method_2_code 1 = .ok (.dup, 1) := by decide +kernel
theorem own_d4_2 : decode prog_146_method_2_code 2 = .ok (.getfield 7, 3) := by decide +kernel
theorem own_d4_5 : decode prog_146_method_2_code 5 = .ok (.aload_n 1, 1) := by decide +kernel
theorem own_d4_6 : decode prog_146_method_2_code 6 = .ok (.getfield 7, 3) := by decide +kernel
theorem own_d4_9 : decode prog_146_method_2_code 9 = .ok (.lload_n 2, 1) := by decide +kernel
theorem own_d4_10 : decode prog_146_method_2_code 10 = .ok (.lmul, 1) := by decide +kernel
theorem own_d4_11 : decode prog_146_method_2_code 11 = .ok (.ladd, 1) := by decide +kernel
theorem own_d4_12 : decode prog_146_method_2_code 12 = .ok (.putfield 7, 3) := by decide +kernel
theorem own_d4_15 : decode prog_146_method_2_code 15 = .ok (.aload_n 0, 1) := by decide +kernel
theorem own_d4_16 : decode prog_146_method_2_code 16 = .ok (.dup, 1) := by decide +kernel
theorem own_d4_17 : decode prog_146_method_2_code 17 = .ok (.getfield 13, 3) := by decide +kernel
theorem own_d4_20 : decode prog_146_method_2_code 20 = .ok (.aload_n 1, 1) := by decide +kernel
theorem own_d4_21 : decode prog_146_method_2_code 21 = .ok (.getfield 13, 3) := by decide +kernel
theorem own_d4_24 : decode prog_146_method_2_code 24 = .ok (.lload_n 2, 1) := by decide +kernel
theorem own_d4_25 : decode prog_146_method_2_code 25 = .ok (.lmul, 1) := by decide +kernel
theorem own_d4_26 : decode prog_146_method_2_code 26 = .ok (.ladd, 1) := by decide +kernel
theorem own_d4_27 : decode prog_146_method_2_code 27 = .ok (.putfield 13, 3) := by decide +kernel
theorem own_d4_30 : decode prog_146_method_2_code 30 = .ok (.aload_n 0, 1) := by decide +kernel
theorem own_d4_31 : decode prog_146_method_2_code 31 = .ok (.dup, 1) := by decide +kernel
theorem own_d4_32 : decode prog_146_method_2_code 32 = .ok (.getfield 16, 3) := by decide +kernel
theorem own_d4_35 : decode prog_146_method_2_code 35 = .ok (.aload_n 1, 1) := by decide +kernel
theorem own_d4_36 : decode prog_146_method_2_code 36 = .ok (.getfield 16, 3) := by decide +kernel
theorem own_d4_39 : decode prog_146_method_2_code 39 = .ok (.lload_n 2, 1) := by decide +kernel
theorem own_d4_40 : decode prog_146_method_2_code 40 = .ok (.lmul, 1) := by decide +kernel
theorem own_d4_41 : decode prog_146_method_2_code 41 = .ok (.ladd, 1) := by decide +kernel
theorem own_d4_42 : decode prog_146_method_2_code 42 = .ok (.putfield 16, 3) := by decide +kernel
theorem own_d4_45 : decode prog_146_method_2_code 45 = .ok (.aload_n 0, 1) := by decide +kernel
theorem own_d4_46 : decode prog_146_method_2_code 46 = .ok (.dup, 1) := by decide +kernel
theorem own_d4_47 : decode prog_146_method_2_code 47 = .ok (.getfield 19, 3) := by decide +kernel
theorem own_d4_50 : decode prog_146_method_2_code 50 = .ok (.aload_n 1, 1) := by decide +kernel
theorem own_d4_51 : decode prog_146_method_2_code 51 = .ok (.getfield 19, 3) := by decide +kernel
theorem own_d4_54 : decode prog_146_method_2_code 54 = .ok (.lload_n 2, 1) := by decide +kernel
theorem own_d4_55 : decode prog_146_method_2_code 55 = .ok (.lmul, 1) := by decide +kernel
theorem own_d4_56 : decode prog_146_method_2_code 56 = .ok (.ladd, 1) := by decide +kernel
theorem own_d4_57 : decode prog_146_method_2_code 57 = .ok (.putfield 19, 3) := by decide +kernel
theorem own_d4_60 : decode prog_146_method_2_code 60 = .ok (.aload_n 0, 1) := by decide +kernel
theorem own_d4_61 : decode prog_146_method_2_code 61 = .ok (.dup, 1) := by decide +kernel
theorem own_d4_62 : decode prog_146_method_2_code 62 = .ok (.getfield 22, 3) := by decide +kernel
theorem own_d4_65 : decode prog_146_method_2_code 65 = .ok (.aload_n 1, 1) := by decide +kernel
theorem own_d4_66 : decode prog_146_method_2_code 66 = .ok (.getfield 22, 3) := by decide +kernel
theorem own_d4_69 : decode prog_146_method_2_code 69 = .ok (.lload_n 2, 1) := by decide +kernel
theorem own_d4_70 : decode prog_146_method_2_code 70 = .ok (.lmul, 1) := by decide +kernel
theorem own_d4_71 : decode prog_146_method_2_code 71 = .ok (.ladd, 1) := by decide +kernel
theorem own_d4_72 : decode prog_146_method_2_code 72 = .ok (.putfield 22, 3) := by decide +kernel
theorem own_d4_75 : decode prog_146_method_2_code 75 = .ok (.return_, 1) := by decide +kernel
theorem own_pn4 : plainName "com/example/tracegauge/tracegauge/TraceTokens$Tally" = true := by first | (simp [plainName, overriddenIn]; done) | decide +kernel
theorem own_ef4 (m : MethodId) (a1 : Addr) (o1 : Addr) (tm : Int64) : entryFrame m #[(.ref a1), (.ref o1), (.long tm)] 4 = mkF m 0 #[.val (.ref a1), .val (.ref o1), .val (.long tm), .second] [] := by first | (simp [entryFrame, mkF, argsToLocals, Value.category]; done) | rfl
def own_Q4 (Z : State) (a1 : Addr) (o1 : Addr) (tm : Int64) (x0 : Int64) (x1 : Int64) (x2 : Int64) (x3 : Int64) (x4 : Int64) (y0 : Int64) (y1 : Int64) (y2 : Int64) (y3 : Int64) (y4 : Int64) (h0 : Heap) (n0 : Nat) (v : Option Value) (h : Heap) (L : List Loc) : Prop := (v = none) ∧ (Fr n0 L) ∧ (Keep h0 h [a1]) ∧ (Exa Z h a1 "com/example/tracegauge/tracegauge/TraceTokens$Tally") ∧ (Fld Z h a1 "com/example/tracegauge/tracegauge/TraceTokens$Tally" "produced" "J" (.long (x0 + (y0 * tm)))) ∧ (Fld Z h a1 "com/example/tracegauge/tracegauge/TraceTokens$Tally" "consumed" "J" (.long (x1 + (y1 * tm)))) ∧ (Fld Z h a1 "com/example/tracegauge/tracegauge/TraceTokens$Tally" "missing" "J" (.long (x2 + (y2 * tm)))) ∧ (Fld Z h a1 "com/example/tracegauge/tracegauge/TraceTokens$Tally" "remaining" "J" (.long (x3 + (y3 * tm)))) ∧ (Fld Z h a1 "com/example/tracegauge/tracegauge/TraceTokens$Tally" "violated" "J" (.long (x4 + (y4 * tm))))
set_option maxRecDepth 65536 in
set_option maxHeartbeats 40000000 in
theorem own_rm4 (l : Launch) (Z : State) (a0 : Array Value) (hw : ∀ d ∈ tables_1, d.before a0 Z = true) (ws : List Jvm.Cond) (a1 : Addr) (o1 : Addr) (tm : Int64) (x0 : Int64) (x1 : Int64) (x2 : Int64) (x3 : Int64) (x4 : Int64) (y0 : Int64) (y1 : Int64) (y2 : Int64) (y3 : Int64) (y4 : Int64) (h0 : Heap) (n0 : Nat) (Z0 : n0 ≤ h0.size) (P_E_a1 : Exa Z h0 a1 "com/example/tracegauge/tracegauge/TraceTokens$Tally") (P_F_a1_produced : Fld Z h0 a1 "com/example/tracegauge/tracegauge/TraceTokens$Tally" "produced" "J" (.long x0)) (P_F_a1_consumed : Fld Z h0 a1 "com/example/tracegauge/tracegauge/TraceTokens$Tally" "consumed" "J" (.long x1)) (P_F_a1_missing : Fld Z h0 a1 "com/example/tracegauge/tracegauge/TraceTokens$Tally" "missing" "J" (.long x2)) (P_F_a1_remaining : Fld Z h0 a1 "com/example/tracegauge/tracegauge/TraceTokens$Tally" "remaining" "J" (.long x3)) (P_F_a1_violated : Fld Z h0 a1 "com/example/tracegauge/tracegauge/TraceTokens$Tally" "violated" "J" (.long x4)) (P_E_o1 : Exa Z h0 o1 "com/example/tracegauge/tracegauge/TraceTokens$Tally") (P_F_o1_produced : Fld Z h0 o1 "com/example/tracegauge/tracegauge/TraceTokens$Tally" "produced" "J" (.long y0)) (P_F_o1_consumed : Fld Z h0 o1 "com/example/tracegauge/tracegauge/TraceTokens$Tally" "consumed" "J" (.long y1)) (P_F_o1_missing : Fld Z h0 o1 "com/example/tracegauge/tracegauge/TraceTokens$Tally" "missing" "J" (.long y2)) (P_F_o1_remaining : Fld Z h0 o1 "com/example/tracegauge/tracegauge/TraceTokens$Tally" "remaining" "J" (.long y3)) (P_F_o1_violated : Fld Z h0 o1 "com/example/tracegauge/tracegauge/TraceTokens$Tally" "violated" "J" (.long y4)) (g_a1 : n0 ≤ a1) (ne_ao : a1 ≠ o1) :
    MetFree l (⟨"com/example/tracegauge/tracegauge/TraceTokens$Tally", "add", "(Lcom/example/tracegauge/tracegauge/TraceTokens$Tally;J)V"⟩ : MethodName) (head1 (Jvm.Cond.code (⟨"com/example/tracegauge/tracegauge/TraceTokens$Tally", "add", "(Lcom/example/tracegauge/tracegauge/TraceTokens$Tally;J)V"⟩ : MethodName) prog_146_method_2_code 4 none :: ws) ({ frames := 0, cells := 0, slots := 0, locals := 0 } : Room)) (fun ar_ U_ => ar_ = #[(.ref a1), (.ref o1), (.long tm)] ∧ Z.Warmed39 U_.vm ∧ U_.heap = h0) (fun _ _ _ _ _ => True) (fun _ U_ o_ U_' => ∃ v_ L_, o_ = .returned v_ ∧ own_Q4 Z a1 o1 tm x0 x1 x2 x3 x4 y0 y1 y2 y3 y4 h0 n0 v_ U_'.heap L_ ∧ FrameEnd U_ o_ U_' L_ ({ frames := 0, cells := 0, slots := 0, locals := 0 } : Room).cells ({ frames := 0, cells := 0, slots := 0, locals := 0 } : Room).slots) := by
  refine MetFree.of_bodySF (plainFor_of_name own_pn4) hisR ?_
  intro p e s m args below meth c s₁ Bd hml0 hP hK
  obtain ⟨rfl, hZ, hh⟩ := hP
  have hx := Bd.exec
  have hby := Bd.bytes
  have hml : c.maxLocals = 4 := hml0
  have hown : s.vm.findClass "com/example/tracegauge/tracegauge/TraceTokens$Tally" = some m.cls := findClass_of_methodNamed Bd.named
  have hnm := (name_of_methodNamed Bd.named Bd.method).1
  have X0 : Stand p l e ({ frames := 0, cells := 0, slots := 0, locals := 0 } : Room) s m #[(.ref a1), (.ref o1), (.long tm)] below meth c s₁ [] 0 0 := Stand.of_body Bd
  have e0 : s₁.heap = h0 := by rw [← hh, Bd.state]; rfl
  have N0 := Fr.nil n0
  have pre0 : ∀ t, Steps p.tables e below (s₁.setTop (mkF m 0 #[.val (.ref a1), .val (.ref o1), .val (.long tm), .second] [])) t → Steps p.tables e below (s₁.setTop (entryFrame m #[(.ref a1), (.ref o1), (.long tm)] 4)) t := fun t k => castTop (own_ef4 m a1 o1 tm) k
  obtain ⟨T1, X1, e1, st1⟩ := getF X0 hx hZ hown (host := "") (Or.inl (hw _ (List.mem_of_getElem? (i := 28) rfl))) Via.refl e0 P_F_a1_produced (g := (mkF m 2 #[.val (.ref a1), .val (.ref o1), .val (.long tm), .second] [(.ref a1), (.ref a1)])) rfl rfl (hb hby own_d4_2)
  obtain ⟨T2, X2, e2, st2⟩ := getF X1 hx hZ hown (host := "") (Or.inl (hw _ (List.mem_of_getElem? (i := 28) rfl))) Via.refl e1 P_F_o1_produced (g := (mkF m 6 #[.val (.ref a1), .val (.ref o1), .val (.long tm), .second] [(.ref o1), (.long x0), (.ref a1)])) rfl rfl (hb hby own_d4_6)
  obtain ⟨T3, h3, X3, e3, W3, st3⟩ := putF X2 hx hZ hown (host := "") (Or.inl (hw _ (List.mem_of_getElem? (i := 28) rfl))) Via.refl e2 P_F_a1_produced P_E_a1 (Or.inl (hw _ (List.mem_of_getElem? (i := 10) rfl))) (hw _ (List.mem_of_getElem? (i := 1) rfl)) (ty := .long) (by decide) rfl rfl (g := (mkF m 12 #[.val (.ref a1), .val (.ref o1), .val (.long tm), .second] [(.long (x0 + (y0 * tm))), (.ref a1)])) rfl rfl (hb hby own_d4_12)
  have Fw3 : Fld Z h3 a1 "com/example/tracegauge/tracegauge/TraceTokens$Tally" "produced" "J" (.long (x0 + (y0 * tm))) := Fld.same W3 P_F_a1_produced
  have K3 : Keep h0 h3 [a1] := (Keep.refl h0 [a1]).wr W3 (Or.inl (List.mem_of_getElem? (i := 0) rfl))
  have N3 := Fr.snoc X3 N0 g_a1
  have FF_a1_consumed_4 : Fld Z h3 a1 "com/example/tracegauge/tracegauge/TraceTokens$Tally" "consumed" "J" (.long x1) := (P_F_a1_consumed.other W3 (Or.inr (slot_ne (Or.inl (hw _ (List.mem_of_getElem? (i := 12) rfl))) (Or.inl (hw _ (List.mem_of_getElem? (i := 10) rfl))) (by decide) (t := .long) (t' := .long) (by decide) (by decide))))
  obtain ⟨T5, X5, e5, st5⟩ := getF X3 hx hZ hown (host := "") (Or.inl (hw _ (List.mem_of_getElem? (i := 29) rfl))) Via.refl e3 FF_a1_consumed_4 (g := (mkF m 17 #[.val (.ref a1), .val (.ref o1), .val (.long tm), .second] [(.ref a1), (.ref a1)])) rfl rfl (hb hby own_d4_17)
  have FF_o1_consumed_6 : Fld Z h3 o1 "com/example/tracegauge/tracegauge/TraceTokens$Tally" "consumed" "J" (.long y1) := (P_F_o1_consumed.other W3 (Or.inl ne_ao.symm))
  obtain ⟨T7, X7, e7, st7⟩ := getF X5 hx hZ hown (host := "") (Or.inl (hw _ (List.mem_of_getElem? (i := 29) rfl))) Via.refl e5 FF_o1_consumed_6 (g := (mkF m 21 #[.val (.ref a1), .val (.ref o1), .val (.long tm), .second] [(.ref o1), (.long x1), (.ref a1)])) rfl rfl (hb hby own_d4_21)
  have FE_a1_8 : Exa Z h3 a1 "com/example/tracegauge/tracegauge/TraceTokens$Tally" := (P_E_a1.wr W3)
  obtain ⟨T9, h9, X9, e9, W9, st9⟩ := putF X7 hx hZ hown (host := "") (Or.inl (hw _ (List.mem_of_getElem? (i := 29) rfl))) Via.refl e7 FF_a1_consumed_4 FE_a1_8 (Or.inl (hw _ (List.mem_of_getElem? (i := 12) rfl))) (hw _ (List.mem_of_getElem? (i := 1) rfl)) (ty := .long) (by decide) rfl rfl (g := (mkF m 27 #[.val (.ref a1), .val (.ref o1), .val (.long tm), .second] [(.long (x1 + (y1 * tm))), (.ref a1)])) rfl rfl (hb hby own_d4_27)
  have Fw9 : Fld Z h9 a1 "com/example/tracegauge/tracegauge/TraceTokens$Tally" "consumed" "J" (.long (x1 + (y1 * tm))) := Fld.same W9 FF_a1_consumed_4
  have K9 : Keep h0 h9 [a1] := K3.wr W9 (Or.inl (List.mem_of_getElem? (i := 0) rfl))
  have N9 := Fr.snoc X9 N3 g_a1
  have FF_a1_missing_10 : Fld Z h9 a1 "com/example/tracegauge/tracegauge/TraceTokens$Tally" "missing" "J" (.long x2) := ((P_F_a1_missing.other W3 (Or.inr (slot_ne (Or.inl (hw _ (List.mem_of_getElem? (i := 14) rfl))) (Or.inl (hw _ (List.mem_of_getElem? (i := 10) rfl))) (by decide) (t := .long) (t' := .long) (by decide) (by decide)))).other W9 (Or.inr (slot_ne (Or.inl (hw _ (List.mem_of_getElem? (i := 14) rfl))) (Or.inl (hw _ (List.mem_of_getElem? (i := 12) rfl))) (by decide) (t := .long) (t' := .long) (by decide) (by decide))))
  obtain ⟨T11, X11, e11, st11⟩ := getF X9 hx hZ hown (host := "") (Or.inl (hw _ (List.mem_of_getElem? (i := 30) rfl))) Via.refl e9 FF_a1_missing_10 (g := (mkF m 32 #[.val (.ref a1), .val (.ref o1), .val (.long tm), .second] [(.ref a1), (.ref a1)])) rfl rfl (hb hby own_d4_32)
  have FF_o1_missing_12 : Fld Z h9 o1 "com/example/tracegauge/tracegauge/TraceTokens$Tally" "missing" "J" (.long y2) := ((P_F_o1_missing.other W3 (Or.inl ne_ao.symm)).other W9 (Or.inl ne_ao.symm))
  obtain ⟨T13, X13, e13, st13⟩ := getF X11 hx hZ hown (host := "") (Or.inl (hw _ (List.mem_of_getElem? (i := 30) rfl))) Via.refl e11 FF_o1_missing_12 (g := (mkF m 36 #[.val (.ref a1), .val (.ref o1), .val (.long tm), .second] [(.ref o1), (.long x2), (.ref a1)])) rfl rfl (hb hby own_d4_36)
  have FE_a1_14 : Exa Z h9 a1 "com/example/tracegauge/tracegauge/TraceTokens$Tally" := (FE_a1_8.wr W9)
  obtain ⟨T15, h15, X15, e15, W15, st15⟩ := putF X13 hx hZ hown (host := "") (Or.inl (hw _ (List.mem_of_getElem? (i := 30) rfl))) Via.refl e13 FF_a1_missing_10 FE_a1_14 (Or.inl (hw _ (List.mem_of_getElem? (i := 14) rfl))) (hw _ (List.mem_of_getElem? (i := 1) rfl)) (ty := .long) (by decide) rfl rfl (g := (mkF m 42 #[.val (.ref a1), .val (.ref o1), .val (.long tm), .second] [(.long (x2 + (y2 * tm))), (.ref a1)])) rfl rfl (hb hby own_d4_42)
  have Fw15 : Fld Z h15 a1 "com/example/tracegauge/tracegauge/TraceTokens$Tally" "missing" "J" (.long (x2 + (y2 * tm))) := Fld.same W15 FF_a1_missing_10
  have K15 : Keep h0 h15 [a1] := K9.wr W15 (Or.inl (List.mem_of_getElem? (i := 0) rfl))
  have N15 := Fr.snoc X15 N9 g_a1
  have FF_a1_remaining_16 : Fld Z h15 a1 "com/example/tracegauge/tracegauge/TraceTokens$Tally" "remaining" "J" (.long x3) := (((P_F_a1_remaining.other W3 (Or.inr (slot_ne (Or.inl (hw _ (List.mem_of_getElem? (i := 16) rfl))) (Or.inl (hw _ (List.mem_of_getElem? (i := 10) rfl))) (by decide) (t := .long) (t' := .long) (by decide) (by decide)))).other W9 (Or.inr (slot_ne (Or.inl (hw _ (List.mem_of_getElem? (i := 16) rfl))) (Or.inl (hw _ (List.mem_of_getElem? (i := 12) rfl))) (by decide) (t := .long) (t' := .long) (by decide) (by decide)))).other W15 (Or.inr (slot_ne (Or.inl (hw _ (List.mem_of_getElem? (i := 16) rfl))) (Or.inl (hw _ (List.mem_of_getElem? (i := 14) rfl))) (by decide) (t := .long) (t' := .long) (by decide) (by decide))))
  obtain ⟨T17, X17, e17, st17⟩ := getF X15 hx hZ hown (host := "") (Or.inl (hw _ (List.mem_of_getElem? (i := 31) rfl))) Via.refl e15 FF_a1_remaining_16 (g := (mkF m 47 #[.val (.ref a1), .val (.ref o1), .val (.long tm), .second] [(.ref a1), (.ref a1)])) rfl rfl (hb hby own_d4_47)
  have FF_o1_remaining_18 : Fld Z h15 o1 "com/example/tracegauge/tracegauge/TraceTokens$Tally" "remaining" "J" (.long y3) := (((P_F_o1_remaining.other W3 (Or.inl ne_ao.symm)).other W9 (Or.inl ne_ao.symm)).other W15 (Or.inl ne_ao.symm))
  obtain ⟨T19, X19, e19, st19⟩ := getF X17 hx hZ hown (host := "") (Or.inl (hw _ (List.mem_of_getElem? (i := 31) rfl))) Via.refl e17 FF_o1_remaining_18 (g := (mkF m 51 #[.val (.ref a1), .val (.ref o1), .val (.long tm), .second] [(.ref o1), (.long x3), (.ref a1)])) rfl rfl (hb hby own_d4_51)
  have FE_a1_20 : Exa Z h15 a1 "com/example/tracegauge/tracegauge/TraceTokens$Tally" := (FE_a1_14.wr W15)
  obtain ⟨T21, h21, X21, e21, W21, st21⟩ := putF X19 hx hZ hown (host := "") (Or.inl (hw _ (List.mem_of_getElem? (i := 31) rfl))) Via.refl e19 FF_a1_remaining_16 FE_a1_20 (Or.inl (hw _ (List.mem_of_getElem? (i := 16) rfl))) (hw _ (List.mem_of_getElem? (i := 1) rfl)) (ty := .long) (by decide) rfl rfl (g := (mkF m 57 #[.val (.ref a1), .val (.ref o1), .val (.long tm), .second] [(.long (x3 + (y3 * tm))), (.ref a1)])) rfl rfl (hb hby own_d4_57)
  have Fw21 : Fld Z h21 a1 "com/example/tracegauge/tracegauge/TraceTokens$Tally" "remaining" "J" (.long (x3 + (y3 * tm))) := Fld.same W21 FF_a1_remaining_16
  have K21 : Keep h0 h21 [a1] := K15.wr W21 (Or.inl (List.mem_of_getElem? (i := 0) rfl))
  have N21 := Fr.snoc X21 N15 g_a1
  have FF_a1_violated_22 : Fld Z h21 a1 "com/example/tracegauge/tracegauge/TraceTokens$Tally" "violated" "J" (.long x4) := ((((P_F_a1_violated.other W3 (Or.inr (slot_ne (Or.inl (hw _ (List.mem_of_getElem? (i := 18) rfl))) (Or.inl (hw _ (List.mem_of_getElem? (i := 10) rfl))) (by decide) (t := .long) (t' := .long) (by decide) (by decide)))).other W9 (Or.inr (slot_ne (Or.inl (hw _ (List.mem_of_getElem? (i := 18) rfl))) (Or.inl (hw _ (List.mem_of_getElem? (i := 12) rfl))) (by decide) (t := .long) (t' := .long) (by decide) (by decide)))).other W15 (Or.inr (slot_ne (Or.inl (hw _ (List.mem_of_getElem? (i := 18) rfl))) (Or.inl (hw _ (List.mem_of_getElem? (i := 14) rfl))) (by decide) (t := .long) (t' := .long) (by decide) (by decide)))).other W21 (Or.inr (slot_ne (Or.inl (hw _ (List.mem_of_getElem? (i := 18) rfl))) (Or.inl (hw _ (List.mem_of_getElem? (i := 16) rfl))) (by decide) (t := .long) (t' := .long) (by decide) (by decide))))
  obtain ⟨T23, X23, e23, st23⟩ := getF X21 hx hZ hown (host := "") (Or.inl (hw _ (List.mem_of_getElem? (i := 32) rfl))) Via.refl e21 FF_a1_violated_22 (g := (mkF m 62 #[.val (.ref a1), .val (.ref o1), .val (.long tm), .second] [(.ref a1), (.ref a1)])) rfl rfl (hb hby own_d4_62)
  have FF_o1_violated_24 : Fld Z h21 o1 "com/example/tracegauge/tracegauge/TraceTokens$Tally" "violated" "J" (.long y4) := ((((P_F_o1_violated.other W3 (Or.inl ne_ao.symm)).other W9 (Or.inl ne_ao.symm)).other W15 (Or.inl ne_ao.symm)).other W21 (Or.inl ne_ao.symm))
  obtain ⟨T25, X25, e25, st25⟩ := getF X23 hx hZ hown (host := "") (Or.inl (hw _ (List.mem_of_getElem? (i := 32) rfl))) Via.refl e23 FF_o1_violated_24 (g := (mkF m 66 #[.val (.ref a1), .val (.ref o1), .val (.long tm), .second] [(.ref o1), (.long x4), (.ref a1)])) rfl rfl (hb hby own_d4_66)
  have FE_a1_26 : Exa Z h21 a1 "com/example/tracegauge/tracegauge/TraceTokens$Tally" := (FE_a1_20.wr W21)
  obtain ⟨T27, h27, X27, e27, W27, st27⟩ := putF X25 hx hZ hown (host := "") (Or.inl (hw _ (List.mem_of_getElem? (i := 32) rfl))) Via.refl e25 FF_a1_violated_22 FE_a1_26 (Or.inl (hw _ (List.mem_of_getElem? (i := 18) rfl))) (hw _ (List.mem_of_getElem? (i := 1) rfl)) (ty := .long) (by decide) rfl rfl (g := (mkF m 72 #[.val (.ref a1), .val (.ref o1), .val (.long tm), .second] [(.long (x4 + (y4 * tm))), (.ref a1)])) rfl rfl (hb hby own_d4_72)
  have Fw27 : Fld Z h27 a1 "com/example/tracegauge/tracegauge/TraceTokens$Tally" "violated" "J" (.long (x4 + (y4 * tm))) := Fld.same W27 FF_a1_violated_22
  have K27 : Keep h0 h27 [a1] := K21.wr W27 (Or.inl (List.mem_of_getElem? (i := 0) rfl))
  have N27 := Fr.snoc X27 N21 g_a1
  obtain ⟨fs, hr, hrun, hended, hW, hsame⟩ := X27.leave (v := none) (fun _ => rfl)
  refine ⟨_, _, pre0 _ ?_, hrun, hended, _, _, rfl, ?_, ⟨_, rfl⟩, hW, hsame.mono (by decide) (by decide)⟩
  · show Steps p.tables e below (s₁.setTop (mkF m 0 #[.val (.ref a1), .val (.ref o1), .val (.long tm), .second] [])) _
    refine XS.aloadN X0.here hx rfl (hb hby own_d4_0) rfl rfl ?_
    show Steps p.tables e below (s₁.setTop (mkF m 1 #[.val (.ref a1), .val (.ref o1), .val (.long tm), .second] [(.ref a1)])) _
    refine XS.dup X0.here hx rfl (hb hby own_d4_1) rfl rfl ?_
    show Steps p.tables e below (s₁.setTop (mkF m 2 #[.val (.ref a1), .val (.ref o1), .val (.long tm), .second] [(.ref a1), (.ref a1)])) _
    refine st1 _ ?_
    show Steps p.tables e below (T1.setTop (mkF m 5 #[.val (.ref a1), .val (.ref o1), .val (.long tm), .second] [(.long x0), (.ref a1)])) _
    refine XS.aloadN X1.here hx rfl (hb hby own_d4_5) rfl rfl ?_
    show Steps p.tables e below (T1.setTop (mkF m 6 #[.val (.ref a1), .val (.ref o1), .val (.long tm), .second] [(.ref o1), (.long x0), (.ref a1)])) _
    refine st2 _ ?_
    show Steps p.tables e below (T2.setTop (mkF m 9 #[.val (.ref a1), .val (.ref o1), .val (.long tm), .second] [(.long y0), (.long x0), (.ref a1)])) _
    refine XT.lloadN X2.here hx rfl (hb hby own_d4_9) rfl ?_
    show Steps p.tables e below (T2.setTop (mkF m 10 #[.val (.ref a1), .val (.ref o1), .val (.long tm), .second] [(.long tm), (.long y0), (.long x0), (.ref a1)])) _
    refine XT.lmul X2.here hx rfl (hb hby own_d4_10) rfl ?_
    show Steps p.tables e below (T2.setTop (mkF m 11 #[.val (.ref a1), .val (.ref o1), .val (.long tm), .second] [(.long (y0 * tm)), (.long x0), (.ref a1)])) _
    refine XT.ladd X2.here hx rfl (hb hby own_d4_11) rfl ?_
    show Steps p.tables e below (T2.setTop (mkF m 12 #[.val (.ref a1), .val (.ref o1), .val (.long tm), .second] [(.long (x0 + (y0 * tm))), (.ref a1)])) _
    refine st3 _ ?_
    show Steps p.tables e below (T3.setTop (mkF m 15 #[.val (.ref a1), .val (.ref o1), .val (.long tm), .second] [])) _
    refine XS.aloadN X3.here hx rfl (hb hby own_d4_15) rfl rfl ?_
    show Steps p.tables e below (T3.setTop (mkF m 16 #[.val (.ref a1), .val (.ref o1), .val (.long tm), .second] [(.ref a1)])) _
    refine XS.dup X3.here hx rfl (hb hby own_d4_16) rfl rfl ?_
    show Steps p.tables e below (T3.setTop (mkF m 17 #[.val (.ref a1), .val (.ref o1), .val (.long tm), .second] [(.ref a1), (.ref a1)])) _
    refine st5 _ ?_
    show Steps p.tables e below (T5.setTop (mkF m 20 #[.val (.ref a1), .val (.ref o1), .val (.long tm), .second] [(.long x1), (.ref a1)])) _
    refine XS.aloadN X5.here hx rfl (hb hby own_d4_20) rfl rfl ?_
    show Steps p.tables e below (T5.setTop (mkF m 21 #[.val (.ref a1), .val (.ref o1), .val (.long tm), .second] [(.ref o1), (.long x1), (.ref a1)])) _
    refine st7 _ ?_
    show Steps p.tables e below (T7.setTop (mkF m 24 #[.val (.ref a1), .val (.ref o1), .val (.long tm), .second] [(.long y1), (.long x1), (.ref a1)])) _
    refine XT.lloadN X7.here hx rfl (hb hby own_d4_24) rfl ?_
    show Steps p.tables e below (T7.setTop (mkF m 25 #[.val (.ref a1), .val (.ref o1), .val (.long tm), .second] [(.long tm), (.long y1), (.long x1), (.ref a1)])) _
    refine XT.lmul X7.here hx rfl (hb hby own_d4_25) rfl ?_
    show Steps p.tables e below (T7.setTop (mkF m 26 #[.val (.ref a1), .val (.ref o1), .val (.long tm), .second] [(.long (y1 * tm)), (.long x1), (.ref a1)])) _
    refine XT.ladd X7.here hx rfl (hb hby own_d4_26) rfl ?_
    show Steps p.tables e below (T7.setTop (mkF m 27 #[.val (.ref a1), .val (.ref o1), .val (.long tm), .second] [(.long (x1 + (y1 * tm))), (.ref a1)])) _
    refine st9 _ ?_
    show Steps p.tables e below (T9.setTop (mkF m 30 #[.val (.ref a1), .val (.ref o1), .val (.long tm), .second] [])) _
    refine XS.aloadN X9.here hx rfl (hb hby own_d4_30) rfl rfl ?_
    show Steps p.tables e below (T9.setTop (mkF m 31 #[.val (.ref a1), .val (.ref o1), .val (.long tm), .second] [(.ref a1)])) _
    refine XS.dup X9.here hx rfl (hb hby own_d4_31) rfl rfl ?_
    show Steps p.tables e below (T9.setTop (mkF m 32 #[.val (.ref a1), .val (.ref o1), .val (.long tm), .second] [(.ref a1), (.ref a1)])) _
    refine st11 _ ?_
    show Steps p.tables e below (T11.setTop (mkF m 35 #[.val (.ref a1), .val (.ref o1), .val (.long tm), .second] [(.long x2), (.ref a1)])) _
    refine XS.aloadN X11.here hx rfl (hb hby own_d4_35) rfl rfl ?_
    show Steps p.tables e below (T11.setTop (mkF m 36 #[.val (.ref a1), .val (.ref o1), .val (.long tm), .second] [(.ref o1), (.long x2), (.ref a1)])) _
    refine st13 _ ?_
    show Steps p.tables e below (T13.setTop (mkF m 39 #[.val (.ref a1), .val (.ref o1), .val (.long tm), .second] [(.long y2), (.long x2), (.ref a1)])) _
    refine XT.lloadN X13.here hx rfl (hb hby own_d4_39) rfl ?_
    show Steps p.tables e below (T13.setTop (mkF m 40 #[.val (.ref a1), .val (.ref o1), .val (.long tm), .second] [(.long tm), (.long y2), (.long x2), (.ref a1)])) _
    refine XT.lmul X13.here hx rfl (hb hby own_d4_40) rfl ?_
    show Steps p.tables e below (T13.setTop (mkF m 41 #[.val (.ref a1), .val (.ref o1), .val (.long tm), .second] [(.long (y2 * tm)), (.long x2), (.ref a1)])) _
    refine XT.ladd X13.here hx rfl (hb hby own_d4_41) rfl ?_
    show Steps p.tables e below (T13.setTop (mkF m 42 #[.val (.ref a1), .val (.ref o1), .val (.long tm), .second] [(.long (x2 + (y2 * tm))), (.ref a1)])) _
    refine st15 _ ?_
    show Steps p.tables e below (T15.setTop (mkF m 45 #[.val (.ref a1), .val (.ref o1), .val (.long tm), .second] [])) _
    refine XS.aloadN X15.here hx rfl (hb hby own_d4_45) rfl rfl ?_
    show Steps p.tables e below (T15.setTop (mkF m 46 #[.val (.ref a1), .val (.ref o1), .val (.long tm), .second] [(.ref a1)])) _
    refine XS.dup X15.here hx rfl (hb hby own_d4_46) rfl rfl ?_
    show Steps p.tables e below (T15.setTop (mkF m 47 #[.val (.ref a1), .val (.ref o1), .val (.long tm), .second] [(.ref a1), (.ref a1)])) _
    refine st17 _ ?_
    show Steps p.tables e below (T17.setTop (mkF m 50 #[.val (.ref a1), .val (.ref o1), .val (.long tm), .second] [(.long x3), (.ref a1)])) _
    refine XS.aloadN X17.here hx rfl (hb hby own_d4_50) rfl rfl ?_
    show Steps p.tables e below (T17.setTop (mkF m 51 #[.val (.ref a1), .val (.ref o1), .val (.long tm), .second] [(.ref o1), (.long x3), (.ref a1)])) _
    refine st19 _ ?_
    show Steps p.tables e below (T19.setTop (mkF m 54 #[.val (.ref a1), .val (.ref o1), .val (.long tm), .second] [(.long y3), (.long x3), (.ref a1)])) _
    refine XT.lloadN X19.here hx rfl (hb hby own_d4_54) rfl ?_
    show Steps p.tables e below (T19.setTop (mkF m 55 #[.val (.ref a1), .val (.ref o1), .val (.long tm), .second] [(.long tm), (.long y3), (.long x3), (.ref a1)])) _
    refine XT.lmul X19.here hx rfl (hb hby own_d4_55) rfl ?_
    show Steps p.tables e below (T19.setTop (mkF m 56 #[.val (.ref a1), .val (.ref o1), .val (.long tm), .second] [(.long (y3 * tm)), (.long x3), (.ref a1)])) _
    refine XT.ladd X19.here hx rfl (hb hby own_d4_56) rfl ?_
    show Steps p.tables e below (T19.setTop (mkF m 57 #[.val (.ref a1), .val (.ref o1), .val (.long tm), .second] [(.long (x3 + (y3 * tm))), (.ref a1)])) _
    refine st21 _ ?_
    show Steps p.tables e below (T21.setTop (mkF m 60 #[.val (.ref a1), .val (.ref o1), .val (.long tm), .second] [])) _
    refine XS.aloadN X21.here hx rfl (hb hby own_d4_60) rfl rfl ?_
    show Steps p.tables e below (T21.setTop (mkF m 61 #[.val (.ref a1), .val (.ref o1), .val (.long tm), .second] [(.ref a1)])) _
    refine XS.dup X21.here hx rfl (hb hby own_d4_61) rfl rfl ?_
    show Steps p.tables e below (T21.setTop (mkF m 62 #[.val (.ref a1), .val (.ref o1), .val (.long tm), .second] [(.ref a1), (.ref a1)])) _
    refine st23 _ ?_
    show Steps p.tables e below (T23.setTop (mkF m 65 #[.val (.ref a1), .val (.ref o1), .val (.long tm), .second] [(.long x4), (.ref a1)])) _
    refine XS.aloadN X23.here hx rfl (hb hby own_d4_65) rfl rfl ?_
    show Steps p.tables e below (T23.setTop (mkF m 66 #[.val (.ref a1), .val (.ref o1), .val (.long tm), .second] [(.ref o1), (.long x4), (.ref a1)])) _
    refine st25 _ ?_
    show Steps p.tables e below (T25.setTop (mkF m 69 #[.val (.ref a1), .val (.ref o1), .val (.long tm), .second] [(.long y4), (.long x4), (.ref a1)])) _
    refine XT.lloadN X25.here hx rfl (hb hby own_d4_69) rfl ?_
    show Steps p.tables e below (T25.setTop (mkF m 70 #[.val (.ref a1), .val (.ref o1), .val (.long tm), .second] [(.long tm), (.long y4), (.long x4), (.ref a1)])) _
    refine XT.lmul X25.here hx rfl (hb hby own_d4_70) rfl ?_
    show Steps p.tables e below (T25.setTop (mkF m 71 #[.val (.ref a1), .val (.ref o1), .val (.long tm), .second] [(.long (y4 * tm)), (.long x4), (.ref a1)])) _
    refine XT.ladd X25.here hx rfl (hb hby own_d4_71) rfl ?_
    show Steps p.tables e below (T25.setTop (mkF m 72 #[.val (.ref a1), .val (.ref o1), .val (.long tm), .second] [(.long (x4 + (y4 * tm))), (.ref a1)])) _
    refine st27 _ ?_
    show Steps p.tables e below (T27.setTop (mkF m 75 #[.val (.ref a1), .val (.ref o1), .val (.long tm), .second] [])) _
    exact X27.returnOut hx Bd.returns (hb hby own_d4_75) hr
  · show own_Q4 Z a1 o1 tm x0 x1 x2 x3 x4 y0 y1 y2 y3 y4 h0 n0 _ T27.heap _
    rw [e27]
    have FE_a1_28 : Exa Z h27 a1 "com/example/tracegauge/tracegauge/TraceTokens$Tally" := (FE_a1_26.wr W27)
    have FF_a1_produced_29 : Fld Z h27 a1 "com/example/tracegauge/tracegauge/TraceTokens$Tally" "produced" "J" (.long (x0 + (y0 * tm))) := ((((Fw3.other W9 (Or.inr (slot_ne (Or.inl (hw _ (List.mem_of_getElem? (i := 10) rfl))) (Or.inl (hw _ (List.mem_of_getElem? (i := 12) rfl))) (by decide) (t := .long) (t' := .long) (by decide) (by decide)))).other W15 (Or.inr (slot_ne (Or.inl (hw _ (List.mem_of_getElem? (i := 10) rfl))) (Or.inl (hw _ (List.mem_of_getElem? (i := 14) rfl))) (by decide) (t := .long) (t' := .long) (by decide) (by decide)))).other W21 (Or.inr (slot_ne (Or.inl (hw _ (List.mem_of_getElem? (i := 10) rfl))) (Or.inl (hw _ (List.mem_of_getElem? (i := 16) rfl))) (by decide) (t := .long) (t' := .long) (by decide) (by decide)))).other W27 (Or.inr (slot_ne (Or.inl (hw _ (List.mem_of_getElem? (i := 10) rfl))) (Or.inl (hw _ (List.mem_of_getElem? (i := 18) rfl))) (by decide) (t := .long) (t' := .long) (by decide) (by decide))))
    have FF_a1_consumed_30 : Fld Z h27 a1 "com/example/tracegauge/tracegauge/TraceTokens$Tally" "consumed" "J" (.long (x1 + (y1 * tm))) := (((Fw9.other W15 (Or.inr (slot_ne (Or.inl (hw _ (List.mem_of_getElem? (i := 12) rfl))) (Or.inl (hw _ (List.mem_of_getElem? (i := 14) rfl))) (by decide) (t := .long) (t' := .long) (by decide) (by decide)))).other W21 (Or.inr (slot_ne (Or.inl (hw _ (List.mem_of_getElem? (i := 12) rfl))) (Or.inl (hw _ (List.mem_of_getElem? (i := 16) rfl))) (by decide) (t := .long) (t' := .long) (by decide) (by decide)))).other W27 (Or.inr (slot_ne (Or.inl (hw _ (List.mem_of_getElem? (i := 12) rfl))) (Or.inl (hw _ (List.mem_of_getElem? (i := 18) rfl))) (by decide) (t := .long) (t' := .long) (by decide) (by decide))))
    have FF_a1_missing_31 : Fld Z h27 a1 "com/example/tracegauge/tracegauge/TraceTokens$Tally" "missing" "J" (.long (x2 + (y2 * tm))) := ((Fw15.other W21 (Or.inr (slot_ne (Or.inl (hw _ (List.mem_of_getElem? (i := 14) rfl))) (Or.inl (hw _ (List.mem_of_getElem? (i := 16) rfl))) (by decide) (t := .long) (t' := .long) (by decide) (by decide)))).other W27 (Or.inr (slot_ne (Or.inl (hw _ (List.mem_of_getElem? (i := 14) rfl))) (Or.inl (hw _ (List.mem_of_getElem? (i := 18) rfl))) (by decide) (t := .long) (t' := .long) (by decide) (by decide))))
    have FF_a1_remaining_32 : Fld Z h27 a1 "com/example/tracegauge/tracegauge/TraceTokens$Tally" "remaining" "J" (.long (x3 + (y3 * tm))) := (Fw21.other W27 (Or.inr (slot_ne (Or.inl (hw _ (List.mem_of_getElem? (i := 16) rfl))) (Or.inl (hw _ (List.mem_of_getElem? (i := 18) rfl))) (by decide) (t := .long) (t' := .long) (by decide) (by decide))))
    exact ⟨rfl, N27, K27, FE_a1_28, FF_a1_produced_29, FF_a1_consumed_30, FF_a1_missing_31, FF_a1_remaining_32, Fw27⟩
theorem own_d5_0 : decode method_4_code 0 = .ok (.aload_n 0, 1) := by decide +kernel
theorem own_d5_1 : decode method_4_code 1 = .ok (.getfield 10, 3) := by decide +kernel
theorem own_d5_4 : decode method_4_code 4 = .ok (.aload_n 1, 1) := by decide +kernel
theorem own_d5_5 : decode method_4_code 5 = .ok (.getfield 10, 3) := by decide +kernel
theorem own_d5_8 : decode method_4_code 8 = .ok (.lcmp, 1) := by decide +kernel
theorem own_d5_9 : decode method_4_code 9 = .ok (.ifCond .ne 55, 3) := by decide +kernel
theorem own_d5_12 : decode method_4_code 12 = .ok (.aload_n 0, 1) := by decide +kernel
theorem own_d5_13 : decode method_4_code 13 = .ok (.getfield 14, 3) := by decide +kernel
theorem own_d5_16 : decode method_4_code 16 = .ok (.aload_n 1, 1) := by decide +kernel
theorem own_d5_17 : decode method_4_code 17 = .ok (.getfield 14, 3) := by decide +kernel
theorem own_d5_20 : decode method_4_code 20 = .ok (.lcmp, 1) := by decide +kernel
theorem own_d5_21 : decode method_4_code 21 = .ok (.ifCond .ne 43, 3) := by decide +kernel
theorem own_d5_24 : decode method_4_code 24 = .ok (.aload_n 0, 1) := by decide +kernel
theorem own_d5_25 : decode method_4_code 25 = .ok (.getfield 17, 3) := by decide +kernel
theorem own_d5_28 : decode method_4_code 28 = .ok (.aload_n 1, 1) := by decide +kernel
theorem own_d5_29 : decode method_4_code 29 = .ok (.getfield 17, 3) := by decide +kernel
theorem own_d5_32 : decode method_4_code 32 = .ok (.lcmp, 1) := by decide +kernel
theorem own_d5_33 : decode method_4_code 33 = .ok (.ifCond .ne 31, 3) := by decide +kernel
theorem own_d5_36 : decode method_4_code 36 = .ok (.aload_n 0, 1) := by decide +kernel
theorem own_d5_37 : decode method_4_code 37 = .ok (.getfield 20, 3) := by decide +kernel
theorem own_d5_40 : decode method_4_code 40 = .ok (.aload_n 1, 1) := by decide +kernel
theorem own_d5_41 : decode method_4_code 41 = .ok (.getfield 20, 3) := by decide +kernel
theorem own_d5_44 : decode method_4_code 44 = .ok (.lcmp, 1) := by decide +kernel
theorem own_d5_45 : decode method_4_code 45 = .ok (.ifCond .ne 19, 3) := by decide +kernel
theorem own_d5_48 : decode method_4_code 48 = .ok (.aload_n 0, 1) := by decide +kernel
theorem own_d5_49 : decode method_4_code 49 = .ok (.getfield 23, 3) := by decide +kernel
theorem own_d5_52 : decode method_4_code 52 = .ok (.aload_n 1, 1) := by decide +kernel
theorem own_d5_53 : decode method_4_code 53 = .ok (.getfield 23, 3) := by decide +kernel
theorem own_d5_56 : decode method_4_code 56 = .ok (.lcmp, 1) := by decide +kernel
theorem own_d5_57 : decode method_4_code 57 = .ok (.ifCond .ne 7, 3) := by decide +kernel
theorem own_d5_60 : decode method_4_code 60 = .ok (.iconst 1, 1) := by decide +kernel
theorem own_d5_61 : decode method_4_code 61 = .ok (.goto 4, 3) := by decide +kernel
theorem own_d5_64 : decode method_4_code 64 = .ok (.iconst 0, 1) := by decide +kernel
theorem own_d5_65 : decode method_4_code 65 = .ok (.ireturn, 1) := by decide +kernel
theorem own_pn5 : plainName "com/example/tracegauge/tracegauge/TallyAddPinLaw" = true := by first | (simp [plainName, overriddenIn]; done) | decide +kernel
theorem own_ef5 (m : MethodId) (a1 : Addr) (a2 : Addr) : entryFrame m #[(.ref a1), (.ref a2)] 2 = mkF m 0 #[.val (.ref a1), .val (.ref a2)] [] := by first | (simp [entryFrame, mkF, argsToLocals, Value.category]; done) | rfl
def own_Q5 (Z : State) (a1 : Addr) (a2 : Addr) (x0 : Int64) (x1 : Int64) (x2 : Int64) (x3 : Int64) (x4 : Int64) (y0 : Int64) (y1 : Int64) (y2 : Int64) (y3 : Int64) (y4 : Int64) (h0 : Heap) (n0 : Nat) (v : Option Value) (h : Heap) (L : List Loc) : Prop := (v = some (.int (1 : Int32))) ∧ (Fr n0 L) ∧ (h = h0)
set_option maxRecDepth 65536 in
set_option maxHeartbeats 40000000 in
theorem own_rm5 (l : Launch) (Z : State) (a0 : Array Value) (hw : ∀ d ∈ tables_1, d.before a0 Z = true) (ws : List Jvm.Cond) (a1 : Addr) (a2 : Addr) (x0 : Int64) (x1 : Int64) (x2 : Int64) (x3 : Int64) (x4 : Int64) (y0 : Int64) (y1 : Int64) (y2 : Int64) (y3 : Int64) (y4 : Int64) (h0 : Heap) (n0 : Nat) (Z0 : n0 ≤ h0.size) (P_E_a1 : Exa Z h0 a1 "com/example/tracegauge/tracegauge/TraceTokens$Tally") (P_F_a1_produced : Fld Z h0 a1 "com/example/tracegauge/tracegauge/TraceTokens$Tally" "produced" "J" (.long x0)) (P_F_a1_consumed : Fld Z h0 a1 "com/example/tracegauge/tracegauge/TraceTokens$Tally" "consumed" "J" (.long x1)) (P_F_a1_missing : Fld Z h0 a1 "com/example/tracegauge/tracegauge/TraceTokens$Tally" "missing" "J" (.long x2)) (P_F_a1_remaining : Fld Z h0 a1 "com/example/tracegauge/tracegauge/TraceTokens$Tally" "remaining" "J" (.long x3)) (P_F_a1_violated : Fld Z h0 a1 "com/example/tracegauge/tracegauge/TraceTokens$Tally" "violated" "J" (.long x4)) (P_E_a2 : Exa Z h0 a2 "com/example/tracegauge/tracegauge/TraceTokens$Tally") (P_F_a2_produced : Fld Z h0 a2 "com/example/tracegauge/tracegauge/TraceTokens$Tally" "produced" "J" (.long y0)) (P_F_a2_consumed : Fld Z h0 a2 "com/example/tracegauge/tracegauge/TraceTokens$Tally" "consumed" "J" (.long y1)) (P_F_a2_missing : Fld Z h0 a2 "com/example/tracegauge/tracegauge/TraceTokens$Tally" "missing" "J" (.long y2)) (P_F_a2_remaining : Fld Z h0 a2 "com/example/tracegauge/tracegauge/TraceTokens$Tally" "remaining" "J" (.long y3)) (P_F_a2_violated : Fld Z h0 a2 "com/example/tracegauge/tracegauge/TraceTokens$Tally" "violated" "J" (.long y4)) (hq0 : x0 = y0) (hq1 : x1 = y1) (hq2 : x2 = y2) (hq3 : x3 = y3) (hq4 : x4 = y4) :
    MetFree l (⟨"com/example/tracegauge/tracegauge/TallyAddPinLaw", "same", "(Lcom/example/tracegauge/tracegauge/TraceTokens$Tally;Lcom/example/tracegauge/tracegauge/TraceTokens$Tally;)Z"⟩ : MethodName) (head1 (Jvm.Cond.code (⟨"com/example/tracegauge/tracegauge/TallyAddPinLaw", "same", "(Lcom/example/tracegauge/tracegauge/TraceTokens$Tally;Lcom/example/tracegauge/tracegauge/TraceTokens$Tally;)Z"⟩ : MethodName) method_4_code 2 (some .boolean) :: ws) ({ frames := 0, cells := 0, slots := 0, locals := 0 } : Room)) (fun ar_ U_ => ar_ = #[(.ref a1), (.ref a2)] ∧ Z.Warmed39 U_.vm ∧ U_.heap = h0) (fun _ _ _ _ _ => True) (fun _ U_ o_ U_' => ∃ v_ L_, o_ = .returned v_ ∧ own_Q5 Z a1 a2 x0 x1 x2 x3 x4 y0 y1 y2 y3 y4 h0 n0 v_ U_'.heap L_ ∧ FrameEnd U_ o_ U_' L_ ({ frames := 0, cells := 0, slots := 0, locals := 0 } : Room).cells ({ frames := 0, cells := 0, slots := 0, locals := 0 } : Room).slots) := by
  refine MetFree.of_bodySF (plainFor_of_name own_pn5) hisR ?_
  intro p e s m args below meth c s₁ Bd hml0 hP hK
  obtain ⟨rfl, hZ, hh⟩ := hP
  have hx := Bd.exec
  have hby := Bd.bytes
  have hml : c.maxLocals = 2 := hml0
  have hown : s.vm.findClass "com/example/tracegauge/tracegauge/TallyAddPinLaw" = some m.cls := findClass_of_methodNamed Bd.named
  have hnm := (name_of_methodNamed Bd.named Bd.method).1
  have X0 : Stand p l e ({ frames := 0, cells := 0, slots := 0, locals := 0 } : Room) s m #[(.ref a1), (.ref a2)] below meth c s₁ [] 0 0 := Stand.of_body Bd
  have e0 : s₁.heap = h0 := by rw [← hh, Bd.state]; rfl
  have N0 := Fr.nil n0
  have pre0 : ∀ t, Steps p.tables e below (s₁.setTop (mkF m 0 #[.val (.ref a1), .val (.ref a2)] [])) t → Steps p.tables e below (s₁.setTop (entryFrame m #[(.ref a1), (.ref a2)] 2)) t := fun t k => castTop (own_ef5 m a1 a2) k
  obtain ⟨T1, X1, e1, st1⟩ := getF X0 hx hZ hown (host := "") (Or.inl (hw _ (List.mem_of_getElem? (i := 9) rfl))) Via.refl e0 P_F_a1_produced (g := (mkF m 1 #[.val (.ref a1), .val (.ref a2)] [(.ref a1)])) rfl rfl (hb hby own_d5_1)
  obtain ⟨T2, X2, e2, st2⟩ := getF X1 hx hZ hown (host := "") (Or.inl (hw _ (List.mem_of_getElem? (i := 9) rfl))) Via.refl e1 P_F_a2_produced (g := (mkF m 5 #[.val (.ref a1), .val (.ref a2)] [(.ref a2), (.long x0)])) rfl rfl (hb hby own_d5_5)
  obtain ⟨T3, X3, e3, st3⟩ := getF X2 hx hZ hown (host := "") (Or.inl (hw _ (List.mem_of_getElem? (i := 11) rfl))) Via.refl e2 P_F_a1_consumed (g := (mkF m 13 #[.val (.ref a1), .val (.ref a2)] [(.ref a1)])) rfl rfl (hb hby own_d5_13)
  obtain ⟨T4, X4, e4, st4⟩ := getF X3 hx hZ hown (host := "") (Or.inl (hw _ (List.mem_of_getElem? (i := 11) rfl))) Via.refl e3 P_F_a2_consumed (g := (mkF m 17 #[.val (.ref a1), .val (.ref a2)] [(.ref a2), (.long x1)])) rfl rfl (hb hby own_d5_17)
  obtain ⟨T5, X5, e5, st5⟩ := getF X4 hx hZ hown (host := "") (Or.inl (hw _ (List.mem_of_getElem? (i := 13) rfl))) Via.refl e4 P_F_a1_missing (g := (mkF m 25 #[.val (.ref a1), .val (.ref a2)] [(.ref a1)])) rfl rfl (hb hby own_d5_25)
  obtain ⟨T6, X6, e6, st6⟩ := getF X5 hx hZ hown (host := "") (Or.inl (hw _ (List.mem_of_getElem? (i := 13) rfl))) Via.refl e5 P_F_a2_missing (g := (mkF m 29 #[.val (.ref a1), .val (.ref a2)] [(.ref a2), (.long x2)])) rfl rfl (hb hby own_d5_29)
  obtain ⟨T7, X7, e7, st7⟩ := getF X6 hx hZ hown (host := "") (Or.inl (hw _ (List.mem_of_getElem? (i := 15) rfl))) Via.refl e6 P_F_a1_remaining (g := (mkF m 37 #[.val (.ref a1), .val (.ref a2)] [(.ref a1)])) rfl rfl (hb hby own_d5_37)
  obtain ⟨T8, X8, e8, st8⟩ := getF X7 hx hZ hown (host := "") (Or.inl (hw _ (List.mem_of_getElem? (i := 15) rfl))) Via.refl e7 P_F_a2_remaining (g := (mkF m 41 #[.val (.ref a1), .val (.ref a2)] [(.ref a2), (.long x3)])) rfl rfl (hb hby own_d5_41)
  obtain ⟨T9, X9, e9, st9⟩ := getF X8 hx hZ hown (host := "") (Or.inl (hw _ (List.mem_of_getElem? (i := 17) rfl))) Via.refl e8 P_F_a1_violated (g := (mkF m 49 #[.val (.ref a1), .val (.ref a2)] [(.ref a1)])) rfl rfl (hb hby own_d5_49)
  obtain ⟨T10, X10, e10, st10⟩ := getF X9 hx hZ hown (host := "") (Or.inl (hw _ (List.mem_of_getElem? (i := 17) rfl))) Via.refl e9 P_F_a2_violated (g := (mkF m 53 #[.val (.ref a1), .val (.ref a2)] [(.ref a2), (.long x4)])) rfl rfl (hb hby own_d5_53)
  obtain ⟨fs, hr, hrun, hended, hW, hsame⟩ := X10.leave (v := some (.int (1 : Int32))) (fun h => by rw [Bd.returns] at h; cases h)
  refine ⟨_, _, pre0 _ ?_, hrun, hended, _, _, rfl, ?_, ⟨_, rfl⟩, hW, hsame.mono (by decide) (by decide)⟩
  · show Steps p.tables e below (s₁.setTop (mkF m 0 #[.val (.ref a1), .val (.ref a2)] [])) _
    refine XS.aloadN X0.here hx rfl (hb hby own_d5_0) rfl rfl ?_
    show Steps p.tables e below (s₁.setTop (mkF m 1 #[.val (.ref a1), .val (.ref a2)] [(.ref a1)])) _
    refine st1 _ ?_
    show Steps p.tables e below (T1.setTop (mkF m 4 #[.val (.ref a1), .val (.ref a2)] [(.long x0)])) _
    refine XS.aloadN X1.here hx rfl (hb hby own_d5_4) rfl rfl ?_
    show Steps p.tables e below (T1.setTop (mkF m 5 #[.val (.ref a1), .val (.ref a2)] [(.ref a2), (.long x0)])) _
    refine st2 _ ?_
    show Steps p.tables e below (T2.setTop (mkF m 8 #[.val (.ref a1), .val (.ref a2)] [(.long y0), (.long x0)])) _
    refine XT.lcmp X2.here hx rfl (hb hby own_d5_8) rfl ?_
    show Steps p.tables e below (T2.setTop (mkF m 9 #[.val (.ref a1), .val (.ref a2)] [(.int (XT.cmpL x0 y0))])) _
    refine XS.ifNo X2.here hx rfl (hb hby own_d5_9) rfl (XT.ll_ne_f hq0) ?_
    show Steps p.tables e below (T2.setTop (mkF m 12 #[.val (.ref a1), .val (.ref a2)] [])) _
    refine XS.aloadN X2.here hx rfl (hb hby own_d5_12) rfl rfl ?_
    show Steps p.tables e below (T2.setTop (mkF m 13 #[.val (.ref a1), .val (.ref a2)] [(.ref a1)])) _
    refine st3 _ ?_
    show Steps p.tables e below (T3.setTop (mkF m 16 #[.val (.ref a1), .val (.ref a2)] [(.long x1)])) _
    refine XS.aloadN X3.here hx rfl (hb hby own_d5_16) rfl rfl ?_
    show Steps p.tables e below (T3.setTop (mkF m 17 #[.val (.ref a1), .val (.ref a2)] [(.ref a2), (.long x1)])) _
    refine st4 _ ?_
    show Steps p.tables e below (T4.setTop (mkF m 20 #[.val (.ref a1), .val (.ref a2)] [(.long y1), (.long x1)])) _
    refine XT.lcmp X4.here hx rfl (hb hby own_d5_20) rfl ?_
    show Steps p.tables e below (T4.setTop (mkF m 21 #[.val (.ref a1), .val (.ref a2)] [(.int (XT.cmpL x1 y1))])) _
    refine XS.ifNo X4.here hx rfl (hb hby own_d5_21) rfl (XT.ll_ne_f hq1) ?_
    show Steps p.tables e below (T4.setTop (mkF m 24 #[.val (.ref a1), .val (.ref a2)] [])) _
    refine XS.aloadN X4.here hx rfl (hb hby own_d5_24) rfl rfl ?_
    show Steps p.tables e below (T4.setTop (mkF m 25 #[.val (.ref a1), .val (.ref a2)] [(.ref a1)])) _
    refine st5 _ ?_
    show Steps p.tables e below (T5.setTop (mkF m 28 #[.val (.ref a1), .val (.ref a2)] [(.long x2)])) _
    refine XS.aloadN X5.here hx rfl (hb hby own_d5_28) rfl rfl ?_
    show Steps p.tables e below (T5.setTop (mkF m 29 #[.val (.ref a1), .val (.ref a2)] [(.ref a2), (.long x2)])) _
    refine st6 _ ?_
    show Steps p.tables e below (T6.setTop (mkF m 32 #[.val (.ref a1), .val (.ref a2)] [(.long y2), (.long x2)])) _
    refine XT.lcmp X6.here hx rfl (hb hby own_d5_32) rfl ?_
    show Steps p.tables e below (T6.setTop (mkF m 33 #[.val (.ref a1), .val (.ref a2)] [(.int (XT.cmpL x2 y2))])) _
    refine XS.ifNo X6.here hx rfl (hb hby own_d5_33) rfl (XT.ll_ne_f hq2) ?_
    show Steps p.tables e below (T6.setTop (mkF m 36 #[.val (.ref a1), .val (.ref a2)] [])) _
    refine XS.aloadN X6.here hx rfl (hb hby own_d5_36) rfl rfl ?_
    show Steps p.tables e below (T6.setTop (mkF m 37 #[.val (.ref a1), .val (.ref a2)] [(.ref a1)])) _
    refine st7 _ ?_
    show Steps p.tables e below (T7.setTop (mkF m 40 #[.val (.ref a1), .val (.ref a2)] [(.long x3)])) _
    refine XS.aloadN X7.here hx rfl (hb hby own_d5_40) rfl rfl ?_
    show Steps p.tables e below (T7.setTop (mkF m 41 #[.val (.ref a1), .val (.ref a2)] [(.ref a2), (.long x3)])) _
    refine st8 _ ?_
    show Steps p.tables e below (T8.setTop (mkF m 44 #[.val (.ref a1), .val (.ref a2)] [(.long y3), (.long x3)])) _
    refine XT.lcmp X8.here hx rfl (hb hby own_d5_44) rfl ?_
    show Steps p.tables e below (T8.setTop (mkF m 45 #[.val (.ref a1), .val (.ref a2)] [(.int (XT.cmpL x3 y3))])) _
    refine XS.ifNo X8.here hx rfl (hb hby own_d5_45) rfl (XT.ll_ne_f hq3) ?_
    show Steps p.tables e below (T8.setTop (mkF m 48 #[.val (.ref a1), .val (.ref a2)] [])) _
    refine XS.aloadN X8.here hx rfl (hb hby own_d5_48) rfl rfl ?_
    show Steps p.tables e below (T8.setTop (mkF m 49 #[.val (.ref a1), .val (.ref a2)] [(.ref a1)])) _
    refine st9 _ ?_
    show Steps p.tables e below (T9.setTop (mkF m 52 #[.val (.ref a1), .val (.ref a2)] [(.long x4)])) _
    refine XS.aloadN X9.here hx rfl (hb hby own_d5_52) rfl rfl ?_
    show Steps p.tables e below (T9.setTop (mkF m 53 #[.val (.ref a1), .val (.ref a2)] [(.ref a2), (.long x4)])) _
    refine st10 _ ?_
    show Steps p.tables e below (T10.setTop (mkF m 56 #[.val (.ref a1), .val (.ref a2)] [(.long y4), (.long x4)])) _
    refine XT.lcmp X10.here hx rfl (hb hby own_d5_56) rfl ?_
    show Steps p.tables e below (T10.setTop (mkF m 57 #[.val (.ref a1), .val (.ref a2)] [(.int (XT.cmpL x4 y4))])) _
    refine XS.ifNo X10.here hx rfl (hb hby own_d5_57) rfl (XT.ll_ne_f hq4) ?_
    show Steps p.tables e below (T10.setTop (mkF m 60 #[.val (.ref a1), .val (.ref a2)] [])) _
    refine XT.iconstV X10.here hx rfl (1 : Int32) (hb hby own_d5_60) rfl ?_
    show Steps p.tables e below (T10.setTop (mkF m 61 #[.val (.ref a1), .val (.ref a2)] [(.int (1 : Int32))])) _
    refine XS.goto X10.here hx rfl (pc0 := 61) (pc' := 65) rfl (hb hby own_d5_61) (by decide) (by decide) ?_
    show Steps p.tables e below (T10.setTop (mkF m 65 #[.val (.ref a1), .val (.ref a2)] [(.int (1 : Int32))])) _
    exact retN X10 hx (t := .boolean) Bd.returns (by simp) (hb hby own_d5_65) hr
  · show own_Q5 Z a1 a2 x0 x1 x2 x3 x4 y0 y1 y2 y3 y4 h0 n0 _ T10.heap _
    exact ⟨rfl, N0, e10⟩
theorem own_pn0 : plainName "com/example/tracegauge/tracegauge/TallyAddPinLaw" = true := by first | (simp [plainName, overriddenIn]; done) | decide +kernel
theorem own_ef0 (m : MethodId) (j1 : Int64) (j2 : Int64) (j3 : Int64) (j4 : Int64) (jm : Int64) (jn : Int64) : entryFrame m #[(.long j1), (.long j2), (.long j3), (.long j4), (.long jm), (.long jn)] maxLocals = mkF m 0 #[.val (.long j1), .second, .val (.long j2), .second, .val (.long j3), .second, .val (.long j4), .second, .val (.long jm), .second, .val (.long jn), .second, .unset, .unset, .unset, .unset, .unset, .unset, .unset] [] := by first | (simp [entryFrame, mkF, argsToLocals, Value.category, maxLocals]; done) | rfl
def own_Q0 (Z : State) (j1 : Int64) (j2 : Int64) (j3 : Int64) (j4 : Int64) (jm : Int64) (jn : Int64) (h0 : Heap) (n0 : Nat) (v : Option Value) (h : Heap) (L : List Loc) : Prop := (v = some (.int (1 : Int32))) ∧ (Fr n0 L)
set_option maxRecDepth 65536 in
set_option maxHeartbeats 40000000 in
theorem own_rm0 (l : Launch) (Z : State) (a0 : Array Value) (hw : ∀ d ∈ tables_1, d.before a0 Z = true) (ws : List Jvm.Cond) (j1 : Int64) (j2 : Int64) (j3 : Int64) (j4 : Int64) (jm : Int64) (jn : Int64) (h0 : Heap) (n0 : Nat) (Z0 : n0 ≤ h0.size)  :
    MetFree l x (head1 (Jvm.Cond.code x code maxLocals ret :: ws) room_1) (fun ar_ U_ => ar_ = #[(.long j1), (.long j2), (.long j3), (.long j4), (.long jm), (.long jn)] ∧ Z.Warmed39 U_.vm ∧ U_.heap = h0) (fun _ _ _ _ _ => True) (fun _ U_ o_ U_' => ∃ v_ L_, o_ = .returned v_ ∧ own_Q0 Z j1 j2 j3 j4 jm jn h0 n0 v_ U_'.heap L_ ∧ FrameEnd U_ o_ U_' L_ room_1.cells room_1.slots) := by
  refine MetFree.of_bodySF (plainFor_of_name own_pn0) hisR ?_
  intro p e s m args below meth c s₁ Bd hml0 hP hK
  obtain ⟨rfl, hZ, hh⟩ := hP
  have hx := Bd.exec
  have hby := Bd.bytes
  have hml : c.maxLocals = 19 := hml0
  have hown : s.vm.findClass "com/example/tracegauge/tracegauge/TallyAddPinLaw" = some m.cls := findClass_of_methodNamed Bd.named
  have hnm := (name_of_methodNamed Bd.named Bd.method).1
  have X0 : Stand p l e room_1 s m #[(.long j1), (.long j2), (.long j3), (.long j4), (.long jm), (.long jn)] below meth c s₁ [] 0 0 := Stand.of_body Bd
  have e0 : s₁.heap = h0 := by rw [← hh, Bd.state]; rfl
  have N0 := Fr.nil n0
  have pre0 : ∀ t, Steps p.tables e below (s₁.setTop (mkF m 0 #[.val (.long j1), .second, .val (.long j2), .second, .val (.long j3), .second, .val (.long j4), .second, .val (.long jm), .second, .val (.long jn), .second, .unset, .unset, .unset, .unset, .unset, .unset, .unset] [])) t → Steps p.tables e below (s₁.setTop (entryFrame m #[(.long j1), (.long j2), (.long j3), (.long j4), (.long jm), (.long jn)] maxLocals)) t := fun t k => castTop (own_ef0 m j1 j2 j3 j4 jm jn) k
  obtain ⟨T1, h1, X1, e1, E1, A1, D1, -, st1⟩ := newO X0 hx hZ hown (hw _ (List.mem_of_getElem? (i := 0) rfl)) (hw _ (List.mem_of_getElem? (i := 1) rfl)) (hw _ (List.mem_of_getElem? (i := 2) rfl)) e0 (g := (mkF m 0 #[.val (.long j1), .second, .val (.long j2), .second, .val (.long j3), .second, .val (.long j4), .second, .val (.long jm), .second, .val (.long jn), .second, .unset, .unset, .unset, .unset, .unset, .unset, .unset] [])) rfl (hb hby at_0) (by decide) (by decide)
  obtain ⟨ob1, g1⟩ : ∃ z, z = h0.size := ⟨_, rfl⟩
  rw [← g1] at A1 D1 st1
  have sz1 : n0 ≤ h1.size := Nat.le_trans Z0 E1.1
  have gn_ob1 : n0 ≤ ob1 := Nat.le_trans Z0 (Nat.le_of_eq g1.symm)
  have bo_ob1 : h0.size ≤ ob1 := Nat.le_trans (Keep.refl h0 []).1 (Nat.le_of_eq g1.symm)
  have K1 : Keep h0 h1 [] := (Keep.refl h0 []).ext E1
  have F0_produced_ob1 : Fld Z h1 ob1 "com/example/tracegauge/tracegauge/TraceTokens$Tally" "produced" "J" (.long (0 : Int64)) := D1 (Or.inl (hw _ (List.mem_of_getElem? (i := 10) rfl))) (ty := .long) (by decide)
  have F0_consumed_ob1 : Fld Z h1 ob1 "com/example/tracegauge/tracegauge/TraceTokens$Tally" "consumed" "J" (.long (0 : Int64)) := D1 (Or.inl (hw _ (List.mem_of_getElem? (i := 12) rfl))) (ty := .long) (by decide)
  have F0_missing_ob1 : Fld Z h1 ob1 "com/example/tracegauge/tracegauge/TraceTokens$Tally" "missing" "J" (.long (0 : Int64)) := D1 (Or.inl (hw _ (List.mem_of_getElem? (i := 14) rfl))) (ty := .long) (by decide)
  have F0_remaining_ob1 : Fld Z h1 ob1 "com/example/tracegauge/tracegauge/TraceTokens$Tally" "remaining" "J" (.long (0 : Int64)) := D1 (Or.inl (hw _ (List.mem_of_getElem? (i := 16) rfl))) (ty := .long) (by decide)
  have F0_violated_ob1 : Fld Z h1 ob1 "com/example/tracegauge/tracegauge/TraceTokens$Tally" "violated" "J" (.long (0 : Int64)) := D1 (Or.inl (hw _ (List.mem_of_getElem? (i := 18) rfl))) (ty := .long) (by decide)
  obtain ⟨_, _, ⟨T2, tL2, tk2, tn2⟩, -, X2, ⟨Lc2, hQ2, tl2, ty2, tz2⟩, st2⟩ := X1.specialBack hx (y := (⟨"com/example/tracegauge/tracegauge/TraceTokens$Tally", "<init>", "()V"⟩ : MethodName)) rfl hown (mvT hZ (hw _ (List.mem_of_getElem? (i := 3) rfl))) (mvT hZ (hw _ (List.mem_of_getElem? (i := 4) rfl))) (mvT hZ (hw _ (List.mem_of_getElem? (i := 5) rfl))) (by decide) (backOf (W := 1) (own_rm1 l Z a0 hw [] ob1 h1 n0 sz1 ) hZ (hw _ (List.mem_of_getElem? (i := 5) rfl)) (hw _ (List.mem_of_getElem? (i := 2) rfl)) (by decide) (by decide)) (g := (mkF m 4 #[.val (.long j1), .second, .val (.long j2), .second, .val (.long j3), .second, .val (.long j4), .second, .val (.long jm), .second, .val (.long jn), .second, .unset, .unset, .unset, .unset, .unset, .unset, .unset] [(.ref ob1), (.ref ob1)])) rfl (by rw [hml]; rfl) (Steps.refl _) (a := ob1) (argsL := []) (rest := [(.ref ob1)]) (lenOf own_pd0 rfl) rfl (by show 2 * 0 + _ ≤ _; exact Nat.le_of_eq rfl) (hb hby at_4) (fun _ _ => ⟨rfl, e1, (by decide : 1 + 0 ≤ _), (by decide : 5 + 0 ≤ _)⟩)
  dsimp only [Pt.U, Pt.locs, Pt.cells, Pt.slots] at X2 tl2 ty2 tz2 st2 hQ2
  rw [tl2, ty2, tz2] at X2
  obtain ⟨rfl, Nq2, K2⟩ := hQ2
  have N2 := Fr.app N0 Nq2
  obtain ⟨T3, h3, X3, e3, W3, st3⟩ := putF X2 hx hZ hown (host := "") (Or.inl (hw _ (List.mem_of_getElem? (i := 9) rfl))) Via.refl K2 F0_produced_ob1 A1 (Or.inl (hw _ (List.mem_of_getElem? (i := 10) rfl))) (hw _ (List.mem_of_getElem? (i := 1) rfl)) (ty := .long) (by decide) rfl rfl (g := (mkF m 12 #[.val (.long j1), .second, .val (.long j2), .second, .val (.long j3), .second, .val (.long j4), .second, .val (.long jm), .second, .val (.long jn), .second, .val (.ref ob1), .unset, .unset, .unset, .unset, .unset, .unset] [(.long j1), (.ref ob1)])) rfl rfl (hb hby at_12)
  have Fw3 : Fld Z h3 ob1 "com/example/tracegauge/tracegauge/TraceTokens$Tally" "produced" "J" (.long j1) := Fld.same W3 F0_produced_ob1
  have K3 : Keep h0 h3 [] := K1.wr W3 (Or.inr bo_ob1)
  have N3 := Fr.snoc X3 N2 gn_ob1
  have FF_ob1_consumed_4 : Fld Z h3 ob1 "com/example/tracegauge/tracegauge/TraceTokens$Tally" "consumed" "J" (.long (0 : Int64)) := (F0_consumed_ob1.other W3 (Or.inr (slot_ne (Or.inl (hw _ (List.mem_of_getElem? (i := 12) rfl))) (Or.inl (hw _ (List.mem_of_getElem? (i := 10) rfl))) (by decide) (t := .long) (t' := .long) (by decide) (by decide))))
  have FE_ob1_5 : Exa Z h3 ob1 "com/example/tracegauge/tracegauge/TraceTokens$Tally" := (A1.wr W3)
  obtain ⟨T6, h6, X6, e6, W6, st6⟩ := putF X3 hx hZ hown (host := "") (Or.inl (hw _ (List.mem_of_getElem? (i := 11) rfl))) Via.refl e3 FF_ob1_consumed_4 FE_ob1_5 (Or.inl (hw _ (List.mem_of_getElem? (i := 12) rfl))) (hw _ (List.mem_of_getElem? (i := 1) rfl)) (ty := .long) (by decide) rfl rfl (g := (mkF m 18 #[.val (.long j1), .second, .val (.long j2), .second, .val (.long j3), .second, .val (.long j4), .second, .val (.long jm), .second, .val (.long jn), .second, .val (.ref ob1), .unset, .unset, .unset, .unset, .unset, .unset] [(.long j2), (.ref ob1)])) rfl rfl (hb hby at_18)
  have Fw6 : Fld Z h6 ob1 "com/example/tracegauge/tracegauge/TraceTokens$Tally" "consumed" "J" (.long j2) := Fld.same W6 FF_ob1_consumed_4
  have K6 : Keep h0 h6 [] := K3.wr W6 (Or.inr bo_ob1)
  have N6 := Fr.snoc X6 N3 gn_ob1
  have FF_ob1_missing_7 : Fld Z h6 ob1 "com/example/tracegauge/tracegauge/TraceTokens$Tally" "missing" "J" (.long (0 : Int64)) := ((F0_missing_ob1.other W3 (Or.inr (slot_ne (Or.inl (hw _ (List.mem_of_getElem? (i := 14) rfl))) (Or.inl (hw _ (List.mem_of_getElem? (i := 10) rfl))) (by decide) (t := .long) (t' := .long) (by decide) (by decide)))).other W6 (Or.inr (slot_ne (Or.inl (hw _ (List.mem_of_getElem? (i := 14) rfl))) (Or.inl (hw _ (List.mem_of_getElem? (i := 12) rfl))) (by decide) (t := .long) (t' := .long) (by decide) (by decide))))
  have FE_ob1_8 : Exa Z h6 ob1 "com/example/tracegauge/tracegauge/TraceTokens$Tally" := (FE_ob1_5.wr W6)
  obtain ⟨T9, h9, X9, e9, W9, st9⟩ := putF X6 hx hZ hown (host := "") (Or.inl (hw _ (List.mem_of_getElem? (i := 13) rfl))) Via.refl e6 FF_ob1_missing_7 FE_ob1_8 (Or.inl (hw _ (List.mem_of_getElem? (i := 14) rfl))) (hw _ (List.mem_of_getElem? (i := 1) rfl)) (ty := .long) (by decide) rfl rfl (g := (mkF m 25 #[.val (.long j1), .second, .val (.long j2), .second, .val (.long j3), .second, .val (.long j4), .second, .val (.long jm), .second, .val (.long jn), .second, .val (.ref ob1), .unset, .unset, .unset, .unset, .unset, .unset] [(.long j3), (.ref ob1)])) rfl rfl (hb hby at_25)
  have Fw9 : Fld Z h9 ob1 "com/example/tracegauge/tracegauge/TraceTokens$Tally" "missing" "J" (.long j3) := Fld.same W9 FF_ob1_missing_7
  have K9 : Keep h0 h9 [] := K6.wr W9 (Or.inr bo_ob1)
  have N9 := Fr.snoc X9 N6 gn_ob1
  have FF_ob1_remaining_10 : Fld Z h9 ob1 "com/example/tracegauge/tracegauge/TraceTokens$Tally" "remaining" "J" (.long (0 : Int64)) := (((F0_remaining_ob1.other W3 (Or.inr (slot_ne (Or.inl (hw _ (List.mem_of_getElem? (i := 16) rfl))) (Or.inl (hw _ (List.mem_of_getElem? (i := 10) rfl))) (by decide) (t := .long) (t' := .long) (by decide) (by decide)))).other W6 (Or.inr (slot_ne (Or.inl (hw _ (List.mem_of_getElem? (i := 16) rfl))) (Or.inl (hw _ (List.mem_of_getElem? (i := 12) rfl))) (by decide) (t := .long) (t' := .long) (by decide) (by decide)))).other W9 (Or.inr (slot_ne (Or.inl (hw _ (List.mem_of_getElem? (i := 16) rfl))) (Or.inl (hw _ (List.mem_of_getElem? (i := 14) rfl))) (by decide) (t := .long) (t' := .long) (by decide) (by decide))))
  have FE_ob1_11 : Exa Z h9 ob1 "com/example/tracegauge/tracegauge/TraceTokens$Tally" := (FE_ob1_8.wr W9)
  obtain ⟨T12, h12, X12, e12, W12, st12⟩ := putF X9 hx hZ hown (host := "") (Or.inl (hw _ (List.mem_of_getElem? (i := 15) rfl))) Via.refl e9 FF_ob1_remaining_10 FE_ob1_11 (Or.inl (hw _ (List.mem_of_getElem? (i := 16) rfl))) (hw _ (List.mem_of_getElem? (i := 1) rfl)) (ty := .long) (by decide) rfl rfl (g := (mkF m 32 #[.val (.long j1), .second, .val (.long j2), .second, .val (.long j3), .second, .val (.long j4), .second, .val (.long jm), .second, .val (.long jn), .second, .val (.ref ob1), .unset, .unset, .unset, .unset, .unset, .unset] [(.long j4), (.ref ob1)])) rfl rfl (hb hby at_32)
  have Fw12 : Fld Z h12 ob1 "com/example/tracegauge/tracegauge/TraceTokens$Tally" "remaining" "J" (.long j4) := Fld.same W12 FF_ob1_remaining_10
  have K12 : Keep h0 h12 [] := K9.wr W12 (Or.inr bo_ob1)
  have N12 := Fr.snoc X12 N9 gn_ob1
  have FF_ob1_violated_13 : Fld Z h12 ob1 "com/example/tracegauge/tracegauge/TraceTokens$Tally" "violated" "J" (.long (0 : Int64)) := ((((F0_violated_ob1.other W3 (Or.inr (slot_ne (Or.inl (hw _ (List.mem_of_getElem? (i := 18) rfl))) (Or.inl (hw _ (List.mem_of_getElem? (i := 10) rfl))) (by decide) (t := .long) (t' := .long) (by decide) (by decide)))).other W6 (Or.inr (slot_ne (Or.inl (hw _ (List.mem_of_getElem? (i := 18) rfl))) (Or.inl (hw _ (List.mem_of_getElem? (i := 12) rfl))) (by decide) (t := .long) (t' := .long) (by decide) (by decide)))).other W9 (Or.inr (slot_ne (Or.inl (hw _ (List.mem_of_getElem? (i := 18) rfl))) (Or.inl (hw _ (List.mem_of_getElem? (i := 14) rfl))) (by decide) (t := .long) (t' := .long) (by decide) (by decide)))).other W12 (Or.inr (slot_ne (Or.inl (hw _ (List.mem_of_getElem? (i := 18) rfl))) (Or.inl (hw _ (List.mem_of_getElem? (i := 16) rfl))) (by decide) (t := .long) (t' := .long) (by decide) (by decide))))
  have FE_ob1_14 : Exa Z h12 ob1 "com/example/tracegauge/tracegauge/TraceTokens$Tally" := (FE_ob1_11.wr W12)
  obtain ⟨T15, h15, X15, e15, W15, st15⟩ := putF X12 hx hZ hown (host := "") (Or.inl (hw _ (List.mem_of_getElem? (i := 17) rfl))) Via.refl e12 FF_ob1_violated_13 FE_ob1_14 (Or.inl (hw _ (List.mem_of_getElem? (i := 18) rfl))) (hw _ (List.mem_of_getElem? (i := 1) rfl)) (ty := .long) (by decide) rfl rfl (g := (mkF m 41 #[.val (.long j1), .second, .val (.long j2), .second, .val (.long j3), .second, .val (.long j4), .second, .val (.long jm), .second, .val (.long jn), .second, .val (.ref ob1), .unset, .unset, .unset, .unset, .unset, .unset] [(.long (j1 ^^^ j4)), (.ref ob1)])) rfl rfl (hb hby at_41)
  have Fw15 : Fld Z h15 ob1 "com/example/tracegauge/tracegauge/TraceTokens$Tally" "violated" "J" (.long (j1 ^^^ j4)) := Fld.same W15 FF_ob1_violated_13
  have K15 : Keep h0 h15 [] := K12.wr W15 (Or.inr bo_ob1)
  have N15 := Fr.snoc X15 N12 gn_ob1
  obtain ⟨T16, h16, X16, e16, E16, A16, D16, -, st16⟩ := newO X15 hx hZ hown (hw _ (List.mem_of_getElem? (i := 0) rfl)) (hw _ (List.mem_of_getElem? (i := 1) rfl)) (hw _ (List.mem_of_getElem? (i := 2) rfl)) e15 (g := (mkF m 44 #[.val (.long j1), .second, .val (.long j2), .second, .val (.long j3), .second, .val (.long j4), .second, .val (.long jm), .second, .val (.long jn), .second, .val (.ref ob1), .unset, .unset, .unset, .unset, .unset, .unset] [])) rfl (hb hby at_44) (by decide) (by decide)
  obtain ⟨ob16, g16⟩ : ∃ z, z = h15.size := ⟨_, rfl⟩
  rw [← g16] at A16 D16 st16
  have szn17 : n0 ≤ h15.size := (Nat.le_trans (Nat.le_trans (Nat.le_trans (Nat.le_trans (Nat.le_trans sz1 (Keep.of_wr W3).1) (Keep.of_wr W6).1) (Keep.of_wr W9).1) (Keep.of_wr W12).1) (Keep.of_wr W15).1)
  have FE_ob1_18 : Exa Z h15 ob1 "com/example/tracegauge/tracegauge/TraceTokens$Tally" := (FE_ob1_14.wr W15)
  have ne_ob1_ob16 : ob1 ≠ ob16 := Nat.ne_of_lt (Nat.lt_of_lt_of_le FE_ob1_18.lt (Nat.le_of_eq g16.symm))
  have sz16 : n0 ≤ h16.size := Nat.le_trans szn17 E16.1
  have gn_ob16 : n0 ≤ ob16 := Nat.le_trans szn17 (Nat.le_of_eq g16.symm)
  have bo_ob16 : h0.size ≤ ob16 := Nat.le_trans K15.1 (Nat.le_of_eq g16.symm)
  have K16 : Keep h0 h16 [] := K15.ext E16
  have F0_produced_ob16 : Fld Z h16 ob16 "com/example/tracegauge/tracegauge/TraceTokens$Tally" "produced" "J" (.long (0 : Int64)) := D16 (Or.inl (hw _ (List.mem_of_getElem? (i := 10) rfl))) (ty := .long) (by decide)
  have F0_consumed_ob16 : Fld Z h16 ob16 "com/example/tracegauge/tracegauge/TraceTokens$Tally" "consumed" "J" (.long (0 : Int64)) := D16 (Or.inl (hw _ (List.mem_of_getElem? (i := 12) rfl))) (ty := .long) (by decide)
  have F0_missing_ob16 : Fld Z h16 ob16 "com/example/tracegauge/tracegauge/TraceTokens$Tally" "missing" "J" (.long (0 : Int64)) := D16 (Or.inl (hw _ (List.mem_of_getElem? (i := 14) rfl))) (ty := .long) (by decide)
  have F0_remaining_ob16 : Fld Z h16 ob16 "com/example/tracegauge/tracegauge/TraceTokens$Tally" "remaining" "J" (.long (0 : Int64)) := D16 (Or.inl (hw _ (List.mem_of_getElem? (i := 16) rfl))) (ty := .long) (by decide)
  have F0_violated_ob16 : Fld Z h16 ob16 "com/example/tracegauge/tracegauge/TraceTokens$Tally" "violated" "J" (.long (0 : Int64)) := D16 (Or.inl (hw _ (List.mem_of_getElem? (i := 18) rfl))) (ty := .long) (by decide)
  obtain ⟨_, _, ⟨T19, tL19, tk19, tn19⟩, -, X19, ⟨Lc19, hQ19, tl19, ty19, tz19⟩, st19⟩ := X16.specialBack hx (y := (⟨"com/example/tracegauge/tracegauge/TraceTokens$Tally", "<init>", "()V"⟩ : MethodName)) rfl hown (mvT hZ (hw _ (List.mem_of_getElem? (i := 3) rfl))) (mvT hZ (hw _ (List.mem_of_getElem? (i := 4) rfl))) (mvT hZ (hw _ (List.mem_of_getElem? (i := 5) rfl))) (by decide) (backOf (W := 1) (own_rm1 l Z a0 hw [] ob16 h16 n0 sz16 ) hZ (hw _ (List.mem_of_getElem? (i := 5) rfl)) (hw _ (List.mem_of_getElem? (i := 2) rfl)) (by decide) (by decide)) (g := (mkF m 48 #[.val (.long j1), .second, .val (.long j2), .second, .val (.long j3), .second, .val (.long j4), .second, .val (.long jm), .second, .val (.long jn), .second, .val (.ref ob1), .unset, .unset, .unset, .unset, .unset, .unset] [(.ref ob16), (.ref ob16)])) rfl (by rw [hml]; rfl) (Steps.refl _) (a := ob16) (argsL := []) (rest := [(.ref ob16)]) (lenOf own_pd0 rfl) rfl (by show 2 * 0 + _ ≤ _; exact Nat.le_of_eq rfl) (hb hby at_48) (fun _ _ => ⟨rfl, e16, (by decide : 2 + 0 ≤ _), (by decide : 10 + 0 ≤ _)⟩)
  dsimp only [Pt.U, Pt.locs, Pt.cells, Pt.slots] at X19 tl19 ty19 tz19 st19 hQ19
  rw [tl19, ty19, tz19] at X19
  obtain ⟨rfl, Nq19, K19⟩ := hQ19
  have N19 := Fr.app N15 Nq19
  obtain ⟨_, _, ⟨T20, tL20, tk20, tn20⟩, -, X20, ⟨Lc20, hQ20, tl20, ty20, tz20⟩, st20⟩ := Jvm.LawKit.callS X19 hx (y := (⟨"com/example/tracegauge/tracegauge/TallyAddPinLaw", "fill", "(Lcom/example/tracegauge/tracegauge/TraceTokens$Tally;JJJJ)V"⟩ : MethodName)) hown (mvT hZ (hw _ (List.mem_of_getElem? (i := 19) rfl))) (mvT hZ (hw _ (List.mem_of_getElem? (i := 20) rfl))) (mvT hZ (hw _ (List.mem_of_getElem? (i := 21) rfl))) (mvT hZ (hw _ (List.mem_of_getElem? (i := 22) rfl))) (by decide) (backOf (W := 0) (own_rm3 l Z a0 hw [] ob16 j1 j2 j3 j4 ((.long (0 : Int64)) : Value) ((.long (0 : Int64)) : Value) ((.long (0 : Int64)) : Value) ((.long (0 : Int64)) : Value) ((.long (0 : Int64)) : Value) h16 n0 sz16 A16 F0_produced_ob16 F0_consumed_ob16 F0_missing_ob16 F0_remaining_ob16 F0_violated_ob16 gn_ob16) hZ (hw _ (List.mem_of_getElem? (i := 22) rfl)) (hw _ (List.mem_of_getElem? (i := 21) rfl)) (by decide) (by decide)) (g := (mkF m 61 #[.val (.long j1), .second, .val (.long j2), .second, .val (.long j3), .second, .val (.long j4), .second, .val (.long jm), .second, .val (.long jn), .second, .val (.ref ob1), .val (.ref ob16), .unset, .unset, .unset, .unset, .unset] [(.long j4), (.long j3), (.long j2), (.long j1), (.ref ob16)])) rfl (by rw [hml]; rfl) (argsL := [(.ref ob16), (.long j1), (.long j2), (.long j3), (.long j4)]) (rest := []) (lenOf own_pd1 rfl) rfl (by show 2 * 0 + _ ≤ _; exact Nat.le_of_eq rfl) (hb hby at_61) (fun _ _ => ⟨rfl, K19, (by decide : 2 + 0 ≤ _), (by decide : 10 + 0 ≤ _)⟩)
  dsimp only [Pt.U, Pt.locs, Pt.cells, Pt.slots] at X20 tl20 ty20 tz20 st20 hQ20
  rw [tl20, ty20, tz20] at X20
  obtain ⟨rfl, Nq20, K20, Fa20_E_t0, Fa20_F_t0_produced, Fa20_F_t0_consumed, Fa20_F_t0_missing, Fa20_F_t0_remaining, Fa20_F_t0_violated⟩ := hQ20
  have N20 := Fr.app N19 Nq20
  have sz20 : n0 ≤ T20.heap.size := Nat.le_trans sz16 K20.1
  have KK20 : Keep h0 T20.heap [] := K16.trans K20 (allS (Or.inr bo_ob16) all0)
  obtain ⟨T21, h21, X21, e21, E21, A21, D21, -, st21⟩ := newO X20 hx hZ hown (hw _ (List.mem_of_getElem? (i := 0) rfl)) (hw _ (List.mem_of_getElem? (i := 1) rfl)) (hw _ (List.mem_of_getElem? (i := 2) rfl)) rfl (g := (mkF m 64 #[.val (.long j1), .second, .val (.long j2), .second, .val (.long j3), .second, .val (.long j4), .second, .val (.long jm), .second, .val (.long jn), .second, .val (.ref ob1), .val (.ref ob16), .unset, .unset, .unset, .unset, .unset] [])) rfl (hb hby at_64) (by decide) (by decide)
  obtain ⟨ob21, g21⟩ : ∃ z, z = T20.heap.size := ⟨_, rfl⟩
  rw [← g21] at A21 D21 st21
  have FE_ob1_22 : Exa Z T20.heap ob1 "com/example/tracegauge/tracegauge/TraceTokens$Tally" := ((FE_ob1_18.ext E16).keep K20)
  have ne_ob1_ob21 : ob1 ≠ ob21 := Nat.ne_of_lt (Nat.lt_of_lt_of_le FE_ob1_22.lt (Nat.le_of_eq g21.symm))
  have ne_ob16_ob21 : ob16 ≠ ob21 := Nat.ne_of_lt (Nat.lt_of_lt_of_le Fa20_E_t0.lt (Nat.le_of_eq g21.symm))
  have sz21 : n0 ≤ h21.size := Nat.le_trans sz20 E21.1
  have gn_ob21 : n0 ≤ ob21 := Nat.le_trans sz20 (Nat.le_of_eq g21.symm)
  have bo_ob21 : h0.size ≤ ob21 := Nat.le_trans KK20.1 (Nat.le_of_eq g21.symm)
  have K21 : Keep h0 h21 [] := KK20.ext E21
  have F0_produced_ob21 : Fld Z h21 ob21 "com/example/tracegauge/tracegauge/TraceTokens$Tally" "produced" "J" (.long (0 : Int64)) := D21 (Or.inl (hw _ (List.mem_of_getElem? (i := 10) rfl))) (ty := .long) (by decide)
  have F0_consumed_ob21 : Fld Z h21 ob21 "com/example/tracegauge/tracegauge/TraceTokens$Tally" "consumed" "J" (.long (0 : Int64)) := D21 (Or.inl (hw _ (List.mem_of_getElem? (i := 12) rfl))) (ty := .long) (by decide)
  have F0_missing_ob21 : Fld Z h21 ob21 "com/example/tracegauge/tracegauge/TraceTokens$Tally" "missing" "J" (.long (0 : Int64)) := D21 (Or.inl (hw _ (List.mem_of_getElem? (i := 14) rfl))) (ty := .long) (by decide)
  have F0_remaining_ob21 : Fld Z h21 ob21 "com/example/tracegauge/tracegauge/TraceTokens$Tally" "remaining" "J" (.long (0 : Int64)) := D21 (Or.inl (hw _ (List.mem_of_getElem? (i := 16) rfl))) (ty := .long) (by decide)
  have F0_violated_ob21 : Fld Z h21 ob21 "com/example/tracegauge/tracegauge/TraceTokens$Tally" "violated" "J" (.long (0 : Int64)) := D21 (Or.inl (hw _ (List.mem_of_getElem? (i := 18) rfl))) (ty := .long) (by decide)
  obtain ⟨_, _, ⟨T23, tL23, tk23, tn23⟩, -, X23, ⟨Lc23, hQ23, tl23, ty23, tz23⟩, st23⟩ := X21.specialBack hx (y := (⟨"com/example/tracegauge/tracegauge/TraceTokens$Tally", "<init>", "()V"⟩ : MethodName)) rfl hown (mvT hZ (hw _ (List.mem_of_getElem? (i := 3) rfl))) (mvT hZ (hw _ (List.mem_of_getElem? (i := 4) rfl))) (mvT hZ (hw _ (List.mem_of_getElem? (i := 5) rfl))) (by decide) (backOf (W := 1) (own_rm1 l Z a0 hw [] ob21 h21 n0 sz21 ) hZ (hw _ (List.mem_of_getElem? (i := 5) rfl)) (hw _ (List.mem_of_getElem? (i := 2) rfl)) (by decide) (by decide)) (g := (mkF m 68 #[.val (.long j1), .second, .val (.long j2), .second, .val (.long j3), .second, .val (.long j4), .second, .val (.long jm), .second, .val (.long jn), .second, .val (.ref ob1), .val (.ref ob16), .unset, .unset, .unset, .unset, .unset] [(.ref ob21), (.ref ob21)])) rfl (by rw [hml]; rfl) (Steps.refl _) (a := ob21) (argsL := []) (rest := [(.ref ob21)]) (lenOf own_pd0 rfl) rfl (by show 2 * 0 + _ ≤ _; exact Nat.le_of_eq rfl) (hb hby at_68) (fun _ _ => ⟨rfl, e21, (by decide : 3 + 0 ≤ _), (by decide : 15 + 0 ≤ _)⟩)
  dsimp only [Pt.U, Pt.locs, Pt.cells, Pt.slots] at X23 tl23 ty23 tz23 st23 hQ23
  rw [tl23, ty23, tz23] at X23
  obtain ⟨rfl, Nq23, K23⟩ := hQ23
  have N23 := Fr.app N20 Nq23
  obtain ⟨_, _, ⟨T24, tL24, tk24, tn24⟩, -, X24, ⟨Lc24, hQ24, tl24, ty24, tz24⟩, st24⟩ := Jvm.LawKit.callS X23 hx (y := (⟨"com/example/tracegauge/tracegauge/TallyAddPinLaw", "fill", "(Lcom/example/tracegauge/tracegauge/TraceTokens$Tally;JJJJ)V"⟩ : MethodName)) hown (mvT hZ (hw _ (List.mem_of_getElem? (i := 19) rfl))) (mvT hZ (hw _ (List.mem_of_getElem? (i := 20) rfl))) (mvT hZ (hw _ (List.mem_of_getElem? (i := 21) rfl))) (mvT hZ (hw _ (List.mem_of_getElem? (i := 22) rfl))) (by decide) (backOf (W := 0) (own_rm3 l Z a0 hw [] ob21 j1 j2 j3 j4 ((.long (0 : Int64)) : Value) ((.long (0 : Int64)) : Value) ((.long (0 : Int64)) : Value) ((.long (0 : Int64)) : Value) ((.long (0 : Int64)) : Value) h21 n0 sz21 A21 F0_produced_ob21 F0_consumed_ob21 F0_missing_ob21 F0_remaining_ob21 F0_violated_ob21 gn_ob21) hZ (hw _ (List.mem_of_getElem? (i := 22) rfl)) (hw _ (List.mem_of_getElem? (i := 21) rfl)) (by decide) (by decide)) (g := (mkF m 81 #[.val (.long j1), .second, .val (.long j2), .second, .val (.long j3), .second, .val (.long j4), .second, .val (.long jm), .second, .val (.long jn), .second, .val (.ref ob1), .val (.ref ob16), .val (.ref ob21), .unset, .unset, .unset, .unset] [(.long j4), (.long j3), (.long j2), (.long j1), (.ref ob21)])) rfl (by rw [hml]; rfl) (argsL := [(.ref ob21), (.long j1), (.long j2), (.long j3), (.long j4)]) (rest := []) (lenOf own_pd1 rfl) rfl (by show 2 * 0 + _ ≤ _; exact Nat.le_of_eq rfl) (hb hby at_81) (fun _ _ => ⟨rfl, K23, (by decide : 3 + 0 ≤ _), (by decide : 15 + 0 ≤ _)⟩)
  dsimp only [Pt.U, Pt.locs, Pt.cells, Pt.slots] at X24 tl24 ty24 tz24 st24 hQ24
  rw [tl24, ty24, tz24] at X24
  obtain ⟨rfl, Nq24, K24, Fa24_E_t0, Fa24_F_t0_produced, Fa24_F_t0_consumed, Fa24_F_t0_missing, Fa24_F_t0_remaining, Fa24_F_t0_violated⟩ := hQ24
  have N24 := Fr.app N23 Nq24
  have sz24 : n0 ≤ T24.heap.size := Nat.le_trans sz21 K24.1
  have KK24 : Keep h0 T24.heap [] := K21.trans K24 (allS (Or.inr bo_ob21) all0)
  obtain ⟨T25, h25, X25, e25, E25, A25, D25, -, st25⟩ := newO X24 hx hZ hown (hw _ (List.mem_of_getElem? (i := 0) rfl)) (hw _ (List.mem_of_getElem? (i := 1) rfl)) (hw _ (List.mem_of_getElem? (i := 2) rfl)) rfl (g := (mkF m 84 #[.val (.long j1), .second, .val (.long j2), .second, .val (.long j3), .second, .val (.long j4), .second, .val (.long jm), .second, .val (.long jn), .second, .val (.ref ob1), .val (.ref ob16), .val (.ref ob21), .unset, .unset, .unset, .unset] [])) rfl (hb hby at_84) (by decide) (by decide)
  obtain ⟨ob25, g25⟩ : ∃ z, z = T24.heap.size := ⟨_, rfl⟩
  rw [← g25] at A25 D25 st25
  have FE_ob1_26 : Exa Z T24.heap ob1 "com/example/tracegauge/tracegauge/TraceTokens$Tally" := ((FE_ob1_22.ext E21).keep K24)
  have ne_ob1_ob25 : ob1 ≠ ob25 := Nat.ne_of_lt (Nat.lt_of_lt_of_le FE_ob1_26.lt (Nat.le_of_eq g25.symm))
  have FE_ob16_27 : Exa Z T24.heap ob16 "com/example/tracegauge/tracegauge/TraceTokens$Tally" := ((Fa20_E_t0.ext E21).keep K24)
  have ne_ob16_ob25 : ob16 ≠ ob25 := Nat.ne_of_lt (Nat.lt_of_lt_of_le FE_ob16_27.lt (Nat.le_of_eq g25.symm))
  have ne_ob21_ob25 : ob21 ≠ ob25 := Nat.ne_of_lt (Nat.lt_of_lt_of_le Fa24_E_t0.lt (Nat.le_of_eq g25.symm))
  have sz25 : n0 ≤ h25.size := Nat.le_trans sz24 E25.1
  have gn_ob25 : n0 ≤ ob25 := Nat.le_trans sz24 (Nat.le_of_eq g25.symm)
  have bo_ob25 : h0.size ≤ ob25 := Nat.le_trans KK24.1 (Nat.le_of_eq g25.symm)
  have K25 : Keep h0 h25 [] := KK24.ext E25
  have F0_produced_ob25 : Fld Z h25 ob25 "com/example/tracegauge/tracegauge/TraceTokens$Tally" "produced" "J" (.long (0 : Int64)) := D25 (Or.inl (hw _ (List.mem_of_getElem? (i := 10) rfl))) (ty := .long) (by decide)
  have F0_consumed_ob25 : Fld Z h25 ob25 "com/example/tracegauge/tracegauge/TraceTokens$Tally" "consumed" "J" (.long (0 : Int64)) := D25 (Or.inl (hw _ (List.mem_of_getElem? (i := 12) rfl))) (ty := .long) (by decide)
  have F0_missing_ob25 : Fld Z h25 ob25 "com/example/tracegauge/tracegauge/TraceTokens$Tally" "missing" "J" (.long (0 : Int64)) := D25 (Or.inl (hw _ (List.mem_of_getElem? (i := 14) rfl))) (ty := .long) (by decide)
  have F0_remaining_ob25 : Fld Z h25 ob25 "com/example/tracegauge/tracegauge/TraceTokens$Tally" "remaining" "J" (.long (0 : Int64)) := D25 (Or.inl (hw _ (List.mem_of_getElem? (i := 16) rfl))) (ty := .long) (by decide)
  have F0_violated_ob25 : Fld Z h25 ob25 "com/example/tracegauge/tracegauge/TraceTokens$Tally" "violated" "J" (.long (0 : Int64)) := D25 (Or.inl (hw _ (List.mem_of_getElem? (i := 18) rfl))) (ty := .long) (by decide)
  obtain ⟨_, _, ⟨T28, tL28, tk28, tn28⟩, -, X28, ⟨Lc28, hQ28, tl28, ty28, tz28⟩, st28⟩ := X25.specialBack hx (y := (⟨"com/example/tracegauge/tracegauge/TraceTokens$Tally", "<init>", "()V"⟩ : MethodName)) rfl hown (mvT hZ (hw _ (List.mem_of_getElem? (i := 3) rfl))) (mvT hZ (hw _ (List.mem_of_getElem? (i := 4) rfl))) (mvT hZ (hw _ (List.mem_of_getElem? (i := 5) rfl))) (by decide) (backOf (W := 1) (own_rm1 l Z a0 hw [] ob25 h25 n0 sz25 ) hZ (hw _ (List.mem_of_getElem? (i := 5) rfl)) (hw _ (List.mem_of_getElem? (i := 2) rfl)) (by decide) (by decide)) (g := (mkF m 88 #[.val (.long j1), .second, .val (.long j2), .second, .val (.long j3), .second, .val (.long j4), .second, .val (.long jm), .second, .val (.long jn), .second, .val (.ref ob1), .val (.ref ob16), .val (.ref ob21), .unset, .unset, .unset, .unset] [(.ref ob25), (.ref ob25)])) rfl (by rw [hml]; rfl) (Steps.refl _) (a := ob25) (argsL := []) (rest := [(.ref ob25)]) (lenOf own_pd0 rfl) rfl (by show 2 * 0 + _ ≤ _; exact Nat.le_of_eq rfl) (hb hby at_88) (fun _ _ => ⟨rfl, e25, (by decide : 4 + 0 ≤ _), (by decide : 20 + 0 ≤ _)⟩)
  dsimp only [Pt.U, Pt.locs, Pt.cells, Pt.slots] at X28 tl28 ty28 tz28 st28 hQ28
  rw [tl28, ty28, tz28] at X28
  obtain ⟨rfl, Nq28, K28⟩ := hQ28
  have N28 := Fr.app N24 Nq28
  have FE_ob16_29 : Exa Z h25 ob16 "com/example/tracegauge/tracegauge/TraceTokens$Tally" := (FE_ob16_27.ext E25)
  have FF_ob16_produced_30 : Fld Z h25 ob16 "com/example/tracegauge/tracegauge/TraceTokens$Tally" "produced" "J" (.long j4) := (((Fa20_F_t0_produced.ext E21).keep K24 (ninS ne_ob16_ob21 nin0)).ext E25)
  have FF_ob16_consumed_31 : Fld Z h25 ob16 "com/example/tracegauge/tracegauge/TraceTokens$Tally" "consumed" "J" (.long j3) := (((Fa20_F_t0_consumed.ext E21).keep K24 (ninS ne_ob16_ob21 nin0)).ext E25)
  have FF_ob16_missing_32 : Fld Z h25 ob16 "com/example/tracegauge/tracegauge/TraceTokens$Tally" "missing" "J" (.long j2) := (((Fa20_F_t0_missing.ext E21).keep K24 (ninS ne_ob16_ob21 nin0)).ext E25)
  have FF_ob16_remaining_33 : Fld Z h25 ob16 "com/example/tracegauge/tracegauge/TraceTokens$Tally" "remaining" "J" (.long j1) := (((Fa20_F_t0_remaining.ext E21).keep K24 (ninS ne_ob16_ob21 nin0)).ext E25)
  have FF_ob16_violated_34 : Fld Z h25 ob16 "com/example/tracegauge/tracegauge/TraceTokens$Tally" "violated" "J" (.long (j2 ^^^ j3)) := (((Fa20_F_t0_violated.ext E21).keep K24 (ninS ne_ob16_ob21 nin0)).ext E25)
  have FE_ob1_35 : Exa Z h25 ob1 "com/example/tracegauge/tracegauge/TraceTokens$Tally" := (FE_ob1_26.ext E25)
  have FF_ob1_produced_36 : Fld Z h25 ob1 "com/example/tracegauge/tracegauge/TraceTokens$Tally" "produced" "J" (.long j1) := (((((((((Fw3.other W6 (Or.inr (slot_ne (Or.inl (hw _ (List.mem_of_getElem? (i := 10) rfl))) (Or.inl (hw _ (List.mem_of_getElem? (i := 12) rfl))) (by decide) (t := .long) (t' := .long) (by decide) (by decide)))).other W9 (Or.inr (slot_ne (Or.inl (hw _ (List.mem_of_getElem? (i := 10) rfl))) (Or.inl (hw _ (List.mem_of_getElem? (i := 14) rfl))) (by decide) (t := .long) (t' := .long) (by decide) (by decide)))).other W12 (Or.inr (slot_ne (Or.inl (hw _ (List.mem_of_getElem? (i := 10) rfl))) (Or.inl (hw _ (List.mem_of_getElem? (i := 16) rfl))) (by decide) (t := .long) (t' := .long) (by decide) (by decide)))).other W15 (Or.inr (slot_ne (Or.inl (hw _ (List.mem_of_getElem? (i := 10) rfl))) (Or.inl (hw _ (List.mem_of_getElem? (i := 18) rfl))) (by decide) (t := .long) (t' := .long) (by decide) (by decide)))).ext E16).keep K20 (ninS ne_ob1_ob16 nin0)).ext E21).keep K24 (ninS ne_ob1_ob21 nin0)).ext E25)
  have FF_ob1_consumed_37 : Fld Z h25 ob1 "com/example/tracegauge/tracegauge/TraceTokens$Tally" "consumed" "J" (.long j2) := ((((((((Fw6.other W9 (Or.inr (slot_ne (Or.inl (hw _ (List.mem_of_getElem? (i := 12) rfl))) (Or.inl (hw _ (List.mem_of_getElem? (i := 14) rfl))) (by decide) (t := .long) (t' := .long) (by decide) (by decide)))).other W12 (Or.inr (slot_ne (Or.inl (hw _ (List.mem_of_getElem? (i := 12) rfl))) (Or.inl (hw _ (List.mem_of_getElem? (i := 16) rfl))) (by decide) (t := .long) (t' := .long) (by decide) (by decide)))).other W15 (Or.inr (slot_ne (Or.inl (hw _ (List.mem_of_getElem? (i := 12) rfl))) (Or.inl (hw _ (List.mem_of_getElem? (i := 18) rfl))) (by decide) (t := .long) (t' := .long) (by decide) (by decide)))).ext E16).keep K20 (ninS ne_ob1_ob16 nin0)).ext E21).keep K24 (ninS ne_ob1_ob21 nin0)).ext E25)
  have FF_ob1_missing_38 : Fld Z h25 ob1 "com/example/tracegauge/tracegauge/TraceTokens$Tally" "missing" "J" (.long j3) := (((((((Fw9.other W12 (Or.inr (slot_ne (Or.inl (hw _ (List.mem_of_getElem? (i := 14) rfl))) (Or.inl (hw _ (List.mem_of_getElem? (i := 16) rfl))) (by decide) (t := .long) (t' := .long) (by decide) (by decide)))).other W15 (Or.inr (slot_ne (Or.inl (hw _ (List.mem_of_getElem? (i := 14) rfl))) (Or.inl (hw _ (List.mem_of_getElem? (i := 18) rfl))) (by decide) (t := .long) (t' := .long) (by decide) (by decide)))).ext E16).keep K20 (ninS ne_ob1_ob16 nin0)).ext E21).keep K24 (ninS ne_ob1_ob21 nin0)).ext E25)
  have FF_ob1_remaining_39 : Fld Z h25 ob1 "com/example/tracegauge/tracegauge/TraceTokens$Tally" "remaining" "J" (.long j4) := ((((((Fw12.other W15 (Or.inr (slot_ne (Or.inl (hw _ (List.mem_of_getElem? (i := 16) rfl))) (Or.inl (hw _ (List.mem_of_getElem? (i := 18) rfl))) (by decide) (t := .long) (t' := .long) (by decide) (by decide)))).ext E16).keep K20 (ninS ne_ob1_ob16 nin0)).ext E21).keep K24 (ninS ne_ob1_ob21 nin0)).ext E25)
  have FF_ob1_violated_40 : Fld Z h25 ob1 "com/example/tracegauge/tracegauge/TraceTokens$Tally" "violated" "J" (.long (j1 ^^^ j4)) := (((((Fw15.ext E16).keep K20 (ninS ne_ob1_ob16 nin0)).ext E21).keep K24 (ninS ne_ob1_ob21 nin0)).ext E25)
  obtain ⟨cq41, kq41, q41a, q41b, q41c⟩ := isOf hZ K28 FE_ob16_29
  obtain ⟨_, _, ⟨T41, tL41, tk41, tn41⟩, -, X41, ⟨Lc41, hQ41, tl41, ty41, tz41⟩, st41⟩ := X28.virtualBack hx (y := (⟨"com/example/tracegauge/tracegauge/TraceTokens$Tally", "add", "(Lcom/example/tracegauge/tracegauge/TraceTokens$Tally;J)V"⟩ : MethodName)) (z := (⟨"com/example/tracegauge/tracegauge/TraceTokens$Tally", "add", "(Lcom/example/tracegauge/tracegauge/TraceTokens$Tally;J)V"⟩ : MethodName)) hown (mvT hZ (hw _ (List.mem_of_getElem? (i := 23) rfl))) (mvT hZ (hw _ (List.mem_of_getElem? (i := 24) rfl))) (notFace_of_selects (args := #[]) (mvT hZ (hw _ (List.mem_of_getElem? (i := 26) rfl)))) (mvT hZ (hw _ (List.mem_of_getElem? (i := 26) rfl))) (mvT hZ (hw _ (List.mem_of_getElem? (i := 25) rfl))) (by decide) (backOf (W := 0) (own_rm4 l Z a0 hw [] ob16 ob1 jm j4 j3 j2 j1 (j2 ^^^ j3) j1 j2 j3 j4 (j1 ^^^ j4) h25 n0 sz25 FE_ob16_29 FF_ob16_produced_30 FF_ob16_consumed_31 FF_ob16_missing_32 FF_ob16_remaining_33 FF_ob16_violated_34 FE_ob1_35 FF_ob1_produced_36 FF_ob1_consumed_37 FF_ob1_missing_38 FF_ob1_remaining_39 FF_ob1_violated_40 gn_ob16 (ne_ob1_ob16.symm)) hZ (hw _ (List.mem_of_getElem? (i := 27) rfl)) (hw _ (List.mem_of_getElem? (i := 2) rfl)) (by decide) (by decide)) q41a q41c (g := (mkF m 99 #[.val (.long j1), .second, .val (.long j2), .second, .val (.long j3), .second, .val (.long j4), .second, .val (.long jm), .second, .val (.long jn), .second, .val (.ref ob1), .val (.ref ob16), .val (.ref ob21), .val (.ref ob25), .unset, .unset, .unset] [(.long jm), (.ref ob1), (.ref ob16)])) rfl (by rw [hml]; rfl) (Steps.refl _) (argsL := [(.ref ob1), (.long jm)]) (rest := []) (lenOf own_pd2 rfl) rfl (by show 2 * 0 + _ ≤ _; exact Nat.le_of_eq rfl) (hb hby at_99) (fun _ _ => ⟨rfl, K28, (by decide : 4 + 0 ≤ _), (by decide : 20 + 0 ≤ _)⟩)
  dsimp only [Pt.U, Pt.locs, Pt.cells, Pt.slots] at X41 tl41 ty41 tz41 st41 hQ41
  rw [tl41, ty41, tz41] at X41
  obtain ⟨rfl, Nq41, K41, Fa41_E_a1, Fa41_F_a1_produced, Fa41_F_a1_consumed, Fa41_F_a1_missing, Fa41_F_a1_remaining, Fa41_F_a1_violated⟩ := hQ41
  have N41 := Fr.app N28 Nq41
  have sz41 : n0 ≤ T41.heap.size := Nat.le_trans sz25 K41.1
  have KK41 : Keep h0 T41.heap [] := K25.trans K41 (allS (Or.inr bo_ob16) all0)
  have FE_ob1_42 : Exa Z T41.heap ob1 "com/example/tracegauge/tracegauge/TraceTokens$Tally" := (FE_ob1_35.keep K41)
  have FF_ob1_produced_43 : Fld Z T41.heap ob1 "com/example/tracegauge/tracegauge/TraceTokens$Tally" "produced" "J" (.long j1) := (FF_ob1_produced_36.keep K41 (ninS ne_ob1_ob16 nin0))
  have FF_ob1_consumed_44 : Fld Z T41.heap ob1 "com/example/tracegauge/tracegauge/TraceTokens$Tally" "consumed" "J" (.long j2) := (FF_ob1_consumed_37.keep K41 (ninS ne_ob1_ob16 nin0))
  have FF_ob1_missing_45 : Fld Z T41.heap ob1 "com/example/tracegauge/tracegauge/TraceTokens$Tally" "missing" "J" (.long j3) := (FF_ob1_missing_38.keep K41 (ninS ne_ob1_ob16 nin0))
  have FF_ob1_remaining_46 : Fld Z T41.heap ob1 "com/example/tracegauge/tracegauge/TraceTokens$Tally" "remaining" "J" (.long j4) := (FF_ob1_remaining_39.keep K41 (ninS ne_ob1_ob16 nin0))
  have FF_ob1_violated_47 : Fld Z T41.heap ob1 "com/example/tracegauge/tracegauge/TraceTokens$Tally" "violated" "J" (.long (j1 ^^^ j4)) := (FF_ob1_violated_40.keep K41 (ninS ne_ob1_ob16 nin0))
  obtain ⟨cq48, kq48, q48a, q48b, q48c⟩ := isOf hZ rfl Fa41_E_a1
  obtain ⟨_, _, ⟨T48, tL48, tk48, tn48⟩, -, X48, ⟨Lc48, hQ48, tl48, ty48, tz48⟩, st48⟩ := X41.virtualBack hx (y := (⟨"com/example/tracegauge/tracegauge/TraceTokens$Tally", "add", "(Lcom/example/tracegauge/tracegauge/TraceTokens$Tally;J)V"⟩ : MethodName)) (z := (⟨"com/example/tracegauge/tracegauge/TraceTokens$Tally", "add", "(Lcom/example/tracegauge/tracegauge/TraceTokens$Tally;J)V"⟩ : MethodName)) hown (mvT hZ (hw _ (List.mem_of_getElem? (i := 23) rfl))) (mvT hZ (hw _ (List.mem_of_getElem? (i := 24) rfl))) (notFace_of_selects (args := #[]) (mvT hZ (hw _ (List.mem_of_getElem? (i := 26) rfl)))) (mvT hZ (hw _ (List.mem_of_getElem? (i := 26) rfl))) (mvT hZ (hw _ (List.mem_of_getElem? (i := 25) rfl))) (by decide) (backOf (W := 0) (own_rm4 l Z a0 hw [] ob16 ob1 jn (j4 + (j1 * jm)) (j3 + (j2 * jm)) (j2 + (j3 * jm)) (j1 + (j4 * jm)) ((j2 ^^^ j3) + ((j1 ^^^ j4) * jm)) j1 j2 j3 j4 (j1 ^^^ j4) T41.heap n0 sz41 Fa41_E_a1 Fa41_F_a1_produced Fa41_F_a1_consumed Fa41_F_a1_missing Fa41_F_a1_remaining Fa41_F_a1_violated FE_ob1_42 FF_ob1_produced_43 FF_ob1_consumed_44 FF_ob1_missing_45 FF_ob1_remaining_46 FF_ob1_violated_47 gn_ob16 (ne_ob1_ob16.symm)) hZ (hw _ (List.mem_of_getElem? (i := 27) rfl)) (hw _ (List.mem_of_getElem? (i := 2) rfl)) (by decide) (by decide)) q48a q48c (g := (mkF m 108 #[.val (.long j1), .second, .val (.long j2), .second, .val (.long j3), .second, .val (.long j4), .second, .val (.long jm), .second, .val (.long jn), .second, .val (.ref ob1), .val (.ref ob16), .val (.ref ob21), .val (.ref ob25), .unset, .unset, .unset] [(.long jn), (.ref ob1), (.ref ob16)])) rfl (by rw [hml]; rfl) (Steps.refl _) (argsL := [(.ref ob1), (.long jn)]) (rest := []) (lenOf own_pd2 rfl) rfl (by show 2 * 0 + _ ≤ _; exact Nat.le_of_eq rfl) (hb hby at_108) (fun _ _ => ⟨rfl, rfl, (by decide : 4 + 0 ≤ _), (by decide : 20 + 0 ≤ _)⟩)
  dsimp only [Pt.U, Pt.locs, Pt.cells, Pt.slots] at X48 tl48 ty48 tz48 st48 hQ48
  rw [tl48, ty48, tz48] at X48
  obtain ⟨rfl, Nq48, K48, Fa48_E_a1, Fa48_F_a1_produced, Fa48_F_a1_consumed, Fa48_F_a1_missing, Fa48_F_a1_remaining, Fa48_F_a1_violated⟩ := hQ48
  have N48 := Fr.app N41 Nq48
  have sz48 : n0 ≤ T48.heap.size := Nat.le_trans sz41 K48.1
  have KK48 : Keep h0 T48.heap [] := KK41.trans K48 (allS (Or.inr bo_ob16) all0)
  have FE_ob21_49 : Exa Z T48.heap ob21 "com/example/tracegauge/tracegauge/TraceTokens$Tally" := (((Fa24_E_t0.ext E25).keep K41).keep K48)
  have FF_ob21_produced_50 : Fld Z T48.heap ob21 "com/example/tracegauge/tracegauge/TraceTokens$Tally" "produced" "J" (.long j4) := (((Fa24_F_t0_produced.ext E25).keep K41 (ninS ne_ob16_ob21.symm nin0)).keep K48 (ninS ne_ob16_ob21.symm nin0))
  have FF_ob21_consumed_51 : Fld Z T48.heap ob21 "com/example/tracegauge/tracegauge/TraceTokens$Tally" "consumed" "J" (.long j3) := (((Fa24_F_t0_consumed.ext E25).keep K41 (ninS ne_ob16_ob21.symm nin0)).keep K48 (ninS ne_ob16_ob21.symm nin0))
  have FF_ob21_missing_52 : Fld Z T48.heap ob21 "com/example/tracegauge/tracegauge/TraceTokens$Tally" "missing" "J" (.long j2) := (((Fa24_F_t0_missing.ext E25).keep K41 (ninS ne_ob16_ob21.symm nin0)).keep K48 (ninS ne_ob16_ob21.symm nin0))
  have FF_ob21_remaining_53 : Fld Z T48.heap ob21 "com/example/tracegauge/tracegauge/TraceTokens$Tally" "remaining" "J" (.long j1) := (((Fa24_F_t0_remaining.ext E25).keep K41 (ninS ne_ob16_ob21.symm nin0)).keep K48 (ninS ne_ob16_ob21.symm nin0))
  have FF_ob21_violated_54 : Fld Z T48.heap ob21 "com/example/tracegauge/tracegauge/TraceTokens$Tally" "violated" "J" (.long (j2 ^^^ j3)) := (((Fa24_F_t0_violated.ext E25).keep K41 (ninS ne_ob16_ob21.symm nin0)).keep K48 (ninS ne_ob16_ob21.symm nin0))
  have FE_ob1_55 : Exa Z T48.heap ob1 "com/example/tracegauge/tracegauge/TraceTokens$Tally" := (FE_ob1_42.keep K48)
  have FF_ob1_produced_56 : Fld Z T48.heap ob1 "com/example/tracegauge/tracegauge/TraceTokens$Tally" "produced" "J" (.long j1) := (FF_ob1_produced_43.keep K48 (ninS ne_ob1_ob16 nin0))
  have FF_ob1_consumed_57 : Fld Z T48.heap ob1 "com/example/tracegauge/tracegauge/TraceTokens$Tally" "consumed" "J" (.long j2) := (FF_ob1_consumed_44.keep K48 (ninS ne_ob1_ob16 nin0))
  have FF_ob1_missing_58 : Fld Z T48.heap ob1 "com/example/tracegauge/tracegauge/TraceTokens$Tally" "missing" "J" (.long j3) := (FF_ob1_missing_45.keep K48 (ninS ne_ob1_ob16 nin0))
  have FF_ob1_remaining_59 : Fld Z T48.heap ob1 "com/example/tracegauge/tracegauge/TraceTokens$Tally" "remaining" "J" (.long j4) := (FF_ob1_remaining_46.keep K48 (ninS ne_ob1_ob16 nin0))
  have FF_ob1_violated_60 : Fld Z T48.heap ob1 "com/example/tracegauge/tracegauge/TraceTokens$Tally" "violated" "J" (.long (j1 ^^^ j4)) := (FF_ob1_violated_47.keep K48 (ninS ne_ob1_ob16 nin0))
  obtain ⟨cq61, kq61, q61a, q61b, q61c⟩ := isOf hZ rfl FE_ob21_49
  obtain ⟨_, _, ⟨T61, tL61, tk61, tn61⟩, -, X61, ⟨Lc61, hQ61, tl61, ty61, tz61⟩, st61⟩ := X48.virtualBack hx (y := (⟨"com/example/tracegauge/tracegauge/TraceTokens$Tally", "add", "(Lcom/example/tracegauge/tracegauge/TraceTokens$Tally;J)V"⟩ : MethodName)) (z := (⟨"com/example/tracegauge/tracegauge/TraceTokens$Tally", "add", "(Lcom/example/tracegauge/tracegauge/TraceTokens$Tally;J)V"⟩ : MethodName)) hown (mvT hZ (hw _ (List.mem_of_getElem? (i := 23) rfl))) (mvT hZ (hw _ (List.mem_of_getElem? (i := 24) rfl))) (notFace_of_selects (args := #[]) (mvT hZ (hw _ (List.mem_of_getElem? (i := 26) rfl)))) (mvT hZ (hw _ (List.mem_of_getElem? (i := 26) rfl))) (mvT hZ (hw _ (List.mem_of_getElem? (i := 25) rfl))) (by decide) (backOf (W := 0) (own_rm4 l Z a0 hw [] ob21 ob1 (jm + jn) j4 j3 j2 j1 (j2 ^^^ j3) j1 j2 j3 j4 (j1 ^^^ j4) T48.heap n0 sz48 FE_ob21_49 FF_ob21_produced_50 FF_ob21_consumed_51 FF_ob21_missing_52 FF_ob21_remaining_53 FF_ob21_violated_54 FE_ob1_55 FF_ob1_produced_56 FF_ob1_consumed_57 FF_ob1_missing_58 FF_ob1_remaining_59 FF_ob1_violated_60 gn_ob21 (ne_ob1_ob21.symm)) hZ (hw _ (List.mem_of_getElem? (i := 27) rfl)) (hw _ (List.mem_of_getElem? (i := 2) rfl)) (by decide) (by decide)) q61a q61c (g := (mkF m 120 #[.val (.long j1), .second, .val (.long j2), .second, .val (.long j3), .second, .val (.long j4), .second, .val (.long jm), .second, .val (.long jn), .second, .val (.ref ob1), .val (.ref ob16), .val (.ref ob21), .val (.ref ob25), .unset, .unset, .unset] [(.long (jm + jn)), (.ref ob1), (.ref ob21)])) rfl (by rw [hml]; rfl) (Steps.refl _) (argsL := [(.ref ob1), (.long (jm + jn))]) (rest := []) (lenOf own_pd2 rfl) rfl (by show 2 * 0 + _ ≤ _; exact Nat.le_of_eq rfl) (hb hby at_120) (fun _ _ => ⟨rfl, rfl, (by decide : 4 + 0 ≤ _), (by decide : 20 + 0 ≤ _)⟩)
  dsimp only [Pt.U, Pt.locs, Pt.cells, Pt.slots] at X61 tl61 ty61 tz61 st61 hQ61
  rw [tl61, ty61, tz61] at X61
  obtain ⟨rfl, Nq61, K61, Fa61_E_a1, Fa61_F_a1_produced, Fa61_F_a1_consumed, Fa61_F_a1_missing, Fa61_F_a1_remaining, Fa61_F_a1_violated⟩ := hQ61
  have N61 := Fr.app N48 Nq61
  have sz61 : n0 ≤ T61.heap.size := Nat.le_trans sz48 K61.1
  have KK61 : Keep h0 T61.heap [] := KK48.trans K61 (allS (Or.inr bo_ob21) all0)
  have FE_ob25_62 : Exa Z T61.heap ob25 "com/example/tracegauge/tracegauge/TraceTokens$Tally" := (((A25.keep K41).keep K48).keep K61)
  have FF_ob25_produced_63 : Fld Z T61.heap ob25 "com/example/tracegauge/tracegauge/TraceTokens$Tally" "produced" "J" (.long (0 : Int64)) := (((F0_produced_ob25.keep K41 (ninS ne_ob16_ob25.symm nin0)).keep K48 (ninS ne_ob16_ob25.symm nin0)).keep K61 (ninS ne_ob21_ob25.symm nin0))
  have FF_ob25_consumed_64 : Fld Z T61.heap ob25 "com/example/tracegauge/tracegauge/TraceTokens$Tally" "consumed" "J" (.long (0 : Int64)) := (((F0_consumed_ob25.keep K41 (ninS ne_ob16_ob25.symm nin0)).keep K48 (ninS ne_ob16_ob25.symm nin0)).keep K61 (ninS ne_ob21_ob25.symm nin0))
  have FF_ob25_missing_65 : Fld Z T61.heap ob25 "com/example/tracegauge/tracegauge/TraceTokens$Tally" "missing" "J" (.long (0 : Int64)) := (((F0_missing_ob25.keep K41 (ninS ne_ob16_ob25.symm nin0)).keep K48 (ninS ne_ob16_ob25.symm nin0)).keep K61 (ninS ne_ob21_ob25.symm nin0))
  have FF_ob25_remaining_66 : Fld Z T61.heap ob25 "com/example/tracegauge/tracegauge/TraceTokens$Tally" "remaining" "J" (.long (0 : Int64)) := (((F0_remaining_ob25.keep K41 (ninS ne_ob16_ob25.symm nin0)).keep K48 (ninS ne_ob16_ob25.symm nin0)).keep K61 (ninS ne_ob21_ob25.symm nin0))
  have FF_ob25_violated_67 : Fld Z T61.heap ob25 "com/example/tracegauge/tracegauge/TraceTokens$Tally" "violated" "J" (.long (0 : Int64)) := (((F0_violated_ob25.keep K41 (ninS ne_ob16_ob25.symm nin0)).keep K48 (ninS ne_ob16_ob25.symm nin0)).keep K61 (ninS ne_ob21_ob25.symm nin0))
  have FE_ob1_68 : Exa Z T61.heap ob1 "com/example/tracegauge/tracegauge/TraceTokens$Tally" := (FE_ob1_55.keep K61)
  have FF_ob1_produced_69 : Fld Z T61.heap ob1 "com/example/tracegauge/tracegauge/TraceTokens$Tally" "produced" "J" (.long j1) := (FF_ob1_produced_56.keep K61 (ninS ne_ob1_ob21 nin0))
  have FF_ob1_consumed_70 : Fld Z T61.heap ob1 "com/example/tracegauge/tracegauge/TraceTokens$Tally" "consumed" "J" (.long j2) := (FF_ob1_consumed_57.keep K61 (ninS ne_ob1_ob21 nin0))
  have FF_ob1_missing_71 : Fld Z T61.heap ob1 "com/example/tracegauge/tracegauge/TraceTokens$Tally" "missing" "J" (.long j3) := (FF_ob1_missing_58.keep K61 (ninS ne_ob1_ob21 nin0))
  have FF_ob1_remaining_72 : Fld Z T61.heap ob1 "com/example/tracegauge/tracegauge/TraceTokens$Tally" "remaining" "J" (.long j4) := (FF_ob1_remaining_59.keep K61 (ninS ne_ob1_ob21 nin0))
  have FF_ob1_violated_73 : Fld Z T61.heap ob1 "com/example/tracegauge/tracegauge/TraceTokens$Tally" "violated" "J" (.long (j1 ^^^ j4)) := (FF_ob1_violated_60.keep K61 (ninS ne_ob1_ob21 nin0))
  obtain ⟨cq74, kq74, q74a, q74b, q74c⟩ := isOf hZ rfl FE_ob25_62
  obtain ⟨_, _, ⟨T74, tL74, tk74, tn74⟩, -, X74, ⟨Lc74, hQ74, tl74, ty74, tz74⟩, st74⟩ := X61.virtualBack hx (y := (⟨"com/example/tracegauge/tracegauge/TraceTokens$Tally", "add", "(Lcom/example/tracegauge/tracegauge/TraceTokens$Tally;J)V"⟩ : MethodName)) (z := (⟨"com/example/tracegauge/tracegauge/TraceTokens$Tally", "add", "(Lcom/example/tracegauge/tracegauge/TraceTokens$Tally;J)V"⟩ : MethodName)) hown (mvT hZ (hw _ (List.mem_of_getElem? (i := 23) rfl))) (mvT hZ (hw _ (List.mem_of_getElem? (i := 24) rfl))) (notFace_of_selects (args := #[]) (mvT hZ (hw _ (List.mem_of_getElem? (i := 26) rfl)))) (mvT hZ (hw _ (List.mem_of_getElem? (i := 26) rfl))) (mvT hZ (hw _ (List.mem_of_getElem? (i := 25) rfl))) (by decide) (backOf (W := 0) (own_rm4 l Z a0 hw [] ob25 ob1 (1 : Int64) (0 : Int64) (0 : Int64) (0 : Int64) (0 : Int64) (0 : Int64) j1 j2 j3 j4 (j1 ^^^ j4) T61.heap n0 sz61 FE_ob25_62 FF_ob25_produced_63 FF_ob25_consumed_64 FF_ob25_missing_65 FF_ob25_remaining_66 FF_ob25_violated_67 FE_ob1_68 FF_ob1_produced_69 FF_ob1_consumed_70 FF_ob1_missing_71 FF_ob1_remaining_72 FF_ob1_violated_73 gn_ob25 (ne_ob1_ob25.symm)) hZ (hw _ (List.mem_of_getElem? (i := 27) rfl)) (hw _ (List.mem_of_getElem? (i := 2) rfl)) (by decide) (by decide)) q74a q74c (g := (mkF m 128 #[.val (.long j1), .second, .val (.long j2), .second, .val (.long j3), .second, .val (.long j4), .second, .val (.long jm), .second, .val (.long jn), .second, .val (.ref ob1), .val (.ref ob16), .val (.ref ob21), .val (.ref ob25), .unset, .unset, .unset] [(.long (1 : Int64)), (.ref ob1), (.ref ob25)])) rfl (by rw [hml]; rfl) (Steps.refl _) (argsL := [(.ref ob1), (.long (1 : Int64))]) (rest := []) (lenOf own_pd2 rfl) rfl (by show 2 * 0 + _ ≤ _; exact Nat.le_of_eq rfl) (hb hby at_128) (fun _ _ => ⟨rfl, rfl, (by decide : 4 + 0 ≤ _), (by decide : 20 + 0 ≤ _)⟩)
  dsimp only [Pt.U, Pt.locs, Pt.cells, Pt.slots] at X74 tl74 ty74 tz74 st74 hQ74
  rw [tl74, ty74, tz74] at X74
  obtain ⟨rfl, Nq74, K74, Fa74_E_a1, Fa74_F_a1_produced, Fa74_F_a1_consumed, Fa74_F_a1_missing, Fa74_F_a1_remaining, Fa74_F_a1_violated⟩ := hQ74
  have N74 := Fr.app N61 Nq74
  have sz74 : n0 ≤ T74.heap.size := Nat.le_trans sz61 K74.1
  have KK74 : Keep h0 T74.heap [] := KK61.trans K74 (allS (Or.inr bo_ob25) all0)
  have FE_ob16_75 : Exa Z T74.heap ob16 "com/example/tracegauge/tracegauge/TraceTokens$Tally" := ((Fa48_E_a1.keep K61).keep K74)
  have FF_ob16_produced_76 : Fld Z T74.heap ob16 "com/example/tracegauge/tracegauge/TraceTokens$Tally" "produced" "J" (.long ((j4 + (j1 * jm)) + (j1 * jn))) := ((Fa48_F_a1_produced.keep K61 (ninS ne_ob16_ob21 nin0)).keep K74 (ninS ne_ob16_ob25 nin0))
  have FF_ob16_consumed_77 : Fld Z T74.heap ob16 "com/example/tracegauge/tracegauge/TraceTokens$Tally" "consumed" "J" (.long ((j3 + (j2 * jm)) + (j2 * jn))) := ((Fa48_F_a1_consumed.keep K61 (ninS ne_ob16_ob21 nin0)).keep K74 (ninS ne_ob16_ob25 nin0))
  have FF_ob16_missing_78 : Fld Z T74.heap ob16 "com/example/tracegauge/tracegauge/TraceTokens$Tally" "missing" "J" (.long ((j2 + (j3 * jm)) + (j3 * jn))) := ((Fa48_F_a1_missing.keep K61 (ninS ne_ob16_ob21 nin0)).keep K74 (ninS ne_ob16_ob25 nin0))
  have FF_ob16_remaining_79 : Fld Z T74.heap ob16 "com/example/tracegauge/tracegauge/TraceTokens$Tally" "remaining" "J" (.long ((j1 + (j4 * jm)) + (j4 * jn))) := ((Fa48_F_a1_remaining.keep K61 (ninS ne_ob16_ob21 nin0)).keep K74 (ninS ne_ob16_ob25 nin0))
  have FF_ob16_violated_80 : Fld Z T74.heap ob16 "com/example/tracegauge/tracegauge/TraceTokens$Tally" "violated" "J" (.long (((j2 ^^^ j3) + ((j1 ^^^ j4) * jm)) + ((j1 ^^^ j4) * jn))) := ((Fa48_F_a1_violated.keep K61 (ninS ne_ob16_ob21 nin0)).keep K74 (ninS ne_ob16_ob25 nin0))
  have FE_ob21_81 : Exa Z T74.heap ob21 "com/example/tracegauge/tracegauge/TraceTokens$Tally" := (Fa61_E_a1.keep K74)
  have FF_ob21_produced_82 : Fld Z T74.heap ob21 "com/example/tracegauge/tracegauge/TraceTokens$Tally" "produced" "J" (.long (j4 + (j1 * (jm + jn)))) := (Fa61_F_a1_produced.keep K74 (ninS ne_ob21_ob25 nin0))
  have FF_ob21_consumed_83 : Fld Z T74.heap ob21 "com/example/tracegauge/tracegauge/TraceTokens$Tally" "consumed" "J" (.long (j3 + (j2 * (jm + jn)))) := (Fa61_F_a1_consumed.keep K74 (ninS ne_ob21_ob25 nin0))
  have FF_ob21_missing_84 : Fld Z T74.heap ob21 "com/example/tracegauge/tracegauge/TraceTokens$Tally" "missing" "J" (.long (j2 + (j3 * (jm + jn)))) := (Fa61_F_a1_missing.keep K74 (ninS ne_ob21_ob25 nin0))
  have FF_ob21_remaining_85 : Fld Z T74.heap ob21 "com/example/tracegauge/tracegauge/TraceTokens$Tally" "remaining" "J" (.long (j1 + (j4 * (jm + jn)))) := (Fa61_F_a1_remaining.keep K74 (ninS ne_ob21_ob25 nin0))
  have FF_ob21_violated_86 : Fld Z T74.heap ob21 "com/example/tracegauge/tracegauge/TraceTokens$Tally" "violated" "J" (.long ((j2 ^^^ j3) + ((j1 ^^^ j4) * (jm + jn)))) := (Fa61_F_a1_violated.keep K74 (ninS ne_ob21_ob25 nin0))
  obtain ⟨_, _, ⟨T87, tL87, tk87, tn87⟩, -, X87, ⟨Lc87, hQ87, tl87, ty87, tz87⟩, st87⟩ := Jvm.LawKit.callS X74 hx (y := (⟨"com/example/tracegauge/tracegauge/TallyAddPinLaw", "same", "(Lcom/example/tracegauge/tracegauge/TraceTokens$Tally;Lcom/example/tracegauge/tracegauge/TraceTokens$Tally;)Z"⟩ : MethodName)) hown (mvT hZ (hw _ (List.mem_of_getElem? (i := 33) rfl))) (mvT hZ (hw _ (List.mem_of_getElem? (i := 34) rfl))) (mvT hZ (hw _ (List.mem_of_getElem? (i := 21) rfl))) (mvT hZ (hw _ (List.mem_of_getElem? (i := 35) rfl))) (by decide) (backOf (W := 0) (own_rm5 l Z a0 hw [] ob16 ob21 ((j4 + (j1 * jm)) + (j1 * jn)) ((j3 + (j2 * jm)) + (j2 * jn)) ((j2 + (j3 * jm)) + (j3 * jn)) ((j1 + (j4 * jm)) + (j4 * jn)) (((j2 ^^^ j3) + ((j1 ^^^ j4) * jm)) + ((j1 ^^^ j4) * jn)) (j4 + (j1 * (jm + jn))) (j3 + (j2 * (jm + jn))) (j2 + (j3 * (jm + jn))) (j1 + (j4 * (jm + jn))) ((j2 ^^^ j3) + ((j1 ^^^ j4) * (jm + jn))) T74.heap n0 sz74 FE_ob16_75 FF_ob16_produced_76 FF_ob16_consumed_77 FF_ob16_missing_78 FF_ob16_remaining_79 FF_ob16_violated_80 FE_ob21_81 FF_ob21_produced_82 FF_ob21_consumed_83 FF_ob21_missing_84 FF_ob21_remaining_85 FF_ob21_violated_86 (own_dist _ _ _ _) (own_dist _ _ _ _) (own_dist _ _ _ _) (own_dist _ _ _ _) (own_dist _ _ _ _)) hZ (hw _ (List.mem_of_getElem? (i := 35) rfl)) (hw _ (List.mem_of_getElem? (i := 21) rfl)) (by decide) (by decide)) (g := (mkF m 135 #[.val (.long j1), .second, .val (.long j2), .second, .val (.long j3), .second, .val (.long j4), .second, .val (.long jm), .second, .val (.long jn), .second, .val (.ref ob1), .val (.ref ob16), .val (.ref ob21), .val (.ref ob25), .unset, .unset, .unset] [(.ref ob21), (.ref ob16)])) rfl (by rw [hml]; rfl) (argsL := [(.ref ob16), (.ref ob21)]) (rest := []) (lenOf own_pd3 rfl) rfl (by show 2 * 0 + _ ≤ _; exact Nat.le_of_eq rfl) (hb hby at_135) (fun _ _ => ⟨rfl, rfl, (by decide : 4 + 0 ≤ _), (by decide : 20 + 0 ≤ _)⟩)
  dsimp only [Pt.U, Pt.locs, Pt.cells, Pt.slots] at X87 tl87 ty87 tz87 st87 hQ87
  rw [tl87, ty87, tz87] at X87
  obtain ⟨rfl, Nq87, K87⟩ := hQ87
  have N87 := Fr.app N74 Nq87
  obtain ⟨T88, X88, e88, st88⟩ := getF X87 hx hZ hown (host := "") (Or.inl (hw _ (List.mem_of_getElem? (i := 9) rfl))) Via.refl K87 Fa74_F_a1_produced (g := (mkF m 142 #[.val (.long j1), .second, .val (.long j2), .second, .val (.long j3), .second, .val (.long j4), .second, .val (.long jm), .second, .val (.long jn), .second, .val (.ref ob1), .val (.ref ob16), .val (.ref ob21), .val (.ref ob25), .val (.int (1 : Int32)), .unset, .unset] [(.ref ob25)])) rfl rfl (hb hby at_142)
  obtain ⟨T89, X89, e89, st89⟩ := getF X88 hx hZ hown (host := "") (Or.inl (hw _ (List.mem_of_getElem? (i := 11) rfl))) Via.refl e88 Fa74_F_a1_consumed (g := (mkF m 152 #[.val (.long j1), .second, .val (.long j2), .second, .val (.long j3), .second, .val (.long j4), .second, .val (.long jm), .second, .val (.long jn), .second, .val (.ref ob1), .val (.ref ob16), .val (.ref ob21), .val (.ref ob25), .val (.int (1 : Int32)), .unset, .unset] [(.ref ob25)])) rfl rfl (hb hby at_152)
  obtain ⟨T90, X90, e90, st90⟩ := getF X89 hx hZ hown (host := "") (Or.inl (hw _ (List.mem_of_getElem? (i := 13) rfl))) Via.refl e89 Fa74_F_a1_missing (g := (mkF m 162 #[.val (.long j1), .second, .val (.long j2), .second, .val (.long j3), .second, .val (.long j4), .second, .val (.long jm), .second, .val (.long jn), .second, .val (.ref ob1), .val (.ref ob16), .val (.ref ob21), .val (.ref ob25), .val (.int (1 : Int32)), .unset, .unset] [(.ref ob25)])) rfl rfl (hb hby at_162)
  obtain ⟨T91, X91, e91, st91⟩ := getF X90 hx hZ hown (host := "") (Or.inl (hw _ (List.mem_of_getElem? (i := 15) rfl))) Via.refl e90 Fa74_F_a1_remaining (g := (mkF m 173 #[.val (.long j1), .second, .val (.long j2), .second, .val (.long j3), .second, .val (.long j4), .second, .val (.long jm), .second, .val (.long jn), .second, .val (.ref ob1), .val (.ref ob16), .val (.ref ob21), .val (.ref ob25), .val (.int (1 : Int32)), .unset, .unset] [(.ref ob25)])) rfl rfl (hb hby at_173)
  obtain ⟨T92, X92, e92, st92⟩ := getF X91 hx hZ hown (host := "") (Or.inl (hw _ (List.mem_of_getElem? (i := 17) rfl))) Via.refl e91 Fa74_F_a1_violated (g := (mkF m 184 #[.val (.long j1), .second, .val (.long j2), .second, .val (.long j3), .second, .val (.long j4), .second, .val (.long jm), .second, .val (.long jn), .second, .val (.ref ob1), .val (.ref ob16), .val (.ref ob21), .val (.ref ob25), .val (.int (1 : Int32)), .unset, .unset] [(.ref ob25)])) rfl rfl (hb hby at_184)
  have FF_ob1_produced_93 : Fld Z T74.heap ob1 "com/example/tracegauge/tracegauge/TraceTokens$Tally" "produced" "J" (.long j1) := (FF_ob1_produced_69.keep K74 (ninS ne_ob1_ob25 nin0))
  obtain ⟨T94, X94, e94, st94⟩ := getF X92 hx hZ hown (host := "") (Or.inl (hw _ (List.mem_of_getElem? (i := 9) rfl))) Via.refl e92 FF_ob1_produced_93 (g := (mkF m 204 #[.val (.long j1), .second, .val (.long j2), .second, .val (.long j3), .second, .val (.long j4), .second, .val (.long jm), .second, .val (.long jn), .second, .val (.ref ob1), .val (.ref ob16), .val (.ref ob21), .val (.ref ob25), .val (.int (1 : Int32)), .val (.int (1 : Int32)), .unset] [(.ref ob1)])) rfl rfl (hb hby at_204)
  have FF_ob1_consumed_95 : Fld Z T74.heap ob1 "com/example/tracegauge/tracegauge/TraceTokens$Tally" "consumed" "J" (.long j2) := (FF_ob1_consumed_70.keep K74 (ninS ne_ob1_ob25 nin0))
  obtain ⟨T96, X96, e96, st96⟩ := getF X94 hx hZ hown (host := "") (Or.inl (hw _ (List.mem_of_getElem? (i := 11) rfl))) Via.refl e94 FF_ob1_consumed_95 (g := (mkF m 214 #[.val (.long j1), .second, .val (.long j2), .second, .val (.long j3), .second, .val (.long j4), .second, .val (.long jm), .second, .val (.long jn), .second, .val (.ref ob1), .val (.ref ob16), .val (.ref ob21), .val (.ref ob25), .val (.int (1 : Int32)), .val (.int (1 : Int32)), .unset] [(.ref ob1)])) rfl rfl (hb hby at_214)
  have FF_ob1_missing_97 : Fld Z T74.heap ob1 "com/example/tracegauge/tracegauge/TraceTokens$Tally" "missing" "J" (.long j3) := (FF_ob1_missing_71.keep K74 (ninS ne_ob1_ob25 nin0))
  obtain ⟨T98, X98, e98, st98⟩ := getF X96 hx hZ hown (host := "") (Or.inl (hw _ (List.mem_of_getElem? (i := 13) rfl))) Via.refl e96 FF_ob1_missing_97 (g := (mkF m 224 #[.val (.long j1), .second, .val (.long j2), .second, .val (.long j3), .second, .val (.long j4), .second, .val (.long jm), .second, .val (.long jn), .second, .val (.ref ob1), .val (.ref ob16), .val (.ref ob21), .val (.ref ob25), .val (.int (1 : Int32)), .val (.int (1 : Int32)), .unset] [(.ref ob1)])) rfl rfl (hb hby at_224)
  have FF_ob1_remaining_99 : Fld Z T74.heap ob1 "com/example/tracegauge/tracegauge/TraceTokens$Tally" "remaining" "J" (.long j4) := (FF_ob1_remaining_72.keep K74 (ninS ne_ob1_ob25 nin0))
  obtain ⟨T100, X100, e100, st100⟩ := getF X98 hx hZ hown (host := "") (Or.inl (hw _ (List.mem_of_getElem? (i := 15) rfl))) Via.refl e98 FF_ob1_remaining_99 (g := (mkF m 235 #[.val (.long j1), .second, .val (.long j2), .second, .val (.long j3), .second, .val (.long j4), .second, .val (.long jm), .second, .val (.long jn), .second, .val (.ref ob1), .val (.ref ob16), .val (.ref ob21), .val (.ref ob25), .val (.int (1 : Int32)), .val (.int (1 : Int32)), .unset] [(.ref ob1)])) rfl rfl (hb hby at_235)
  have FF_ob1_violated_101 : Fld Z T74.heap ob1 "com/example/tracegauge/tracegauge/TraceTokens$Tally" "violated" "J" (.long (j1 ^^^ j4)) := (FF_ob1_violated_73.keep K74 (ninS ne_ob1_ob25 nin0))
  obtain ⟨T102, X102, e102, st102⟩ := getF X100 hx hZ hown (host := "") (Or.inl (hw _ (List.mem_of_getElem? (i := 17) rfl))) Via.refl e100 FF_ob1_violated_101 (g := (mkF m 246 #[.val (.long j1), .second, .val (.long j2), .second, .val (.long j3), .second, .val (.long j4), .second, .val (.long jm), .second, .val (.long jn), .second, .val (.ref ob1), .val (.ref ob16), .val (.ref ob21), .val (.ref ob25), .val (.int (1 : Int32)), .val (.int (1 : Int32)), .unset] [(.ref ob1)])) rfl rfl (hb hby at_246)
  obtain ⟨fs, hr, hrun, hended, hW, hsame⟩ := X102.leave (v := some (.int (1 : Int32))) (fun h => by rw [Bd.returns] at h; cases h)
  refine ⟨_, _, pre0 _ ?_, hrun, hended, _, _, rfl, ?_, ⟨_, rfl⟩, hW, hsame.mono (by decide) (by decide)⟩
  · show Steps p.tables e below (s₁.setTop (mkF m 0 #[.val (.long j1), .second, .val (.long j2), .second, .val (.long j3), .second, .val (.long j4), .second, .val (.long jm), .second, .val (.long jn), .second, .unset, .unset, .unset, .unset, .unset, .unset, .unset] [])) _
    refine st1 _ ?_
    show Steps p.tables e below (T1.setTop (mkF m 3 #[.val (.long j1), .second, .val (.long j2), .second, .val (.long j3), .second, .val (.long j4), .second, .val (.long jm), .second, .val (.long jn), .second, .unset, .unset, .unset, .unset, .unset, .unset, .unset] [(.ref ob1)])) _
    refine XS.dup X1.here hx rfl (hb hby at_3) rfl rfl ?_
    show Steps p.tables e below (T1.setTop (mkF m 4 #[.val (.long j1), .second, .val (.long j2), .second, .val (.long j3), .second, .val (.long j4), .second, .val (.long jm), .second, .val (.long jn), .second, .unset, .unset, .unset, .unset, .unset, .unset, .unset] [(.ref ob1), (.ref ob1)])) _
    refine st2.trans ?_
    show Steps p.tables e below (T2.setTop (mkF m 7 #[.val (.long j1), .second, .val (.long j2), .second, .val (.long j3), .second, .val (.long j4), .second, .val (.long jm), .second, .val (.long jn), .second, .unset, .unset, .unset, .unset, .unset, .unset, .unset] [(.ref ob1)])) _
    refine XS.astore X2.here hx rfl (hb hby at_7) rfl rfl (l' := #[.val (.long j1), .second, .val (.long j2), .second, .val (.long j3), .second, .val (.long j4), .second, .val (.long jm), .second, .val (.long jn), .second, .val (.ref ob1), .unset, .unset, .unset, .unset, .unset, .unset]) rfl ?_
    show Steps p.tables e below (T2.setTop (mkF m 9 #[.val (.long j1), .second, .val (.long j2), .second, .val (.long j3), .second, .val (.long j4), .second, .val (.long jm), .second, .val (.long jn), .second, .val (.ref ob1), .unset, .unset, .unset, .unset, .unset, .unset] [])) _
    refine XS.aload X2.here hx rfl (hb hby at_9) rfl rfl ?_
    show Steps p.tables e below (T2.setTop (mkF m 11 #[.val (.long j1), .second, .val (.long j2), .second, .val (.long j3), .second, .val (.long j4), .second, .val (.long jm), .second, .val (.long jn), .second, .val (.ref ob1), .unset, .unset, .unset, .unset, .unset, .unset] [(.ref ob1)])) _
    refine XT.lloadN X2.here hx rfl (hb hby at_11) rfl ?_
    show Steps p.tables e below (T2.setTop (mkF m 12 #[.val (.long j1), .second, .val (.long j2), .second, .val (.long j3), .second, .val (.long j4), .second, .val (.long jm), .second, .val (.long jn), .second, .val (.ref ob1), .unset, .unset, .unset, .unset, .unset, .unset] [(.long j1), (.ref ob1)])) _
    refine st3 _ ?_
    show Steps p.tables e below (T3.setTop (mkF m 15 #[.val (.long j1), .second, .val (.long j2), .second, .val (.long j3), .second, .val (.long j4), .second, .val (.long jm), .second, .val (.long jn), .second, .val (.ref ob1), .unset, .unset, .unset, .unset, .unset, .unset] [])) _
    refine XS.aload X3.here hx rfl (hb hby at_15) rfl rfl ?_
    show Steps p.tables e below (T3.setTop (mkF m 17 #[.val (.long j1), .second, .val (.long j2), .second, .val (.long j3), .second, .val (.long j4), .second, .val (.long jm), .second, .val (.long jn), .second, .val (.ref ob1), .unset, .unset, .unset, .unset, .unset, .unset] [(.ref ob1)])) _
    refine XT.lloadN X3.here hx rfl (hb hby at_17) rfl ?_
    show Steps p.tables e below (T3.setTop (mkF m 18 #[.val (.long j1), .second, .val (.long j2), .second, .val (.long j3), .second, .val (.long j4), .second, .val (.long jm), .second, .val (.long jn), .second, .val (.ref ob1), .unset, .unset, .unset, .unset, .unset, .unset] [(.long j2), (.ref ob1)])) _
    refine st6 _ ?_
    show Steps p.tables e below (T6.setTop (mkF m 21 #[.val (.long j1), .second, .val (.long j2), .second, .val (.long j3), .second, .val (.long j4), .second, .val (.long jm), .second, .val (.long jn), .second, .val (.ref ob1), .unset, .unset, .unset, .unset, .unset, .unset] [])) _
    refine XS.aload X6.here hx rfl (hb hby at_21) rfl rfl ?_
    show Steps p.tables e below (T6.setTop (mkF m 23 #[.val (.long j1), .second, .val (.long j2), .second, .val (.long j3), .second, .val (.long j4), .second, .val (.long jm), .second, .val (.long jn), .second, .val (.ref ob1), .unset, .unset, .unset, .unset, .unset, .unset] [(.ref ob1)])) _
    refine XT.lload X6.here hx rfl (hb hby at_23) rfl ?_
    show Steps p.tables e below (T6.setTop (mkF m 25 #[.val (.long j1), .second, .val (.long j2), .second, .val (.long j3), .second, .val (.long j4), .second, .val (.long jm), .second, .val (.long jn), .second, .val (.ref ob1), .unset, .unset, .unset, .unset, .unset, .unset] [(.long j3), (.ref ob1)])) _
    refine st9 _ ?_
    show Steps p.tables e below (T9.setTop (mkF m 28 #[.val (.long j1), .second, .val (.long j2), .second, .val (.long j3), .second, .val (.long j4), .second, .val (.long jm), .second, .val (.long jn), .second, .val (.ref ob1), .unset, .unset, .unset, .unset, .unset, .unset] [])) _
    refine XS.aload X9.here hx rfl (hb hby at_28) rfl rfl ?_
    show Steps p.tables e below (T9.setTop (mkF m 30 #[.val (.long j1), .second, .val (.long j2), .second, .val (.long j3), .second, .val (.long j4), .second, .val (.long jm), .second, .val (.long jn), .second, .val (.ref ob1), .unset, .unset, .unset, .unset, .unset, .unset] [(.ref ob1)])) _
    refine XT.lload X9.here hx rfl (hb hby at_30) rfl ?_
    show Steps p.tables e below (T9.setTop (mkF m 32 #[.val (.long j1), .second, .val (.long j2), .second, .val (.long j3), .second, .val (.long j4), .second, .val (.long jm), .second, .val (.long jn), .second, .val (.ref ob1), .unset, .unset, .unset, .unset, .unset, .unset] [(.long j4), (.ref ob1)])) _
    refine st12 _ ?_
    show Steps p.tables e below (T12.setTop (mkF m 35 #[.val (.long j1), .second, .val (.long j2), .second, .val (.long j3), .second, .val (.long j4), .second, .val (.long jm), .second, .val (.long jn), .second, .val (.ref ob1), .unset, .unset, .unset, .unset, .unset, .unset] [])) _
    refine XS.aload X12.here hx rfl (hb hby at_35) rfl rfl ?_
    show Steps p.tables e below (T12.setTop (mkF m 37 #[.val (.long j1), .second, .val (.long j2), .second, .val (.long j3), .second, .val (.long j4), .second, .val (.long jm), .second, .val (.long jn), .second, .val (.ref ob1), .unset, .unset, .unset, .unset, .unset, .unset] [(.ref ob1)])) _
    refine XT.lloadN X12.here hx rfl (hb hby at_37) rfl ?_
    show Steps p.tables e below (T12.setTop (mkF m 38 #[.val (.long j1), .second, .val (.long j2), .second, .val (.long j3), .second, .val (.long j4), .second, .val (.long jm), .second, .val (.long jn), .second, .val (.ref ob1), .unset, .unset, .unset, .unset, .unset, .unset] [(.long j1), (.ref ob1)])) _
    refine XT.lload X12.here hx rfl (hb hby at_38) rfl ?_
    show Steps p.tables e below (T12.setTop (mkF m 40 #[.val (.long j1), .second, .val (.long j2), .second, .val (.long j3), .second, .val (.long j4), .second, .val (.long jm), .second, .val (.long jn), .second, .val (.ref ob1), .unset, .unset, .unset, .unset, .unset, .unset] [(.long j4), (.long j1), (.ref ob1)])) _
    refine XT.lxor X12.here hx rfl (hb hby at_40) rfl ?_
    show Steps p.tables e below (T12.setTop (mkF m 41 #[.val (.long j1), .second, .val (.long j2), .second, .val (.long j3), .second, .val (.long j4), .second, .val (.long jm), .second, .val (.long jn), .second, .val (.ref ob1), .unset, .unset, .unset, .unset, .unset, .unset] [(.long (j1 ^^^ j4)), (.ref ob1)])) _
    refine st15 _ ?_
    show Steps p.tables e below (T15.setTop (mkF m 44 #[.val (.long j1), .second, .val (.long j2), .second, .val (.long j3), .second, .val (.long j4), .second, .val (.long jm), .second, .val (.long jn), .second, .val (.ref ob1), .unset, .unset, .unset, .unset, .unset, .unset] [])) _
    refine st16 _ ?_
    show Steps p.tables e below (T16.setTop (mkF m 47 #[.val (.long j1), .second, .val (.long j2), .second, .val (.long j3), .second, .val (.long j4), .second, .val (.long jm), .second, .val (.long jn), .second, .val (.ref ob1), .unset, .unset, .unset, .unset, .unset, .unset] [(.ref ob16)])) _
    refine XS.dup X16.here hx rfl (hb hby at_47) rfl rfl ?_
    show Steps p.tables e below (T16.setTop (mkF m 48 #[.val (.long j1), .second, .val (.long j2), .second, .val (.long j3), .second, .val (.long j4), .second, .val (.long jm), .second, .val (.long jn), .second, .val (.ref ob1), .unset, .unset, .unset, .unset, .unset, .unset] [(.ref ob16), (.ref ob16)])) _
    refine st19.trans ?_
    show Steps p.tables e below (T19.setTop (mkF m 51 #[.val (.long j1), .second, .val (.long j2), .second, .val (.long j3), .second, .val (.long j4), .second, .val (.long jm), .second, .val (.long jn), .second, .val (.ref ob1), .unset, .unset, .unset, .unset, .unset, .unset] [(.ref ob16)])) _
    refine XS.astore X19.here hx rfl (hb hby at_51) rfl rfl (l' := #[.val (.long j1), .second, .val (.long j2), .second, .val (.long j3), .second, .val (.long j4), .second, .val (.long jm), .second, .val (.long jn), .second, .val (.ref ob1), .val (.ref ob16), .unset, .unset, .unset, .unset, .unset]) rfl ?_
    show Steps p.tables e below (T19.setTop (mkF m 53 #[.val (.long j1), .second, .val (.long j2), .second, .val (.long j3), .second, .val (.long j4), .second, .val (.long jm), .second, .val (.long jn), .second, .val (.ref ob1), .val (.ref ob16), .unset, .unset, .unset, .unset, .unset] [])) _
    refine XS.aload X19.here hx rfl (hb hby at_53) rfl rfl ?_
    show Steps p.tables e below (T19.setTop (mkF m 55 #[.val (.long j1), .second, .val (.long j2), .second, .val (.long j3), .second, .val (.long j4), .second, .val (.long jm), .second, .val (.long jn), .second, .val (.ref ob1), .val (.ref ob16), .unset, .unset, .unset, .unset, .unset] [(.ref ob16)])) _
    refine XT.lloadN X19.here hx rfl (hb hby at_55) rfl ?_
    show Steps p.tables e below (T19.setTop (mkF m 56 #[.val (.long j1), .second, .val (.long j2), .second, .val (.long j3), .second, .val (.long j4), .second, .val (.long jm), .second, .val (.long jn), .second, .val (.ref ob1), .val (.ref ob16), .unset, .unset, .unset, .unset, .unset] [(.long j1), (.ref ob16)])) _
    refine XT.lloadN X19.here hx rfl (hb hby at_56) rfl ?_
    show Steps p.tables e below (T19.setTop (mkF m 57 #[.val (.long j1), .second, .val (.long j2), .second, .val (.long j3), .second, .val (.long j4), .second, .val (.long jm), .second, .val (.long jn), .second, .val (.ref ob1), .val (.ref ob16), .unset, .unset, .unset, .unset, .unset] [(.long j2), (.long j1), (.ref ob16)])) _
    refine XT.lload X19.here hx rfl (hb hby at_57) rfl ?_
    show Steps p.tables e below (T19.setTop (mkF m 59 #[.val (.long j1), .second, .val (.long j2), .second, .val (.long j3), .second, .val (.long j4), .second, .val (.long jm), .second, .val (.long jn), .second, .val (.ref ob1), .val (.ref ob16), .unset, .unset, .unset, .unset, .unset] [(.long j3), (.long j2), (.long j1), (.ref ob16)])) _
    refine XT.lload X19.here hx rfl (hb hby at_59) rfl ?_
    show Steps p.tables e below (T19.setTop (mkF m 61 #[.val (.long j1), .second, .val (.long j2), .second, .val (.long j3), .second, .val (.long j4), .second, .val (.long jm), .second, .val (.long jn), .second, .val (.ref ob1), .val (.ref ob16), .unset, .unset, .unset, .unset, .unset] [(.long j4), (.long j3), (.long j2), (.long j1), (.ref ob16)])) _
    refine st20 _ ?_
    show Steps p.tables e below (T20.setTop (mkF m 64 #[.val (.long j1), .second, .val (.long j2), .second, .val (.long j3), .second, .val (.long j4), .second, .val (.long jm), .second, .val (.long jn), .second, .val (.ref ob1), .val (.ref ob16), .unset, .unset, .unset, .unset, .unset] [])) _
    refine st21 _ ?_
    show Steps p.tables e below (T21.setTop (mkF m 67 #[.val (.long j1), .second, .val (.long j2), .second, .val (.long j3), .second, .val (.long j4), .second, .val (.long jm), .second, .val (.long jn), .second, .val (.ref ob1), .val (.ref ob16), .unset, .unset, .unset, .unset, .unset] [(.ref ob21)])) _
    refine XS.dup X21.here hx rfl (hb hby at_67) rfl rfl ?_
    show Steps p.tables e below (T21.setTop (mkF m 68 #[.val (.long j1), .second, .val (.long j2), .second, .val (.long j3), .second, .val (.long j4), .second, .val (.long jm), .second, .val (.long jn), .second, .val (.ref ob1), .val (.ref ob16), .unset, .unset, .unset, .unset, .unset] [(.ref ob21), (.ref ob21)])) _
    refine st23.trans ?_
    show Steps p.tables e below (T23.setTop (mkF m 71 #[.val (.long j1), .second, .val (.long j2), .second, .val (.long j3), .second, .val (.long j4), .second, .val (.long jm), .second, .val (.long jn), .second, .val (.ref ob1), .val (.ref ob16), .unset, .unset, .unset, .unset, .unset] [(.ref ob21)])) _
    refine XS.astore X23.here hx rfl (hb hby at_71) rfl rfl (l' := #[.val (.long j1), .second, .val (.long j2), .second, .val (.long j3), .second, .val (.long j4), .second, .val (.long jm), .second, .val (.long jn), .second, .val (.ref ob1), .val (.ref ob16), .val (.ref ob21), .unset, .unset, .unset, .unset]) rfl ?_
    show Steps p.tables e below (T23.setTop (mkF m 73 #[.val (.long j1), .second, .val (.long j2), .second, .val (.long j3), .second, .val (.long j4), .second, .val (.long jm), .second, .val (.long jn), .second, .val (.ref ob1), .val (.ref ob16), .val (.ref ob21), .unset, .unset, .unset, .unset] [])) _
    refine XS.aload X23.here hx rfl (hb hby at_73) rfl rfl ?_
    show Steps p.tables e below (T23.setTop (mkF m 75 #[.val (.long j1), .second, .val (.long j2), .second, .val (.long j3), .second, .val (.long j4), .second, .val (.long jm), .second, .val (.long jn), .second, .val (.ref ob1), .val (.ref ob16), .val (.ref ob21), .unset, .unset, .unset, .unset] [(.ref ob21)])) _
    refine XT.lloadN X23.here hx rfl (hb hby at_75) rfl ?_
    show Steps p.tables e below (T23.setTop (mkF m 76 #[.val (.long j1), .second, .val (.long j2), .second, .val (.long j3), .second, .val (.long j4), .second, .val (.long jm), .second, .val (.long jn), .second, .val (.ref ob1), .val (.ref ob16), .val (.ref ob21), .unset, .unset, .unset, .unset] [(.long j1), (.ref ob21)])) _
    refine XT.lloadN X23.here hx rfl (hb hby at_76) rfl ?_
    show Steps p.tables e below (T23.setTop (mkF m 77 #[.val (.long j1), .second, .val (.long j2), .second, .val (.long j3), .second, .val (.long j4), .second, .val (.long jm), .second, .val (.long jn), .second, .val (.ref ob1), .val (.ref ob16), .val (.ref ob21), .unset, .unset, .unset, .unset] [(.long j2), (.long j1), (.ref ob21)])) _
    refine XT.lload X23.here hx rfl (hb hby at_77) rfl ?_
    show Steps p.tables e below (T23.setTop (mkF m 79 #[.val (.long j1), .second, .val (.long j2), .second, .val (.long j3), .second, .val (.long j4), .second, .val (.long jm), .second, .val (.long jn), .second, .val (.ref ob1), .val (.ref ob16), .val (.ref ob21), .unset, .unset, .unset, .unset] [(.long j3), (.long j2), (.long j1), (.ref ob21)])) _
    refine XT.lload X23.here hx rfl (hb hby at_79) rfl ?_
    show Steps p.tables e below (T23.setTop (mkF m 81 #[.val (.long j1), .second, .val (.long j2), .second, .val (.long j3), .second, .val (.long j4), .second, .val (.long jm), .second, .val (.long jn), .second, .val (.ref ob1), .val (.ref ob16), .val (.ref ob21), .unset, .unset, .unset, .unset] [(.long j4), (.long j3), (.long j2), (.long j1), (.ref ob21)])) _
    refine st24 _ ?_
    show Steps p.tables e below (T24.setTop (mkF m 84 #[.val (.long j1), .second, .val (.long j2), .second, .val (.long j3), .second, .val (.long j4), .second, .val (.long jm), .second, .val (.long jn), .second, .val (.ref ob1), .val (.ref ob16), .val (.ref ob21), .unset, .unset, .unset, .unset] [])) _
    refine st25 _ ?_
    show Steps p.tables e below (T25.setTop (mkF m 87 #[.val (.long j1), .second, .val (.long j2), .second, .val (.long j3), .second, .val (.long j4), .second, .val (.long jm), .second, .val (.long jn), .second, .val (.ref ob1), .val (.ref ob16), .val (.ref ob21), .unset, .unset, .unset, .unset] [(.ref ob25)])) _
    refine XS.dup X25.here hx rfl (hb hby at_87) rfl rfl ?_
    show Steps p.tables e below (T25.setTop (mkF m 88 #[.val (.long j1), .second, .val (.long j2), .second, .val (.long j3), .second, .val (.long j4), .second, .val (.long jm), .second, .val (.long jn), .second, .val (.ref ob1), .val (.ref ob16), .val (.ref ob21), .unset, .unset, .unset, .unset] [(.ref ob25), (.ref ob25)])) _
    refine st28.trans ?_
    show Steps p.tables e below (T28.setTop (mkF m 91 #[.val (.long j1), .second, .val (.long j2), .second, .val (.long j3), .second, .val (.long j4), .second, .val (.long jm), .second, .val (.long jn), .second, .val (.ref ob1), .val (.ref ob16), .val (.ref ob21), .unset, .unset, .unset, .unset] [(.ref ob25)])) _
    refine XS.astore X28.here hx rfl (hb hby at_91) rfl rfl (l' := #[.val (.long j1), .second, .val (.long j2), .second, .val (.long j3), .second, .val (.long j4), .second, .val (.long jm), .second, .val (.long jn), .second, .val (.ref ob1), .val (.ref ob16), .val (.ref ob21), .val (.ref ob25), .unset, .unset, .unset]) rfl ?_
    show Steps p.tables e below (T28.setTop (mkF m 93 #[.val (.long j1), .second, .val (.long j2), .second, .val (.long j3), .second, .val (.long j4), .second, .val (.long jm), .second, .val (.long jn), .second, .val (.ref ob1), .val (.ref ob16), .val (.ref ob21), .val (.ref ob25), .unset, .unset, .unset] [])) _
    refine XS.aload X28.here hx rfl (hb hby at_93) rfl rfl ?_
    show Steps p.tables e below (T28.setTop (mkF m 95 #[.val (.long j1), .second, .val (.long j2), .second, .val (.long j3), .second, .val (.long j4), .second, .val (.long jm), .second, .val (.long jn), .second, .val (.ref ob1), .val (.ref ob16), .val (.ref ob21), .val (.ref ob25), .unset, .unset, .unset] [(.ref ob16)])) _
    refine XS.aload X28.here hx rfl (hb hby at_95) rfl rfl ?_
    show Steps p.tables e below (T28.setTop (mkF m 97 #[.val (.long j1), .second, .val (.long j2), .second, .val (.long j3), .second, .val (.long j4), .second, .val (.long jm), .second, .val (.long jn), .second, .val (.ref ob1), .val (.ref ob16), .val (.ref ob21), .val (.ref ob25), .unset, .unset, .unset] [(.ref ob1), (.ref ob16)])) _
    refine XT.lload X28.here hx rfl (hb hby at_97) rfl ?_
    show Steps p.tables e below (T28.setTop (mkF m 99 #[.val (.long j1), .second, .val (.long j2), .second, .val (.long j3), .second, .val (.long j4), .second, .val (.long jm), .second, .val (.long jn), .second, .val (.ref ob1), .val (.ref ob16), .val (.ref ob21), .val (.ref ob25), .unset, .unset, .unset] [(.long jm), (.ref ob1), (.ref ob16)])) _
    refine st41.trans ?_
    show Steps p.tables e below (T41.setTop (mkF m 102 #[.val (.long j1), .second, .val (.long j2), .second, .val (.long j3), .second, .val (.long j4), .second, .val (.long jm), .second, .val (.long jn), .second, .val (.ref ob1), .val (.ref ob16), .val (.ref ob21), .val (.ref ob25), .unset, .unset, .unset] [])) _
    refine XS.aload X41.here hx rfl (hb hby at_102) rfl rfl ?_
    show Steps p.tables e below (T41.setTop (mkF m 104 #[.val (.long j1), .second, .val (.long j2), .second, .val (.long j3), .second, .val (.long j4), .second, .val (.long jm), .second, .val (.long jn), .second, .val (.ref ob1), .val (.ref ob16), .val (.ref ob21), .val (.ref ob25), .unset, .unset, .unset] [(.ref ob16)])) _
    refine XS.aload X41.here hx rfl (hb hby at_104) rfl rfl ?_
    show Steps p.tables e below (T41.setTop (mkF m 106 #[.val (.long j1), .second, .val (.long j2), .second, .val (.long j3), .second, .val (.long j4), .second, .val (.long jm), .second, .val (.long jn), .second, .val (.ref ob1), .val (.ref ob16), .val (.ref ob21), .val (.ref ob25), .unset, .unset, .unset] [(.ref ob1), (.ref ob16)])) _
    refine XT.lload X41.here hx rfl (hb hby at_106) rfl ?_
    show Steps p.tables e below (T41.setTop (mkF m 108 #[.val (.long j1), .second, .val (.long j2), .second, .val (.long j3), .second, .val (.long j4), .second, .val (.long jm), .second, .val (.long jn), .second, .val (.ref ob1), .val (.ref ob16), .val (.ref ob21), .val (.ref ob25), .unset, .unset, .unset] [(.long jn), (.ref ob1), (.ref ob16)])) _
    refine st48.trans ?_
    show Steps p.tables e below (T48.setTop (mkF m 111 #[.val (.long j1), .second, .val (.long j2), .second, .val (.long j3), .second, .val (.long j4), .second, .val (.long jm), .second, .val (.long jn), .second, .val (.ref ob1), .val (.ref ob16), .val (.ref ob21), .val (.ref ob25), .unset, .unset, .unset] [])) _
    refine XS.aload X48.here hx rfl (hb hby at_111) rfl rfl ?_
    show Steps p.tables e below (T48.setTop (mkF m 113 #[.val (.long j1), .second, .val (.long j2), .second, .val (.long j3), .second, .val (.long j4), .second, .val (.long jm), .second, .val (.long jn), .second, .val (.ref ob1), .val (.ref ob16), .val (.ref ob21), .val (.ref ob25), .unset, .unset, .unset] [(.ref ob21)])) _
    refine XS.aload X48.here hx rfl (hb hby at_113) rfl rfl ?_
    show Steps p.tables e below (T48.setTop (mkF m 115 #[.val (.long j1), .second, .val (.long j2), .second, .val (.long j3), .second, .val (.long j4), .second, .val (.long jm), .second, .val (.long jn), .second, .val (.ref ob1), .val (.ref ob16), .val (.ref ob21), .val (.ref ob25), .unset, .unset, .unset] [(.ref ob1), (.ref ob21)])) _
    refine XT.lload X48.here hx rfl (hb hby at_115) rfl ?_
    show Steps p.tables e below (T48.setTop (mkF m 117 #[.val (.long j1), .second, .val (.long j2), .second, .val (.long j3), .second, .val (.long j4), .second, .val (.long jm), .second, .val (.long jn), .second, .val (.ref ob1), .val (.ref ob16), .val (.ref ob21), .val (.ref ob25), .unset, .unset, .unset] [(.long jm), (.ref ob1), (.ref ob21)])) _
    refine XT.lload X48.here hx rfl (hb hby at_117) rfl ?_
    show Steps p.tables e below (T48.setTop (mkF m 119 #[.val (.long j1), .second, .val (.long j2), .second, .val (.long j3), .second, .val (.long j4), .second, .val (.long jm), .second, .val (.long jn), .second, .val (.ref ob1), .val (.ref ob16), .val (.ref ob21), .val (.ref ob25), .unset, .unset, .unset] [(.long jn), (.long jm), (.ref ob1), (.ref ob21)])) _
    refine XT.ladd X48.here hx rfl (hb hby at_119) rfl ?_
    show Steps p.tables e below (T48.setTop (mkF m 120 #[.val (.long j1), .second, .val (.long j2), .second, .val (.long j3), .second, .val (.long j4), .second, .val (.long jm), .second, .val (.long jn), .second, .val (.ref ob1), .val (.ref ob16), .val (.ref ob21), .val (.ref ob25), .unset, .unset, .unset] [(.long (jm + jn)), (.ref ob1), (.ref ob21)])) _
    refine st61.trans ?_
    show Steps p.tables e below (T61.setTop (mkF m 123 #[.val (.long j1), .second, .val (.long j2), .second, .val (.long j3), .second, .val (.long j4), .second, .val (.long jm), .second, .val (.long jn), .second, .val (.ref ob1), .val (.ref ob16), .val (.ref ob21), .val (.ref ob25), .unset, .unset, .unset] [])) _
    refine XS.aload X61.here hx rfl (hb hby at_123) rfl rfl ?_
    show Steps p.tables e below (T61.setTop (mkF m 125 #[.val (.long j1), .second, .val (.long j2), .second, .val (.long j3), .second, .val (.long j4), .second, .val (.long jm), .second, .val (.long jn), .second, .val (.ref ob1), .val (.ref ob16), .val (.ref ob21), .val (.ref ob25), .unset, .unset, .unset] [(.ref ob25)])) _
    refine XS.aload X61.here hx rfl (hb hby at_125) rfl rfl ?_
    show Steps p.tables e below (T61.setTop (mkF m 127 #[.val (.long j1), .second, .val (.long j2), .second, .val (.long j3), .second, .val (.long j4), .second, .val (.long jm), .second, .val (.long jn), .second, .val (.ref ob1), .val (.ref ob16), .val (.ref ob21), .val (.ref ob25), .unset, .unset, .unset] [(.ref ob1), (.ref ob25)])) _
    refine XT.lconstV X61.here hx rfl (1 : Int64) (hb hby at_127) rfl ?_
    show Steps p.tables e below (T61.setTop (mkF m 128 #[.val (.long j1), .second, .val (.long j2), .second, .val (.long j3), .second, .val (.long j4), .second, .val (.long jm), .second, .val (.long jn), .second, .val (.ref ob1), .val (.ref ob16), .val (.ref ob21), .val (.ref ob25), .unset, .unset, .unset] [(.long (1 : Int64)), (.ref ob1), (.ref ob25)])) _
    refine st74.trans ?_
    show Steps p.tables e below (T74.setTop (mkF m 131 #[.val (.long j1), .second, .val (.long j2), .second, .val (.long j3), .second, .val (.long j4), .second, .val (.long jm), .second, .val (.long jn), .second, .val (.ref ob1), .val (.ref ob16), .val (.ref ob21), .val (.ref ob25), .unset, .unset, .unset] [])) _
    refine XS.aload X74.here hx rfl (hb hby at_131) rfl rfl ?_
    show Steps p.tables e below (T74.setTop (mkF m 133 #[.val (.long j1), .second, .val (.long j2), .second, .val (.long j3), .second, .val (.long j4), .second, .val (.long jm), .second, .val (.long jn), .second, .val (.ref ob1), .val (.ref ob16), .val (.ref ob21), .val (.ref ob25), .unset, .unset, .unset] [(.ref ob16)])) _
    refine XS.aload X74.here hx rfl (hb hby at_133) rfl rfl ?_
    show Steps p.tables e below (T74.setTop (mkF m 135 #[.val (.long j1), .second, .val (.long j2), .second, .val (.long j3), .second, .val (.long j4), .second, .val (.long jm), .second, .val (.long jn), .second, .val (.ref ob1), .val (.ref ob16), .val (.ref ob21), .val (.ref ob25), .unset, .unset, .unset] [(.ref ob21), (.ref ob16)])) _
    refine st87 _ ?_
    show Steps p.tables e below (T87.setTop (mkF m 138 #[.val (.long j1), .second, .val (.long j2), .second, .val (.long j3), .second, .val (.long j4), .second, .val (.long jm), .second, .val (.long jn), .second, .val (.ref ob1), .val (.ref ob16), .val (.ref ob21), .val (.ref ob25), .unset, .unset, .unset] [(.int (1 : Int32))])) _
    refine XS.istore X87.here hx rfl (hb hby at_138) rfl (l' := #[.val (.long j1), .second, .val (.long j2), .second, .val (.long j3), .second, .val (.long j4), .second, .val (.long jm), .second, .val (.long jn), .second, .val (.ref ob1), .val (.ref ob16), .val (.ref ob21), .val (.ref ob25), .val (.int (1 : Int32)), .unset, .unset]) rfl ?_
    show Steps p.tables e below (T87.setTop (mkF m 140 #[.val (.long j1), .second, .val (.long j2), .second, .val (.long j3), .second, .val (.long j4), .second, .val (.long jm), .second, .val (.long jn), .second, .val (.ref ob1), .val (.ref ob16), .val (.ref ob21), .val (.ref ob25), .val (.int (1 : Int32)), .unset, .unset] [])) _
    refine XS.aload X87.here hx rfl (hb hby at_140) rfl rfl ?_
    show Steps p.tables e below (T87.setTop (mkF m 142 #[.val (.long j1), .second, .val (.long j2), .second, .val (.long j3), .second, .val (.long j4), .second, .val (.long jm), .second, .val (.long jn), .second, .val (.ref ob1), .val (.ref ob16), .val (.ref ob21), .val (.ref ob25), .val (.int (1 : Int32)), .unset, .unset] [(.ref ob25)])) _
    refine st88 _ ?_
    show Steps p.tables e below (T88.setTop (mkF m 145 #[.val (.long j1), .second, .val (.long j2), .second, .val (.long j3), .second, .val (.long j4), .second, .val (.long jm), .second, .val (.long jn), .second, .val (.ref ob1), .val (.ref ob16), .val (.ref ob21), .val (.ref ob25), .val (.int (1 : Int32)), .unset, .unset] [(.long ((0 : Int64) + (j1 * (1 : Int64))))])) _
    refine XT.lloadN X88.here hx rfl (hb hby at_145) rfl ?_
    show Steps p.tables e below (T88.setTop (mkF m 146 #[.val (.long j1), .second, .val (.long j2), .second, .val (.long j3), .second, .val (.long j4), .second, .val (.long jm), .second, .val (.long jn), .second, .val (.ref ob1), .val (.ref ob16), .val (.ref ob21), .val (.ref ob25), .val (.int (1 : Int32)), .unset, .unset] [(.long j1), (.long ((0 : Int64) + (j1 * (1 : Int64))))])) _
    refine XT.lcmp X88.here hx rfl (hb hby at_146) rfl ?_
    show Steps p.tables e below (T88.setTop (mkF m 147 #[.val (.long j1), .second, .val (.long j2), .second, .val (.long j3), .second, .val (.long j4), .second, .val (.long jm), .second, .val (.long jn), .second, .val (.ref ob1), .val (.ref ob16), .val (.ref ob21), .val (.ref ob25), .val (.int (1 : Int32)), .unset, .unset] [(.int (XT.cmpL ((0 : Int64) + (j1 * (1 : Int64))) j1))])) _
    refine XS.ifNo X88.here hx rfl (hb hby at_147) rfl (XT.ll_ne_f (own_unit _)) ?_
    show Steps p.tables e below (T88.setTop (mkF m 150 #[.val (.long j1), .second, .val (.long j2), .second, .val (.long j3), .second, .val (.long j4), .second, .val (.long jm), .second, .val (.long jn), .second, .val (.ref ob1), .val (.ref ob16), .val (.ref ob21), .val (.ref ob25), .val (.int (1 : Int32)), .unset, .unset] [])) _
    refine XS.aload X88.here hx rfl (hb hby at_150) rfl rfl ?_
    show Steps p.tables e below (T88.setTop (mkF m 152 #[.val (.long j1), .second, .val (.long j2), .second, .val (.long j3), .second, .val (.long j4), .second, .val (.long jm), .second, .val (.long jn), .second, .val (.ref ob1), .val (.ref ob16), .val (.ref ob21), .val (.ref ob25), .val (.int (1 : Int32)), .unset, .unset] [(.ref ob25)])) _
    refine st89 _ ?_
    show Steps p.tables e below (T89.setTop (mkF m 155 #[.val (.long j1), .second, .val (.long j2), .second, .val (.long j3), .second, .val (.long j4), .second, .val (.long jm), .second, .val (.long jn), .second, .val (.ref ob1), .val (.ref ob16), .val (.ref ob21), .val (.ref ob25), .val (.int (1 : Int32)), .unset, .unset] [(.long ((0 : Int64) + (j2 * (1 : Int64))))])) _
    refine XT.lloadN X89.here hx rfl (hb hby at_155) rfl ?_
    show Steps p.tables e below (T89.setTop (mkF m 156 #[.val (.long j1), .second, .val (.long j2), .second, .val (.long j3), .second, .val (.long j4), .second, .val (.long jm), .second, .val (.long jn), .second, .val (.ref ob1), .val (.ref ob16), .val (.ref ob21), .val (.ref ob25), .val (.int (1 : Int32)), .unset, .unset] [(.long j2), (.long ((0 : Int64) + (j2 * (1 : Int64))))])) _
    refine XT.lcmp X89.here hx rfl (hb hby at_156) rfl ?_
    show Steps p.tables e below (T89.setTop (mkF m 157 #[.val (.long j1), .second, .val (.long j2), .second, .val (.long j3), .second, .val (.long j4), .second, .val (.long jm), .second, .val (.long jn), .second, .val (.ref ob1), .val (.ref ob16), .val (.ref ob21), .val (.ref ob25), .val (.int (1 : Int32)), .unset, .unset] [(.int (XT.cmpL ((0 : Int64) + (j2 * (1 : Int64))) j2))])) _
    refine XS.ifNo X89.here hx rfl (hb hby at_157) rfl (XT.ll_ne_f (own_unit _)) ?_
    show Steps p.tables e below (T89.setTop (mkF m 160 #[.val (.long j1), .second, .val (.long j2), .second, .val (.long j3), .second, .val (.long j4), .second, .val (.long jm), .second, .val (.long jn), .second, .val (.ref ob1), .val (.ref ob16), .val (.ref ob21), .val (.ref ob25), .val (.int (1 : Int32)), .unset, .unset] [])) _
    refine XS.aload X89.here hx rfl (hb hby at_160) rfl rfl ?_
    show Steps p.tables e below (T89.setTop (mkF m 162 #[.val (.long j1), .second, .val (.long j2), .second, .val (.long j3), .second, .val (.long j4), .second, .val (.long jm), .second, .val (.long jn), .second, .val (.ref ob1), .val (.ref ob16), .val (.ref ob21), .val (.ref ob25), .val (.int (1 : Int32)), .unset, .unset] [(.ref ob25)])) _
    refine st90 _ ?_
    show Steps p.tables e below (T90.setTop (mkF m 165 #[.val (.long j1), .second, .val (.long j2), .second, .val (.long j3), .second, .val (.long j4), .second, .val (.long jm), .second, .val (.long jn), .second, .val (.ref ob1), .val (.ref ob16), .val (.ref ob21), .val (.ref ob25), .val (.int (1 : Int32)), .unset, .unset] [(.long ((0 : Int64) + (j3 * (1 : Int64))))])) _
    refine XT.lload X90.here hx rfl (hb hby at_165) rfl ?_
    show Steps p.tables e below (T90.setTop (mkF m 167 #[.val (.long j1), .second, .val (.long j2), .second, .val (.long j3), .second, .val (.long j4), .second, .val (.long jm), .second, .val (.long jn), .second, .val (.ref ob1), .val (.ref ob16), .val (.ref ob21), .val (.ref ob25), .val (.int (1 : Int32)), .unset, .unset] [(.long j3), (.long ((0 : Int64) + (j3 * (1 : Int64))))])) _
    refine XT.lcmp X90.here hx rfl (hb hby at_167) rfl ?_
    show Steps p.tables e below (T90.setTop (mkF m 168 #[.val (.long j1), .second, .val (.long j2), .second, .val (.long j3), .second, .val (.long j4), .second, .val (.long jm), .second, .val (.long jn), .second, .val (.ref ob1), .val (.ref ob16), .val (.ref ob21), .val (.ref ob25), .val (.int (1 : Int32)), .unset, .unset] [(.int (XT.cmpL ((0 : Int64) + (j3 * (1 : Int64))) j3))])) _
    refine XS.ifNo X90.here hx rfl (hb hby at_168) rfl (XT.ll_ne_f (own_unit _)) ?_
    show Steps p.tables e below (T90.setTop (mkF m 171 #[.val (.long j1), .second, .val (.long j2), .second, .val (.long j3), .second, .val (.long j4), .second, .val (.long jm), .second, .val (.long jn), .second, .val (.ref ob1), .val (.ref ob16), .val (.ref ob21), .val (.ref ob25), .val (.int (1 : Int32)), .unset, .unset] [])) _
    refine XS.aload X90.here hx rfl (hb hby at_171) rfl rfl ?_
    show Steps p.tables e below (T90.setTop (mkF m 173 #[.val (.long j1), .second, .val (.long j2), .second, .val (.long j3), .second, .val (.long j4), .second, .val (.long jm), .second, .val (.long jn), .second, .val (.ref ob1), .val (.ref ob16), .val (.ref ob21), .val (.ref ob25), .val (.int (1 : Int32)), .unset, .unset] [(.ref ob25)])) _
    refine st91 _ ?_
    show Steps p.tables e below (T91.setTop (mkF m 176 #[.val (.long j1), .second, .val (.long j2), .second, .val (.long j3), .second, .val (.long j4), .second, .val (.long jm), .second, .val (.long jn), .second, .val (.ref ob1), .val (.ref ob16), .val (.ref ob21), .val (.ref ob25), .val (.int (1 : Int32)), .unset, .unset] [(.long ((0 : Int64) + (j4 * (1 : Int64))))])) _
    refine XT.lload X91.here hx rfl (hb hby at_176) rfl ?_
    show Steps p.tables e below (T91.setTop (mkF m 178 #[.val (.long j1), .second, .val (.long j2), .second, .val (.long j3), .second, .val (.long j4), .second, .val (.long jm), .second, .val (.long jn), .second, .val (.ref ob1), .val (.ref ob16), .val (.ref ob21), .val (.ref ob25), .val (.int (1 : Int32)), .unset, .unset] [(.long j4), (.long ((0 : Int64) + (j4 * (1 : Int64))))])) _
    refine XT.lcmp X91.here hx rfl (hb hby at_178) rfl ?_
    show Steps p.tables e below (T91.setTop (mkF m 179 #[.val (.long j1), .second, .val (.long j2), .second, .val (.long j3), .second, .val (.long j4), .second, .val (.long jm), .second, .val (.long jn), .second, .val (.ref ob1), .val (.ref ob16), .val (.ref ob21), .val (.ref ob25), .val (.int (1 : Int32)), .unset, .unset] [(.int (XT.cmpL ((0 : Int64) + (j4 * (1 : Int64))) j4))])) _
    refine XS.ifNo X91.here hx rfl (hb hby at_179) rfl (XT.ll_ne_f (own_unit _)) ?_
    show Steps p.tables e below (T91.setTop (mkF m 182 #[.val (.long j1), .second, .val (.long j2), .second, .val (.long j3), .second, .val (.long j4), .second, .val (.long jm), .second, .val (.long jn), .second, .val (.ref ob1), .val (.ref ob16), .val (.ref ob21), .val (.ref ob25), .val (.int (1 : Int32)), .unset, .unset] [])) _
    refine XS.aload X91.here hx rfl (hb hby at_182) rfl rfl ?_
    show Steps p.tables e below (T91.setTop (mkF m 184 #[.val (.long j1), .second, .val (.long j2), .second, .val (.long j3), .second, .val (.long j4), .second, .val (.long jm), .second, .val (.long jn), .second, .val (.ref ob1), .val (.ref ob16), .val (.ref ob21), .val (.ref ob25), .val (.int (1 : Int32)), .unset, .unset] [(.ref ob25)])) _
    refine st92 _ ?_
    show Steps p.tables e below (T92.setTop (mkF m 187 #[.val (.long j1), .second, .val (.long j2), .second, .val (.long j3), .second, .val (.long j4), .second, .val (.long jm), .second, .val (.long jn), .second, .val (.ref ob1), .val (.ref ob16), .val (.ref ob21), .val (.ref ob25), .val (.int (1 : Int32)), .unset, .unset] [(.long ((0 : Int64) + ((j1 ^^^ j4) * (1 : Int64))))])) _
    refine XT.lloadN X92.here hx rfl (hb hby at_187) rfl ?_
    show Steps p.tables e below (T92.setTop (mkF m 188 #[.val (.long j1), .second, .val (.long j2), .second, .val (.long j3), .second, .val (.long j4), .second, .val (.long jm), .second, .val (.long jn), .second, .val (.ref ob1), .val (.ref ob16), .val (.ref ob21), .val (.ref ob25), .val (.int (1 : Int32)), .unset, .unset] [(.long j1), (.long ((0 : Int64) + ((j1 ^^^ j4) * (1 : Int64))))])) _
    refine XT.lload X92.here hx rfl (hb hby at_188) rfl ?_
    show Steps p.tables e below (T92.setTop (mkF m 190 #[.val (.long j1), .second, .val (.long j2), .second, .val (.long j3), .second, .val (.long j4), .second, .val (.long jm), .second, .val (.long jn), .second, .val (.ref ob1), .val (.ref ob16), .val (.ref ob21), .val (.ref ob25), .val (.int (1 : Int32)), .unset, .unset] [(.long j4), (.long j1), (.long ((0 : Int64) + ((j1 ^^^ j4) * (1 : Int64))))])) _
    refine XT.lxor X92.here hx rfl (hb hby at_190) rfl ?_
    show Steps p.tables e below (T92.setTop (mkF m 191 #[.val (.long j1), .second, .val (.long j2), .second, .val (.long j3), .second, .val (.long j4), .second, .val (.long jm), .second, .val (.long jn), .second, .val (.ref ob1), .val (.ref ob16), .val (.ref ob21), .val (.ref ob25), .val (.int (1 : Int32)), .unset, .unset] [(.long (j1 ^^^ j4)), (.long ((0 : Int64) + ((j1 ^^^ j4) * (1 : Int64))))])) _
    refine XT.lcmp X92.here hx rfl (hb hby at_191) rfl ?_
    show Steps p.tables e below (T92.setTop (mkF m 192 #[.val (.long j1), .second, .val (.long j2), .second, .val (.long j3), .second, .val (.long j4), .second, .val (.long jm), .second, .val (.long jn), .second, .val (.ref ob1), .val (.ref ob16), .val (.ref ob21), .val (.ref ob25), .val (.int (1 : Int32)), .unset, .unset] [(.int (XT.cmpL ((0 : Int64) + ((j1 ^^^ j4) * (1 : Int64))) (j1 ^^^ j4)))])) _
    refine XS.ifNo X92.here hx rfl (hb hby at_192) rfl (XT.ll_ne_f (own_unit _)) ?_
    show Steps p.tables e below (T92.setTop (mkF m 195 #[.val (.long j1), .second, .val (.long j2), .second, .val (.long j3), .second, .val (.long j4), .second, .val (.long jm), .second, .val (.long jn), .second, .val (.ref ob1), .val (.ref ob16), .val (.ref ob21), .val (.ref ob25), .val (.int (1 : Int32)), .unset, .unset] [])) _
    refine XT.iconstV X92.here hx rfl (1 : Int32) (hb hby at_195) rfl ?_
    show Steps p.tables e below (T92.setTop (mkF m 196 #[.val (.long j1), .second, .val (.long j2), .second, .val (.long j3), .second, .val (.long j4), .second, .val (.long jm), .second, .val (.long jn), .second, .val (.ref ob1), .val (.ref ob16), .val (.ref ob21), .val (.ref ob25), .val (.int (1 : Int32)), .unset, .unset] [(.int (1 : Int32))])) _
    refine XS.goto X92.here hx rfl (pc0 := 196) (pc' := 200) rfl (hb hby at_196) (by decide) (by decide) ?_
    show Steps p.tables e below (T92.setTop (mkF m 200 #[.val (.long j1), .second, .val (.long j2), .second, .val (.long j3), .second, .val (.long j4), .second, .val (.long jm), .second, .val (.long jn), .second, .val (.ref ob1), .val (.ref ob16), .val (.ref ob21), .val (.ref ob25), .val (.int (1 : Int32)), .unset, .unset] [(.int (1 : Int32))])) _
    refine XS.istore X92.here hx rfl (hb hby at_200) rfl (l' := #[.val (.long j1), .second, .val (.long j2), .second, .val (.long j3), .second, .val (.long j4), .second, .val (.long jm), .second, .val (.long jn), .second, .val (.ref ob1), .val (.ref ob16), .val (.ref ob21), .val (.ref ob25), .val (.int (1 : Int32)), .val (.int (1 : Int32)), .unset]) rfl ?_
    show Steps p.tables e below (T92.setTop (mkF m 202 #[.val (.long j1), .second, .val (.long j2), .second, .val (.long j3), .second, .val (.long j4), .second, .val (.long jm), .second, .val (.long jn), .second, .val (.ref ob1), .val (.ref ob16), .val (.ref ob21), .val (.ref ob25), .val (.int (1 : Int32)), .val (.int (1 : Int32)), .unset] [])) _
    refine XS.aload X92.here hx rfl (hb hby at_202) rfl rfl ?_
    show Steps p.tables e below (T92.setTop (mkF m 204 #[.val (.long j1), .second, .val (.long j2), .second, .val (.long j3), .second, .val (.long j4), .second, .val (.long jm), .second, .val (.long jn), .second, .val (.ref ob1), .val (.ref ob16), .val (.ref ob21), .val (.ref ob25), .val (.int (1 : Int32)), .val (.int (1 : Int32)), .unset] [(.ref ob1)])) _
    refine st94 _ ?_
    show Steps p.tables e below (T94.setTop (mkF m 207 #[.val (.long j1), .second, .val (.long j2), .second, .val (.long j3), .second, .val (.long j4), .second, .val (.long jm), .second, .val (.long jn), .second, .val (.ref ob1), .val (.ref ob16), .val (.ref ob21), .val (.ref ob25), .val (.int (1 : Int32)), .val (.int (1 : Int32)), .unset] [(.long j1)])) _
    refine XT.lloadN X94.here hx rfl (hb hby at_207) rfl ?_
    show Steps p.tables e below (T94.setTop (mkF m 208 #[.val (.long j1), .second, .val (.long j2), .second, .val (.long j3), .second, .val (.long j4), .second, .val (.long jm), .second, .val (.long jn), .second, .val (.ref ob1), .val (.ref ob16), .val (.ref ob21), .val (.ref ob25), .val (.int (1 : Int32)), .val (.int (1 : Int32)), .unset] [(.long j1), (.long j1)])) _
    refine XT.lcmp X94.here hx rfl (hb hby at_208) rfl ?_
    show Steps p.tables e below (T94.setTop (mkF m 209 #[.val (.long j1), .second, .val (.long j2), .second, .val (.long j3), .second, .val (.long j4), .second, .val (.long jm), .second, .val (.long jn), .second, .val (.ref ob1), .val (.ref ob16), .val (.ref ob21), .val (.ref ob25), .val (.int (1 : Int32)), .val (.int (1 : Int32)), .unset] [(.int (XT.cmpL j1 j1))])) _
    refine XS.ifNo X94.here hx rfl (hb hby at_209) rfl (XT.ll_ne_f rfl) ?_
    show Steps p.tables e below (T94.setTop (mkF m 212 #[.val (.long j1), .second, .val (.long j2), .second, .val (.long j3), .second, .val (.long j4), .second, .val (.long jm), .second, .val (.long jn), .second, .val (.ref ob1), .val (.ref ob16), .val (.ref ob21), .val (.ref ob25), .val (.int (1 : Int32)), .val (.int (1 : Int32)), .unset] [])) _
    refine XS.aload X94.here hx rfl (hb hby at_212) rfl rfl ?_
    show Steps p.tables e below (T94.setTop (mkF m 214 #[.val (.long j1), .second, .val (.long j2), .second, .val (.long j3), .second, .val (.long j4), .second, .val (.long jm), .second, .val (.long jn), .second, .val (.ref ob1), .val (.ref ob16), .val (.ref ob21), .val (.ref ob25), .val (.int (1 : Int32)), .val (.int (1 : Int32)), .unset] [(.ref ob1)])) _
    refine st96 _ ?_
    show Steps p.tables e below (T96.setTop (mkF m 217 #[.val (.long j1), .second, .val (.long j2), .second, .val (.long j3), .second, .val (.long j4), .second, .val (.long jm), .second, .val (.long jn), .second, .val (.ref ob1), .val (.ref ob16), .val (.ref ob21), .val (.ref ob25), .val (.int (1 : Int32)), .val (.int (1 : Int32)), .unset] [(.long j2)])) _
    refine XT.lloadN X96.here hx rfl (hb hby at_217) rfl ?_
    show Steps p.tables e below (T96.setTop (mkF m 218 #[.val (.long j1), .second, .val (.long j2), .second, .val (.long j3), .second, .val (.long j4), .second, .val (.long jm), .second, .val (.long jn), .second, .val (.ref ob1), .val (.ref ob16), .val (.ref ob21), .val (.ref ob25), .val (.int (1 : Int32)), .val (.int (1 : Int32)), .unset] [(.long j2), (.long j2)])) _
    refine XT.lcmp X96.here hx rfl (hb hby at_218) rfl ?_
    show Steps p.tables e below (T96.setTop (mkF m 219 #[.val (.long j1), .second, .val (.long j2), .second, .val (.long j3), .second, .val (.long j4), .second, .val (.long jm), .second, .val (.long jn), .second, .val (.ref ob1), .val (.ref ob16), .val (.ref ob21), .val (.ref ob25), .val (.int (1 : Int32)), .val (.int (1 : Int32)), .unset] [(.int (XT.cmpL j2 j2))])) _
    refine XS.ifNo X96.here hx rfl (hb hby at_219) rfl (XT.ll_ne_f rfl) ?_
    show Steps p.tables e below (T96.setTop (mkF m 222 #[.val (.long j1), .second, .val (.long j2), .second, .val (.long j3), .second, .val (.long j4), .second, .val (.long jm), .second, .val (.long jn), .second, .val (.ref ob1), .val (.ref ob16), .val (.ref ob21), .val (.ref ob25), .val (.int (1 : Int32)), .val (.int (1 : Int32)), .unset] [])) _
    refine XS.aload X96.here hx rfl (hb hby at_222) rfl rfl ?_
    show Steps p.tables e below (T96.setTop (mkF m 224 #[.val (.long j1), .second, .val (.long j2), .second, .val (.long j3), .second, .val (.long j4), .second, .val (.long jm), .second, .val (.long jn), .second, .val (.ref ob1), .val (.ref ob16), .val (.ref ob21), .val (.ref ob25), .val (.int (1 : Int32)), .val (.int (1 : Int32)), .unset] [(.ref ob1)])) _
    refine st98 _ ?_
    show Steps p.tables e below (T98.setTop (mkF m 227 #[.val (.long j1), .second, .val (.long j2), .second, .val (.long j3), .second, .val (.long j4), .second, .val (.long jm), .second, .val (.long jn), .second, .val (.ref ob1), .val (.ref ob16), .val (.ref ob21), .val (.ref ob25), .val (.int (1 : Int32)), .val (.int (1 : Int32)), .unset] [(.long j3)])) _
    refine XT.lload X98.here hx rfl (hb hby at_227) rfl ?_
    show Steps p.tables e below (T98.setTop (mkF m 229 #[.val (.long j1), .second, .val (.long j2), .second, .val (.long j3), .second, .val (.long j4), .second, .val (.long jm), .second, .val (.long jn), .second, .val (.ref ob1), .val (.ref ob16), .val (.ref ob21), .val (.ref ob25), .val (.int (1 : Int32)), .val (.int (1 : Int32)), .unset] [(.long j3), (.long j3)])) _
    refine XT.lcmp X98.here hx rfl (hb hby at_229) rfl ?_
    show Steps p.tables e below (T98.setTop (mkF m 230 #[.val (.long j1), .second, .val (.long j2), .second, .val (.long j3), .second, .val (.long j4), .second, .val (.long jm), .second, .val (.long jn), .second, .val (.ref ob1), .val (.ref ob16), .val (.ref ob21), .val (.ref ob25), .val (.int (1 : Int32)), .val (.int (1 : Int32)), .unset] [(.int (XT.cmpL j3 j3))])) _
    refine XS.ifNo X98.here hx rfl (hb hby at_230) rfl (XT.ll_ne_f rfl) ?_
    show Steps p.tables e below (T98.setTop (mkF m 233 #[.val (.long j1), .second, .val (.long j2), .second, .val (.long j3), .second, .val (.long j4), .second, .val (.long jm), .second, .val (.long jn), .second, .val (.ref ob1), .val (.ref ob16), .val (.ref ob21), .val (.ref ob25), .val (.int (1 : Int32)), .val (.int (1 : Int32)), .unset] [])) _
    refine XS.aload X98.here hx rfl (hb hby at_233) rfl rfl ?_
    show Steps p.tables e below (T98.setTop (mkF m 235 #[.val (.long j1), .second, .val (.long j2), .second, .val (.long j3), .second, .val (.long j4), .second, .val (.long jm), .second, .val (.long jn), .second, .val (.ref ob1), .val (.ref ob16), .val (.ref ob21), .val (.ref ob25), .val (.int (1 : Int32)), .val (.int (1 : Int32)), .unset] [(.ref ob1)])) _
    refine st100 _ ?_
    show Steps p.tables e below (T100.setTop (mkF m 238 #[.val (.long j1), .second, .val (.long j2), .second, .val (.long j3), .second, .val (.long j4), .second, .val (.long jm), .second, .val (.long jn), .second, .val (.ref ob1), .val (.ref ob16), .val (.ref ob21), .val (.ref ob25), .val (.int (1 : Int32)), .val (.int (1 : Int32)), .unset] [(.long j4)])) _
    refine XT.lload X100.here hx rfl (hb hby at_238) rfl ?_
    show Steps p.tables e below (T100.setTop (mkF m 240 #[.val (.long j1), .second, .val (.long j2), .second, .val (.long j3), .second, .val (.long j4), .second, .val (.long jm), .second, .val (.long jn), .second, .val (.ref ob1), .val (.ref ob16), .val (.ref ob21), .val (.ref ob25), .val (.int (1 : Int32)), .val (.int (1 : Int32)), .unset] [(.long j4), (.long j4)])) _
    refine XT.lcmp X100.here hx rfl (hb hby at_240) rfl ?_
    show Steps p.tables e below (T100.setTop (mkF m 241 #[.val (.long j1), .second, .val (.long j2), .second, .val (.long j3), .second, .val (.long j4), .second, .val (.long jm), .second, .val (.long jn), .second, .val (.ref ob1), .val (.ref ob16), .val (.ref ob21), .val (.ref ob25), .val (.int (1 : Int32)), .val (.int (1 : Int32)), .unset] [(.int (XT.cmpL j4 j4))])) _
    refine XS.ifNo X100.here hx rfl (hb hby at_241) rfl (XT.ll_ne_f rfl) ?_
    show Steps p.tables e below (T100.setTop (mkF m 244 #[.val (.long j1), .second, .val (.long j2), .second, .val (.long j3), .second, .val (.long j4), .second, .val (.long jm), .second, .val (.long jn), .second, .val (.ref ob1), .val (.ref ob16), .val (.ref ob21), .val (.ref ob25), .val (.int (1 : Int32)), .val (.int (1 : Int32)), .unset] [])) _
    refine XS.aload X100.here hx rfl (hb hby at_244) rfl rfl ?_
    show Steps p.tables e below (T100.setTop (mkF m 246 #[.val (.long j1), .second, .val (.long j2), .second, .val (.long j3), .second, .val (.long j4), .second, .val (.long jm), .second, .val (.long jn), .second, .val (.ref ob1), .val (.ref ob16), .val (.ref ob21), .val (.ref ob25), .val (.int (1 : Int32)), .val (.int (1 : Int32)), .unset] [(.ref ob1)])) _
    refine st102 _ ?_
    show Steps p.tables e below (T102.setTop (mkF m 249 #[.val (.long j1), .second, .val (.long j2), .second, .val (.long j3), .second, .val (.long j4), .second, .val (.long jm), .second, .val (.long jn), .second, .val (.ref ob1), .val (.ref ob16), .val (.ref ob21), .val (.ref ob25), .val (.int (1 : Int32)), .val (.int (1 : Int32)), .unset] [(.long (j1 ^^^ j4))])) _
    refine XT.lloadN X102.here hx rfl (hb hby at_249) rfl ?_
    show Steps p.tables e below (T102.setTop (mkF m 250 #[.val (.long j1), .second, .val (.long j2), .second, .val (.long j3), .second, .val (.long j4), .second, .val (.long jm), .second, .val (.long jn), .second, .val (.ref ob1), .val (.ref ob16), .val (.ref ob21), .val (.ref ob25), .val (.int (1 : Int32)), .val (.int (1 : Int32)), .unset] [(.long j1), (.long (j1 ^^^ j4))])) _
    refine XT.lload X102.here hx rfl (hb hby at_250) rfl ?_
    show Steps p.tables e below (T102.setTop (mkF m 252 #[.val (.long j1), .second, .val (.long j2), .second, .val (.long j3), .second, .val (.long j4), .second, .val (.long jm), .second, .val (.long jn), .second, .val (.ref ob1), .val (.ref ob16), .val (.ref ob21), .val (.ref ob25), .val (.int (1 : Int32)), .val (.int (1 : Int32)), .unset] [(.long j4), (.long j1), (.long (j1 ^^^ j4))])) _
    refine XT.lxor X102.here hx rfl (hb hby at_252) rfl ?_
    show Steps p.tables e below (T102.setTop (mkF m 253 #[.val (.long j1), .second, .val (.long j2), .second, .val (.long j3), .second, .val (.long j4), .second, .val (.long jm), .second, .val (.long jn), .second, .val (.ref ob1), .val (.ref ob16), .val (.ref ob21), .val (.ref ob25), .val (.int (1 : Int32)), .val (.int (1 : Int32)), .unset] [(.long (j1 ^^^ j4)), (.long (j1 ^^^ j4))])) _
    refine XT.lcmp X102.here hx rfl (hb hby at_253) rfl ?_
    show Steps p.tables e below (T102.setTop (mkF m 254 #[.val (.long j1), .second, .val (.long j2), .second, .val (.long j3), .second, .val (.long j4), .second, .val (.long jm), .second, .val (.long jn), .second, .val (.ref ob1), .val (.ref ob16), .val (.ref ob21), .val (.ref ob25), .val (.int (1 : Int32)), .val (.int (1 : Int32)), .unset] [(.int (XT.cmpL (j1 ^^^ j4) (j1 ^^^ j4)))])) _
    refine XS.ifNo X102.here hx rfl (hb hby at_254) rfl (XT.ll_ne_f rfl) ?_
    show Steps p.tables e below (T102.setTop (mkF m 257 #[.val (.long j1), .second, .val (.long j2), .second, .val (.long j3), .second, .val (.long j4), .second, .val (.long jm), .second, .val (.long jn), .second, .val (.ref ob1), .val (.ref ob16), .val (.ref ob21), .val (.ref ob25), .val (.int (1 : Int32)), .val (.int (1 : Int32)), .unset] [])) _
    refine XT.iconstV X102.here hx rfl (1 : Int32) (hb hby at_257) rfl ?_
    show Steps p.tables e below (T102.setTop (mkF m 258 #[.val (.long j1), .second, .val (.long j2), .second, .val (.long j3), .second, .val (.long j4), .second, .val (.long jm), .second, .val (.long jn), .second, .val (.ref ob1), .val (.ref ob16), .val (.ref ob21), .val (.ref ob25), .val (.int (1 : Int32)), .val (.int (1 : Int32)), .unset] [(.int (1 : Int32))])) _
    refine XS.goto X102.here hx rfl (pc0 := 258) (pc' := 262) rfl (hb hby at_258) (by decide) (by decide) ?_
    show Steps p.tables e below (T102.setTop (mkF m 262 #[.val (.long j1), .second, .val (.long j2), .second, .val (.long j3), .second, .val (.long j4), .second, .val (.long jm), .second, .val (.long jn), .second, .val (.ref ob1), .val (.ref ob16), .val (.ref ob21), .val (.ref ob25), .val (.int (1 : Int32)), .val (.int (1 : Int32)), .unset] [(.int (1 : Int32))])) _
    refine XS.istore X102.here hx rfl (hb hby at_262) rfl (l' := #[.val (.long j1), .second, .val (.long j2), .second, .val (.long j3), .second, .val (.long j4), .second, .val (.long jm), .second, .val (.long jn), .second, .val (.ref ob1), .val (.ref ob16), .val (.ref ob21), .val (.ref ob25), .val (.int (1 : Int32)), .val (.int (1 : Int32)), .val (.int (1 : Int32))]) rfl ?_
    show Steps p.tables e below (T102.setTop (mkF m 264 #[.val (.long j1), .second, .val (.long j2), .second, .val (.long j3), .second, .val (.long j4), .second, .val (.long jm), .second, .val (.long jn), .second, .val (.ref ob1), .val (.ref ob16), .val (.ref ob21), .val (.ref ob25), .val (.int (1 : Int32)), .val (.int (1 : Int32)), .val (.int (1 : Int32))] [])) _
    refine XS.iload X102.here hx rfl (hb hby at_264) rfl ?_
    show Steps p.tables e below (T102.setTop (mkF m 266 #[.val (.long j1), .second, .val (.long j2), .second, .val (.long j3), .second, .val (.long j4), .second, .val (.long jm), .second, .val (.long jn), .second, .val (.ref ob1), .val (.ref ob16), .val (.ref ob21), .val (.ref ob25), .val (.int (1 : Int32)), .val (.int (1 : Int32)), .val (.int (1 : Int32))] [(.int (1 : Int32))])) _
    refine XS.ifNo X102.here hx rfl (hb hby at_266) rfl (XT.i0_eq_f (by decide)) ?_
    show Steps p.tables e below (T102.setTop (mkF m 269 #[.val (.long j1), .second, .val (.long j2), .second, .val (.long j3), .second, .val (.long j4), .second, .val (.long jm), .second, .val (.long jn), .second, .val (.ref ob1), .val (.ref ob16), .val (.ref ob21), .val (.ref ob25), .val (.int (1 : Int32)), .val (.int (1 : Int32)), .val (.int (1 : Int32))] [])) _
    refine XS.iload X102.here hx rfl (hb hby at_269) rfl ?_
    show Steps p.tables e below (T102.setTop (mkF m 271 #[.val (.long j1), .second, .val (.long j2), .second, .val (.long j3), .second, .val (.long j4), .second, .val (.long jm), .second, .val (.long jn), .second, .val (.ref ob1), .val (.ref ob16), .val (.ref ob21), .val (.ref ob25), .val (.int (1 : Int32)), .val (.int (1 : Int32)), .val (.int (1 : Int32))] [(.int (1 : Int32))])) _
    refine XS.ifNo X102.here hx rfl (hb hby at_271) rfl (XT.i0_eq_f (by decide)) ?_
    show Steps p.tables e below (T102.setTop (mkF m 274 #[.val (.long j1), .second, .val (.long j2), .second, .val (.long j3), .second, .val (.long j4), .second, .val (.long jm), .second, .val (.long jn), .second, .val (.ref ob1), .val (.ref ob16), .val (.ref ob21), .val (.ref ob25), .val (.int (1 : Int32)), .val (.int (1 : Int32)), .val (.int (1 : Int32))] [])) _
    refine XS.iload X102.here hx rfl (hb hby at_274) rfl ?_
    show Steps p.tables e below (T102.setTop (mkF m 276 #[.val (.long j1), .second, .val (.long j2), .second, .val (.long j3), .second, .val (.long j4), .second, .val (.long jm), .second, .val (.long jn), .second, .val (.ref ob1), .val (.ref ob16), .val (.ref ob21), .val (.ref ob25), .val (.int (1 : Int32)), .val (.int (1 : Int32)), .val (.int (1 : Int32))] [(.int (1 : Int32))])) _
    refine XS.ifNo X102.here hx rfl (hb hby at_276) rfl (XT.i0_eq_f (by decide)) ?_
    show Steps p.tables e below (T102.setTop (mkF m 279 #[.val (.long j1), .second, .val (.long j2), .second, .val (.long j3), .second, .val (.long j4), .second, .val (.long jm), .second, .val (.long jn), .second, .val (.ref ob1), .val (.ref ob16), .val (.ref ob21), .val (.ref ob25), .val (.int (1 : Int32)), .val (.int (1 : Int32)), .val (.int (1 : Int32))] [])) _
    refine XT.iconstV X102.here hx rfl (1 : Int32) (hb hby at_279) rfl ?_
    show Steps p.tables e below (T102.setTop (mkF m 280 #[.val (.long j1), .second, .val (.long j2), .second, .val (.long j3), .second, .val (.long j4), .second, .val (.long jm), .second, .val (.long jn), .second, .val (.ref ob1), .val (.ref ob16), .val (.ref ob21), .val (.ref ob25), .val (.int (1 : Int32)), .val (.int (1 : Int32)), .val (.int (1 : Int32))] [(.int (1 : Int32))])) _
    refine XS.goto X102.here hx rfl (pc0 := 280) (pc' := 284) rfl (hb hby at_280) (by decide) (by decide) ?_
    show Steps p.tables e below (T102.setTop (mkF m 284 #[.val (.long j1), .second, .val (.long j2), .second, .val (.long j3), .second, .val (.long j4), .second, .val (.long jm), .second, .val (.long jn), .second, .val (.ref ob1), .val (.ref ob16), .val (.ref ob21), .val (.ref ob25), .val (.int (1 : Int32)), .val (.int (1 : Int32)), .val (.int (1 : Int32))] [(.int (1 : Int32))])) _
    exact retN X102 hx (t := .boolean) Bd.returns (by simp) (hb hby at_284) hr
  · show own_Q0 Z j1 j2 j3 j4 jm jn h0 n0 _ T102.heap _
    exact ⟨rfl, N87⟩
set_option maxRecDepth 65536 in
set_option maxHeartbeats 40000000 in
theorem comes_1 {Post : Tables → Env → Array Value → State → Outcome → State → Prop} (hpost : ∀ tb e args s v u, (limb_1_1.after args s (.returned v) u = true ∧ limb_1_2.after args s (.returned v) u = true ∧ True) → FrameEnd s (.returned v) u (Jvm.fieldLocs frame_1_writes args s ++ Jvm.arrayLocs frame_1_arrays args s ++ Jvm.staticLocs frame_1_statics s) 16 128 → Post tb e args s (.returned v) u) :
    ArmFor flags0 classFile x code maxLocals ret World_1 tables_1 room_1 Calls_1 rest_1 Pre_1 Post := by
  intro l hfl _ _ p e ha hc hk s m args below hf hA hF happ hP
  obtain ⟨hcalls, hrest, hpre⟩ := hP
  obtain ⟨-, -, -, hnamed, -, -, -, hat⟩ := (Spec.applies_iff hf).mp happ
  obtain ⟨hg, hn⟩ := and_e (Cond.before_iff.mp (show (Jvm.Cond.and given_1 narrow_1).before args s = true from hpre))
  obtain ⟨gc, gr0⟩ := and_e hg
  obtain ⟨ga0, gr1⟩ := and_e gr0
  obtain ⟨ga1, gr2⟩ := and_e gr1
  obtain ⟨ga2, gr3⟩ := and_e gr2
  obtain ⟨ga3, gr4⟩ := and_e gr3
  obtain ⟨ga4, gr5⟩ := and_e gr4
  obtain ⟨w0, w1, w2, w3, w4, w5, rfl⟩ : ∃ w0 w1 w2 w3 w4 w5 : Value, args = #[w0, w1, w2, w3, w4, w5] := by
    have hs : args.size = 6 := by simpa [Cond.value, given_1] using gc
    obtain ⟨L⟩ := args
    match L, hs with
    | [w0, w1, w2, w3, w4, w5], _ => exact ⟨w0, w1, w2, w3, w4, w5, rfl⟩
  have hw := fun d (hd : d ∈ tables_1) => atoms_spec (ws := Jvm.Cond.code x code maxLocals ret :: tables_1) hat d (List.mem_cons_of_mem _ hd)
  obtain ⟨i0, ei0⟩ := isL_v ga0
  obtain rfl : w0 = (.long i0) := Option.some.inj ei0
  obtain ⟨i1, ei1⟩ := isL_v ga1
  obtain rfl : w1 = (.long i1) := Option.some.inj ei1
  obtain ⟨i2, ei2⟩ := isL_v ga2
  obtain rfl : w2 = (.long i2) := Option.some.inj ei2
  obtain ⟨i3, ei3⟩ := isL_v ga3
  obtain rfl : w3 = (.long i3) := Option.some.inj ei3
  obtain ⟨i4, ei4⟩ := isL_v ga4
  obtain rfl : w4 = (.long i4) := Option.some.inj ei4
  obtain ⟨i5, ei5⟩ := isL_v gr5
  obtain rfl : w5 = (.long i5) := Option.some.inj ei5
  obtain ⟨n, o, h1, h2, h3, _, L, rfl, ⟨rfl, N⟩, hq⟩ := own_rm0 l s _ hw tables_1 i0 i1 i2 i3 i4 i5 s.heap s.heap.size (Nat.le_refl _) p e ha hc hk s m _ below hf ((Spec.applies_iff_loose hf).mp happ).1 ⟨rfl, State.Warmed39.refl s, rfl⟩ trivial
  refine ⟨n, _, h1, h2, h3, hpost _ _ _ _ _ _ ⟨Cond.after_iff.mpr rfl, Cond.after_iff.mpr (eq_i res_at (Term.int_eval (1)) rfl), trivial⟩ ⟨hq.1, hq.2.1, (hq.2.2.sift fun y hy => Or.inr (N y hy)).mono (by decide) (by decide)⟩⟩
theorem main_1_1 : Claimed_1_1 := comes_1 fun _ _ _ _ _ _ h hF => ⟨h.1, hF⟩
theorem main_1_2 : Claimed_1_2 := comes_1 fun _ _ _ _ _ _ h hF => ⟨h.2.1, hF⟩
end Jvm.Pilot.@@N@@
namespace Jvm.Pilot.@@N@@
open Jvm Jvm.ClassFile Sem Op Lib Jvm.Free Jvm.Stand Jvm.Pilot.@@N@@.Jvm.D
/-! MADE BY PROGRAM (witnessworld.py) out of the Statement's table words and the real class files: 9 classes; the members and pool entries that the words name. The judged class is class 1, her method 1. -/
namespace start1
open Jvm.ClassFile
def u (s : String) : CpInfo := .utf8 (stringToUtf16 s)
/-- a pool by its gaps: so many unusable entries, then the entry; so many at the end -/
def gap : Nat → List CpInfo → List CpInfo
  | 0, r => r
  | n + 1, r => .unusable :: gap n r
def poolList (es : List (Nat × CpInfo)) (last : Nat) : List CpInfo := es.foldr (fun e r => gap e.1 (e.2 :: r)) (gap last [])
def pool (es : List (Nat × CpInfo)) (last : Nat) : Array CpInfo := ⟨poolList es last⟩
def fileOf (pool : Array CpInfo) (this : Nat) (attrs : Array Attribute := #[]) (ms : Array MethodInfo := #[]) (fl : Nat := 33) (sup : Nat := 0) (ifs : Array Nat := #[]) (fds : Array FieldInfo := #[]) : ClassFile where
  minorVersion := 0
  majorVersion := 65
  constantPool := pool
  accessFlags := fl
  thisClass := this
  superClass := sup
  interfaces := ifs
  fields := fds
  methods := ms
  attributes := attrs
def plain (name : String) (sup : Option ClassId) : Class where
  name := name
  kind := .ordinary
  loader := none
  accessFlags := 33
  super := sup
  interfaces := #[]
  cf := none
  fields := #[]
  methods := #[]
  instanceTypes := #[]
  staticTypes := #[]
  resolved := #[]
  callSites := []
  init := .initialized
  statics := none
  mirror := none

def pool0 : Array CpInfo := pool [(5, u "<init>"), (0, u "()V"), (1, .class_ 10), (1, u "java/lang/Object")] 113

def k0c0 : Code := { maxStack := 0, maxLocals := 1, code := object_method_1_code, exceptionTable := #[], attributes := #[] }
def k0m0 : Method := { name := "<init>", desc := "()V", sig := { parameters := [], returnType := none }, accessFlags := 1, code := some k0c0 }
/-- java/lang/Object -/
def k0 : Class := { plain "java/lang/Object" none with
  accessFlags := 33
  interfaces := #[]
  cf := some (fileOf pool0 8 #[] #[{ accessFlags := 1, nameIndex := 5, descriptorIndex := 6, attributes := #[] }] 33 0 #[] #[])
  fields := #[]
  methods := #[k0m0]
  instanceTypes := #[]
  staticTypes := #[]
  resolved := Array.replicate 124 none
  statics := none }

def pool1 : Array CpInfo := pool [(2, .class_ 4), (0, .nameAndType 5 6), (0, u "java/lang/Object"), (0, u "<init>"), (0, u "()V"), (0, .class_ 8), (0, u "com/example/tracegauge/tracegauge/TraceTokens$Tally"), (0, .methodref 7 3), (0, .fieldref 7 11), (0, .nameAndType 12 13), (0, u "produced"), (0, u "J"), (0, .fieldref 7 15), (0, .nameAndType 16 13), (0, u "consumed"), (0, .fieldref 7 18), (0, .nameAndType 19 13), (0, u "missing"), (0, .fieldref 7 21), (0, .nameAndType 22 13), (0, u "remaining"), (0, .fieldref 7 24), (0, .nameAndType 25 13), (0, u "violated"), (0, .methodref 27 28), (0, .class_ 29), (0, .nameAndType 30 31), (0, u "com/example/tracegauge/tracegauge/TallyAddPinLaw"), (0, u "fill"), (0, u "(Lcom/example/tracegauge/tracegauge/TraceTokens$Tally;JJJJ)V"), (0, .methodref 7 33), (0, .nameAndType 34 35), (0, u "add"), (0, u "(Lcom/example/tracegauge/tracegauge/TraceTokens$Tally;J)V"), (0, .methodref 27 37), (0, .nameAndType 38 39), (0, u "same"), (0, u "(Lcom/example/tracegauge/tracegauge/TraceTokens$Tally;Lcom/example/tracegauge/tracegauge/TraceTokens$Tally;)Z"), (2, u "law"), (0, u "(JJJJJJ)Z")] 7

def k1m0 : Method := { name := "<init>", desc := "()V", sig := { parameters := [], returnType := none }, accessFlags := 1, code := none }
def k1c1 : Code := { maxStack := 9, maxLocals := 19, code := code, exceptionTable := #[], attributes := #[] }
def k1m1 : Method := { name := "law", desc := "(JJJJJJ)Z", sig := { parameters := [.long, .long, .long, .long, .long, .long], returnType := some .boolean }, accessFlags := 9, code := some k1c1 }
def k1c2 : Code := { maxStack := 5, maxLocals := 9, code := method_3_code, exceptionTable := #[], attributes := #[] }
def k1m2 : Method := { name := "fill", desc := "(Lcom/example/tracegauge/tracegauge/TraceTokens$Tally;JJJJ)V", sig := { parameters := [(.object "com/example/tracegauge/tracegauge/TraceTokens$Tally"), .long, .long, .long, .long], returnType := none }, accessFlags := 10, code := some k1c2 }
def k1c3 : Code := { maxStack := 4, maxLocals := 2, code := method_4_code, exceptionTable := #[], attributes := #[] }
def k1m3 : Method := { name := "same", desc := "(Lcom/example/tracegauge/tracegauge/TraceTokens$Tally;Lcom/example/tracegauge/tracegauge/TraceTokens$Tally;)Z", sig := { parameters := [(.object "com/example/tracegauge/tracegauge/TraceTokens$Tally"), (.object "com/example/tracegauge/tracegauge/TraceTokens$Tally")], returnType := some .boolean }, accessFlags := 10, code := some k1c3 }
/-- com/example/tracegauge/tracegauge/TallyAddPinLaw -/
def k1 : Class := { plain "com/example/tracegauge/tracegauge/TallyAddPinLaw" (some 0) with
  accessFlags := 49
  interfaces := #[]
  cf := some (fileOf pool1 27 #[] #[{ accessFlags := 1, nameIndex := 5, descriptorIndex := 6, attributes := #[] }, { accessFlags := 9, nameIndex := 42, descriptorIndex := 43, attributes := #[] }, { accessFlags := 10, nameIndex := 30, descriptorIndex := 31, attributes := #[] }, { accessFlags := 10, nameIndex := 38, descriptorIndex := 39, attributes := #[] }] 49 2 #[] #[])
  fields := #[]
  methods := #[k1m0, k1m1, k1m2, k1m3]
  instanceTypes := #[]
  staticTypes := #[]
  resolved := Array.replicate 51 none
  statics := none }

def pool2 : Array CpInfo := pool [(1, .methodref 2 3), (0, .class_ 4), (0, .nameAndType 5 6), (0, u "java/lang/Object"), (0, u "<init>"), (0, u "()V"), (0, .fieldref 8 9), (0, .class_ 10), (0, .nameAndType 11 12), (0, u "com/example/tracegauge/tracegauge/TraceTokens$Tally"), (0, u "produced"), (0, u "J"), (0, .fieldref 8 14), (0, .nameAndType 15 12), (0, u "consumed"), (0, .fieldref 8 17), (0, .nameAndType 18 12), (0, u "missing"), (0, .fieldref 8 20), (0, .nameAndType 21 12), (0, u "remaining"), (0, .fieldref 8 23), (0, .nameAndType 24 12), (0, u "violated"), (2, u "add"), (0, u "(Lcom/example/tracegauge/tracegauge/TraceTokens$Tally;J)V"), (5, .class_ 35), (0, u "com/example/tracegauge/tracegauge/TraceTokens")] 2

def k2c0 : Code := { maxStack := 1, maxLocals := 1, code := prog_146_method_1_code, exceptionTable := #[], attributes := #[] }
def k2m0 : Method := { name := "<init>", desc := "()V", sig := { parameters := [], returnType := none }, accessFlags := 0, code := some k2c0 }
def k2c1 : Code := { maxStack := 7, maxLocals := 4, code := prog_146_method_2_code, exceptionTable := #[], attributes := #[] }
def k2m1 : Method := { name := "add", desc := "(Lcom/example/tracegauge/tracegauge/TraceTokens$Tally;J)V", sig := { parameters := [(.object "com/example/tracegauge/tracegauge/TraceTokens$Tally"), .long], returnType := none }, accessFlags := 0, code := some k2c1 }
/-- com/example/tracegauge/tracegauge/TraceTokens$Tally -/
def k2 : Class := { plain "com/example/tracegauge/tracegauge/TraceTokens$Tally" (some 0) with
  accessFlags := 48
  interfaces := #[]
  cf := some (fileOf pool2 8 #[.nestHost 34] #[{ accessFlags := 0, nameIndex := 5, descriptorIndex := 6, attributes := #[] }, { accessFlags := 0, nameIndex := 27, descriptorIndex := 28, attributes := #[] }] 48 2 #[] #[{ accessFlags := 0, nameIndex := 11, descriptorIndex := 12, attributes := #[] }, { accessFlags := 0, nameIndex := 15, descriptorIndex := 12, attributes := #[] }, { accessFlags := 0, nameIndex := 18, descriptorIndex := 12, attributes := #[] }, { accessFlags := 0, nameIndex := 21, descriptorIndex := 12, attributes := #[] }, { accessFlags := 0, nameIndex := 24, descriptorIndex := 12, attributes := #[] }])
  fields := #[{ name := "produced", type := .long, accessFlags := 0, slot := 0, constantValue := 0 }, { name := "consumed", type := .long, accessFlags := 0, slot := 1, constantValue := 0 }, { name := "missing", type := .long, accessFlags := 0, slot := 2, constantValue := 0 }, { name := "remaining", type := .long, accessFlags := 0, slot := 3, constantValue := 0 }, { name := "violated", type := .long, accessFlags := 0, slot := 4, constantValue := 0 }]
  methods := #[k2m0, k2m1]
  instanceTypes := #[.long, .long, .long, .long, .long]
  staticTypes := #[]
  resolved := Array.replicate 38 none
  statics := none }

def pool3 : Array CpInfo := pool [(1, u "java/lang/Cloneable"), (0, .class_ 1), (0, u "java/lang/Object"), (0, .class_ 3)] 3

/-- java/lang/Cloneable -/
def k3 : Class := { plain "java/lang/Cloneable" (some 0) with
  accessFlags := 1537
  interfaces := #[]
  cf := some (fileOf pool3 2 #[] #[] 1537 4 #[] #[])
  fields := #[]
  methods := #[]
  instanceTypes := #[]
  staticTypes := #[]
  resolved := Array.replicate 8 none
  statics := none }

def pool4 : Array CpInfo := pool [(1, u "java/io/Serializable"), (0, .class_ 1), (0, u "java/lang/Object"), (0, .class_ 3)] 3

/-- java/io/Serializable -/
def k4 : Class := { plain "java/io/Serializable" (some 0) with
  accessFlags := 1537
  interfaces := #[]
  cf := some (fileOf pool4 2 #[] #[] 1537 4 #[] #[])
  fields := #[]
  methods := #[]
  instanceTypes := #[]
  staticTypes := #[]
  resolved := Array.replicate 8 none
  statics := none }

/-- the primitive byte -/
def k5 : Class := { plain "byte" none with kind := .primitive 'B', accessFlags := 0x411 }
/-- [B -/
def k6 : Class := { plain "[B" (some 0) with kind := .array 5 .byte, interfaces := #[3, 4], accessFlags := 1041 }

/-- the primitive int -/
def k7 : Class := { plain "int" none with kind := .primitive 'I', accessFlags := 0x411 }
/-- [I -/
def k8 : Class := { plain "[I" (some 0) with kind := .array 7 .int, interfaces := #[3, 4], accessFlags := 1041 }

def heap : Heap := #[]
def classes : Array Class := #[k0, k1, k2, k3, k4, k5, k6, k7, k8]
def interned : List (Array UInt16 × Addr) := []
def slotsUsed : Nat := 0
def theMethod : MethodId := ⟨1, 1⟩
def args0 : Array Value := #[.long 5, .long 5, .long 5, .long 5, .long 5, .long 5]
def aboutOver (below : List Frame) : State where
  vm := { classes := classes, interned := interned.toArray }
  heap := heap
  slotsUsed := slotsUsed
  threads := #[{ frames := .invoking theMethod args0 :: below }]
def below0 : List Frame := [.native { method := ⟨0, 0⟩, args := #[] }]
def about1 : State := aboutOver below0
def p0 : Program := .bare "" "" ""
def e0 : Env := launch0.env 0 0 0
theorem w_frames : about1.frames = Frame.invoking theMethod args0 :: below0 := rfl
set_option maxRecDepth 65536 in
theorem w_args : argsFit about1.vm theMethod args0 = true := by decide +kernel
set_option maxRecDepth 65536 in
theorem w_heap : heapFits about1 = true := by decide +kernel
set_option maxRecDepth 65536 in
theorem w_runnable : about1.curStatus? = some .runnable := by decide +kernel
set_option maxRecDepth 65536 in
theorem w_alone : about1.alone = true := by decide +kernel
set_option maxRecDepth 65536 in
theorem w_named : about1.methodNamed? x = some theMethod := by decide +kernel
set_option maxRecDepth 65536 in
theorem w_hears : about1.hears theMethod below0 = true := by decide +kernel
set_option maxRecDepth 65536 in
theorem w_ripe : about1.ripe theMethod args0 below0 = true := by decide +kernel
theorem w_running : about1.status = .running := rfl
set_option maxRecDepth 65536 in
theorem w_room : about1.hasRoom e0.platform room_1 = true :=
  launch0.hasRoom_least _ room_1 (by decide +kernel) (by decide +kernel) (by decide +kernel) (by decide +kernel) (by decide +kernel) (by decide +kernel)
theorem allAtoms_all (ts : List Jvm.Cond) (a : Array Jvm.Value) (st : Jvm.State) : (allAtoms ts).before a st = ts.all (fun c => c.before a st) := by
  induction ts with
  | nil => rfl
  | cons c t ih =>
    show (Jvm.Cond.and c (allAtoms t)).before a st = _
    rw [Jvm.Cond.before_and, ih, List.all_cons]
def words1 : List Jvm.Cond := Jvm.Cond.code x code maxLocals ret :: tables_1
/-- a 'code' word, met by the world's own term for the bytes: nothing is compared byte by byte -/
theorem code_word {y : MethodName} {bytes : ByteArray} {mx : Nat} {rt : Option FieldType} {a : Array Value} {s : State} {m : MethodId} {meth : Method} {c : Code} (h1 : s.methodNamed? y = some m) (h2 : s.vm.method? m = some meth) (h3 : meth.code = some c) (h4 : c.code = bytes)
    (h5 : (c.maxLocals == mx && c.exceptionTable.isEmpty && decide (c.maxStack ≤ mostOperands) && decide (meth.sig.returnType = rt) && !meth.locks && decide (parseMethodDescriptor y.desc = some meth.sig)) = true) : (Jvm.Cond.code y bytes mx rt).before a s = true := by
  simp only [Bool.and_eq_true, beq_iff_eq, Bool.not_eq_true', decide_eq_true_eq] at h5
  obtain ⟨⟨⟨⟨⟨g1, g2⟩, g3⟩, g4⟩, g5⟩, g6⟩ := h5
  simp [Cond.before, Cond.holds, Cond.value, h1, h2, h3, h4, g1, g2, g3, g4, g5, g6]
def isCode : Jvm.Cond → Bool
  | .code _ _ _ _ => true
  | _ => false
theorem all_split {L : List Jvm.Cond} {P : Jvm.Cond → Bool} (h1 : L.all (fun c => isCode c || P c) = true) (h2 : ∀ c ∈ L.filter isCode, P c = true) : L.all P = true := by
  refine List.all_eq_true.mpr fun c hc => ?_
  have h := List.all_eq_true.mp h1 c hc
  rcases Bool.eq_false_or_eq_true (isCode c) with hi | hi
  · exact h2 c (List.mem_filter.mpr ⟨hc, hi⟩)
  · simpa [hi] using h
set_option maxRecDepth 65536 in
theorem w_c0 : (Jvm.Cond.code x code maxLocals ret).before args0 about1 = true := code_word (m := ⟨1, 1⟩) (meth := k1m1) (c := k1c1) (by decide +kernel) rfl rfl rfl (by decide +kernel)
set_option maxRecDepth 65536 in
theorem w_c1 : (Jvm.Cond.code ({ cls := "com/example/tracegauge/tracegauge/TraceTokens$Tally", name := "<init>", desc := "()V" } : Jvm.MethodName) prog_146_method_1_code (1 : Nat) (Option.none : Option Jvm.ClassFile.FieldType)).before args0 about1 = true := code_word (m := ⟨2, 0⟩) (meth := k2m0) (c := k2c0) (by decide +kernel) rfl rfl rfl (by decide +kernel)
set_option maxRecDepth 65536 in
theorem w_c2 : (Jvm.Cond.code ({ cls := "java/lang/Object", name := "<init>", desc := "()V" } : Jvm.MethodName) object_method_1_code (1 : Nat) (Option.none : Option Jvm.ClassFile.FieldType)).before args0 about1 = true := code_word (m := ⟨0, 0⟩) (meth := k0m0) (c := k0c0) (by decide +kernel) rfl rfl rfl (by decide +kernel)
set_option maxRecDepth 65536 in
theorem w_c3 : (Jvm.Cond.code ({ cls := "com/example/tracegauge/tracegauge/TallyAddPinLaw", name := "fill", desc := "(Lcom/example/tracegauge/tracegauge/TraceTokens$Tally;JJJJ)V" } : Jvm.MethodName) method_3_code (9 : Nat) (Option.none : Option Jvm.ClassFile.FieldType)).before args0 about1 = true := code_word (m := ⟨1, 2⟩) (meth := k1m2) (c := k1c2) (by decide +kernel) rfl rfl rfl (by decide +kernel)
set_option maxRecDepth 65536 in
theorem w_c4 : (Jvm.Cond.code ({ cls := "com/example/tracegauge/tracegauge/TraceTokens$Tally", name := "add", desc := "(Lcom/example/tracegauge/tracegauge/TraceTokens$Tally;J)V" } : Jvm.MethodName) prog_146_method_2_code (4 : Nat) (Option.none : Option Jvm.ClassFile.FieldType)).before args0 about1 = true := code_word (m := ⟨2, 1⟩) (meth := k2m1) (c := k2c1) (by decide +kernel) rfl rfl rfl (by decide +kernel)
set_option maxRecDepth 65536 in
theorem w_c5 : (Jvm.Cond.code ({ cls := "com/example/tracegauge/tracegauge/TallyAddPinLaw", name := "same", desc := "(Lcom/example/tracegauge/tracegauge/TraceTokens$Tally;Lcom/example/tracegauge/tracegauge/TraceTokens$Tally;)Z" } : Jvm.MethodName) method_4_code (2 : Nat) (Option.some Jvm.ClassFile.FieldType.boolean)).before args0 about1 = true := code_word (m := ⟨1, 3⟩) (meth := k1m3) (c := k1c3) (by decide +kernel) rfl rfl rfl (by decide +kernel)
def codes1 : List Jvm.Cond := [Jvm.Cond.code x code maxLocals ret, Jvm.Cond.code ({ cls := "com/example/tracegauge/tracegauge/TraceTokens$Tally", name := "<init>", desc := "()V" } : Jvm.MethodName) prog_146_method_1_code (1 : Nat) (Option.none : Option Jvm.ClassFile.FieldType), Jvm.Cond.code ({ cls := "java/lang/Object", name := "<init>", desc := "()V" } : Jvm.MethodName) object_method_1_code (1 : Nat) (Option.none : Option Jvm.ClassFile.FieldType), Jvm.Cond.code ({ cls := "com/example/tracegauge/tracegauge/TallyAddPinLaw", name := "fill", desc := "(Lcom/example/tracegauge/tracegauge/TraceTokens$Tally;JJJJ)V" } : Jvm.MethodName) method_3_code (9 : Nat) (Option.none : Option Jvm.ClassFile.FieldType), Jvm.Cond.code ({ cls := "com/example/tracegauge/tracegauge/TraceTokens$Tally", name := "add", desc := "(Lcom/example/tracegauge/tracegauge/TraceTokens$Tally;J)V" } : Jvm.MethodName) prog_146_method_2_code (4 : Nat) (Option.none : Option Jvm.ClassFile.FieldType), Jvm.Cond.code ({ cls := "com/example/tracegauge/tracegauge/TallyAddPinLaw", name := "same", desc := "(Lcom/example/tracegauge/tracegauge/TraceTokens$Tally;Lcom/example/tracegauge/tracegauge/TraceTokens$Tally;)Z" } : Jvm.MethodName) method_4_code (2 : Nat) (Option.some Jvm.ClassFile.FieldType.boolean)]
set_option maxRecDepth 65536 in
theorem codes_eq : words1.filter isCode = codes1 := rfl
theorem w_codes : ∀ c ∈ words1.filter isCode, c.before args0 about1 = true := by
  rw [codes_eq]
  intro c hc
  simp only [codes1, List.mem_cons, List.not_mem_nil, or_false] at hc
  rcases hc with rfl | rfl | rfl | rfl | rfl | rfl
  · exact w_c0
  · exact w_c1
  · exact w_c2
  · exact w_c3
  · exact w_c4
  · exact w_c5
set_option maxRecDepth 65536 in
theorem w_t1 : (words1.take 24).all (fun c => isCode c || c.before args0 about1) = true := by decide +kernel
set_option maxRecDepth 65536 in
theorem w_t2 : (words1.drop 24).all (fun c => isCode c || c.before args0 about1) = true := by decide +kernel
theorem w_tables : (allAtoms (Jvm.Cond.code x code maxLocals ret :: tables_1)).before args0 about1 = true := by
  rw [allAtoms_all]
  show words1.all (fun c => c.before args0 about1) = true
  refine all_split ?_ w_codes
  rw [← List.take_append_drop 24 words1, List.all_append, w_t1, w_t2]
  rfl
set_option maxRecDepth 65536 in
theorem w_case : (Jvm.Cond.and given_1 narrow_1).before args0 about1 = true := by decide +kernel
theorem w_applies : (headSpec (Jvm.Cond.code x code maxLocals ret :: tables_1) room_1).applies x e0.platform about1 = true :=
  (Spec.applies_iff w_frames).mpr ⟨w_running, w_runnable, w_alone, w_named, w_hears, w_ripe, w_room, w_tables⟩
theorem atStart : AtStart classFile x code maxLocals ret World_1 tables_1 room_1 Calls_1 rest_1 Pre_1 launch0 p0 e0 about1 theMethod args0 below0 :=
  ⟨lists_1, trivial, launch0.admits_env _ _ _, launch0.least_env, fairChoices_fair.cas, fairChoices_fair.clock, w_frames, w_args, w_heap, w_applies, trivial, trivial, w_case⟩
end start1
theorem witness_1 : WitnessClaimed_1 := ⟨start1.p0, start1.e0, start1.about1, start1.theMethod, start1.args0, start1.below0, start1.atStart⟩
end Jvm.Pilot.@@N@@
