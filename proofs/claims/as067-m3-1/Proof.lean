import JvmDerived
import JvmDerived.Pilot.@@N@@Statement
import JvmDerived.Pilot.@@N@@Code
set_option linter.unusedVariables false
set_option linter.unusedSimpArgs false
@@BLOCK:NumsL.lean.txt@@
namespace Jvm.Pilot.@@N@@
open Jvm Jvm.ClassFile Sem Op Lib Jvm.Free Jvm.Stand Jvm.LawKit Jvm.RoadKit Bundle Jvm.Pilot.@@N@@.Jvm.D
theorem own_pn_law : plainName "com/example/rawmark/rawmark/io/FixedIntegerOfPinLaw" = true := by first | (simp [plainName, overriddenIn]; done) | decide +kernel
theorem own_pn_of : plainName "com/example/rawmark/rawmark/io/Format$FixedInteger" = true := by first | (simp [plainName, overriddenIn]; done) | decide +kernel
theorem own_pn_expected : plainName "com/example/rawmark/rawmark/io/FixedIntegerOfPinLaw" = true := by first | (simp [plainName, overriddenIn]; done) | decide +kernel
def own_Know (Z : State) (h : Heap) (w0 : Addr) (cl0 : Cell) (w1 : Addr) (w2 : Addr) (w3 : Addr) (w4 : Addr) (w5 : Addr) (w6 : Addr) (w7 : Addr) (w8 : Addr) : Prop :=
  Sta Z h "com/example/rawmark/rawmark/io/Format$FixedInteger" "IN_ORDER" "[Lcom/example/rawmark/rawmark/io/Format$FixedInteger;" (.ref w0) ∧
  Arr Z h w0 cl0 (.object "com/example/rawmark/rawmark/io/Format$FixedInteger") ∧
  Sta Z h "com/example/rawmark/rawmark/io/Format$FixedInteger" "INT8" "Lcom/example/rawmark/rawmark/io/Format$FixedInteger;" (.ref w1) ∧
  Exa Z h w1 "com/example/rawmark/rawmark/io/Format$FixedInteger" ∧
  Sta Z h "com/example/rawmark/rawmark/io/Format$FixedInteger" "INT64" "Lcom/example/rawmark/rawmark/io/Format$FixedInteger;" (.ref w2) ∧
  Exa Z h w2 "com/example/rawmark/rawmark/io/Format$FixedInteger" ∧
  Sta Z h "com/example/rawmark/rawmark/io/Format$FixedInteger" "UINT32" "Lcom/example/rawmark/rawmark/io/Format$FixedInteger;" (.ref w3) ∧
  Exa Z h w3 "com/example/rawmark/rawmark/io/Format$FixedInteger" ∧
  Sta Z h "com/example/rawmark/rawmark/io/Format$FixedInteger" "UINT64" "Lcom/example/rawmark/rawmark/io/Format$FixedInteger;" (.ref w4) ∧
  Exa Z h w4 "com/example/rawmark/rawmark/io/Format$FixedInteger" ∧
  Sta Z h "com/example/rawmark/rawmark/io/Format$FixedInteger" "INT32" "Lcom/example/rawmark/rawmark/io/Format$FixedInteger;" (.ref w5) ∧
  Exa Z h w5 "com/example/rawmark/rawmark/io/Format$FixedInteger" ∧
  Sta Z h "com/example/rawmark/rawmark/io/Format$FixedInteger" "INT16" "Lcom/example/rawmark/rawmark/io/Format$FixedInteger;" (.ref w6) ∧
  Exa Z h w6 "com/example/rawmark/rawmark/io/Format$FixedInteger" ∧
  Sta Z h "com/example/rawmark/rawmark/io/Format$FixedInteger" "UINT8" "Lcom/example/rawmark/rawmark/io/Format$FixedInteger;" (.ref w7) ∧
  Exa Z h w7 "com/example/rawmark/rawmark/io/Format$FixedInteger" ∧
  Sta Z h "com/example/rawmark/rawmark/io/Format$FixedInteger" "UINT16" "Lcom/example/rawmark/rawmark/io/Format$FixedInteger;" (.ref w8) ∧
  Exa Z h w8 "com/example/rawmark/rawmark/io/Format$FixedInteger" ∧
  (¬ ((0 : Int32) < 0 ∨ cl0.slots.size ≤ ((0 : Int32)).toNatClampNeg) ∧ cl0.slots[((0 : Int32)).toNatClampNeg]? = some (.ref w1)) ∧
  Fld Z h w1 "com/example/rawmark/rawmark/io/Format$FixedInteger" "bits" "I" (.int (8 : Int32)) ∧
  Fld Z h w1 "com/example/rawmark/rawmark/io/Format$FixedInteger" "signed" "Z" (.int (1 : Int32)) ∧
  (¬ ((3 : Int32) < 0 ∨ cl0.slots.size ≤ ((3 : Int32)).toNatClampNeg) ∧ cl0.slots[((3 : Int32)).toNatClampNeg]? = some (.ref w2)) ∧
  Fld Z h w2 "com/example/rawmark/rawmark/io/Format$FixedInteger" "bits" "I" (.int (64 : Int32)) ∧
  Fld Z h w2 "com/example/rawmark/rawmark/io/Format$FixedInteger" "signed" "Z" (.int (1 : Int32)) ∧
  (¬ ((6 : Int32) < 0 ∨ cl0.slots.size ≤ ((6 : Int32)).toNatClampNeg) ∧ cl0.slots[((6 : Int32)).toNatClampNeg]? = some (.ref w3)) ∧
  Fld Z h w3 "com/example/rawmark/rawmark/io/Format$FixedInteger" "bits" "I" (.int (32 : Int32)) ∧
  Fld Z h w3 "com/example/rawmark/rawmark/io/Format$FixedInteger" "signed" "Z" (.int (0 : Int32)) ∧
  (¬ ((7 : Int32) < 0 ∨ cl0.slots.size ≤ ((7 : Int32)).toNatClampNeg) ∧ cl0.slots[((7 : Int32)).toNatClampNeg]? = some (.ref w4)) ∧
  Fld Z h w4 "com/example/rawmark/rawmark/io/Format$FixedInteger" "bits" "I" (.int (64 : Int32)) ∧
  Fld Z h w4 "com/example/rawmark/rawmark/io/Format$FixedInteger" "signed" "Z" (.int (0 : Int32)) ∧
  (¬ ((2 : Int32) < 0 ∨ cl0.slots.size ≤ ((2 : Int32)).toNatClampNeg) ∧ cl0.slots[((2 : Int32)).toNatClampNeg]? = some (.ref w5)) ∧
  Fld Z h w5 "com/example/rawmark/rawmark/io/Format$FixedInteger" "bits" "I" (.int (32 : Int32)) ∧
  Fld Z h w5 "com/example/rawmark/rawmark/io/Format$FixedInteger" "signed" "Z" (.int (1 : Int32)) ∧
  (¬ ((1 : Int32) < 0 ∨ cl0.slots.size ≤ ((1 : Int32)).toNatClampNeg) ∧ cl0.slots[((1 : Int32)).toNatClampNeg]? = some (.ref w6)) ∧
  Fld Z h w6 "com/example/rawmark/rawmark/io/Format$FixedInteger" "bits" "I" (.int (16 : Int32)) ∧
  Fld Z h w6 "com/example/rawmark/rawmark/io/Format$FixedInteger" "signed" "Z" (.int (1 : Int32)) ∧
  (¬ ((4 : Int32) < 0 ∨ cl0.slots.size ≤ ((4 : Int32)).toNatClampNeg) ∧ cl0.slots[((4 : Int32)).toNatClampNeg]? = some (.ref w7)) ∧
  Fld Z h w7 "com/example/rawmark/rawmark/io/Format$FixedInteger" "bits" "I" (.int (8 : Int32)) ∧
  Fld Z h w7 "com/example/rawmark/rawmark/io/Format$FixedInteger" "signed" "Z" (.int (0 : Int32)) ∧
  (¬ ((5 : Int32) < 0 ∨ cl0.slots.size ≤ ((5 : Int32)).toNatClampNeg) ∧ cl0.slots[((5 : Int32)).toNatClampNeg]? = some (.ref w8)) ∧
  Fld Z h w8 "com/example/rawmark/rawmark/io/Format$FixedInteger" "bits" "I" (.int (16 : Int32)) ∧
  Fld Z h w8 "com/example/rawmark/rawmark/io/Format$FixedInteger" "signed" "Z" (.int (0 : Int32))
def own_Q (r : Option Value) (h0 : Heap) (n0 : Nat) (v : Option Value) (h : Heap) (L : List Loc) : Prop := v = r ∧ Fr n0 L ∧ h = h0
def own_QL (n0 : Nat) (v : Option Value) (L : List Loc) : Prop := v = some (.int (1 : Int32)) ∧ Fr n0 L
theorem own_h {c : Jvm.Cond} {args : Array Value} {s : State} (h : c.value args s none s [] = some true) : c.holds args s none s [] = true := beq_iff_eq.mpr h
theorem own_ef_law (m : MethodId) (x0 : Int32) : entryFrame m #[(.int x0)] maxLocals = mkF m 0 #[.val (.int x0), .unset, .unset, .unset] [] := by first | (simp [entryFrame, mkF, argsToLocals, Value.category, maxLocals]; done) | rfl
theorem d_of_0 : decode prog_35_method_4_code 0 = .ok (.getstatic 59, 3) := by decide +kernel
theorem d_of_3 : decode prog_35_method_4_code 3 = .ok (.iload_n 0, 1) := by decide +kernel
theorem d_of_4 : decode prog_35_method_4_code 4 = .ok (.aaload, 1) := by decide +kernel
theorem d_of_5 : decode prog_35_method_4_code 5 = .ok (.areturn, 1) := by decide +kernel
theorem own_ef_of (m : MethodId) (x0 : Int32) : entryFrame m #[(.int x0)] 1 = mkF m 0 #[.val (.int x0)] [] := by first | (simp [entryFrame, mkF, argsToLocals, Value.category]; done) | rfl
set_option maxRecDepth 65536 in
set_option maxHeartbeats 40000000 in
theorem own_of_0 (l : Launch) (Z : State) (a0 : Array Value) (hw : ∀ d ∈ tables_1, d.before a0 Z = true) (ws : List Jvm.Cond) (w0 : Addr) (cl0 : Cell) (w1 : Addr) (w2 : Addr) (w3 : Addr) (w4 : Addr) (w5 : Addr) (w6 : Addr) (w7 : Addr) (w8 : Addr) (h0 : Heap) (n0 : Nat) (Z0 : n0 ≤ h0.size) (K : own_Know Z h0 w0 cl0 w1 w2 w3 w4 w5 w6 w7 w8) :
    MetFree l (⟨"com/example/rawmark/rawmark/io/Format$FixedInteger", "of", "(I)Lcom/example/rawmark/rawmark/io/Format$FixedInteger;"⟩ : MethodName) (head1 (Jvm.Cond.code (⟨"com/example/rawmark/rawmark/io/Format$FixedInteger", "of", "(I)Lcom/example/rawmark/rawmark/io/Format$FixedInteger;"⟩ : MethodName) prog_35_method_4_code 1 (some (.object "com/example/rawmark/rawmark/io/Format$FixedInteger")) :: ws) ({ frames := 0, cells := 0, slots := 0, locals := 0 } : Room)) (fun a U => a = #[(.int (0 : Int32))] ∧ Z.Warmed39 U.vm ∧ U.heap = h0) (fun _ _ _ _ _ => True) (fun _ U o U' => ∃ v L, o = .returned v ∧ own_Q (some (.ref w1)) h0 n0 v U'.heap L ∧ FrameEnd U o U' L ({ frames := 0, cells := 0, slots := 0, locals := 0 } : Room).cells ({ frames := 0, cells := 0, slots := 0, locals := 0 } : Room).slots) := by
  obtain ⟨S0, A0, S1, E1, S2, E2, S3, E3, S4, E4, S5, E5, S6, E6, S7, E7, S8, E8, B0, F1_bits, F1_signed, B3, F2_bits, F2_signed, B6, F3_bits, F3_signed, B7, F4_bits, F4_signed, B2, F5_bits, F5_signed, B1, F6_bits, F6_signed, B4, F7_bits, F7_signed, B5, F8_bits, F8_signed⟩ := id K
  refine MetFree.of_bodySF (plainFor_of_name own_pn_of) hisR ?_
  intro p e s m args below meth c s₁ Bd hml0 hP hK
  obtain ⟨rfl, hZ, hh⟩ := hP
  have hx := Bd.exec
  have hby := Bd.bytes
  have hml : c.maxLocals = 1 := hml0
  have hown : s.vm.findClass "com/example/rawmark/rawmark/io/Format$FixedInteger" = some m.cls := findClass_of_methodNamed Bd.named
  have X0 : Stand p l e ({ frames := 0, cells := 0, slots := 0, locals := 0 } : Room) s m #[(.int (0 : Int32))] below meth c s₁ [] 0 0 := Stand.of_body Bd
  have e0 : s₁.heap = h0 := by rw [← hh, Bd.state]; rfl
  have N0 := Fr.nil n0
  have pre0 : ∀ t, Steps p.tables e below (s₁.setTop (mkF m 0 #[.val (.int (0 : Int32))] [])) t → Steps p.tables e below (s₁.setTop (entryFrame m #[(.int (0 : Int32))] 1)) t := fun t k => castTop (own_ef_of m (0 : Int32)) k
  obtain ⟨T1, X1, e1, st1⟩ := getS2 X0 hx hZ hown (host := "") (Or.inl (hw _ (List.mem_of_getElem? (i := 4) rfl))) Via.refl e0 S0 (g := (mkF m 0 #[.val (.int (0 : Int32))] [])) rfl (hb hby d_of_0)
  obtain ⟨fs, hr, hrun, hended, hW, hsame⟩ := X1.leave (v := some (.ref w1)) (fun h => by rw [Bd.returns] at h; cases h)
  refine ⟨_, _, pre0 _ ?_, hrun, hended, _, _, rfl, ?_, ⟨_, rfl⟩, hW, hsame.mono (by decide) (by decide)⟩
  · show Steps p.tables e below (s₁.setTop (mkF m 0 #[.val (.int (0 : Int32))] [])) _
    refine st1 _ ?_
    show Steps p.tables e below (T1.setTop (mkF m 3 #[.val (.int (0 : Int32))] [(.ref w0)])) _
    refine XS.iloadN X1.here hx rfl (hb hby d_of_3) rfl ?_
    show Steps p.tables e below (T1.setTop (mkF m 4 #[.val (.int (0 : Int32))] [(.int (0 : Int32)), (.ref w0)])) _
    refine X1.aaload hx (j := (0 : Int32)) (v := (.ref w1)) (by rw [e1]; exact A0.1) (State.isArrayOf_alike hZ.alike A0.2.1) rfl A0.2.2 B0.1 B0.2 (g := (mkF m 4 #[.val (.int (0 : Int32))] [(.int (0 : Int32)), (.ref w0)])) rfl rfl (hb hby d_of_4) _ ?_
    show Steps p.tables e below (T1.setTop (mkF m 5 #[.val (.int (0 : Int32))] [(.ref w1)])) _
    jvm_step X1.here [X1.here.top, hx, (hb hby d_of_5), X1.method', Bd.returns, Value.isRef, FieldType.isReference]
    first | (intro acts; rw [hr _ acts rfl rfl rfl]) | rw [hr _ _ rfl rfl rfl]
    exact Steps.refl _
  · show own_Q _ h0 n0 _ T1.heap _
    rw [e1]
    exact ⟨rfl, N0, rfl⟩
theorem own_pd0 : parseMethodDescriptor "(I)Lcom/example/rawmark/rawmark/io/Format$FixedInteger;" = some ⟨[.int], some (.object "com/example/rawmark/rawmark/io/Format$FixedInteger")⟩ := by decide +kernel
theorem d_expected_0 : decode method_2_code 0 = .ok (.iload_n 0, 1) := by decide +kernel
theorem d_expected_1 : decode method_2_code 1 = .ok (.iconst 4, 1) := by decide +kernel
theorem d_expected_2 : decode method_2_code 2 = .ok (.if_icmp .ge 45, 3) := by decide +kernel
theorem d_expected_5 : decode method_2_code 5 = .ok (.iload_n 0, 1) := by decide +kernel
theorem d_expected_6 : decode method_2_code 6 = .ok (.iconst 2, 1) := by decide +kernel
theorem d_expected_7 : decode method_2_code 7 = .ok (.if_icmp .ge 21, 3) := by decide +kernel
theorem d_expected_10 : decode method_2_code 10 = .ok (.iload_n 0, 1) := by decide +kernel
theorem d_expected_11 : decode method_2_code 11 = .ok (.ifCond .ne 10, 3) := by decide +kernel
theorem d_expected_14 : decode method_2_code 14 = .ok (.getstatic 7, 3) := by decide +kernel
theorem d_expected_17 : decode method_2_code 17 = .ok (.astore_n 1, 1) := by decide +kernel
theorem d_expected_18 : decode method_2_code 18 = .ok (.goto 71, 3) := by decide +kernel
theorem d_expected_21 : decode method_2_code 21 = .ok (.getstatic 13, 3) := by decide +kernel
theorem d_expected_24 : decode method_2_code 24 = .ok (.astore_n 1, 1) := by decide +kernel
theorem d_expected_25 : decode method_2_code 25 = .ok (.goto 64, 3) := by decide +kernel
theorem d_expected_28 : decode method_2_code 28 = .ok (.iload_n 0, 1) := by decide +kernel
theorem d_expected_29 : decode method_2_code 29 = .ok (.iconst 2, 1) := by decide +kernel
theorem d_expected_30 : decode method_2_code 30 = .ok (.if_icmp .ne 10, 3) := by decide +kernel
theorem d_expected_33 : decode method_2_code 33 = .ok (.getstatic 16, 3) := by decide +kernel
theorem d_expected_36 : decode method_2_code 36 = .ok (.astore_n 1, 1) := by decide +kernel
theorem d_expected_37 : decode method_2_code 37 = .ok (.goto 52, 3) := by decide +kernel
theorem d_expected_40 : decode method_2_code 40 = .ok (.getstatic 19, 3) := by decide +kernel
theorem d_expected_43 : decode method_2_code 43 = .ok (.astore_n 1, 1) := by decide +kernel
theorem d_expected_44 : decode method_2_code 44 = .ok (.goto 45, 3) := by decide +kernel
theorem d_expected_47 : decode method_2_code 47 = .ok (.iload_n 0, 1) := by decide +kernel
theorem d_expected_48 : decode method_2_code 48 = .ok (.bipush 6, 2) := by decide +kernel
theorem d_expected_50 : decode method_2_code 50 = .ok (.if_icmp .ge 22, 3) := by decide +kernel
theorem d_expected_53 : decode method_2_code 53 = .ok (.iload_n 0, 1) := by decide +kernel
theorem d_expected_54 : decode method_2_code 54 = .ok (.iconst 4, 1) := by decide +kernel
theorem d_expected_55 : decode method_2_code 55 = .ok (.if_icmp .ne 10, 3) := by decide +kernel
theorem d_expected_58 : decode method_2_code 58 = .ok (.getstatic 22, 3) := by decide +kernel
theorem d_expected_61 : decode method_2_code 61 = .ok (.astore_n 1, 1) := by decide +kernel
theorem d_expected_62 : decode method_2_code 62 = .ok (.goto 27, 3) := by decide +kernel
theorem d_expected_65 : decode method_2_code 65 = .ok (.getstatic 25, 3) := by decide +kernel
theorem d_expected_68 : decode method_2_code 68 = .ok (.astore_n 1, 1) := by decide +kernel
theorem d_expected_69 : decode method_2_code 69 = .ok (.goto 20, 3) := by decide +kernel
theorem d_expected_72 : decode method_2_code 72 = .ok (.iload_n 0, 1) := by decide +kernel
theorem d_expected_73 : decode method_2_code 73 = .ok (.bipush 6, 2) := by decide +kernel
theorem d_expected_75 : decode method_2_code 75 = .ok (.if_icmp .ne 10, 3) := by decide +kernel
theorem d_expected_78 : decode method_2_code 78 = .ok (.getstatic 28, 3) := by decide +kernel
theorem d_expected_81 : decode method_2_code 81 = .ok (.astore_n 1, 1) := by decide +kernel
theorem d_expected_82 : decode method_2_code 82 = .ok (.goto 7, 3) := by decide +kernel
theorem d_expected_85 : decode method_2_code 85 = .ok (.getstatic 31, 3) := by decide +kernel
theorem d_expected_88 : decode method_2_code 88 = .ok (.astore_n 1, 1) := by decide +kernel
theorem d_expected_89 : decode method_2_code 89 = .ok (.aload_n 1, 1) := by decide +kernel
theorem d_expected_90 : decode method_2_code 90 = .ok (.areturn, 1) := by decide +kernel
theorem own_ef_expected (m : MethodId) (x0 : Int32) : entryFrame m #[(.int x0)] 2 = mkF m 0 #[.val (.int x0), .unset] [] := by first | (simp [entryFrame, mkF, argsToLocals, Value.category]; done) | rfl
set_option maxRecDepth 65536 in
set_option maxHeartbeats 40000000 in
theorem own_expected_0 (l : Launch) (Z : State) (a0 : Array Value) (hw : ∀ d ∈ tables_1, d.before a0 Z = true) (ws : List Jvm.Cond) (w0 : Addr) (cl0 : Cell) (w1 : Addr) (w2 : Addr) (w3 : Addr) (w4 : Addr) (w5 : Addr) (w6 : Addr) (w7 : Addr) (w8 : Addr) (h0 : Heap) (n0 : Nat) (Z0 : n0 ≤ h0.size) (K : own_Know Z h0 w0 cl0 w1 w2 w3 w4 w5 w6 w7 w8) :
    MetFree l (⟨"com/example/rawmark/rawmark/io/FixedIntegerOfPinLaw", "expected", "(I)Lcom/example/rawmark/rawmark/io/Format$FixedInteger;"⟩ : MethodName) (head1 (Jvm.Cond.code (⟨"com/example/rawmark/rawmark/io/FixedIntegerOfPinLaw", "expected", "(I)Lcom/example/rawmark/rawmark/io/Format$FixedInteger;"⟩ : MethodName) method_2_code 2 (some (.object "com/example/rawmark/rawmark/io/Format$FixedInteger")) :: ws) ({ frames := 0, cells := 0, slots := 0, locals := 0 } : Room)) (fun a U => a = #[(.int (0 : Int32))] ∧ Z.Warmed39 U.vm ∧ U.heap = h0) (fun _ _ _ _ _ => True) (fun _ U o U' => ∃ v L, o = .returned v ∧ own_Q (some (.ref w1)) h0 n0 v U'.heap L ∧ FrameEnd U o U' L ({ frames := 0, cells := 0, slots := 0, locals := 0 } : Room).cells ({ frames := 0, cells := 0, slots := 0, locals := 0 } : Room).slots) := by
  obtain ⟨S0, A0, S1, E1, S2, E2, S3, E3, S4, E4, S5, E5, S6, E6, S7, E7, S8, E8, B0, F1_bits, F1_signed, B3, F2_bits, F2_signed, B6, F3_bits, F3_signed, B7, F4_bits, F4_signed, B2, F5_bits, F5_signed, B1, F6_bits, F6_signed, B4, F7_bits, F7_signed, B5, F8_bits, F8_signed⟩ := id K
  refine MetFree.of_bodySF (plainFor_of_name own_pn_expected) hisR ?_
  intro p e s m args below meth c s₁ Bd hml0 hP hK
  obtain ⟨rfl, hZ, hh⟩ := hP
  have hx := Bd.exec
  have hby := Bd.bytes
  have hml : c.maxLocals = 2 := hml0
  have hown : s.vm.findClass "com/example/rawmark/rawmark/io/FixedIntegerOfPinLaw" = some m.cls := findClass_of_methodNamed Bd.named
  have X0 : Stand p l e ({ frames := 0, cells := 0, slots := 0, locals := 0 } : Room) s m #[(.int (0 : Int32))] below meth c s₁ [] 0 0 := Stand.of_body Bd
  have e0 : s₁.heap = h0 := by rw [← hh, Bd.state]; rfl
  have N0 := Fr.nil n0
  have pre0 : ∀ t, Steps p.tables e below (s₁.setTop (mkF m 0 #[.val (.int (0 : Int32)), .unset] [])) t → Steps p.tables e below (s₁.setTop (entryFrame m #[(.int (0 : Int32))] 2)) t := fun t k => castTop (own_ef_expected m (0 : Int32)) k
  obtain ⟨T1, X1, e1, st1⟩ := getS2 X0 hx hZ hown (host := "") (Or.inl (hw _ (List.mem_of_getElem? (i := 11) rfl))) Via.refl e0 S1 (g := (mkF m 14 #[.val (.int (0 : Int32)), .unset] [])) rfl (hb hby d_expected_14)
  obtain ⟨fs, hr, hrun, hended, hW, hsame⟩ := X1.leave (v := some (.ref w1)) (fun h => by rw [Bd.returns] at h; cases h)
  refine ⟨_, _, pre0 _ ?_, hrun, hended, _, _, rfl, ?_, ⟨_, rfl⟩, hW, hsame.mono (by decide) (by decide)⟩
  · show Steps p.tables e below (s₁.setTop (mkF m 0 #[.val (.int (0 : Int32)), .unset] [])) _
    refine XS.iloadN X0.here hx rfl (hb hby d_expected_0) rfl ?_
    show Steps p.tables e below (s₁.setTop (mkF m 1 #[.val (.int (0 : Int32)), .unset] [(.int (0 : Int32))])) _
    refine XS.iconst X0.here hx rfl (hb hby d_expected_1) ?_
    show Steps p.tables e below (s₁.setTop (mkF m 2 #[.val (.int (0 : Int32)), .unset] [(.int (4 : Int32)), (.int (0 : Int32))])) _
    refine XS.icmpNo X0.here hx rfl (hb hby d_expected_2) rfl (by decide) ?_
    show Steps p.tables e below (s₁.setTop (mkF m 5 #[.val (.int (0 : Int32)), .unset] [])) _
    refine XS.iloadN X0.here hx rfl (hb hby d_expected_5) rfl ?_
    show Steps p.tables e below (s₁.setTop (mkF m 6 #[.val (.int (0 : Int32)), .unset] [(.int (0 : Int32))])) _
    refine XS.iconst X0.here hx rfl (hb hby d_expected_6) ?_
    show Steps p.tables e below (s₁.setTop (mkF m 7 #[.val (.int (0 : Int32)), .unset] [(.int (2 : Int32)), (.int (0 : Int32))])) _
    refine XS.icmpNo X0.here hx rfl (hb hby d_expected_7) rfl (by decide) ?_
    show Steps p.tables e below (s₁.setTop (mkF m 10 #[.val (.int (0 : Int32)), .unset] [])) _
    refine XS.iloadN X0.here hx rfl (hb hby d_expected_10) rfl ?_
    show Steps p.tables e below (s₁.setTop (mkF m 11 #[.val (.int (0 : Int32)), .unset] [(.int (0 : Int32))])) _
    refine XS.ifNo X0.here hx rfl (hb hby d_expected_11) rfl (by decide) ?_
    show Steps p.tables e below (s₁.setTop (mkF m 14 #[.val (.int (0 : Int32)), .unset] [])) _
    refine st1 _ ?_
    show Steps p.tables e below (T1.setTop (mkF m 17 #[.val (.int (0 : Int32)), .unset] [(.ref w1)])) _
    refine XS.astoreN X1.here hx rfl (hb hby d_expected_17) rfl rfl (l' := #[.val (.int (0 : Int32)), .val (.ref w1)]) rfl ?_
    show Steps p.tables e below (T1.setTop (mkF m 18 #[.val (.int (0 : Int32)), .val (.ref w1)] [])) _
    refine XS.goto X1.here hx rfl (pc0 := 18) (pc' := 89) rfl (hb hby d_expected_18) (by decide) (by decide) ?_
    show Steps p.tables e below (T1.setTop (mkF m 89 #[.val (.int (0 : Int32)), .val (.ref w1)] [])) _
    refine XS.aloadN X1.here hx rfl (hb hby d_expected_89) rfl rfl ?_
    show Steps p.tables e below (T1.setTop (mkF m 90 #[.val (.int (0 : Int32)), .val (.ref w1)] [(.ref w1)])) _
    jvm_step X1.here [X1.here.top, hx, (hb hby d_expected_90), X1.method', Bd.returns, Value.isRef, FieldType.isReference]
    first | (intro acts; rw [hr _ acts rfl rfl rfl]) | rw [hr _ _ rfl rfl rfl]
    exact Steps.refl _
  · show own_Q _ h0 n0 _ T1.heap _
    rw [e1]
    exact ⟨rfl, N0, rfl⟩
set_option maxRecDepth 65536 in
set_option maxHeartbeats 40000000 in
theorem own_law_0 (l : Launch) (Z : State) (a0 : Array Value) (hw : ∀ d ∈ tables_1, d.before a0 Z = true) (ws : List Jvm.Cond) (w0 : Addr) (cl0 : Cell) (w1 : Addr) (w2 : Addr) (w3 : Addr) (w4 : Addr) (w5 : Addr) (w6 : Addr) (w7 : Addr) (w8 : Addr) (h0 : Heap) (n0 : Nat) (Z0 : n0 ≤ h0.size) (K : own_Know Z h0 w0 cl0 w1 w2 w3 w4 w5 w6 w7 w8) (p1 : Int32) (hi : (p1 &&& (7 : Int32)) = (0 : Int32)) :
    MetFree l x (head1 (Jvm.Cond.code x code maxLocals ret :: ws) room_1) (fun a U => a = #[(.int p1)] ∧ Z.Warmed39 U.vm ∧ U.heap = h0) (fun _ _ _ _ _ => True) (fun _ U o U' => ∃ v L, o = .returned v ∧ own_QL n0 v L ∧ FrameEnd U o U' L room_1.cells room_1.slots) := by
  obtain ⟨S0, A0, S1, E1, S2, E2, S3, E3, S4, E4, S5, E5, S6, E6, S7, E7, S8, E8, B0, F1_bits, F1_signed, B3, F2_bits, F2_signed, B6, F3_bits, F3_signed, B7, F4_bits, F4_signed, B2, F5_bits, F5_signed, B1, F6_bits, F6_signed, B4, F7_bits, F7_signed, B5, F8_bits, F8_signed⟩ := id K
  refine MetFree.of_bodySF (plainFor_of_name own_pn_law) hisR ?_
  intro p e s m args below meth c s₁ Bd hml0 hP hK
  obtain ⟨rfl, hZ, hh⟩ := hP
  have hx := Bd.exec
  have hby := Bd.bytes
  have hml : c.maxLocals = 4 := hml0
  have hown : s.vm.findClass "com/example/rawmark/rawmark/io/FixedIntegerOfPinLaw" = some m.cls := findClass_of_methodNamed Bd.named
  have X0 : Stand p l e room_1 s m #[(.int p1)] below meth c s₁ [] 0 0 := Stand.of_body Bd
  have e0 : s₁.heap = h0 := by rw [← hh, Bd.state]; rfl
  have N0 := Fr.nil n0
  have pre0 : ∀ t, Steps p.tables e below (s₁.setTop (mkF m 0 #[.val (.int p1), .unset, .unset, .unset] [])) t → Steps p.tables e below (s₁.setTop (entryFrame m #[(.int p1)] maxLocals)) t := fun t k => castTop (own_ef_law m p1) k
  obtain ⟨_, _, ⟨T1, L1, k1, n1⟩, -, X1, ⟨Lc1, hQ1, l1, y1, z1⟩, st1⟩ := Jvm.LawKit.callS X0 hx (y := (⟨"com/example/rawmark/rawmark/io/Format$FixedInteger", "of", "(I)Lcom/example/rawmark/rawmark/io/Format$FixedInteger;"⟩ : MethodName)) hown (mvT hZ (hw _ (List.mem_of_getElem? (i := 0) rfl))) (mvT hZ (hw _ (List.mem_of_getElem? (i := 1) rfl))) (mvT hZ (hw _ (List.mem_of_getElem? (i := 2) rfl))) (mvT hZ (hw _ (List.mem_of_getElem? (i := 3) rfl))) (by decide) (backOf (W := 0) (own_of_0 l Z a0 hw [] w0 cl0 w1 w2 w3 w4 w5 w6 w7 w8 h0 n0 Z0 K) hZ (hw _ (List.mem_of_getElem? (i := 3) rfl)) (hw _ (List.mem_of_getElem? (i := 2) rfl)) (by decide) (by decide)) (g := (mkF m 6 #[.val (.int p1), .val (.int (0 : Int32)), .unset, .unset] [(.int (0 : Int32))])) rfl (by rw [hml]; rfl) (argsL := [(.int (0 : Int32))]) (rest := []) (lenOf own_pd0 rfl) rfl (by show 2 * 0 + _ ≤ _; exact Nat.le_of_eq rfl) (hb hby at_6) (fun _ _ => ⟨rfl, e0, (by decide : 0 + 0 ≤ _), (by decide : 0 + 0 ≤ _)⟩)
  dsimp only [Pt.U, Pt.locs, Pt.cells, Pt.slots] at X1 l1 y1 z1 st1 hQ1
  subst l1 y1 z1
  obtain ⟨rfl, N1q, e1⟩ := hQ1
  have N1 := Fr.app N0 N1q
  obtain ⟨_, _, ⟨T2, L2, k2, n2⟩, -, X2, ⟨Lc2, hQ2, l2, y2, z2⟩, st2⟩ := Jvm.LawKit.callS X1 hx (y := (⟨"com/example/rawmark/rawmark/io/FixedIntegerOfPinLaw", "expected", "(I)Lcom/example/rawmark/rawmark/io/Format$FixedInteger;"⟩ : MethodName)) hown (mvT hZ (hw _ (List.mem_of_getElem? (i := 7) rfl))) (mvT hZ (hw _ (List.mem_of_getElem? (i := 8) rfl))) (mvT hZ (hw _ (List.mem_of_getElem? (i := 9) rfl))) (mvT hZ (hw _ (List.mem_of_getElem? (i := 10) rfl))) (by decide) (backOf (W := 0) (own_expected_0 l Z a0 hw [] w0 cl0 w1 w2 w3 w4 w5 w6 w7 w8 h0 n0 Z0 K) hZ (hw _ (List.mem_of_getElem? (i := 10) rfl)) (hw _ (List.mem_of_getElem? (i := 9) rfl)) (by decide) (by decide)) (g := (mkF m 11 #[.val (.int p1), .val (.int (0 : Int32)), .val (.ref w1), .unset] [(.int (0 : Int32))])) rfl (by rw [hml]; rfl) (argsL := [(.int (0 : Int32))]) (rest := []) (lenOf own_pd0 rfl) rfl (by show 2 * 0 + _ ≤ _; exact Nat.le_of_eq rfl) (hb hby at_11) (fun _ _ => ⟨rfl, e1, (by decide : 0 + 0 ≤ _), (by decide : 0 + 0 ≤ _)⟩)
  dsimp only [Pt.U, Pt.locs, Pt.cells, Pt.slots] at X2 l2 y2 z2 st2 hQ2
  subst l2 y2 z2
  obtain ⟨rfl, N2q, e2⟩ := hQ2
  have N2 := Fr.app N1 N2q
  obtain ⟨T3, X3, e3, st3⟩ := getF X2 hx hZ hown (host := "") (Or.inl (hw _ (List.mem_of_getElem? (i := 12) rfl))) Via.refl e2 F1_bits (g := (mkF m 21 #[.val (.int p1), .val (.int (0 : Int32)), .val (.ref w1), .val (.ref w1)] [(.ref w1)])) rfl rfl (hb hby at_21)
  obtain ⟨T4, X4, e4, st4⟩ := getF X3 hx hZ hown (host := "") (Or.inl (hw _ (List.mem_of_getElem? (i := 14) rfl))) Via.refl e3 F1_signed (g := (mkF m 34 #[.val (.int p1), .val (.int (0 : Int32)), .val (.ref w1), .val (.ref w1)] [(.ref w1)])) rfl rfl (hb hby at_34)
  obtain ⟨fs, hr, hrun, hended, hW, hsame⟩ := X4.leave (v := some (.int (1 : Int32))) (fun h => by rw [Bd.returns] at h; cases h)
  refine ⟨_, _, pre0 _ ?_, hrun, hended, _, _, rfl, ?_, ⟨_, rfl⟩, hW, hsame.mono (by decide) (by decide)⟩
  · show Steps p.tables e below (s₁.setTop (mkF m 0 #[.val (.int p1), .unset, .unset, .unset] [])) _
    refine XS.iloadN X0.here hx rfl (hb hby at_0) rfl ?_
    show Steps p.tables e below (s₁.setTop (mkF m 1 #[.val (.int p1), .unset, .unset, .unset] [(.int p1)])) _
    refine XS.bipush X0.here hx rfl (hb hby at_1) ?_
    show Steps p.tables e below (s₁.setTop (mkF m 3 #[.val (.int p1), .unset, .unset, .unset] [(.int (7 : Int32)), (.int p1)])) _
    refine XS.iand X0.here hx rfl (hb hby at_3) rfl ?_
    show Steps p.tables e below (s₁.setTop (mkF m 4 #[.val (.int p1), .unset, .unset, .unset] [(.int (p1 &&& (7 : Int32)))])) _
    rw [hi]
    show Steps p.tables e below (s₁.setTop (mkF m 4 #[.val (.int p1), .unset, .unset, .unset] [(.int (0 : Int32))])) _
    refine XS.istoreN X0.here hx rfl (hb hby at_4) rfl (l' := #[.val (.int p1), .val (.int (0 : Int32)), .unset, .unset]) rfl ?_
    show Steps p.tables e below (s₁.setTop (mkF m 5 #[.val (.int p1), .val (.int (0 : Int32)), .unset, .unset] [])) _
    refine XS.iloadN X0.here hx rfl (hb hby at_5) rfl ?_
    show Steps p.tables e below (s₁.setTop (mkF m 6 #[.val (.int p1), .val (.int (0 : Int32)), .unset, .unset] [(.int (0 : Int32))])) _
    refine st1 _ ?_
    show Steps p.tables e below (T1.setTop (mkF m 9 #[.val (.int p1), .val (.int (0 : Int32)), .unset, .unset] [(.ref w1)])) _
    refine XS.astoreN X1.here hx rfl (hb hby at_9) rfl rfl (l' := #[.val (.int p1), .val (.int (0 : Int32)), .val (.ref w1), .unset]) rfl ?_
    show Steps p.tables e below (T1.setTop (mkF m 10 #[.val (.int p1), .val (.int (0 : Int32)), .val (.ref w1), .unset] [])) _
    refine XS.iloadN X1.here hx rfl (hb hby at_10) rfl ?_
    show Steps p.tables e below (T1.setTop (mkF m 11 #[.val (.int p1), .val (.int (0 : Int32)), .val (.ref w1), .unset] [(.int (0 : Int32))])) _
    refine st2 _ ?_
    show Steps p.tables e below (T2.setTop (mkF m 14 #[.val (.int p1), .val (.int (0 : Int32)), .val (.ref w1), .unset] [(.ref w1)])) _
    refine XS.astoreN X2.here hx rfl (hb hby at_14) rfl rfl (l' := #[.val (.int p1), .val (.int (0 : Int32)), .val (.ref w1), .val (.ref w1)]) rfl ?_
    show Steps p.tables e below (T2.setTop (mkF m 15 #[.val (.int p1), .val (.int (0 : Int32)), .val (.ref w1), .val (.ref w1)] [])) _
    refine XS.aloadN X2.here hx rfl (hb hby at_15) rfl rfl ?_
    show Steps p.tables e below (T2.setTop (mkF m 16 #[.val (.int p1), .val (.int (0 : Int32)), .val (.ref w1), .val (.ref w1)] [(.ref w1)])) _
    refine XS.aloadN X2.here hx rfl (hb hby at_16) rfl rfl ?_
    show Steps p.tables e below (T2.setTop (mkF m 17 #[.val (.int p1), .val (.int (0 : Int32)), .val (.ref w1), .val (.ref w1)] [(.ref w1), (.ref w1)])) _
    refine Jvm.RoadKit.acmp (g := (mkF m 17 #[.val (.int p1), .val (.int (0 : Int32)), .val (.ref w1), .val (.ref w1)] [(.ref w1), (.ref w1)])) X2 hx rfl rfl rfl (pc0 := 17) (pc' := 20) (same := true) rfl (hb hby at_17) rfl (decide_eq_true rfl) (by decide) (by decide) ?_
    show Steps p.tables e below (T2.setTop (mkF m 20 #[.val (.int p1), .val (.int (0 : Int32)), .val (.ref w1), .val (.ref w1)] [])) _
    refine XS.aloadN X2.here hx rfl (hb hby at_20) rfl rfl ?_
    show Steps p.tables e below (T2.setTop (mkF m 21 #[.val (.int p1), .val (.int (0 : Int32)), .val (.ref w1), .val (.ref w1)] [(.ref w1)])) _
    refine st3 _ ?_
    show Steps p.tables e below (T3.setTop (mkF m 24 #[.val (.int p1), .val (.int (0 : Int32)), .val (.ref w1), .val (.ref w1)] [(.int (8 : Int32))])) _
    refine XS.bipush X3.here hx rfl (hb hby at_24) ?_
    show Steps p.tables e below (T3.setTop (mkF m 26 #[.val (.int p1), .val (.int (0 : Int32)), .val (.ref w1), .val (.ref w1)] [(.int (8 : Int32)), (.int (8 : Int32))])) _
    refine XS.iloadN X3.here hx rfl (hb hby at_26) rfl ?_
    show Steps p.tables e below (T3.setTop (mkF m 27 #[.val (.int p1), .val (.int (0 : Int32)), .val (.ref w1), .val (.ref w1)] [(.int (0 : Int32)), (.int (8 : Int32)), (.int (8 : Int32))])) _
    refine XS.iconst X3.here hx rfl (hb hby at_27) ?_
    show Steps p.tables e below (T3.setTop (mkF m 28 #[.val (.int p1), .val (.int (0 : Int32)), .val (.ref w1), .val (.ref w1)] [(.int (3 : Int32)), (.int (0 : Int32)), (.int (8 : Int32)), (.int (8 : Int32))])) _
    refine XS.iand X3.here hx rfl (hb hby at_28) rfl ?_
    show Steps p.tables e below (T3.setTop (mkF m 29 #[.val (.int p1), .val (.int (0 : Int32)), .val (.ref w1), .val (.ref w1)] [(.int ((0 : Int32) &&& (3 : Int32))), (.int (8 : Int32)), (.int (8 : Int32))])) _
    rw [show (((0 : Int32) &&& (3 : Int32)) : Int32) = (0 : Int32) from by decide]
    show Steps p.tables e below (T3.setTop (mkF m 29 #[.val (.int p1), .val (.int (0 : Int32)), .val (.ref w1), .val (.ref w1)] [(.int (0 : Int32)), (.int (8 : Int32)), (.int (8 : Int32))])) _
    refine XS.ishl X3.here hx rfl (hb hby at_29) rfl ?_
    show Steps p.tables e below (T3.setTop (mkF m 30 #[.val (.int p1), .val (.int (0 : Int32)), .val (.ref w1), .val (.ref w1)] [(.int ((8 : Int32) <<< ((0 : Int32) &&& 31))), (.int (8 : Int32))])) _
    rw [show (((8 : Int32) <<< ((0 : Int32) &&& 31)) : Int32) = (8 : Int32) from by decide]
    show Steps p.tables e below (T3.setTop (mkF m 30 #[.val (.int p1), .val (.int (0 : Int32)), .val (.ref w1), .val (.ref w1)] [(.int (8 : Int32)), (.int (8 : Int32))])) _
    refine XS.icmpNo X3.here hx rfl (hb hby at_30) rfl (by decide) ?_
    show Steps p.tables e below (T3.setTop (mkF m 33 #[.val (.int p1), .val (.int (0 : Int32)), .val (.ref w1), .val (.ref w1)] [])) _
    refine XS.aloadN X3.here hx rfl (hb hby at_33) rfl rfl ?_
    show Steps p.tables e below (T3.setTop (mkF m 34 #[.val (.int p1), .val (.int (0 : Int32)), .val (.ref w1), .val (.ref w1)] [(.ref w1)])) _
    refine st4 _ ?_
    show Steps p.tables e below (T4.setTop (mkF m 37 #[.val (.int p1), .val (.int (0 : Int32)), .val (.ref w1), .val (.ref w1)] [(.int (1 : Int32))])) _
    refine XS.iloadN X4.here hx rfl (hb hby at_37) rfl ?_
    show Steps p.tables e below (T4.setTop (mkF m 38 #[.val (.int p1), .val (.int (0 : Int32)), .val (.ref w1), .val (.ref w1)] [(.int (0 : Int32)), (.int (1 : Int32))])) _
    refine XS.iconst X4.here hx rfl (hb hby at_38) ?_
    show Steps p.tables e below (T4.setTop (mkF m 39 #[.val (.int p1), .val (.int (0 : Int32)), .val (.ref w1), .val (.ref w1)] [(.int (4 : Int32)), (.int (0 : Int32)), (.int (1 : Int32))])) _
    refine XS.icmpNo X4.here hx rfl (hb hby at_39) rfl (by decide) ?_
    show Steps p.tables e below (T4.setTop (mkF m 42 #[.val (.int p1), .val (.int (0 : Int32)), .val (.ref w1), .val (.ref w1)] [(.int (1 : Int32))])) _
    refine XS.iconst X4.here hx rfl (hb hby at_42) ?_
    show Steps p.tables e below (T4.setTop (mkF m 43 #[.val (.int p1), .val (.int (0 : Int32)), .val (.ref w1), .val (.ref w1)] [(.int (1 : Int32)), (.int (1 : Int32))])) _
    refine XS.goto X4.here hx rfl (pc0 := 43) (pc' := 47) rfl (hb hby at_43) (by decide) (by decide) ?_
    show Steps p.tables e below (T4.setTop (mkF m 47 #[.val (.int p1), .val (.int (0 : Int32)), .val (.ref w1), .val (.ref w1)] [(.int (1 : Int32)), (.int (1 : Int32))])) _
    refine XS.icmpNo X4.here hx rfl (hb hby at_47) rfl (by decide) ?_
    show Steps p.tables e below (T4.setTop (mkF m 50 #[.val (.int p1), .val (.int (0 : Int32)), .val (.ref w1), .val (.ref w1)] [])) _
    refine XS.iconst X4.here hx rfl (hb hby at_50) ?_
    show Steps p.tables e below (T4.setTop (mkF m 51 #[.val (.int p1), .val (.int (0 : Int32)), .val (.ref w1), .val (.ref w1)] [(.int (1 : Int32))])) _
    refine XS.goto X4.here hx rfl (pc0 := 51) (pc' := 55) rfl (hb hby at_51) (by decide) (by decide) ?_
    show Steps p.tables e below (T4.setTop (mkF m 55 #[.val (.int p1), .val (.int (0 : Int32)), .val (.ref w1), .val (.ref w1)] [(.int (1 : Int32))])) _
    exact retN X4 hx (t := .boolean) Bd.returns (by simp) (hb hby at_55) hr
  · exact ⟨rfl, N2⟩
set_option maxRecDepth 65536 in
set_option maxHeartbeats 40000000 in
theorem own_of_1 (l : Launch) (Z : State) (a0 : Array Value) (hw : ∀ d ∈ tables_1, d.before a0 Z = true) (ws : List Jvm.Cond) (w0 : Addr) (cl0 : Cell) (w1 : Addr) (w2 : Addr) (w3 : Addr) (w4 : Addr) (w5 : Addr) (w6 : Addr) (w7 : Addr) (w8 : Addr) (h0 : Heap) (n0 : Nat) (Z0 : n0 ≤ h0.size) (K : own_Know Z h0 w0 cl0 w1 w2 w3 w4 w5 w6 w7 w8) :
    MetFree l (⟨"com/example/rawmark/rawmark/io/Format$FixedInteger", "of", "(I)Lcom/example/rawmark/rawmark/io/Format$FixedInteger;"⟩ : MethodName) (head1 (Jvm.Cond.code (⟨"com/example/rawmark/rawmark/io/Format$FixedInteger", "of", "(I)Lcom/example/rawmark/rawmark/io/Format$FixedInteger;"⟩ : MethodName) prog_35_method_4_code 1 (some (.object "com/example/rawmark/rawmark/io/Format$FixedInteger")) :: ws) ({ frames := 0, cells := 0, slots := 0, locals := 0 } : Room)) (fun a U => a = #[(.int (1 : Int32))] ∧ Z.Warmed39 U.vm ∧ U.heap = h0) (fun _ _ _ _ _ => True) (fun _ U o U' => ∃ v L, o = .returned v ∧ own_Q (some (.ref w6)) h0 n0 v U'.heap L ∧ FrameEnd U o U' L ({ frames := 0, cells := 0, slots := 0, locals := 0 } : Room).cells ({ frames := 0, cells := 0, slots := 0, locals := 0 } : Room).slots) := by
  obtain ⟨S0, A0, S1, E1, S2, E2, S3, E3, S4, E4, S5, E5, S6, E6, S7, E7, S8, E8, B0, F1_bits, F1_signed, B3, F2_bits, F2_signed, B6, F3_bits, F3_signed, B7, F4_bits, F4_signed, B2, F5_bits, F5_signed, B1, F6_bits, F6_signed, B4, F7_bits, F7_signed, B5, F8_bits, F8_signed⟩ := id K
  refine MetFree.of_bodySF (plainFor_of_name own_pn_of) hisR ?_
  intro p e s m args below meth c s₁ Bd hml0 hP hK
  obtain ⟨rfl, hZ, hh⟩ := hP
  have hx := Bd.exec
  have hby := Bd.bytes
  have hml : c.maxLocals = 1 := hml0
  have hown : s.vm.findClass "com/example/rawmark/rawmark/io/Format$FixedInteger" = some m.cls := findClass_of_methodNamed Bd.named
  have X0 : Stand p l e ({ frames := 0, cells := 0, slots := 0, locals := 0 } : Room) s m #[(.int (1 : Int32))] below meth c s₁ [] 0 0 := Stand.of_body Bd
  have e0 : s₁.heap = h0 := by rw [← hh, Bd.state]; rfl
  have N0 := Fr.nil n0
  have pre0 : ∀ t, Steps p.tables e below (s₁.setTop (mkF m 0 #[.val (.int (1 : Int32))] [])) t → Steps p.tables e below (s₁.setTop (entryFrame m #[(.int (1 : Int32))] 1)) t := fun t k => castTop (own_ef_of m (1 : Int32)) k
  obtain ⟨T1, X1, e1, st1⟩ := getS2 X0 hx hZ hown (host := "") (Or.inl (hw _ (List.mem_of_getElem? (i := 4) rfl))) Via.refl e0 S0 (g := (mkF m 0 #[.val (.int (1 : Int32))] [])) rfl (hb hby d_of_0)
  obtain ⟨fs, hr, hrun, hended, hW, hsame⟩ := X1.leave (v := some (.ref w6)) (fun h => by rw [Bd.returns] at h; cases h)
  refine ⟨_, _, pre0 _ ?_, hrun, hended, _, _, rfl, ?_, ⟨_, rfl⟩, hW, hsame.mono (by decide) (by decide)⟩
  · show Steps p.tables e below (s₁.setTop (mkF m 0 #[.val (.int (1 : Int32))] [])) _
    refine st1 _ ?_
    show Steps p.tables e below (T1.setTop (mkF m 3 #[.val (.int (1 : Int32))] [(.ref w0)])) _
    refine XS.iloadN X1.here hx rfl (hb hby d_of_3) rfl ?_
    show Steps p.tables e below (T1.setTop (mkF m 4 #[.val (.int (1 : Int32))] [(.int (1 : Int32)), (.ref w0)])) _
    refine X1.aaload hx (j := (1 : Int32)) (v := (.ref w6)) (by rw [e1]; exact A0.1) (State.isArrayOf_alike hZ.alike A0.2.1) rfl A0.2.2 B1.1 B1.2 (g := (mkF m 4 #[.val (.int (1 : Int32))] [(.int (1 : Int32)), (.ref w0)])) rfl rfl (hb hby d_of_4) _ ?_
    show Steps p.tables e below (T1.setTop (mkF m 5 #[.val (.int (1 : Int32))] [(.ref w6)])) _
    jvm_step X1.here [X1.here.top, hx, (hb hby d_of_5), X1.method', Bd.returns, Value.isRef, FieldType.isReference]
    first | (intro acts; rw [hr _ acts rfl rfl rfl]) | rw [hr _ _ rfl rfl rfl]
    exact Steps.refl _
  · show own_Q _ h0 n0 _ T1.heap _
    rw [e1]
    exact ⟨rfl, N0, rfl⟩
set_option maxRecDepth 65536 in
set_option maxHeartbeats 40000000 in
theorem own_expected_1 (l : Launch) (Z : State) (a0 : Array Value) (hw : ∀ d ∈ tables_1, d.before a0 Z = true) (ws : List Jvm.Cond) (w0 : Addr) (cl0 : Cell) (w1 : Addr) (w2 : Addr) (w3 : Addr) (w4 : Addr) (w5 : Addr) (w6 : Addr) (w7 : Addr) (w8 : Addr) (h0 : Heap) (n0 : Nat) (Z0 : n0 ≤ h0.size) (K : own_Know Z h0 w0 cl0 w1 w2 w3 w4 w5 w6 w7 w8) :
    MetFree l (⟨"com/example/rawmark/rawmark/io/FixedIntegerOfPinLaw", "expected", "(I)Lcom/example/rawmark/rawmark/io/Format$FixedInteger;"⟩ : MethodName) (head1 (Jvm.Cond.code (⟨"com/example/rawmark/rawmark/io/FixedIntegerOfPinLaw", "expected", "(I)Lcom/example/rawmark/rawmark/io/Format$FixedInteger;"⟩ : MethodName) method_2_code 2 (some (.object "com/example/rawmark/rawmark/io/Format$FixedInteger")) :: ws) ({ frames := 0, cells := 0, slots := 0, locals := 0 } : Room)) (fun a U => a = #[(.int (1 : Int32))] ∧ Z.Warmed39 U.vm ∧ U.heap = h0) (fun _ _ _ _ _ => True) (fun _ U o U' => ∃ v L, o = .returned v ∧ own_Q (some (.ref w6)) h0 n0 v U'.heap L ∧ FrameEnd U o U' L ({ frames := 0, cells := 0, slots := 0, locals := 0 } : Room).cells ({ frames := 0, cells := 0, slots := 0, locals := 0 } : Room).slots) := by
  obtain ⟨S0, A0, S1, E1, S2, E2, S3, E3, S4, E4, S5, E5, S6, E6, S7, E7, S8, E8, B0, F1_bits, F1_signed, B3, F2_bits, F2_signed, B6, F3_bits, F3_signed, B7, F4_bits, F4_signed, B2, F5_bits, F5_signed, B1, F6_bits, F6_signed, B4, F7_bits, F7_signed, B5, F8_bits, F8_signed⟩ := id K
  refine MetFree.of_bodySF (plainFor_of_name own_pn_expected) hisR ?_
  intro p e s m args below meth c s₁ Bd hml0 hP hK
  obtain ⟨rfl, hZ, hh⟩ := hP
  have hx := Bd.exec
  have hby := Bd.bytes
  have hml : c.maxLocals = 2 := hml0
  have hown : s.vm.findClass "com/example/rawmark/rawmark/io/FixedIntegerOfPinLaw" = some m.cls := findClass_of_methodNamed Bd.named
  have X0 : Stand p l e ({ frames := 0, cells := 0, slots := 0, locals := 0 } : Room) s m #[(.int (1 : Int32))] below meth c s₁ [] 0 0 := Stand.of_body Bd
  have e0 : s₁.heap = h0 := by rw [← hh, Bd.state]; rfl
  have N0 := Fr.nil n0
  have pre0 : ∀ t, Steps p.tables e below (s₁.setTop (mkF m 0 #[.val (.int (1 : Int32)), .unset] [])) t → Steps p.tables e below (s₁.setTop (entryFrame m #[(.int (1 : Int32))] 2)) t := fun t k => castTop (own_ef_expected m (1 : Int32)) k
  obtain ⟨T1, X1, e1, st1⟩ := getS2 X0 hx hZ hown (host := "") (Or.inl (hw _ (List.mem_of_getElem? (i := 25) rfl))) Via.refl e0 S6 (g := (mkF m 21 #[.val (.int (1 : Int32)), .unset] [])) rfl (hb hby d_expected_21)
  obtain ⟨fs, hr, hrun, hended, hW, hsame⟩ := X1.leave (v := some (.ref w6)) (fun h => by rw [Bd.returns] at h; cases h)
  refine ⟨_, _, pre0 _ ?_, hrun, hended, _, _, rfl, ?_, ⟨_, rfl⟩, hW, hsame.mono (by decide) (by decide)⟩
  · show Steps p.tables e below (s₁.setTop (mkF m 0 #[.val (.int (1 : Int32)), .unset] [])) _
    refine XS.iloadN X0.here hx rfl (hb hby d_expected_0) rfl ?_
    show Steps p.tables e below (s₁.setTop (mkF m 1 #[.val (.int (1 : Int32)), .unset] [(.int (1 : Int32))])) _
    refine XS.iconst X0.here hx rfl (hb hby d_expected_1) ?_
    show Steps p.tables e below (s₁.setTop (mkF m 2 #[.val (.int (1 : Int32)), .unset] [(.int (4 : Int32)), (.int (1 : Int32))])) _
    refine XS.icmpNo X0.here hx rfl (hb hby d_expected_2) rfl (by decide) ?_
    show Steps p.tables e below (s₁.setTop (mkF m 5 #[.val (.int (1 : Int32)), .unset] [])) _
    refine XS.iloadN X0.here hx rfl (hb hby d_expected_5) rfl ?_
    show Steps p.tables e below (s₁.setTop (mkF m 6 #[.val (.int (1 : Int32)), .unset] [(.int (1 : Int32))])) _
    refine XS.iconst X0.here hx rfl (hb hby d_expected_6) ?_
    show Steps p.tables e below (s₁.setTop (mkF m 7 #[.val (.int (1 : Int32)), .unset] [(.int (2 : Int32)), (.int (1 : Int32))])) _
    refine XS.icmpNo X0.here hx rfl (hb hby d_expected_7) rfl (by decide) ?_
    show Steps p.tables e below (s₁.setTop (mkF m 10 #[.val (.int (1 : Int32)), .unset] [])) _
    refine XS.iloadN X0.here hx rfl (hb hby d_expected_10) rfl ?_
    show Steps p.tables e below (s₁.setTop (mkF m 11 #[.val (.int (1 : Int32)), .unset] [(.int (1 : Int32))])) _
    refine XS.ifYes X0.here hx rfl (pc0 := 11) (pc' := 21) rfl (hb hby d_expected_11) rfl (by decide) (by decide) (by decide) ?_
    show Steps p.tables e below (s₁.setTop (mkF m 21 #[.val (.int (1 : Int32)), .unset] [])) _
    refine st1 _ ?_
    show Steps p.tables e below (T1.setTop (mkF m 24 #[.val (.int (1 : Int32)), .unset] [(.ref w6)])) _
    refine XS.astoreN X1.here hx rfl (hb hby d_expected_24) rfl rfl (l' := #[.val (.int (1 : Int32)), .val (.ref w6)]) rfl ?_
    show Steps p.tables e below (T1.setTop (mkF m 25 #[.val (.int (1 : Int32)), .val (.ref w6)] [])) _
    refine XS.goto X1.here hx rfl (pc0 := 25) (pc' := 89) rfl (hb hby d_expected_25) (by decide) (by decide) ?_
    show Steps p.tables e below (T1.setTop (mkF m 89 #[.val (.int (1 : Int32)), .val (.ref w6)] [])) _
    refine XS.aloadN X1.here hx rfl (hb hby d_expected_89) rfl rfl ?_
    show Steps p.tables e below (T1.setTop (mkF m 90 #[.val (.int (1 : Int32)), .val (.ref w6)] [(.ref w6)])) _
    jvm_step X1.here [X1.here.top, hx, (hb hby d_expected_90), X1.method', Bd.returns, Value.isRef, FieldType.isReference]
    first | (intro acts; rw [hr _ acts rfl rfl rfl]) | rw [hr _ _ rfl rfl rfl]
    exact Steps.refl _
  · show own_Q _ h0 n0 _ T1.heap _
    rw [e1]
    exact ⟨rfl, N0, rfl⟩
set_option maxRecDepth 65536 in
set_option maxHeartbeats 40000000 in
theorem own_law_1 (l : Launch) (Z : State) (a0 : Array Value) (hw : ∀ d ∈ tables_1, d.before a0 Z = true) (ws : List Jvm.Cond) (w0 : Addr) (cl0 : Cell) (w1 : Addr) (w2 : Addr) (w3 : Addr) (w4 : Addr) (w5 : Addr) (w6 : Addr) (w7 : Addr) (w8 : Addr) (h0 : Heap) (n0 : Nat) (Z0 : n0 ≤ h0.size) (K : own_Know Z h0 w0 cl0 w1 w2 w3 w4 w5 w6 w7 w8) (p1 : Int32) (hi : (p1 &&& (7 : Int32)) = (1 : Int32)) :
    MetFree l x (head1 (Jvm.Cond.code x code maxLocals ret :: ws) room_1) (fun a U => a = #[(.int p1)] ∧ Z.Warmed39 U.vm ∧ U.heap = h0) (fun _ _ _ _ _ => True) (fun _ U o U' => ∃ v L, o = .returned v ∧ own_QL n0 v L ∧ FrameEnd U o U' L room_1.cells room_1.slots) := by
  obtain ⟨S0, A0, S1, E1, S2, E2, S3, E3, S4, E4, S5, E5, S6, E6, S7, E7, S8, E8, B0, F1_bits, F1_signed, B3, F2_bits, F2_signed, B6, F3_bits, F3_signed, B7, F4_bits, F4_signed, B2, F5_bits, F5_signed, B1, F6_bits, F6_signed, B4, F7_bits, F7_signed, B5, F8_bits, F8_signed⟩ := id K
  refine MetFree.of_bodySF (plainFor_of_name own_pn_law) hisR ?_
  intro p e s m args below meth c s₁ Bd hml0 hP hK
  obtain ⟨rfl, hZ, hh⟩ := hP
  have hx := Bd.exec
  have hby := Bd.bytes
  have hml : c.maxLocals = 4 := hml0
  have hown : s.vm.findClass "com/example/rawmark/rawmark/io/FixedIntegerOfPinLaw" = some m.cls := findClass_of_methodNamed Bd.named
  have X0 : Stand p l e room_1 s m #[(.int p1)] below meth c s₁ [] 0 0 := Stand.of_body Bd
  have e0 : s₁.heap = h0 := by rw [← hh, Bd.state]; rfl
  have N0 := Fr.nil n0
  have pre0 : ∀ t, Steps p.tables e below (s₁.setTop (mkF m 0 #[.val (.int p1), .unset, .unset, .unset] [])) t → Steps p.tables e below (s₁.setTop (entryFrame m #[(.int p1)] maxLocals)) t := fun t k => castTop (own_ef_law m p1) k
  obtain ⟨_, _, ⟨T1, L1, k1, n1⟩, -, X1, ⟨Lc1, hQ1, l1, y1, z1⟩, st1⟩ := Jvm.LawKit.callS X0 hx (y := (⟨"com/example/rawmark/rawmark/io/Format$FixedInteger", "of", "(I)Lcom/example/rawmark/rawmark/io/Format$FixedInteger;"⟩ : MethodName)) hown (mvT hZ (hw _ (List.mem_of_getElem? (i := 0) rfl))) (mvT hZ (hw _ (List.mem_of_getElem? (i := 1) rfl))) (mvT hZ (hw _ (List.mem_of_getElem? (i := 2) rfl))) (mvT hZ (hw _ (List.mem_of_getElem? (i := 3) rfl))) (by decide) (backOf (W := 0) (own_of_1 l Z a0 hw [] w0 cl0 w1 w2 w3 w4 w5 w6 w7 w8 h0 n0 Z0 K) hZ (hw _ (List.mem_of_getElem? (i := 3) rfl)) (hw _ (List.mem_of_getElem? (i := 2) rfl)) (by decide) (by decide)) (g := (mkF m 6 #[.val (.int p1), .val (.int (1 : Int32)), .unset, .unset] [(.int (1 : Int32))])) rfl (by rw [hml]; rfl) (argsL := [(.int (1 : Int32))]) (rest := []) (lenOf own_pd0 rfl) rfl (by show 2 * 0 + _ ≤ _; exact Nat.le_of_eq rfl) (hb hby at_6) (fun _ _ => ⟨rfl, e0, (by decide : 0 + 0 ≤ _), (by decide : 0 + 0 ≤ _)⟩)
  dsimp only [Pt.U, Pt.locs, Pt.cells, Pt.slots] at X1 l1 y1 z1 st1 hQ1
  subst l1 y1 z1
  obtain ⟨rfl, N1q, e1⟩ := hQ1
  have N1 := Fr.app N0 N1q
  obtain ⟨_, _, ⟨T2, L2, k2, n2⟩, -, X2, ⟨Lc2, hQ2, l2, y2, z2⟩, st2⟩ := Jvm.LawKit.callS X1 hx (y := (⟨"com/example/rawmark/rawmark/io/FixedIntegerOfPinLaw", "expected", "(I)Lcom/example/rawmark/rawmark/io/Format$FixedInteger;"⟩ : MethodName)) hown (mvT hZ (hw _ (List.mem_of_getElem? (i := 7) rfl))) (mvT hZ (hw _ (List.mem_of_getElem? (i := 8) rfl))) (mvT hZ (hw _ (List.mem_of_getElem? (i := 9) rfl))) (mvT hZ (hw _ (List.mem_of_getElem? (i := 10) rfl))) (by decide) (backOf (W := 0) (own_expected_1 l Z a0 hw [] w0 cl0 w1 w2 w3 w4 w5 w6 w7 w8 h0 n0 Z0 K) hZ (hw _ (List.mem_of_getElem? (i := 10) rfl)) (hw _ (List.mem_of_getElem? (i := 9) rfl)) (by decide) (by decide)) (g := (mkF m 11 #[.val (.int p1), .val (.int (1 : Int32)), .val (.ref w6), .unset] [(.int (1 : Int32))])) rfl (by rw [hml]; rfl) (argsL := [(.int (1 : Int32))]) (rest := []) (lenOf own_pd0 rfl) rfl (by show 2 * 0 + _ ≤ _; exact Nat.le_of_eq rfl) (hb hby at_11) (fun _ _ => ⟨rfl, e1, (by decide : 0 + 0 ≤ _), (by decide : 0 + 0 ≤ _)⟩)
  dsimp only [Pt.U, Pt.locs, Pt.cells, Pt.slots] at X2 l2 y2 z2 st2 hQ2
  subst l2 y2 z2
  obtain ⟨rfl, N2q, e2⟩ := hQ2
  have N2 := Fr.app N1 N2q
  obtain ⟨T3, X3, e3, st3⟩ := getF X2 hx hZ hown (host := "") (Or.inl (hw _ (List.mem_of_getElem? (i := 12) rfl))) Via.refl e2 F6_bits (g := (mkF m 21 #[.val (.int p1), .val (.int (1 : Int32)), .val (.ref w6), .val (.ref w6)] [(.ref w6)])) rfl rfl (hb hby at_21)
  obtain ⟨T4, X4, e4, st4⟩ := getF X3 hx hZ hown (host := "") (Or.inl (hw _ (List.mem_of_getElem? (i := 14) rfl))) Via.refl e3 F6_signed (g := (mkF m 34 #[.val (.int p1), .val (.int (1 : Int32)), .val (.ref w6), .val (.ref w6)] [(.ref w6)])) rfl rfl (hb hby at_34)
  obtain ⟨fs, hr, hrun, hended, hW, hsame⟩ := X4.leave (v := some (.int (1 : Int32))) (fun h => by rw [Bd.returns] at h; cases h)
  refine ⟨_, _, pre0 _ ?_, hrun, hended, _, _, rfl, ?_, ⟨_, rfl⟩, hW, hsame.mono (by decide) (by decide)⟩
  · show Steps p.tables e below (s₁.setTop (mkF m 0 #[.val (.int p1), .unset, .unset, .unset] [])) _
    refine XS.iloadN X0.here hx rfl (hb hby at_0) rfl ?_
    show Steps p.tables e below (s₁.setTop (mkF m 1 #[.val (.int p1), .unset, .unset, .unset] [(.int p1)])) _
    refine XS.bipush X0.here hx rfl (hb hby at_1) ?_
    show Steps p.tables e below (s₁.setTop (mkF m 3 #[.val (.int p1), .unset, .unset, .unset] [(.int (7 : Int32)), (.int p1)])) _
    refine XS.iand X0.here hx rfl (hb hby at_3) rfl ?_
    show Steps p.tables e below (s₁.setTop (mkF m 4 #[.val (.int p1), .unset, .unset, .unset] [(.int (p1 &&& (7 : Int32)))])) _
    rw [hi]
    show Steps p.tables e below (s₁.setTop (mkF m 4 #[.val (.int p1), .unset, .unset, .unset] [(.int (1 : Int32))])) _
    refine XS.istoreN X0.here hx rfl (hb hby at_4) rfl (l' := #[.val (.int p1), .val (.int (1 : Int32)), .unset, .unset]) rfl ?_
    show Steps p.tables e below (s₁.setTop (mkF m 5 #[.val (.int p1), .val (.int (1 : Int32)), .unset, .unset] [])) _
    refine XS.iloadN X0.here hx rfl (hb hby at_5) rfl ?_
    show Steps p.tables e below (s₁.setTop (mkF m 6 #[.val (.int p1), .val (.int (1 : Int32)), .unset, .unset] [(.int (1 : Int32))])) _
    refine st1 _ ?_
    show Steps p.tables e below (T1.setTop (mkF m 9 #[.val (.int p1), .val (.int (1 : Int32)), .unset, .unset] [(.ref w6)])) _
    refine XS.astoreN X1.here hx rfl (hb hby at_9) rfl rfl (l' := #[.val (.int p1), .val (.int (1 : Int32)), .val (.ref w6), .unset]) rfl ?_
    show Steps p.tables e below (T1.setTop (mkF m 10 #[.val (.int p1), .val (.int (1 : Int32)), .val (.ref w6), .unset] [])) _
    refine XS.iloadN X1.here hx rfl (hb hby at_10) rfl ?_
    show Steps p.tables e below (T1.setTop (mkF m 11 #[.val (.int p1), .val (.int (1 : Int32)), .val (.ref w6), .unset] [(.int (1 : Int32))])) _
    refine st2 _ ?_
    show Steps p.tables e below (T2.setTop (mkF m 14 #[.val (.int p1), .val (.int (1 : Int32)), .val (.ref w6), .unset] [(.ref w6)])) _
    refine XS.astoreN X2.here hx rfl (hb hby at_14) rfl rfl (l' := #[.val (.int p1), .val (.int (1 : Int32)), .val (.ref w6), .val (.ref w6)]) rfl ?_
    show Steps p.tables e below (T2.setTop (mkF m 15 #[.val (.int p1), .val (.int (1 : Int32)), .val (.ref w6), .val (.ref w6)] [])) _
    refine XS.aloadN X2.here hx rfl (hb hby at_15) rfl rfl ?_
    show Steps p.tables e below (T2.setTop (mkF m 16 #[.val (.int p1), .val (.int (1 : Int32)), .val (.ref w6), .val (.ref w6)] [(.ref w6)])) _
    refine XS.aloadN X2.here hx rfl (hb hby at_16) rfl rfl ?_
    show Steps p.tables e below (T2.setTop (mkF m 17 #[.val (.int p1), .val (.int (1 : Int32)), .val (.ref w6), .val (.ref w6)] [(.ref w6), (.ref w6)])) _
    refine Jvm.RoadKit.acmp (g := (mkF m 17 #[.val (.int p1), .val (.int (1 : Int32)), .val (.ref w6), .val (.ref w6)] [(.ref w6), (.ref w6)])) X2 hx rfl rfl rfl (pc0 := 17) (pc' := 20) (same := true) rfl (hb hby at_17) rfl (decide_eq_true rfl) (by decide) (by decide) ?_
    show Steps p.tables e below (T2.setTop (mkF m 20 #[.val (.int p1), .val (.int (1 : Int32)), .val (.ref w6), .val (.ref w6)] [])) _
    refine XS.aloadN X2.here hx rfl (hb hby at_20) rfl rfl ?_
    show Steps p.tables e below (T2.setTop (mkF m 21 #[.val (.int p1), .val (.int (1 : Int32)), .val (.ref w6), .val (.ref w6)] [(.ref w6)])) _
    refine st3 _ ?_
    show Steps p.tables e below (T3.setTop (mkF m 24 #[.val (.int p1), .val (.int (1 : Int32)), .val (.ref w6), .val (.ref w6)] [(.int (16 : Int32))])) _
    refine XS.bipush X3.here hx rfl (hb hby at_24) ?_
    show Steps p.tables e below (T3.setTop (mkF m 26 #[.val (.int p1), .val (.int (1 : Int32)), .val (.ref w6), .val (.ref w6)] [(.int (8 : Int32)), (.int (16 : Int32))])) _
    refine XS.iloadN X3.here hx rfl (hb hby at_26) rfl ?_
    show Steps p.tables e below (T3.setTop (mkF m 27 #[.val (.int p1), .val (.int (1 : Int32)), .val (.ref w6), .val (.ref w6)] [(.int (1 : Int32)), (.int (8 : Int32)), (.int (16 : Int32))])) _
    refine XS.iconst X3.here hx rfl (hb hby at_27) ?_
    show Steps p.tables e below (T3.setTop (mkF m 28 #[.val (.int p1), .val (.int (1 : Int32)), .val (.ref w6), .val (.ref w6)] [(.int (3 : Int32)), (.int (1 : Int32)), (.int (8 : Int32)), (.int (16 : Int32))])) _
    refine XS.iand X3.here hx rfl (hb hby at_28) rfl ?_
    show Steps p.tables e below (T3.setTop (mkF m 29 #[.val (.int p1), .val (.int (1 : Int32)), .val (.ref w6), .val (.ref w6)] [(.int ((1 : Int32) &&& (3 : Int32))), (.int (8 : Int32)), (.int (16 : Int32))])) _
    rw [show (((1 : Int32) &&& (3 : Int32)) : Int32) = (1 : Int32) from by decide]
    show Steps p.tables e below (T3.setTop (mkF m 29 #[.val (.int p1), .val (.int (1 : Int32)), .val (.ref w6), .val (.ref w6)] [(.int (1 : Int32)), (.int (8 : Int32)), (.int (16 : Int32))])) _
    refine XS.ishl X3.here hx rfl (hb hby at_29) rfl ?_
    show Steps p.tables e below (T3.setTop (mkF m 30 #[.val (.int p1), .val (.int (1 : Int32)), .val (.ref w6), .val (.ref w6)] [(.int ((8 : Int32) <<< ((1 : Int32) &&& 31))), (.int (16 : Int32))])) _
    rw [show (((8 : Int32) <<< ((1 : Int32) &&& 31)) : Int32) = (16 : Int32) from by decide]
    show Steps p.tables e below (T3.setTop (mkF m 30 #[.val (.int p1), .val (.int (1 : Int32)), .val (.ref w6), .val (.ref w6)] [(.int (16 : Int32)), (.int (16 : Int32))])) _
    refine XS.icmpNo X3.here hx rfl (hb hby at_30) rfl (by decide) ?_
    show Steps p.tables e below (T3.setTop (mkF m 33 #[.val (.int p1), .val (.int (1 : Int32)), .val (.ref w6), .val (.ref w6)] [])) _
    refine XS.aloadN X3.here hx rfl (hb hby at_33) rfl rfl ?_
    show Steps p.tables e below (T3.setTop (mkF m 34 #[.val (.int p1), .val (.int (1 : Int32)), .val (.ref w6), .val (.ref w6)] [(.ref w6)])) _
    refine st4 _ ?_
    show Steps p.tables e below (T4.setTop (mkF m 37 #[.val (.int p1), .val (.int (1 : Int32)), .val (.ref w6), .val (.ref w6)] [(.int (1 : Int32))])) _
    refine XS.iloadN X4.here hx rfl (hb hby at_37) rfl ?_
    show Steps p.tables e below (T4.setTop (mkF m 38 #[.val (.int p1), .val (.int (1 : Int32)), .val (.ref w6), .val (.ref w6)] [(.int (1 : Int32)), (.int (1 : Int32))])) _
    refine XS.iconst X4.here hx rfl (hb hby at_38) ?_
    show Steps p.tables e below (T4.setTop (mkF m 39 #[.val (.int p1), .val (.int (1 : Int32)), .val (.ref w6), .val (.ref w6)] [(.int (4 : Int32)), (.int (1 : Int32)), (.int (1 : Int32))])) _
    refine XS.icmpNo X4.here hx rfl (hb hby at_39) rfl (by decide) ?_
    show Steps p.tables e below (T4.setTop (mkF m 42 #[.val (.int p1), .val (.int (1 : Int32)), .val (.ref w6), .val (.ref w6)] [(.int (1 : Int32))])) _
    refine XS.iconst X4.here hx rfl (hb hby at_42) ?_
    show Steps p.tables e below (T4.setTop (mkF m 43 #[.val (.int p1), .val (.int (1 : Int32)), .val (.ref w6), .val (.ref w6)] [(.int (1 : Int32)), (.int (1 : Int32))])) _
    refine XS.goto X4.here hx rfl (pc0 := 43) (pc' := 47) rfl (hb hby at_43) (by decide) (by decide) ?_
    show Steps p.tables e below (T4.setTop (mkF m 47 #[.val (.int p1), .val (.int (1 : Int32)), .val (.ref w6), .val (.ref w6)] [(.int (1 : Int32)), (.int (1 : Int32))])) _
    refine XS.icmpNo X4.here hx rfl (hb hby at_47) rfl (by decide) ?_
    show Steps p.tables e below (T4.setTop (mkF m 50 #[.val (.int p1), .val (.int (1 : Int32)), .val (.ref w6), .val (.ref w6)] [])) _
    refine XS.iconst X4.here hx rfl (hb hby at_50) ?_
    show Steps p.tables e below (T4.setTop (mkF m 51 #[.val (.int p1), .val (.int (1 : Int32)), .val (.ref w6), .val (.ref w6)] [(.int (1 : Int32))])) _
    refine XS.goto X4.here hx rfl (pc0 := 51) (pc' := 55) rfl (hb hby at_51) (by decide) (by decide) ?_
    show Steps p.tables e below (T4.setTop (mkF m 55 #[.val (.int p1), .val (.int (1 : Int32)), .val (.ref w6), .val (.ref w6)] [(.int (1 : Int32))])) _
    exact retN X4 hx (t := .boolean) Bd.returns (by simp) (hb hby at_55) hr
  · exact ⟨rfl, N2⟩
set_option maxRecDepth 65536 in
set_option maxHeartbeats 40000000 in
theorem own_of_2 (l : Launch) (Z : State) (a0 : Array Value) (hw : ∀ d ∈ tables_1, d.before a0 Z = true) (ws : List Jvm.Cond) (w0 : Addr) (cl0 : Cell) (w1 : Addr) (w2 : Addr) (w3 : Addr) (w4 : Addr) (w5 : Addr) (w6 : Addr) (w7 : Addr) (w8 : Addr) (h0 : Heap) (n0 : Nat) (Z0 : n0 ≤ h0.size) (K : own_Know Z h0 w0 cl0 w1 w2 w3 w4 w5 w6 w7 w8) :
    MetFree l (⟨"com/example/rawmark/rawmark/io/Format$FixedInteger", "of", "(I)Lcom/example/rawmark/rawmark/io/Format$FixedInteger;"⟩ : MethodName) (head1 (Jvm.Cond.code (⟨"com/example/rawmark/rawmark/io/Format$FixedInteger", "of", "(I)Lcom/example/rawmark/rawmark/io/Format$FixedInteger;"⟩ : MethodName) prog_35_method_4_code 1 (some (.object "com/example/rawmark/rawmark/io/Format$FixedInteger")) :: ws) ({ frames := 0, cells := 0, slots := 0, locals := 0 } : Room)) (fun a U => a = #[(.int (2 : Int32))] ∧ Z.Warmed39 U.vm ∧ U.heap = h0) (fun _ _ _ _ _ => True) (fun _ U o U' => ∃ v L, o = .returned v ∧ own_Q (some (.ref w5)) h0 n0 v U'.heap L ∧ FrameEnd U o U' L ({ frames := 0, cells := 0, slots := 0, locals := 0 } : Room).cells ({ frames := 0, cells := 0, slots := 0, locals := 0 } : Room).slots) := by
  obtain ⟨S0, A0, S1, E1, S2, E2, S3, E3, S4, E4, S5, E5, S6, E6, S7, E7, S8, E8, B0, F1_bits, F1_signed, B3, F2_bits, F2_signed, B6, F3_bits, F3_signed, B7, F4_bits, F4_signed, B2, F5_bits, F5_signed, B1, F6_bits, F6_signed, B4, F7_bits, F7_signed, B5, F8_bits, F8_signed⟩ := id K
  refine MetFree.of_bodySF (plainFor_of_name own_pn_of) hisR ?_
  intro p e s m args below meth c s₁ Bd hml0 hP hK
  obtain ⟨rfl, hZ, hh⟩ := hP
  have hx := Bd.exec
  have hby := Bd.bytes
  have hml : c.maxLocals = 1 := hml0
  have hown : s.vm.findClass "com/example/rawmark/rawmark/io/Format$FixedInteger" = some m.cls := findClass_of_methodNamed Bd.named
  have X0 : Stand p l e ({ frames := 0, cells := 0, slots := 0, locals := 0 } : Room) s m #[(.int (2 : Int32))] below meth c s₁ [] 0 0 := Stand.of_body Bd
  have e0 : s₁.heap = h0 := by rw [← hh, Bd.state]; rfl
  have N0 := Fr.nil n0
  have pre0 : ∀ t, Steps p.tables e below (s₁.setTop (mkF m 0 #[.val (.int (2 : Int32))] [])) t → Steps p.tables e below (s₁.setTop (entryFrame m #[(.int (2 : Int32))] 1)) t := fun t k => castTop (own_ef_of m (2 : Int32)) k
  obtain ⟨T1, X1, e1, st1⟩ := getS2 X0 hx hZ hown (host := "") (Or.inl (hw _ (List.mem_of_getElem? (i := 4) rfl))) Via.refl e0 S0 (g := (mkF m 0 #[.val (.int (2 : Int32))] [])) rfl (hb hby d_of_0)
  obtain ⟨fs, hr, hrun, hended, hW, hsame⟩ := X1.leave (v := some (.ref w5)) (fun h => by rw [Bd.returns] at h; cases h)
  refine ⟨_, _, pre0 _ ?_, hrun, hended, _, _, rfl, ?_, ⟨_, rfl⟩, hW, hsame.mono (by decide) (by decide)⟩
  · show Steps p.tables e below (s₁.setTop (mkF m 0 #[.val (.int (2 : Int32))] [])) _
    refine st1 _ ?_
    show Steps p.tables e below (T1.setTop (mkF m 3 #[.val (.int (2 : Int32))] [(.ref w0)])) _
    refine XS.iloadN X1.here hx rfl (hb hby d_of_3) rfl ?_
    show Steps p.tables e below (T1.setTop (mkF m 4 #[.val (.int (2 : Int32))] [(.int (2 : Int32)), (.ref w0)])) _
    refine X1.aaload hx (j := (2 : Int32)) (v := (.ref w5)) (by rw [e1]; exact A0.1) (State.isArrayOf_alike hZ.alike A0.2.1) rfl A0.2.2 B2.1 B2.2 (g := (mkF m 4 #[.val (.int (2 : Int32))] [(.int (2 : Int32)), (.ref w0)])) rfl rfl (hb hby d_of_4) _ ?_
    show Steps p.tables e below (T1.setTop (mkF m 5 #[.val (.int (2 : Int32))] [(.ref w5)])) _
    jvm_step X1.here [X1.here.top, hx, (hb hby d_of_5), X1.method', Bd.returns, Value.isRef, FieldType.isReference]
    first | (intro acts; rw [hr _ acts rfl rfl rfl]) | rw [hr _ _ rfl rfl rfl]
    exact Steps.refl _
  · show own_Q _ h0 n0 _ T1.heap _
    rw [e1]
    exact ⟨rfl, N0, rfl⟩
set_option maxRecDepth 65536 in
set_option maxHeartbeats 40000000 in
theorem own_expected_2 (l : Launch) (Z : State) (a0 : Array Value) (hw : ∀ d ∈ tables_1, d.before a0 Z = true) (ws : List Jvm.Cond) (w0 : Addr) (cl0 : Cell) (w1 : Addr) (w2 : Addr) (w3 : Addr) (w4 : Addr) (w5 : Addr) (w6 : Addr) (w7 : Addr) (w8 : Addr) (h0 : Heap) (n0 : Nat) (Z0 : n0 ≤ h0.size) (K : own_Know Z h0 w0 cl0 w1 w2 w3 w4 w5 w6 w7 w8) :
    MetFree l (⟨"com/example/rawmark/rawmark/io/FixedIntegerOfPinLaw", "expected", "(I)Lcom/example/rawmark/rawmark/io/Format$FixedInteger;"⟩ : MethodName) (head1 (Jvm.Cond.code (⟨"com/example/rawmark/rawmark/io/FixedIntegerOfPinLaw", "expected", "(I)Lcom/example/rawmark/rawmark/io/Format$FixedInteger;"⟩ : MethodName) method_2_code 2 (some (.object "com/example/rawmark/rawmark/io/Format$FixedInteger")) :: ws) ({ frames := 0, cells := 0, slots := 0, locals := 0 } : Room)) (fun a U => a = #[(.int (2 : Int32))] ∧ Z.Warmed39 U.vm ∧ U.heap = h0) (fun _ _ _ _ _ => True) (fun _ U o U' => ∃ v L, o = .returned v ∧ own_Q (some (.ref w5)) h0 n0 v U'.heap L ∧ FrameEnd U o U' L ({ frames := 0, cells := 0, slots := 0, locals := 0 } : Room).cells ({ frames := 0, cells := 0, slots := 0, locals := 0 } : Room).slots) := by
  obtain ⟨S0, A0, S1, E1, S2, E2, S3, E3, S4, E4, S5, E5, S6, E6, S7, E7, S8, E8, B0, F1_bits, F1_signed, B3, F2_bits, F2_signed, B6, F3_bits, F3_signed, B7, F4_bits, F4_signed, B2, F5_bits, F5_signed, B1, F6_bits, F6_signed, B4, F7_bits, F7_signed, B5, F8_bits, F8_signed⟩ := id K
  refine MetFree.of_bodySF (plainFor_of_name own_pn_expected) hisR ?_
  intro p e s m args below meth c s₁ Bd hml0 hP hK
  obtain ⟨rfl, hZ, hh⟩ := hP
  have hx := Bd.exec
  have hby := Bd.bytes
  have hml : c.maxLocals = 2 := hml0
  have hown : s.vm.findClass "com/example/rawmark/rawmark/io/FixedIntegerOfPinLaw" = some m.cls := findClass_of_methodNamed Bd.named
  have X0 : Stand p l e ({ frames := 0, cells := 0, slots := 0, locals := 0 } : Room) s m #[(.int (2 : Int32))] below meth c s₁ [] 0 0 := Stand.of_body Bd
  have e0 : s₁.heap = h0 := by rw [← hh, Bd.state]; rfl
  have N0 := Fr.nil n0
  have pre0 : ∀ t, Steps p.tables e below (s₁.setTop (mkF m 0 #[.val (.int (2 : Int32)), .unset] [])) t → Steps p.tables e below (s₁.setTop (entryFrame m #[(.int (2 : Int32))] 2)) t := fun t k => castTop (own_ef_expected m (2 : Int32)) k
  obtain ⟨T1, X1, e1, st1⟩ := getS2 X0 hx hZ hown (host := "") (Or.inl (hw _ (List.mem_of_getElem? (i := 23) rfl))) Via.refl e0 S5 (g := (mkF m 33 #[.val (.int (2 : Int32)), .unset] [])) rfl (hb hby d_expected_33)
  obtain ⟨fs, hr, hrun, hended, hW, hsame⟩ := X1.leave (v := some (.ref w5)) (fun h => by rw [Bd.returns] at h; cases h)
  refine ⟨_, _, pre0 _ ?_, hrun, hended, _, _, rfl, ?_, ⟨_, rfl⟩, hW, hsame.mono (by decide) (by decide)⟩
  · show Steps p.tables e below (s₁.setTop (mkF m 0 #[.val (.int (2 : Int32)), .unset] [])) _
    refine XS.iloadN X0.here hx rfl (hb hby d_expected_0) rfl ?_
    show Steps p.tables e below (s₁.setTop (mkF m 1 #[.val (.int (2 : Int32)), .unset] [(.int (2 : Int32))])) _
    refine XS.iconst X0.here hx rfl (hb hby d_expected_1) ?_
    show Steps p.tables e below (s₁.setTop (mkF m 2 #[.val (.int (2 : Int32)), .unset] [(.int (4 : Int32)), (.int (2 : Int32))])) _
    refine XS.icmpNo X0.here hx rfl (hb hby d_expected_2) rfl (by decide) ?_
    show Steps p.tables e below (s₁.setTop (mkF m 5 #[.val (.int (2 : Int32)), .unset] [])) _
    refine XS.iloadN X0.here hx rfl (hb hby d_expected_5) rfl ?_
    show Steps p.tables e below (s₁.setTop (mkF m 6 #[.val (.int (2 : Int32)), .unset] [(.int (2 : Int32))])) _
    refine XS.iconst X0.here hx rfl (hb hby d_expected_6) ?_
    show Steps p.tables e below (s₁.setTop (mkF m 7 #[.val (.int (2 : Int32)), .unset] [(.int (2 : Int32)), (.int (2 : Int32))])) _
    refine XS.icmpYes X0.here hx rfl (pc0 := 7) (pc' := 28) rfl (hb hby d_expected_7) rfl (by decide) (by decide) (by decide) ?_
    show Steps p.tables e below (s₁.setTop (mkF m 28 #[.val (.int (2 : Int32)), .unset] [])) _
    refine XS.iloadN X0.here hx rfl (hb hby d_expected_28) rfl ?_
    show Steps p.tables e below (s₁.setTop (mkF m 29 #[.val (.int (2 : Int32)), .unset] [(.int (2 : Int32))])) _
    refine XS.iconst X0.here hx rfl (hb hby d_expected_29) ?_
    show Steps p.tables e below (s₁.setTop (mkF m 30 #[.val (.int (2 : Int32)), .unset] [(.int (2 : Int32)), (.int (2 : Int32))])) _
    refine XS.icmpNo X0.here hx rfl (hb hby d_expected_30) rfl (by decide) ?_
    show Steps p.tables e below (s₁.setTop (mkF m 33 #[.val (.int (2 : Int32)), .unset] [])) _
    refine st1 _ ?_
    show Steps p.tables e below (T1.setTop (mkF m 36 #[.val (.int (2 : Int32)), .unset] [(.ref w5)])) _
    refine XS.astoreN X1.here hx rfl (hb hby d_expected_36) rfl rfl (l' := #[.val (.int (2 : Int32)), .val (.ref w5)]) rfl ?_
    show Steps p.tables e below (T1.setTop (mkF m 37 #[.val (.int (2 : Int32)), .val (.ref w5)] [])) _
    refine XS.goto X1.here hx rfl (pc0 := 37) (pc' := 89) rfl (hb hby d_expected_37) (by decide) (by decide) ?_
    show Steps p.tables e below (T1.setTop (mkF m 89 #[.val (.int (2 : Int32)), .val (.ref w5)] [])) _
    refine XS.aloadN X1.here hx rfl (hb hby d_expected_89) rfl rfl ?_
    show Steps p.tables e below (T1.setTop (mkF m 90 #[.val (.int (2 : Int32)), .val (.ref w5)] [(.ref w5)])) _
    jvm_step X1.here [X1.here.top, hx, (hb hby d_expected_90), X1.method', Bd.returns, Value.isRef, FieldType.isReference]
    first | (intro acts; rw [hr _ acts rfl rfl rfl]) | rw [hr _ _ rfl rfl rfl]
    exact Steps.refl _
  · show own_Q _ h0 n0 _ T1.heap _
    rw [e1]
    exact ⟨rfl, N0, rfl⟩
set_option maxRecDepth 65536 in
set_option maxHeartbeats 40000000 in
theorem own_law_2 (l : Launch) (Z : State) (a0 : Array Value) (hw : ∀ d ∈ tables_1, d.before a0 Z = true) (ws : List Jvm.Cond) (w0 : Addr) (cl0 : Cell) (w1 : Addr) (w2 : Addr) (w3 : Addr) (w4 : Addr) (w5 : Addr) (w6 : Addr) (w7 : Addr) (w8 : Addr) (h0 : Heap) (n0 : Nat) (Z0 : n0 ≤ h0.size) (K : own_Know Z h0 w0 cl0 w1 w2 w3 w4 w5 w6 w7 w8) (p1 : Int32) (hi : (p1 &&& (7 : Int32)) = (2 : Int32)) :
    MetFree l x (head1 (Jvm.Cond.code x code maxLocals ret :: ws) room_1) (fun a U => a = #[(.int p1)] ∧ Z.Warmed39 U.vm ∧ U.heap = h0) (fun _ _ _ _ _ => True) (fun _ U o U' => ∃ v L, o = .returned v ∧ own_QL n0 v L ∧ FrameEnd U o U' L room_1.cells room_1.slots) := by
  obtain ⟨S0, A0, S1, E1, S2, E2, S3, E3, S4, E4, S5, E5, S6, E6, S7, E7, S8, E8, B0, F1_bits, F1_signed, B3, F2_bits, F2_signed, B6, F3_bits, F3_signed, B7, F4_bits, F4_signed, B2, F5_bits, F5_signed, B1, F6_bits, F6_signed, B4, F7_bits, F7_signed, B5, F8_bits, F8_signed⟩ := id K
  refine MetFree.of_bodySF (plainFor_of_name own_pn_law) hisR ?_
  intro p e s m args below meth c s₁ Bd hml0 hP hK
  obtain ⟨rfl, hZ, hh⟩ := hP
  have hx := Bd.exec
  have hby := Bd.bytes
  have hml : c.maxLocals = 4 := hml0
  have hown : s.vm.findClass "com/example/rawmark/rawmark/io/FixedIntegerOfPinLaw" = some m.cls := findClass_of_methodNamed Bd.named
  have X0 : Stand p l e room_1 s m #[(.int p1)] below meth c s₁ [] 0 0 := Stand.of_body Bd
  have e0 : s₁.heap = h0 := by rw [← hh, Bd.state]; rfl
  have N0 := Fr.nil n0
  have pre0 : ∀ t, Steps p.tables e below (s₁.setTop (mkF m 0 #[.val (.int p1), .unset, .unset, .unset] [])) t → Steps p.tables e below (s₁.setTop (entryFrame m #[(.int p1)] maxLocals)) t := fun t k => castTop (own_ef_law m p1) k
  obtain ⟨_, _, ⟨T1, L1, k1, n1⟩, -, X1, ⟨Lc1, hQ1, l1, y1, z1⟩, st1⟩ := Jvm.LawKit.callS X0 hx (y := (⟨"com/example/rawmark/rawmark/io/Format$FixedInteger", "of", "(I)Lcom/example/rawmark/rawmark/io/Format$FixedInteger;"⟩ : MethodName)) hown (mvT hZ (hw _ (List.mem_of_getElem? (i := 0) rfl))) (mvT hZ (hw _ (List.mem_of_getElem? (i := 1) rfl))) (mvT hZ (hw _ (List.mem_of_getElem? (i := 2) rfl))) (mvT hZ (hw _ (List.mem_of_getElem? (i := 3) rfl))) (by decide) (backOf (W := 0) (own_of_2 l Z a0 hw [] w0 cl0 w1 w2 w3 w4 w5 w6 w7 w8 h0 n0 Z0 K) hZ (hw _ (List.mem_of_getElem? (i := 3) rfl)) (hw _ (List.mem_of_getElem? (i := 2) rfl)) (by decide) (by decide)) (g := (mkF m 6 #[.val (.int p1), .val (.int (2 : Int32)), .unset, .unset] [(.int (2 : Int32))])) rfl (by rw [hml]; rfl) (argsL := [(.int (2 : Int32))]) (rest := []) (lenOf own_pd0 rfl) rfl (by show 2 * 0 + _ ≤ _; exact Nat.le_of_eq rfl) (hb hby at_6) (fun _ _ => ⟨rfl, e0, (by decide : 0 + 0 ≤ _), (by decide : 0 + 0 ≤ _)⟩)
  dsimp only [Pt.U, Pt.locs, Pt.cells, Pt.slots] at X1 l1 y1 z1 st1 hQ1
  subst l1 y1 z1
  obtain ⟨rfl, N1q, e1⟩ := hQ1
  have N1 := Fr.app N0 N1q
  obtain ⟨_, _, ⟨T2, L2, k2, n2⟩, -, X2, ⟨Lc2, hQ2, l2, y2, z2⟩, st2⟩ := Jvm.LawKit.callS X1 hx (y := (⟨"com/example/rawmark/rawmark/io/FixedIntegerOfPinLaw", "expected", "(I)Lcom/example/rawmark/rawmark/io/Format$FixedInteger;"⟩ : MethodName)) hown (mvT hZ (hw _ (List.mem_of_getElem? (i := 7) rfl))) (mvT hZ (hw _ (List.mem_of_getElem? (i := 8) rfl))) (mvT hZ (hw _ (List.mem_of_getElem? (i := 9) rfl))) (mvT hZ (hw _ (List.mem_of_getElem? (i := 10) rfl))) (by decide) (backOf (W := 0) (own_expected_2 l Z a0 hw [] w0 cl0 w1 w2 w3 w4 w5 w6 w7 w8 h0 n0 Z0 K) hZ (hw _ (List.mem_of_getElem? (i := 10) rfl)) (hw _ (List.mem_of_getElem? (i := 9) rfl)) (by decide) (by decide)) (g := (mkF m 11 #[.val (.int p1), .val (.int (2 : Int32)), .val (.ref w5), .unset] [(.int (2 : Int32))])) rfl (by rw [hml]; rfl) (argsL := [(.int (2 : Int32))]) (rest := []) (lenOf own_pd0 rfl) rfl (by show 2 * 0 + _ ≤ _; exact Nat.le_of_eq rfl) (hb hby at_11) (fun _ _ => ⟨rfl, e1, (by decide : 0 + 0 ≤ _), (by decide : 0 + 0 ≤ _)⟩)
  dsimp only [Pt.U, Pt.locs, Pt.cells, Pt.slots] at X2 l2 y2 z2 st2 hQ2
  subst l2 y2 z2
  obtain ⟨rfl, N2q, e2⟩ := hQ2
  have N2 := Fr.app N1 N2q
  obtain ⟨T3, X3, e3, st3⟩ := getF X2 hx hZ hown (host := "") (Or.inl (hw _ (List.mem_of_getElem? (i := 12) rfl))) Via.refl e2 F5_bits (g := (mkF m 21 #[.val (.int p1), .val (.int (2 : Int32)), .val (.ref w5), .val (.ref w5)] [(.ref w5)])) rfl rfl (hb hby at_21)
  obtain ⟨T4, X4, e4, st4⟩ := getF X3 hx hZ hown (host := "") (Or.inl (hw _ (List.mem_of_getElem? (i := 14) rfl))) Via.refl e3 F5_signed (g := (mkF m 34 #[.val (.int p1), .val (.int (2 : Int32)), .val (.ref w5), .val (.ref w5)] [(.ref w5)])) rfl rfl (hb hby at_34)
  obtain ⟨fs, hr, hrun, hended, hW, hsame⟩ := X4.leave (v := some (.int (1 : Int32))) (fun h => by rw [Bd.returns] at h; cases h)
  refine ⟨_, _, pre0 _ ?_, hrun, hended, _, _, rfl, ?_, ⟨_, rfl⟩, hW, hsame.mono (by decide) (by decide)⟩
  · show Steps p.tables e below (s₁.setTop (mkF m 0 #[.val (.int p1), .unset, .unset, .unset] [])) _
    refine XS.iloadN X0.here hx rfl (hb hby at_0) rfl ?_
    show Steps p.tables e below (s₁.setTop (mkF m 1 #[.val (.int p1), .unset, .unset, .unset] [(.int p1)])) _
    refine XS.bipush X0.here hx rfl (hb hby at_1) ?_
    show Steps p.tables e below (s₁.setTop (mkF m 3 #[.val (.int p1), .unset, .unset, .unset] [(.int (7 : Int32)), (.int p1)])) _
    refine XS.iand X0.here hx rfl (hb hby at_3) rfl ?_
    show Steps p.tables e below (s₁.setTop (mkF m 4 #[.val (.int p1), .unset, .unset, .unset] [(.int (p1 &&& (7 : Int32)))])) _
    rw [hi]
    show Steps p.tables e below (s₁.setTop (mkF m 4 #[.val (.int p1), .unset, .unset, .unset] [(.int (2 : Int32))])) _
    refine XS.istoreN X0.here hx rfl (hb hby at_4) rfl (l' := #[.val (.int p1), .val (.int (2 : Int32)), .unset, .unset]) rfl ?_
    show Steps p.tables e below (s₁.setTop (mkF m 5 #[.val (.int p1), .val (.int (2 : Int32)), .unset, .unset] [])) _
    refine XS.iloadN X0.here hx rfl (hb hby at_5) rfl ?_
    show Steps p.tables e below (s₁.setTop (mkF m 6 #[.val (.int p1), .val (.int (2 : Int32)), .unset, .unset] [(.int (2 : Int32))])) _
    refine st1 _ ?_
    show Steps p.tables e below (T1.setTop (mkF m 9 #[.val (.int p1), .val (.int (2 : Int32)), .unset, .unset] [(.ref w5)])) _
    refine XS.astoreN X1.here hx rfl (hb hby at_9) rfl rfl (l' := #[.val (.int p1), .val (.int (2 : Int32)), .val (.ref w5), .unset]) rfl ?_
    show Steps p.tables e below (T1.setTop (mkF m 10 #[.val (.int p1), .val (.int (2 : Int32)), .val (.ref w5), .unset] [])) _
    refine XS.iloadN X1.here hx rfl (hb hby at_10) rfl ?_
    show Steps p.tables e below (T1.setTop (mkF m 11 #[.val (.int p1), .val (.int (2 : Int32)), .val (.ref w5), .unset] [(.int (2 : Int32))])) _
    refine st2 _ ?_
    show Steps p.tables e below (T2.setTop (mkF m 14 #[.val (.int p1), .val (.int (2 : Int32)), .val (.ref w5), .unset] [(.ref w5)])) _
    refine XS.astoreN X2.here hx rfl (hb hby at_14) rfl rfl (l' := #[.val (.int p1), .val (.int (2 : Int32)), .val (.ref w5), .val (.ref w5)]) rfl ?_
    show Steps p.tables e below (T2.setTop (mkF m 15 #[.val (.int p1), .val (.int (2 : Int32)), .val (.ref w5), .val (.ref w5)] [])) _
    refine XS.aloadN X2.here hx rfl (hb hby at_15) rfl rfl ?_
    show Steps p.tables e below (T2.setTop (mkF m 16 #[.val (.int p1), .val (.int (2 : Int32)), .val (.ref w5), .val (.ref w5)] [(.ref w5)])) _
    refine XS.aloadN X2.here hx rfl (hb hby at_16) rfl rfl ?_
    show Steps p.tables e below (T2.setTop (mkF m 17 #[.val (.int p1), .val (.int (2 : Int32)), .val (.ref w5), .val (.ref w5)] [(.ref w5), (.ref w5)])) _
    refine Jvm.RoadKit.acmp (g := (mkF m 17 #[.val (.int p1), .val (.int (2 : Int32)), .val (.ref w5), .val (.ref w5)] [(.ref w5), (.ref w5)])) X2 hx rfl rfl rfl (pc0 := 17) (pc' := 20) (same := true) rfl (hb hby at_17) rfl (decide_eq_true rfl) (by decide) (by decide) ?_
    show Steps p.tables e below (T2.setTop (mkF m 20 #[.val (.int p1), .val (.int (2 : Int32)), .val (.ref w5), .val (.ref w5)] [])) _
    refine XS.aloadN X2.here hx rfl (hb hby at_20) rfl rfl ?_
    show Steps p.tables e below (T2.setTop (mkF m 21 #[.val (.int p1), .val (.int (2 : Int32)), .val (.ref w5), .val (.ref w5)] [(.ref w5)])) _
    refine st3 _ ?_
    show Steps p.tables e below (T3.setTop (mkF m 24 #[.val (.int p1), .val (.int (2 : Int32)), .val (.ref w5), .val (.ref w5)] [(.int (32 : Int32))])) _
    refine XS.bipush X3.here hx rfl (hb hby at_24) ?_
    show Steps p.tables e below (T3.setTop (mkF m 26 #[.val (.int p1), .val (.int (2 : Int32)), .val (.ref w5), .val (.ref w5)] [(.int (8 : Int32)), (.int (32 : Int32))])) _
    refine XS.iloadN X3.here hx rfl (hb hby at_26) rfl ?_
    show Steps p.tables e below (T3.setTop (mkF m 27 #[.val (.int p1), .val (.int (2 : Int32)), .val (.ref w5), .val (.ref w5)] [(.int (2 : Int32)), (.int (8 : Int32)), (.int (32 : Int32))])) _
    refine XS.iconst X3.here hx rfl (hb hby at_27) ?_
    show Steps p.tables e below (T3.setTop (mkF m 28 #[.val (.int p1), .val (.int (2 : Int32)), .val (.ref w5), .val (.ref w5)] [(.int (3 : Int32)), (.int (2 : Int32)), (.int (8 : Int32)), (.int (32 : Int32))])) _
    refine XS.iand X3.here hx rfl (hb hby at_28) rfl ?_
    show Steps p.tables e below (T3.setTop (mkF m 29 #[.val (.int p1), .val (.int (2 : Int32)), .val (.ref w5), .val (.ref w5)] [(.int ((2 : Int32) &&& (3 : Int32))), (.int (8 : Int32)), (.int (32 : Int32))])) _
    rw [show (((2 : Int32) &&& (3 : Int32)) : Int32) = (2 : Int32) from by decide]
    show Steps p.tables e below (T3.setTop (mkF m 29 #[.val (.int p1), .val (.int (2 : Int32)), .val (.ref w5), .val (.ref w5)] [(.int (2 : Int32)), (.int (8 : Int32)), (.int (32 : Int32))])) _
    refine XS.ishl X3.here hx rfl (hb hby at_29) rfl ?_
    show Steps p.tables e below (T3.setTop (mkF m 30 #[.val (.int p1), .val (.int (2 : Int32)), .val (.ref w5), .val (.ref w5)] [(.int ((8 : Int32) <<< ((2 : Int32) &&& 31))), (.int (32 : Int32))])) _
    rw [show (((8 : Int32) <<< ((2 : Int32) &&& 31)) : Int32) = (32 : Int32) from by decide]
    show Steps p.tables e below (T3.setTop (mkF m 30 #[.val (.int p1), .val (.int (2 : Int32)), .val (.ref w5), .val (.ref w5)] [(.int (32 : Int32)), (.int (32 : Int32))])) _
    refine XS.icmpNo X3.here hx rfl (hb hby at_30) rfl (by decide) ?_
    show Steps p.tables e below (T3.setTop (mkF m 33 #[.val (.int p1), .val (.int (2 : Int32)), .val (.ref w5), .val (.ref w5)] [])) _
    refine XS.aloadN X3.here hx rfl (hb hby at_33) rfl rfl ?_
    show Steps p.tables e below (T3.setTop (mkF m 34 #[.val (.int p1), .val (.int (2 : Int32)), .val (.ref w5), .val (.ref w5)] [(.ref w5)])) _
    refine st4 _ ?_
    show Steps p.tables e below (T4.setTop (mkF m 37 #[.val (.int p1), .val (.int (2 : Int32)), .val (.ref w5), .val (.ref w5)] [(.int (1 : Int32))])) _
    refine XS.iloadN X4.here hx rfl (hb hby at_37) rfl ?_
    show Steps p.tables e below (T4.setTop (mkF m 38 #[.val (.int p1), .val (.int (2 : Int32)), .val (.ref w5), .val (.ref w5)] [(.int (2 : Int32)), (.int (1 : Int32))])) _
    refine XS.iconst X4.here hx rfl (hb hby at_38) ?_
    show Steps p.tables e below (T4.setTop (mkF m 39 #[.val (.int p1), .val (.int (2 : Int32)), .val (.ref w5), .val (.ref w5)] [(.int (4 : Int32)), (.int (2 : Int32)), (.int (1 : Int32))])) _
    refine XS.icmpNo X4.here hx rfl (hb hby at_39) rfl (by decide) ?_
    show Steps p.tables e below (T4.setTop (mkF m 42 #[.val (.int p1), .val (.int (2 : Int32)), .val (.ref w5), .val (.ref w5)] [(.int (1 : Int32))])) _
    refine XS.iconst X4.here hx rfl (hb hby at_42) ?_
    show Steps p.tables e below (T4.setTop (mkF m 43 #[.val (.int p1), .val (.int (2 : Int32)), .val (.ref w5), .val (.ref w5)] [(.int (1 : Int32)), (.int (1 : Int32))])) _
    refine XS.goto X4.here hx rfl (pc0 := 43) (pc' := 47) rfl (hb hby at_43) (by decide) (by decide) ?_
    show Steps p.tables e below (T4.setTop (mkF m 47 #[.val (.int p1), .val (.int (2 : Int32)), .val (.ref w5), .val (.ref w5)] [(.int (1 : Int32)), (.int (1 : Int32))])) _
    refine XS.icmpNo X4.here hx rfl (hb hby at_47) rfl (by decide) ?_
    show Steps p.tables e below (T4.setTop (mkF m 50 #[.val (.int p1), .val (.int (2 : Int32)), .val (.ref w5), .val (.ref w5)] [])) _
    refine XS.iconst X4.here hx rfl (hb hby at_50) ?_
    show Steps p.tables e below (T4.setTop (mkF m 51 #[.val (.int p1), .val (.int (2 : Int32)), .val (.ref w5), .val (.ref w5)] [(.int (1 : Int32))])) _
    refine XS.goto X4.here hx rfl (pc0 := 51) (pc' := 55) rfl (hb hby at_51) (by decide) (by decide) ?_
    show Steps p.tables e below (T4.setTop (mkF m 55 #[.val (.int p1), .val (.int (2 : Int32)), .val (.ref w5), .val (.ref w5)] [(.int (1 : Int32))])) _
    exact retN X4 hx (t := .boolean) Bd.returns (by simp) (hb hby at_55) hr
  · exact ⟨rfl, N2⟩
set_option maxRecDepth 65536 in
set_option maxHeartbeats 40000000 in
theorem own_of_3 (l : Launch) (Z : State) (a0 : Array Value) (hw : ∀ d ∈ tables_1, d.before a0 Z = true) (ws : List Jvm.Cond) (w0 : Addr) (cl0 : Cell) (w1 : Addr) (w2 : Addr) (w3 : Addr) (w4 : Addr) (w5 : Addr) (w6 : Addr) (w7 : Addr) (w8 : Addr) (h0 : Heap) (n0 : Nat) (Z0 : n0 ≤ h0.size) (K : own_Know Z h0 w0 cl0 w1 w2 w3 w4 w5 w6 w7 w8) :
    MetFree l (⟨"com/example/rawmark/rawmark/io/Format$FixedInteger", "of", "(I)Lcom/example/rawmark/rawmark/io/Format$FixedInteger;"⟩ : MethodName) (head1 (Jvm.Cond.code (⟨"com/example/rawmark/rawmark/io/Format$FixedInteger", "of", "(I)Lcom/example/rawmark/rawmark/io/Format$FixedInteger;"⟩ : MethodName) prog_35_method_4_code 1 (some (.object "com/example/rawmark/rawmark/io/Format$FixedInteger")) :: ws) ({ frames := 0, cells := 0, slots := 0, locals := 0 } : Room)) (fun a U => a = #[(.int (3 : Int32))] ∧ Z.Warmed39 U.vm ∧ U.heap = h0) (fun _ _ _ _ _ => True) (fun _ U o U' => ∃ v L, o = .returned v ∧ own_Q (some (.ref w2)) h0 n0 v U'.heap L ∧ FrameEnd U o U' L ({ frames := 0, cells := 0, slots := 0, locals := 0 } : Room).cells ({ frames := 0, cells := 0, slots := 0, locals := 0 } : Room).slots) := by
  obtain ⟨S0, A0, S1, E1, S2, E2, S3, E3, S4, E4, S5, E5, S6, E6, S7, E7, S8, E8, B0, F1_bits, F1_signed, B3, F2_bits, F2_signed, B6, F3_bits, F3_signed, B7, F4_bits, F4_signed, B2, F5_bits, F5_signed, B1, F6_bits, F6_signed, B4, F7_bits, F7_signed, B5, F8_bits, F8_signed⟩ := id K
  refine MetFree.of_bodySF (plainFor_of_name own_pn_of) hisR ?_
  intro p e s m args below meth c s₁ Bd hml0 hP hK
  obtain ⟨rfl, hZ, hh⟩ := hP
  have hx := Bd.exec
  have hby := Bd.bytes
  have hml : c.maxLocals = 1 := hml0
  have hown : s.vm.findClass "com/example/rawmark/rawmark/io/Format$FixedInteger" = some m.cls := findClass_of_methodNamed Bd.named
  have X0 : Stand p l e ({ frames := 0, cells := 0, slots := 0, locals := 0 } : Room) s m #[(.int (3 : Int32))] below meth c s₁ [] 0 0 := Stand.of_body Bd
  have e0 : s₁.heap = h0 := by rw [← hh, Bd.state]; rfl
  have N0 := Fr.nil n0
  have pre0 : ∀ t, Steps p.tables e below (s₁.setTop (mkF m 0 #[.val (.int (3 : Int32))] [])) t → Steps p.tables e below (s₁.setTop (entryFrame m #[(.int (3 : Int32))] 1)) t := fun t k => castTop (own_ef_of m (3 : Int32)) k
  obtain ⟨T1, X1, e1, st1⟩ := getS2 X0 hx hZ hown (host := "") (Or.inl (hw _ (List.mem_of_getElem? (i := 4) rfl))) Via.refl e0 S0 (g := (mkF m 0 #[.val (.int (3 : Int32))] [])) rfl (hb hby d_of_0)
  obtain ⟨fs, hr, hrun, hended, hW, hsame⟩ := X1.leave (v := some (.ref w2)) (fun h => by rw [Bd.returns] at h; cases h)
  refine ⟨_, _, pre0 _ ?_, hrun, hended, _, _, rfl, ?_, ⟨_, rfl⟩, hW, hsame.mono (by decide) (by decide)⟩
  · show Steps p.tables e below (s₁.setTop (mkF m 0 #[.val (.int (3 : Int32))] [])) _
    refine st1 _ ?_
    show Steps p.tables e below (T1.setTop (mkF m 3 #[.val (.int (3 : Int32))] [(.ref w0)])) _
    refine XS.iloadN X1.here hx rfl (hb hby d_of_3) rfl ?_
    show Steps p.tables e below (T1.setTop (mkF m 4 #[.val (.int (3 : Int32))] [(.int (3 : Int32)), (.ref w0)])) _
    refine X1.aaload hx (j := (3 : Int32)) (v := (.ref w2)) (by rw [e1]; exact A0.1) (State.isArrayOf_alike hZ.alike A0.2.1) rfl A0.2.2 B3.1 B3.2 (g := (mkF m 4 #[.val (.int (3 : Int32))] [(.int (3 : Int32)), (.ref w0)])) rfl rfl (hb hby d_of_4) _ ?_
    show Steps p.tables e below (T1.setTop (mkF m 5 #[.val (.int (3 : Int32))] [(.ref w2)])) _
    jvm_step X1.here [X1.here.top, hx, (hb hby d_of_5), X1.method', Bd.returns, Value.isRef, FieldType.isReference]
    first | (intro acts; rw [hr _ acts rfl rfl rfl]) | rw [hr _ _ rfl rfl rfl]
    exact Steps.refl _
  · show own_Q _ h0 n0 _ T1.heap _
    rw [e1]
    exact ⟨rfl, N0, rfl⟩
set_option maxRecDepth 65536 in
set_option maxHeartbeats 40000000 in
theorem own_expected_3 (l : Launch) (Z : State) (a0 : Array Value) (hw : ∀ d ∈ tables_1, d.before a0 Z = true) (ws : List Jvm.Cond) (w0 : Addr) (cl0 : Cell) (w1 : Addr) (w2 : Addr) (w3 : Addr) (w4 : Addr) (w5 : Addr) (w6 : Addr) (w7 : Addr) (w8 : Addr) (h0 : Heap) (n0 : Nat) (Z0 : n0 ≤ h0.size) (K : own_Know Z h0 w0 cl0 w1 w2 w3 w4 w5 w6 w7 w8) :
    MetFree l (⟨"com/example/rawmark/rawmark/io/FixedIntegerOfPinLaw", "expected", "(I)Lcom/example/rawmark/rawmark/io/Format$FixedInteger;"⟩ : MethodName) (head1 (Jvm.Cond.code (⟨"com/example/rawmark/rawmark/io/FixedIntegerOfPinLaw", "expected", "(I)Lcom/example/rawmark/rawmark/io/Format$FixedInteger;"⟩ : MethodName) method_2_code 2 (some (.object "com/example/rawmark/rawmark/io/Format$FixedInteger")) :: ws) ({ frames := 0, cells := 0, slots := 0, locals := 0 } : Room)) (fun a U => a = #[(.int (3 : Int32))] ∧ Z.Warmed39 U.vm ∧ U.heap = h0) (fun _ _ _ _ _ => True) (fun _ U o U' => ∃ v L, o = .returned v ∧ own_Q (some (.ref w2)) h0 n0 v U'.heap L ∧ FrameEnd U o U' L ({ frames := 0, cells := 0, slots := 0, locals := 0 } : Room).cells ({ frames := 0, cells := 0, slots := 0, locals := 0 } : Room).slots) := by
  obtain ⟨S0, A0, S1, E1, S2, E2, S3, E3, S4, E4, S5, E5, S6, E6, S7, E7, S8, E8, B0, F1_bits, F1_signed, B3, F2_bits, F2_signed, B6, F3_bits, F3_signed, B7, F4_bits, F4_signed, B2, F5_bits, F5_signed, B1, F6_bits, F6_signed, B4, F7_bits, F7_signed, B5, F8_bits, F8_signed⟩ := id K
  refine MetFree.of_bodySF (plainFor_of_name own_pn_expected) hisR ?_
  intro p e s m args below meth c s₁ Bd hml0 hP hK
  obtain ⟨rfl, hZ, hh⟩ := hP
  have hx := Bd.exec
  have hby := Bd.bytes
  have hml : c.maxLocals = 2 := hml0
  have hown : s.vm.findClass "com/example/rawmark/rawmark/io/FixedIntegerOfPinLaw" = some m.cls := findClass_of_methodNamed Bd.named
  have X0 : Stand p l e ({ frames := 0, cells := 0, slots := 0, locals := 0 } : Room) s m #[(.int (3 : Int32))] below meth c s₁ [] 0 0 := Stand.of_body Bd
  have e0 : s₁.heap = h0 := by rw [← hh, Bd.state]; rfl
  have N0 := Fr.nil n0
  have pre0 : ∀ t, Steps p.tables e below (s₁.setTop (mkF m 0 #[.val (.int (3 : Int32)), .unset] [])) t → Steps p.tables e below (s₁.setTop (entryFrame m #[(.int (3 : Int32))] 2)) t := fun t k => castTop (own_ef_expected m (3 : Int32)) k
  obtain ⟨T1, X1, e1, st1⟩ := getS2 X0 hx hZ hown (host := "") (Or.inl (hw _ (List.mem_of_getElem? (i := 17) rfl))) Via.refl e0 S2 (g := (mkF m 40 #[.val (.int (3 : Int32)), .unset] [])) rfl (hb hby d_expected_40)
  obtain ⟨fs, hr, hrun, hended, hW, hsame⟩ := X1.leave (v := some (.ref w2)) (fun h => by rw [Bd.returns] at h; cases h)
  refine ⟨_, _, pre0 _ ?_, hrun, hended, _, _, rfl, ?_, ⟨_, rfl⟩, hW, hsame.mono (by decide) (by decide)⟩
  · show Steps p.tables e below (s₁.setTop (mkF m 0 #[.val (.int (3 : Int32)), .unset] [])) _
    refine XS.iloadN X0.here hx rfl (hb hby d_expected_0) rfl ?_
    show Steps p.tables e below (s₁.setTop (mkF m 1 #[.val (.int (3 : Int32)), .unset] [(.int (3 : Int32))])) _
    refine XS.iconst X0.here hx rfl (hb hby d_expected_1) ?_
    show Steps p.tables e below (s₁.setTop (mkF m 2 #[.val (.int (3 : Int32)), .unset] [(.int (4 : Int32)), (.int (3 : Int32))])) _
    refine XS.icmpNo X0.here hx rfl (hb hby d_expected_2) rfl (by decide) ?_
    show Steps p.tables e below (s₁.setTop (mkF m 5 #[.val (.int (3 : Int32)), .unset] [])) _
    refine XS.iloadN X0.here hx rfl (hb hby d_expected_5) rfl ?_
    show Steps p.tables e below (s₁.setTop (mkF m 6 #[.val (.int (3 : Int32)), .unset] [(.int (3 : Int32))])) _
    refine XS.iconst X0.here hx rfl (hb hby d_expected_6) ?_
    show Steps p.tables e below (s₁.setTop (mkF m 7 #[.val (.int (3 : Int32)), .unset] [(.int (2 : Int32)), (.int (3 : Int32))])) _
    refine XS.icmpYes X0.here hx rfl (pc0 := 7) (pc' := 28) rfl (hb hby d_expected_7) rfl (by decide) (by decide) (by decide) ?_
    show Steps p.tables e below (s₁.setTop (mkF m 28 #[.val (.int (3 : Int32)), .unset] [])) _
    refine XS.iloadN X0.here hx rfl (hb hby d_expected_28) rfl ?_
    show Steps p.tables e below (s₁.setTop (mkF m 29 #[.val (.int (3 : Int32)), .unset] [(.int (3 : Int32))])) _
    refine XS.iconst X0.here hx rfl (hb hby d_expected_29) ?_
    show Steps p.tables e below (s₁.setTop (mkF m 30 #[.val (.int (3 : Int32)), .unset] [(.int (2 : Int32)), (.int (3 : Int32))])) _
    refine XS.icmpYes X0.here hx rfl (pc0 := 30) (pc' := 40) rfl (hb hby d_expected_30) rfl (by decide) (by decide) (by decide) ?_
    show Steps p.tables e below (s₁.setTop (mkF m 40 #[.val (.int (3 : Int32)), .unset] [])) _
    refine st1 _ ?_
    show Steps p.tables e below (T1.setTop (mkF m 43 #[.val (.int (3 : Int32)), .unset] [(.ref w2)])) _
    refine XS.astoreN X1.here hx rfl (hb hby d_expected_43) rfl rfl (l' := #[.val (.int (3 : Int32)), .val (.ref w2)]) rfl ?_
    show Steps p.tables e below (T1.setTop (mkF m 44 #[.val (.int (3 : Int32)), .val (.ref w2)] [])) _
    refine XS.goto X1.here hx rfl (pc0 := 44) (pc' := 89) rfl (hb hby d_expected_44) (by decide) (by decide) ?_
    show Steps p.tables e below (T1.setTop (mkF m 89 #[.val (.int (3 : Int32)), .val (.ref w2)] [])) _
    refine XS.aloadN X1.here hx rfl (hb hby d_expected_89) rfl rfl ?_
    show Steps p.tables e below (T1.setTop (mkF m 90 #[.val (.int (3 : Int32)), .val (.ref w2)] [(.ref w2)])) _
    jvm_step X1.here [X1.here.top, hx, (hb hby d_expected_90), X1.method', Bd.returns, Value.isRef, FieldType.isReference]
    first | (intro acts; rw [hr _ acts rfl rfl rfl]) | rw [hr _ _ rfl rfl rfl]
    exact Steps.refl _
  · show own_Q _ h0 n0 _ T1.heap _
    rw [e1]
    exact ⟨rfl, N0, rfl⟩
set_option maxRecDepth 65536 in
set_option maxHeartbeats 40000000 in
theorem own_law_3 (l : Launch) (Z : State) (a0 : Array Value) (hw : ∀ d ∈ tables_1, d.before a0 Z = true) (ws : List Jvm.Cond) (w0 : Addr) (cl0 : Cell) (w1 : Addr) (w2 : Addr) (w3 : Addr) (w4 : Addr) (w5 : Addr) (w6 : Addr) (w7 : Addr) (w8 : Addr) (h0 : Heap) (n0 : Nat) (Z0 : n0 ≤ h0.size) (K : own_Know Z h0 w0 cl0 w1 w2 w3 w4 w5 w6 w7 w8) (p1 : Int32) (hi : (p1 &&& (7 : Int32)) = (3 : Int32)) :
    MetFree l x (head1 (Jvm.Cond.code x code maxLocals ret :: ws) room_1) (fun a U => a = #[(.int p1)] ∧ Z.Warmed39 U.vm ∧ U.heap = h0) (fun _ _ _ _ _ => True) (fun _ U o U' => ∃ v L, o = .returned v ∧ own_QL n0 v L ∧ FrameEnd U o U' L room_1.cells room_1.slots) := by
  obtain ⟨S0, A0, S1, E1, S2, E2, S3, E3, S4, E4, S5, E5, S6, E6, S7, E7, S8, E8, B0, F1_bits, F1_signed, B3, F2_bits, F2_signed, B6, F3_bits, F3_signed, B7, F4_bits, F4_signed, B2, F5_bits, F5_signed, B1, F6_bits, F6_signed, B4, F7_bits, F7_signed, B5, F8_bits, F8_signed⟩ := id K
  refine MetFree.of_bodySF (plainFor_of_name own_pn_law) hisR ?_
  intro p e s m args below meth c s₁ Bd hml0 hP hK
  obtain ⟨rfl, hZ, hh⟩ := hP
  have hx := Bd.exec
  have hby := Bd.bytes
  have hml : c.maxLocals = 4 := hml0
  have hown : s.vm.findClass "com/example/rawmark/rawmark/io/FixedIntegerOfPinLaw" = some m.cls := findClass_of_methodNamed Bd.named
  have X0 : Stand p l e room_1 s m #[(.int p1)] below meth c s₁ [] 0 0 := Stand.of_body Bd
  have e0 : s₁.heap = h0 := by rw [← hh, Bd.state]; rfl
  have N0 := Fr.nil n0
  have pre0 : ∀ t, Steps p.tables e below (s₁.setTop (mkF m 0 #[.val (.int p1), .unset, .unset, .unset] [])) t → Steps p.tables e below (s₁.setTop (entryFrame m #[(.int p1)] maxLocals)) t := fun t k => castTop (own_ef_law m p1) k
  obtain ⟨_, _, ⟨T1, L1, k1, n1⟩, -, X1, ⟨Lc1, hQ1, l1, y1, z1⟩, st1⟩ := Jvm.LawKit.callS X0 hx (y := (⟨"com/example/rawmark/rawmark/io/Format$FixedInteger", "of", "(I)Lcom/example/rawmark/rawmark/io/Format$FixedInteger;"⟩ : MethodName)) hown (mvT hZ (hw _ (List.mem_of_getElem? (i := 0) rfl))) (mvT hZ (hw _ (List.mem_of_getElem? (i := 1) rfl))) (mvT hZ (hw _ (List.mem_of_getElem? (i := 2) rfl))) (mvT hZ (hw _ (List.mem_of_getElem? (i := 3) rfl))) (by decide) (backOf (W := 0) (own_of_3 l Z a0 hw [] w0 cl0 w1 w2 w3 w4 w5 w6 w7 w8 h0 n0 Z0 K) hZ (hw _ (List.mem_of_getElem? (i := 3) rfl)) (hw _ (List.mem_of_getElem? (i := 2) rfl)) (by decide) (by decide)) (g := (mkF m 6 #[.val (.int p1), .val (.int (3 : Int32)), .unset, .unset] [(.int (3 : Int32))])) rfl (by rw [hml]; rfl) (argsL := [(.int (3 : Int32))]) (rest := []) (lenOf own_pd0 rfl) rfl (by show 2 * 0 + _ ≤ _; exact Nat.le_of_eq rfl) (hb hby at_6) (fun _ _ => ⟨rfl, e0, (by decide : 0 + 0 ≤ _), (by decide : 0 + 0 ≤ _)⟩)
  dsimp only [Pt.U, Pt.locs, Pt.cells, Pt.slots] at X1 l1 y1 z1 st1 hQ1
  subst l1 y1 z1
  obtain ⟨rfl, N1q, e1⟩ := hQ1
  have N1 := Fr.app N0 N1q
  obtain ⟨_, _, ⟨T2, L2, k2, n2⟩, -, X2, ⟨Lc2, hQ2, l2, y2, z2⟩, st2⟩ := Jvm.LawKit.callS X1 hx (y := (⟨"com/example/rawmark/rawmark/io/FixedIntegerOfPinLaw", "expected", "(I)Lcom/example/rawmark/rawmark/io/Format$FixedInteger;"⟩ : MethodName)) hown (mvT hZ (hw _ (List.mem_of_getElem? (i := 7) rfl))) (mvT hZ (hw _ (List.mem_of_getElem? (i := 8) rfl))) (mvT hZ (hw _ (List.mem_of_getElem? (i := 9) rfl))) (mvT hZ (hw _ (List.mem_of_getElem? (i := 10) rfl))) (by decide) (backOf (W := 0) (own_expected_3 l Z a0 hw [] w0 cl0 w1 w2 w3 w4 w5 w6 w7 w8 h0 n0 Z0 K) hZ (hw _ (List.mem_of_getElem? (i := 10) rfl)) (hw _ (List.mem_of_getElem? (i := 9) rfl)) (by decide) (by decide)) (g := (mkF m 11 #[.val (.int p1), .val (.int (3 : Int32)), .val (.ref w2), .unset] [(.int (3 : Int32))])) rfl (by rw [hml]; rfl) (argsL := [(.int (3 : Int32))]) (rest := []) (lenOf own_pd0 rfl) rfl (by show 2 * 0 + _ ≤ _; exact Nat.le_of_eq rfl) (hb hby at_11) (fun _ _ => ⟨rfl, e1, (by decide : 0 + 0 ≤ _), (by decide : 0 + 0 ≤ _)⟩)
  dsimp only [Pt.U, Pt.locs, Pt.cells, Pt.slots] at X2 l2 y2 z2 st2 hQ2
  subst l2 y2 z2
  obtain ⟨rfl, N2q, e2⟩ := hQ2
  have N2 := Fr.app N1 N2q
  obtain ⟨T3, X3, e3, st3⟩ := getF X2 hx hZ hown (host := "") (Or.inl (hw _ (List.mem_of_getElem? (i := 12) rfl))) Via.refl e2 F2_bits (g := (mkF m 21 #[.val (.int p1), .val (.int (3 : Int32)), .val (.ref w2), .val (.ref w2)] [(.ref w2)])) rfl rfl (hb hby at_21)
  obtain ⟨T4, X4, e4, st4⟩ := getF X3 hx hZ hown (host := "") (Or.inl (hw _ (List.mem_of_getElem? (i := 14) rfl))) Via.refl e3 F2_signed (g := (mkF m 34 #[.val (.int p1), .val (.int (3 : Int32)), .val (.ref w2), .val (.ref w2)] [(.ref w2)])) rfl rfl (hb hby at_34)
  obtain ⟨fs, hr, hrun, hended, hW, hsame⟩ := X4.leave (v := some (.int (1 : Int32))) (fun h => by rw [Bd.returns] at h; cases h)
  refine ⟨_, _, pre0 _ ?_, hrun, hended, _, _, rfl, ?_, ⟨_, rfl⟩, hW, hsame.mono (by decide) (by decide)⟩
  · show Steps p.tables e below (s₁.setTop (mkF m 0 #[.val (.int p1), .unset, .unset, .unset] [])) _
    refine XS.iloadN X0.here hx rfl (hb hby at_0) rfl ?_
    show Steps p.tables e below (s₁.setTop (mkF m 1 #[.val (.int p1), .unset, .unset, .unset] [(.int p1)])) _
    refine XS.bipush X0.here hx rfl (hb hby at_1) ?_
    show Steps p.tables e below (s₁.setTop (mkF m 3 #[.val (.int p1), .unset, .unset, .unset] [(.int (7 : Int32)), (.int p1)])) _
    refine XS.iand X0.here hx rfl (hb hby at_3) rfl ?_
    show Steps p.tables e below (s₁.setTop (mkF m 4 #[.val (.int p1), .unset, .unset, .unset] [(.int (p1 &&& (7 : Int32)))])) _
    rw [hi]
    show Steps p.tables e below (s₁.setTop (mkF m 4 #[.val (.int p1), .unset, .unset, .unset] [(.int (3 : Int32))])) _
    refine XS.istoreN X0.here hx rfl (hb hby at_4) rfl (l' := #[.val (.int p1), .val (.int (3 : Int32)), .unset, .unset]) rfl ?_
    show Steps p.tables e below (s₁.setTop (mkF m 5 #[.val (.int p1), .val (.int (3 : Int32)), .unset, .unset] [])) _
    refine XS.iloadN X0.here hx rfl (hb hby at_5) rfl ?_
    show Steps p.tables e below (s₁.setTop (mkF m 6 #[.val (.int p1), .val (.int (3 : Int32)), .unset, .unset] [(.int (3 : Int32))])) _
    refine st1 _ ?_
    show Steps p.tables e below (T1.setTop (mkF m 9 #[.val (.int p1), .val (.int (3 : Int32)), .unset, .unset] [(.ref w2)])) _
    refine XS.astoreN X1.here hx rfl (hb hby at_9) rfl rfl (l' := #[.val (.int p1), .val (.int (3 : Int32)), .val (.ref w2), .unset]) rfl ?_
    show Steps p.tables e below (T1.setTop (mkF m 10 #[.val (.int p1), .val (.int (3 : Int32)), .val (.ref w2), .unset] [])) _
    refine XS.iloadN X1.here hx rfl (hb hby at_10) rfl ?_
    show Steps p.tables e below (T1.setTop (mkF m 11 #[.val (.int p1), .val (.int (3 : Int32)), .val (.ref w2), .unset] [(.int (3 : Int32))])) _
    refine st2 _ ?_
    show Steps p.tables e below (T2.setTop (mkF m 14 #[.val (.int p1), .val (.int (3 : Int32)), .val (.ref w2), .unset] [(.ref w2)])) _
    refine XS.astoreN X2.here hx rfl (hb hby at_14) rfl rfl (l' := #[.val (.int p1), .val (.int (3 : Int32)), .val (.ref w2), .val (.ref w2)]) rfl ?_
    show Steps p.tables e below (T2.setTop (mkF m 15 #[.val (.int p1), .val (.int (3 : Int32)), .val (.ref w2), .val (.ref w2)] [])) _
    refine XS.aloadN X2.here hx rfl (hb hby at_15) rfl rfl ?_
    show Steps p.tables e below (T2.setTop (mkF m 16 #[.val (.int p1), .val (.int (3 : Int32)), .val (.ref w2), .val (.ref w2)] [(.ref w2)])) _
    refine XS.aloadN X2.here hx rfl (hb hby at_16) rfl rfl ?_
    show Steps p.tables e below (T2.setTop (mkF m 17 #[.val (.int p1), .val (.int (3 : Int32)), .val (.ref w2), .val (.ref w2)] [(.ref w2), (.ref w2)])) _
    refine Jvm.RoadKit.acmp (g := (mkF m 17 #[.val (.int p1), .val (.int (3 : Int32)), .val (.ref w2), .val (.ref w2)] [(.ref w2), (.ref w2)])) X2 hx rfl rfl rfl (pc0 := 17) (pc' := 20) (same := true) rfl (hb hby at_17) rfl (decide_eq_true rfl) (by decide) (by decide) ?_
    show Steps p.tables e below (T2.setTop (mkF m 20 #[.val (.int p1), .val (.int (3 : Int32)), .val (.ref w2), .val (.ref w2)] [])) _
    refine XS.aloadN X2.here hx rfl (hb hby at_20) rfl rfl ?_
    show Steps p.tables e below (T2.setTop (mkF m 21 #[.val (.int p1), .val (.int (3 : Int32)), .val (.ref w2), .val (.ref w2)] [(.ref w2)])) _
    refine st3 _ ?_
    show Steps p.tables e below (T3.setTop (mkF m 24 #[.val (.int p1), .val (.int (3 : Int32)), .val (.ref w2), .val (.ref w2)] [(.int (64 : Int32))])) _
    refine XS.bipush X3.here hx rfl (hb hby at_24) ?_
    show Steps p.tables e below (T3.setTop (mkF m 26 #[.val (.int p1), .val (.int (3 : Int32)), .val (.ref w2), .val (.ref w2)] [(.int (8 : Int32)), (.int (64 : Int32))])) _
    refine XS.iloadN X3.here hx rfl (hb hby at_26) rfl ?_
    show Steps p.tables e below (T3.setTop (mkF m 27 #[.val (.int p1), .val (.int (3 : Int32)), .val (.ref w2), .val (.ref w2)] [(.int (3 : Int32)), (.int (8 : Int32)), (.int (64 : Int32))])) _
    refine XS.iconst X3.here hx rfl (hb hby at_27) ?_
    show Steps p.tables e below (T3.setTop (mkF m 28 #[.val (.int p1), .val (.int (3 : Int32)), .val (.ref w2), .val (.ref w2)] [(.int (3 : Int32)), (.int (3 : Int32)), (.int (8 : Int32)), (.int (64 : Int32))])) _
    refine XS.iand X3.here hx rfl (hb hby at_28) rfl ?_
    show Steps p.tables e below (T3.setTop (mkF m 29 #[.val (.int p1), .val (.int (3 : Int32)), .val (.ref w2), .val (.ref w2)] [(.int ((3 : Int32) &&& (3 : Int32))), (.int (8 : Int32)), (.int (64 : Int32))])) _
    rw [show (((3 : Int32) &&& (3 : Int32)) : Int32) = (3 : Int32) from by decide]
    show Steps p.tables e below (T3.setTop (mkF m 29 #[.val (.int p1), .val (.int (3 : Int32)), .val (.ref w2), .val (.ref w2)] [(.int (3 : Int32)), (.int (8 : Int32)), (.int (64 : Int32))])) _
    refine XS.ishl X3.here hx rfl (hb hby at_29) rfl ?_
    show Steps p.tables e below (T3.setTop (mkF m 30 #[.val (.int p1), .val (.int (3 : Int32)), .val (.ref w2), .val (.ref w2)] [(.int ((8 : Int32) <<< ((3 : Int32) &&& 31))), (.int (64 : Int32))])) _
    rw [show (((8 : Int32) <<< ((3 : Int32) &&& 31)) : Int32) = (64 : Int32) from by decide]
    show Steps p.tables e below (T3.setTop (mkF m 30 #[.val (.int p1), .val (.int (3 : Int32)), .val (.ref w2), .val (.ref w2)] [(.int (64 : Int32)), (.int (64 : Int32))])) _
    refine XS.icmpNo X3.here hx rfl (hb hby at_30) rfl (by decide) ?_
    show Steps p.tables e below (T3.setTop (mkF m 33 #[.val (.int p1), .val (.int (3 : Int32)), .val (.ref w2), .val (.ref w2)] [])) _
    refine XS.aloadN X3.here hx rfl (hb hby at_33) rfl rfl ?_
    show Steps p.tables e below (T3.setTop (mkF m 34 #[.val (.int p1), .val (.int (3 : Int32)), .val (.ref w2), .val (.ref w2)] [(.ref w2)])) _
    refine st4 _ ?_
    show Steps p.tables e below (T4.setTop (mkF m 37 #[.val (.int p1), .val (.int (3 : Int32)), .val (.ref w2), .val (.ref w2)] [(.int (1 : Int32))])) _
    refine XS.iloadN X4.here hx rfl (hb hby at_37) rfl ?_
    show Steps p.tables e below (T4.setTop (mkF m 38 #[.val (.int p1), .val (.int (3 : Int32)), .val (.ref w2), .val (.ref w2)] [(.int (3 : Int32)), (.int (1 : Int32))])) _
    refine XS.iconst X4.here hx rfl (hb hby at_38) ?_
    show Steps p.tables e below (T4.setTop (mkF m 39 #[.val (.int p1), .val (.int (3 : Int32)), .val (.ref w2), .val (.ref w2)] [(.int (4 : Int32)), (.int (3 : Int32)), (.int (1 : Int32))])) _
    refine XS.icmpNo X4.here hx rfl (hb hby at_39) rfl (by decide) ?_
    show Steps p.tables e below (T4.setTop (mkF m 42 #[.val (.int p1), .val (.int (3 : Int32)), .val (.ref w2), .val (.ref w2)] [(.int (1 : Int32))])) _
    refine XS.iconst X4.here hx rfl (hb hby at_42) ?_
    show Steps p.tables e below (T4.setTop (mkF m 43 #[.val (.int p1), .val (.int (3 : Int32)), .val (.ref w2), .val (.ref w2)] [(.int (1 : Int32)), (.int (1 : Int32))])) _
    refine XS.goto X4.here hx rfl (pc0 := 43) (pc' := 47) rfl (hb hby at_43) (by decide) (by decide) ?_
    show Steps p.tables e below (T4.setTop (mkF m 47 #[.val (.int p1), .val (.int (3 : Int32)), .val (.ref w2), .val (.ref w2)] [(.int (1 : Int32)), (.int (1 : Int32))])) _
    refine XS.icmpNo X4.here hx rfl (hb hby at_47) rfl (by decide) ?_
    show Steps p.tables e below (T4.setTop (mkF m 50 #[.val (.int p1), .val (.int (3 : Int32)), .val (.ref w2), .val (.ref w2)] [])) _
    refine XS.iconst X4.here hx rfl (hb hby at_50) ?_
    show Steps p.tables e below (T4.setTop (mkF m 51 #[.val (.int p1), .val (.int (3 : Int32)), .val (.ref w2), .val (.ref w2)] [(.int (1 : Int32))])) _
    refine XS.goto X4.here hx rfl (pc0 := 51) (pc' := 55) rfl (hb hby at_51) (by decide) (by decide) ?_
    show Steps p.tables e below (T4.setTop (mkF m 55 #[.val (.int p1), .val (.int (3 : Int32)), .val (.ref w2), .val (.ref w2)] [(.int (1 : Int32))])) _
    exact retN X4 hx (t := .boolean) Bd.returns (by simp) (hb hby at_55) hr
  · exact ⟨rfl, N2⟩
set_option maxRecDepth 65536 in
set_option maxHeartbeats 40000000 in
theorem own_of_4 (l : Launch) (Z : State) (a0 : Array Value) (hw : ∀ d ∈ tables_1, d.before a0 Z = true) (ws : List Jvm.Cond) (w0 : Addr) (cl0 : Cell) (w1 : Addr) (w2 : Addr) (w3 : Addr) (w4 : Addr) (w5 : Addr) (w6 : Addr) (w7 : Addr) (w8 : Addr) (h0 : Heap) (n0 : Nat) (Z0 : n0 ≤ h0.size) (K : own_Know Z h0 w0 cl0 w1 w2 w3 w4 w5 w6 w7 w8) :
    MetFree l (⟨"com/example/rawmark/rawmark/io/Format$FixedInteger", "of", "(I)Lcom/example/rawmark/rawmark/io/Format$FixedInteger;"⟩ : MethodName) (head1 (Jvm.Cond.code (⟨"com/example/rawmark/rawmark/io/Format$FixedInteger", "of", "(I)Lcom/example/rawmark/rawmark/io/Format$FixedInteger;"⟩ : MethodName) prog_35_method_4_code 1 (some (.object "com/example/rawmark/rawmark/io/Format$FixedInteger")) :: ws) ({ frames := 0, cells := 0, slots := 0, locals := 0 } : Room)) (fun a U => a = #[(.int (4 : Int32))] ∧ Z.Warmed39 U.vm ∧ U.heap = h0) (fun _ _ _ _ _ => True) (fun _ U o U' => ∃ v L, o = .returned v ∧ own_Q (some (.ref w7)) h0 n0 v U'.heap L ∧ FrameEnd U o U' L ({ frames := 0, cells := 0, slots := 0, locals := 0 } : Room).cells ({ frames := 0, cells := 0, slots := 0, locals := 0 } : Room).slots) := by
  obtain ⟨S0, A0, S1, E1, S2, E2, S3, E3, S4, E4, S5, E5, S6, E6, S7, E7, S8, E8, B0, F1_bits, F1_signed, B3, F2_bits, F2_signed, B6, F3_bits, F3_signed, B7, F4_bits, F4_signed, B2, F5_bits, F5_signed, B1, F6_bits, F6_signed, B4, F7_bits, F7_signed, B5, F8_bits, F8_signed⟩ := id K
  refine MetFree.of_bodySF (plainFor_of_name own_pn_of) hisR ?_
  intro p e s m args below meth c s₁ Bd hml0 hP hK
  obtain ⟨rfl, hZ, hh⟩ := hP
  have hx := Bd.exec
  have hby := Bd.bytes
  have hml : c.maxLocals = 1 := hml0
  have hown : s.vm.findClass "com/example/rawmark/rawmark/io/Format$FixedInteger" = some m.cls := findClass_of_methodNamed Bd.named
  have X0 : Stand p l e ({ frames := 0, cells := 0, slots := 0, locals := 0 } : Room) s m #[(.int (4 : Int32))] below meth c s₁ [] 0 0 := Stand.of_body Bd
  have e0 : s₁.heap = h0 := by rw [← hh, Bd.state]; rfl
  have N0 := Fr.nil n0
  have pre0 : ∀ t, Steps p.tables e below (s₁.setTop (mkF m 0 #[.val (.int (4 : Int32))] [])) t → Steps p.tables e below (s₁.setTop (entryFrame m #[(.int (4 : Int32))] 1)) t := fun t k => castTop (own_ef_of m (4 : Int32)) k
  obtain ⟨T1, X1, e1, st1⟩ := getS2 X0 hx hZ hown (host := "") (Or.inl (hw _ (List.mem_of_getElem? (i := 4) rfl))) Via.refl e0 S0 (g := (mkF m 0 #[.val (.int (4 : Int32))] [])) rfl (hb hby d_of_0)
  obtain ⟨fs, hr, hrun, hended, hW, hsame⟩ := X1.leave (v := some (.ref w7)) (fun h => by rw [Bd.returns] at h; cases h)
  refine ⟨_, _, pre0 _ ?_, hrun, hended, _, _, rfl, ?_, ⟨_, rfl⟩, hW, hsame.mono (by decide) (by decide)⟩
  · show Steps p.tables e below (s₁.setTop (mkF m 0 #[.val (.int (4 : Int32))] [])) _
    refine st1 _ ?_
    show Steps p.tables e below (T1.setTop (mkF m 3 #[.val (.int (4 : Int32))] [(.ref w0)])) _
    refine XS.iloadN X1.here hx rfl (hb hby d_of_3) rfl ?_
    show Steps p.tables e below (T1.setTop (mkF m 4 #[.val (.int (4 : Int32))] [(.int (4 : Int32)), (.ref w0)])) _
    refine X1.aaload hx (j := (4 : Int32)) (v := (.ref w7)) (by rw [e1]; exact A0.1) (State.isArrayOf_alike hZ.alike A0.2.1) rfl A0.2.2 B4.1 B4.2 (g := (mkF m 4 #[.val (.int (4 : Int32))] [(.int (4 : Int32)), (.ref w0)])) rfl rfl (hb hby d_of_4) _ ?_
    show Steps p.tables e below (T1.setTop (mkF m 5 #[.val (.int (4 : Int32))] [(.ref w7)])) _
    jvm_step X1.here [X1.here.top, hx, (hb hby d_of_5), X1.method', Bd.returns, Value.isRef, FieldType.isReference]
    first | (intro acts; rw [hr _ acts rfl rfl rfl]) | rw [hr _ _ rfl rfl rfl]
    exact Steps.refl _
  · show own_Q _ h0 n0 _ T1.heap _
    rw [e1]
    exact ⟨rfl, N0, rfl⟩
set_option maxRecDepth 65536 in
set_option maxHeartbeats 40000000 in
theorem own_expected_4 (l : Launch) (Z : State) (a0 : Array Value) (hw : ∀ d ∈ tables_1, d.before a0 Z = true) (ws : List Jvm.Cond) (w0 : Addr) (cl0 : Cell) (w1 : Addr) (w2 : Addr) (w3 : Addr) (w4 : Addr) (w5 : Addr) (w6 : Addr) (w7 : Addr) (w8 : Addr) (h0 : Heap) (n0 : Nat) (Z0 : n0 ≤ h0.size) (K : own_Know Z h0 w0 cl0 w1 w2 w3 w4 w5 w6 w7 w8) :
    MetFree l (⟨"com/example/rawmark/rawmark/io/FixedIntegerOfPinLaw", "expected", "(I)Lcom/example/rawmark/rawmark/io/Format$FixedInteger;"⟩ : MethodName) (head1 (Jvm.Cond.code (⟨"com/example/rawmark/rawmark/io/FixedIntegerOfPinLaw", "expected", "(I)Lcom/example/rawmark/rawmark/io/Format$FixedInteger;"⟩ : MethodName) method_2_code 2 (some (.object "com/example/rawmark/rawmark/io/Format$FixedInteger")) :: ws) ({ frames := 0, cells := 0, slots := 0, locals := 0 } : Room)) (fun a U => a = #[(.int (4 : Int32))] ∧ Z.Warmed39 U.vm ∧ U.heap = h0) (fun _ _ _ _ _ => True) (fun _ U o U' => ∃ v L, o = .returned v ∧ own_Q (some (.ref w7)) h0 n0 v U'.heap L ∧ FrameEnd U o U' L ({ frames := 0, cells := 0, slots := 0, locals := 0 } : Room).cells ({ frames := 0, cells := 0, slots := 0, locals := 0 } : Room).slots) := by
  obtain ⟨S0, A0, S1, E1, S2, E2, S3, E3, S4, E4, S5, E5, S6, E6, S7, E7, S8, E8, B0, F1_bits, F1_signed, B3, F2_bits, F2_signed, B6, F3_bits, F3_signed, B7, F4_bits, F4_signed, B2, F5_bits, F5_signed, B1, F6_bits, F6_signed, B4, F7_bits, F7_signed, B5, F8_bits, F8_signed⟩ := id K
  refine MetFree.of_bodySF (plainFor_of_name own_pn_expected) hisR ?_
  intro p e s m args below meth c s₁ Bd hml0 hP hK
  obtain ⟨rfl, hZ, hh⟩ := hP
  have hx := Bd.exec
  have hby := Bd.bytes
  have hml : c.maxLocals = 2 := hml0
  have hown : s.vm.findClass "com/example/rawmark/rawmark/io/FixedIntegerOfPinLaw" = some m.cls := findClass_of_methodNamed Bd.named
  have X0 : Stand p l e ({ frames := 0, cells := 0, slots := 0, locals := 0 } : Room) s m #[(.int (4 : Int32))] below meth c s₁ [] 0 0 := Stand.of_body Bd
  have e0 : s₁.heap = h0 := by rw [← hh, Bd.state]; rfl
  have N0 := Fr.nil n0
  have pre0 : ∀ t, Steps p.tables e below (s₁.setTop (mkF m 0 #[.val (.int (4 : Int32)), .unset] [])) t → Steps p.tables e below (s₁.setTop (entryFrame m #[(.int (4 : Int32))] 2)) t := fun t k => castTop (own_ef_expected m (4 : Int32)) k
  obtain ⟨T1, X1, e1, st1⟩ := getS2 X0 hx hZ hown (host := "") (Or.inl (hw _ (List.mem_of_getElem? (i := 27) rfl))) Via.refl e0 S7 (g := (mkF m 58 #[.val (.int (4 : Int32)), .unset] [])) rfl (hb hby d_expected_58)
  obtain ⟨fs, hr, hrun, hended, hW, hsame⟩ := X1.leave (v := some (.ref w7)) (fun h => by rw [Bd.returns] at h; cases h)
  refine ⟨_, _, pre0 _ ?_, hrun, hended, _, _, rfl, ?_, ⟨_, rfl⟩, hW, hsame.mono (by decide) (by decide)⟩
  · show Steps p.tables e below (s₁.setTop (mkF m 0 #[.val (.int (4 : Int32)), .unset] [])) _
    refine XS.iloadN X0.here hx rfl (hb hby d_expected_0) rfl ?_
    show Steps p.tables e below (s₁.setTop (mkF m 1 #[.val (.int (4 : Int32)), .unset] [(.int (4 : Int32))])) _
    refine XS.iconst X0.here hx rfl (hb hby d_expected_1) ?_
    show Steps p.tables e below (s₁.setTop (mkF m 2 #[.val (.int (4 : Int32)), .unset] [(.int (4 : Int32)), (.int (4 : Int32))])) _
    refine XS.icmpYes X0.here hx rfl (pc0 := 2) (pc' := 47) rfl (hb hby d_expected_2) rfl (by decide) (by decide) (by decide) ?_
    show Steps p.tables e below (s₁.setTop (mkF m 47 #[.val (.int (4 : Int32)), .unset] [])) _
    refine XS.iloadN X0.here hx rfl (hb hby d_expected_47) rfl ?_
    show Steps p.tables e below (s₁.setTop (mkF m 48 #[.val (.int (4 : Int32)), .unset] [(.int (4 : Int32))])) _
    refine XS.bipush X0.here hx rfl (hb hby d_expected_48) ?_
    show Steps p.tables e below (s₁.setTop (mkF m 50 #[.val (.int (4 : Int32)), .unset] [(.int (6 : Int32)), (.int (4 : Int32))])) _
    refine XS.icmpNo X0.here hx rfl (hb hby d_expected_50) rfl (by decide) ?_
    show Steps p.tables e below (s₁.setTop (mkF m 53 #[.val (.int (4 : Int32)), .unset] [])) _
    refine XS.iloadN X0.here hx rfl (hb hby d_expected_53) rfl ?_
    show Steps p.tables e below (s₁.setTop (mkF m 54 #[.val (.int (4 : Int32)), .unset] [(.int (4 : Int32))])) _
    refine XS.iconst X0.here hx rfl (hb hby d_expected_54) ?_
    show Steps p.tables e below (s₁.setTop (mkF m 55 #[.val (.int (4 : Int32)), .unset] [(.int (4 : Int32)), (.int (4 : Int32))])) _
    refine XS.icmpNo X0.here hx rfl (hb hby d_expected_55) rfl (by decide) ?_
    show Steps p.tables e below (s₁.setTop (mkF m 58 #[.val (.int (4 : Int32)), .unset] [])) _
    refine st1 _ ?_
    show Steps p.tables e below (T1.setTop (mkF m 61 #[.val (.int (4 : Int32)), .unset] [(.ref w7)])) _
    refine XS.astoreN X1.here hx rfl (hb hby d_expected_61) rfl rfl (l' := #[.val (.int (4 : Int32)), .val (.ref w7)]) rfl ?_
    show Steps p.tables e below (T1.setTop (mkF m 62 #[.val (.int (4 : Int32)), .val (.ref w7)] [])) _
    refine XS.goto X1.here hx rfl (pc0 := 62) (pc' := 89) rfl (hb hby d_expected_62) (by decide) (by decide) ?_
    show Steps p.tables e below (T1.setTop (mkF m 89 #[.val (.int (4 : Int32)), .val (.ref w7)] [])) _
    refine XS.aloadN X1.here hx rfl (hb hby d_expected_89) rfl rfl ?_
    show Steps p.tables e below (T1.setTop (mkF m 90 #[.val (.int (4 : Int32)), .val (.ref w7)] [(.ref w7)])) _
    jvm_step X1.here [X1.here.top, hx, (hb hby d_expected_90), X1.method', Bd.returns, Value.isRef, FieldType.isReference]
    first | (intro acts; rw [hr _ acts rfl rfl rfl]) | rw [hr _ _ rfl rfl rfl]
    exact Steps.refl _
  · show own_Q _ h0 n0 _ T1.heap _
    rw [e1]
    exact ⟨rfl, N0, rfl⟩
set_option maxRecDepth 65536 in
set_option maxHeartbeats 40000000 in
theorem own_law_4 (l : Launch) (Z : State) (a0 : Array Value) (hw : ∀ d ∈ tables_1, d.before a0 Z = true) (ws : List Jvm.Cond) (w0 : Addr) (cl0 : Cell) (w1 : Addr) (w2 : Addr) (w3 : Addr) (w4 : Addr) (w5 : Addr) (w6 : Addr) (w7 : Addr) (w8 : Addr) (h0 : Heap) (n0 : Nat) (Z0 : n0 ≤ h0.size) (K : own_Know Z h0 w0 cl0 w1 w2 w3 w4 w5 w6 w7 w8) (p1 : Int32) (hi : (p1 &&& (7 : Int32)) = (4 : Int32)) :
    MetFree l x (head1 (Jvm.Cond.code x code maxLocals ret :: ws) room_1) (fun a U => a = #[(.int p1)] ∧ Z.Warmed39 U.vm ∧ U.heap = h0) (fun _ _ _ _ _ => True) (fun _ U o U' => ∃ v L, o = .returned v ∧ own_QL n0 v L ∧ FrameEnd U o U' L room_1.cells room_1.slots) := by
  obtain ⟨S0, A0, S1, E1, S2, E2, S3, E3, S4, E4, S5, E5, S6, E6, S7, E7, S8, E8, B0, F1_bits, F1_signed, B3, F2_bits, F2_signed, B6, F3_bits, F3_signed, B7, F4_bits, F4_signed, B2, F5_bits, F5_signed, B1, F6_bits, F6_signed, B4, F7_bits, F7_signed, B5, F8_bits, F8_signed⟩ := id K
  refine MetFree.of_bodySF (plainFor_of_name own_pn_law) hisR ?_
  intro p e s m args below meth c s₁ Bd hml0 hP hK
  obtain ⟨rfl, hZ, hh⟩ := hP
  have hx := Bd.exec
  have hby := Bd.bytes
  have hml : c.maxLocals = 4 := hml0
  have hown : s.vm.findClass "com/example/rawmark/rawmark/io/FixedIntegerOfPinLaw" = some m.cls := findClass_of_methodNamed Bd.named
  have X0 : Stand p l e room_1 s m #[(.int p1)] below meth c s₁ [] 0 0 := Stand.of_body Bd
  have e0 : s₁.heap = h0 := by rw [← hh, Bd.state]; rfl
  have N0 := Fr.nil n0
  have pre0 : ∀ t, Steps p.tables e below (s₁.setTop (mkF m 0 #[.val (.int p1), .unset, .unset, .unset] [])) t → Steps p.tables e below (s₁.setTop (entryFrame m #[(.int p1)] maxLocals)) t := fun t k => castTop (own_ef_law m p1) k
  obtain ⟨_, _, ⟨T1, L1, k1, n1⟩, -, X1, ⟨Lc1, hQ1, l1, y1, z1⟩, st1⟩ := Jvm.LawKit.callS X0 hx (y := (⟨"com/example/rawmark/rawmark/io/Format$FixedInteger", "of", "(I)Lcom/example/rawmark/rawmark/io/Format$FixedInteger;"⟩ : MethodName)) hown (mvT hZ (hw _ (List.mem_of_getElem? (i := 0) rfl))) (mvT hZ (hw _ (List.mem_of_getElem? (i := 1) rfl))) (mvT hZ (hw _ (List.mem_of_getElem? (i := 2) rfl))) (mvT hZ (hw _ (List.mem_of_getElem? (i := 3) rfl))) (by decide) (backOf (W := 0) (own_of_4 l Z a0 hw [] w0 cl0 w1 w2 w3 w4 w5 w6 w7 w8 h0 n0 Z0 K) hZ (hw _ (List.mem_of_getElem? (i := 3) rfl)) (hw _ (List.mem_of_getElem? (i := 2) rfl)) (by decide) (by decide)) (g := (mkF m 6 #[.val (.int p1), .val (.int (4 : Int32)), .unset, .unset] [(.int (4 : Int32))])) rfl (by rw [hml]; rfl) (argsL := [(.int (4 : Int32))]) (rest := []) (lenOf own_pd0 rfl) rfl (by show 2 * 0 + _ ≤ _; exact Nat.le_of_eq rfl) (hb hby at_6) (fun _ _ => ⟨rfl, e0, (by decide : 0 + 0 ≤ _), (by decide : 0 + 0 ≤ _)⟩)
  dsimp only [Pt.U, Pt.locs, Pt.cells, Pt.slots] at X1 l1 y1 z1 st1 hQ1
  subst l1 y1 z1
  obtain ⟨rfl, N1q, e1⟩ := hQ1
  have N1 := Fr.app N0 N1q
  obtain ⟨_, _, ⟨T2, L2, k2, n2⟩, -, X2, ⟨Lc2, hQ2, l2, y2, z2⟩, st2⟩ := Jvm.LawKit.callS X1 hx (y := (⟨"com/example/rawmark/rawmark/io/FixedIntegerOfPinLaw", "expected", "(I)Lcom/example/rawmark/rawmark/io/Format$FixedInteger;"⟩ : MethodName)) hown (mvT hZ (hw _ (List.mem_of_getElem? (i := 7) rfl))) (mvT hZ (hw _ (List.mem_of_getElem? (i := 8) rfl))) (mvT hZ (hw _ (List.mem_of_getElem? (i := 9) rfl))) (mvT hZ (hw _ (List.mem_of_getElem? (i := 10) rfl))) (by decide) (backOf (W := 0) (own_expected_4 l Z a0 hw [] w0 cl0 w1 w2 w3 w4 w5 w6 w7 w8 h0 n0 Z0 K) hZ (hw _ (List.mem_of_getElem? (i := 10) rfl)) (hw _ (List.mem_of_getElem? (i := 9) rfl)) (by decide) (by decide)) (g := (mkF m 11 #[.val (.int p1), .val (.int (4 : Int32)), .val (.ref w7), .unset] [(.int (4 : Int32))])) rfl (by rw [hml]; rfl) (argsL := [(.int (4 : Int32))]) (rest := []) (lenOf own_pd0 rfl) rfl (by show 2 * 0 + _ ≤ _; exact Nat.le_of_eq rfl) (hb hby at_11) (fun _ _ => ⟨rfl, e1, (by decide : 0 + 0 ≤ _), (by decide : 0 + 0 ≤ _)⟩)
  dsimp only [Pt.U, Pt.locs, Pt.cells, Pt.slots] at X2 l2 y2 z2 st2 hQ2
  subst l2 y2 z2
  obtain ⟨rfl, N2q, e2⟩ := hQ2
  have N2 := Fr.app N1 N2q
  obtain ⟨T3, X3, e3, st3⟩ := getF X2 hx hZ hown (host := "") (Or.inl (hw _ (List.mem_of_getElem? (i := 12) rfl))) Via.refl e2 F7_bits (g := (mkF m 21 #[.val (.int p1), .val (.int (4 : Int32)), .val (.ref w7), .val (.ref w7)] [(.ref w7)])) rfl rfl (hb hby at_21)
  obtain ⟨T4, X4, e4, st4⟩ := getF X3 hx hZ hown (host := "") (Or.inl (hw _ (List.mem_of_getElem? (i := 14) rfl))) Via.refl e3 F7_signed (g := (mkF m 34 #[.val (.int p1), .val (.int (4 : Int32)), .val (.ref w7), .val (.ref w7)] [(.ref w7)])) rfl rfl (hb hby at_34)
  obtain ⟨fs, hr, hrun, hended, hW, hsame⟩ := X4.leave (v := some (.int (1 : Int32))) (fun h => by rw [Bd.returns] at h; cases h)
  refine ⟨_, _, pre0 _ ?_, hrun, hended, _, _, rfl, ?_, ⟨_, rfl⟩, hW, hsame.mono (by decide) (by decide)⟩
  · show Steps p.tables e below (s₁.setTop (mkF m 0 #[.val (.int p1), .unset, .unset, .unset] [])) _
    refine XS.iloadN X0.here hx rfl (hb hby at_0) rfl ?_
    show Steps p.tables e below (s₁.setTop (mkF m 1 #[.val (.int p1), .unset, .unset, .unset] [(.int p1)])) _
    refine XS.bipush X0.here hx rfl (hb hby at_1) ?_
    show Steps p.tables e below (s₁.setTop (mkF m 3 #[.val (.int p1), .unset, .unset, .unset] [(.int (7 : Int32)), (.int p1)])) _
    refine XS.iand X0.here hx rfl (hb hby at_3) rfl ?_
    show Steps p.tables e below (s₁.setTop (mkF m 4 #[.val (.int p1), .unset, .unset, .unset] [(.int (p1 &&& (7 : Int32)))])) _
    rw [hi]
    show Steps p.tables e below (s₁.setTop (mkF m 4 #[.val (.int p1), .unset, .unset, .unset] [(.int (4 : Int32))])) _
    refine XS.istoreN X0.here hx rfl (hb hby at_4) rfl (l' := #[.val (.int p1), .val (.int (4 : Int32)), .unset, .unset]) rfl ?_
    show Steps p.tables e below (s₁.setTop (mkF m 5 #[.val (.int p1), .val (.int (4 : Int32)), .unset, .unset] [])) _
    refine XS.iloadN X0.here hx rfl (hb hby at_5) rfl ?_
    show Steps p.tables e below (s₁.setTop (mkF m 6 #[.val (.int p1), .val (.int (4 : Int32)), .unset, .unset] [(.int (4 : Int32))])) _
    refine st1 _ ?_
    show Steps p.tables e below (T1.setTop (mkF m 9 #[.val (.int p1), .val (.int (4 : Int32)), .unset, .unset] [(.ref w7)])) _
    refine XS.astoreN X1.here hx rfl (hb hby at_9) rfl rfl (l' := #[.val (.int p1), .val (.int (4 : Int32)), .val (.ref w7), .unset]) rfl ?_
    show Steps p.tables e below (T1.setTop (mkF m 10 #[.val (.int p1), .val (.int (4 : Int32)), .val (.ref w7), .unset] [])) _
    refine XS.iloadN X1.here hx rfl (hb hby at_10) rfl ?_
    show Steps p.tables e below (T1.setTop (mkF m 11 #[.val (.int p1), .val (.int (4 : Int32)), .val (.ref w7), .unset] [(.int (4 : Int32))])) _
    refine st2 _ ?_
    show Steps p.tables e below (T2.setTop (mkF m 14 #[.val (.int p1), .val (.int (4 : Int32)), .val (.ref w7), .unset] [(.ref w7)])) _
    refine XS.astoreN X2.here hx rfl (hb hby at_14) rfl rfl (l' := #[.val (.int p1), .val (.int (4 : Int32)), .val (.ref w7), .val (.ref w7)]) rfl ?_
    show Steps p.tables e below (T2.setTop (mkF m 15 #[.val (.int p1), .val (.int (4 : Int32)), .val (.ref w7), .val (.ref w7)] [])) _
    refine XS.aloadN X2.here hx rfl (hb hby at_15) rfl rfl ?_
    show Steps p.tables e below (T2.setTop (mkF m 16 #[.val (.int p1), .val (.int (4 : Int32)), .val (.ref w7), .val (.ref w7)] [(.ref w7)])) _
    refine XS.aloadN X2.here hx rfl (hb hby at_16) rfl rfl ?_
    show Steps p.tables e below (T2.setTop (mkF m 17 #[.val (.int p1), .val (.int (4 : Int32)), .val (.ref w7), .val (.ref w7)] [(.ref w7), (.ref w7)])) _
    refine Jvm.RoadKit.acmp (g := (mkF m 17 #[.val (.int p1), .val (.int (4 : Int32)), .val (.ref w7), .val (.ref w7)] [(.ref w7), (.ref w7)])) X2 hx rfl rfl rfl (pc0 := 17) (pc' := 20) (same := true) rfl (hb hby at_17) rfl (decide_eq_true rfl) (by decide) (by decide) ?_
    show Steps p.tables e below (T2.setTop (mkF m 20 #[.val (.int p1), .val (.int (4 : Int32)), .val (.ref w7), .val (.ref w7)] [])) _
    refine XS.aloadN X2.here hx rfl (hb hby at_20) rfl rfl ?_
    show Steps p.tables e below (T2.setTop (mkF m 21 #[.val (.int p1), .val (.int (4 : Int32)), .val (.ref w7), .val (.ref w7)] [(.ref w7)])) _
    refine st3 _ ?_
    show Steps p.tables e below (T3.setTop (mkF m 24 #[.val (.int p1), .val (.int (4 : Int32)), .val (.ref w7), .val (.ref w7)] [(.int (8 : Int32))])) _
    refine XS.bipush X3.here hx rfl (hb hby at_24) ?_
    show Steps p.tables e below (T3.setTop (mkF m 26 #[.val (.int p1), .val (.int (4 : Int32)), .val (.ref w7), .val (.ref w7)] [(.int (8 : Int32)), (.int (8 : Int32))])) _
    refine XS.iloadN X3.here hx rfl (hb hby at_26) rfl ?_
    show Steps p.tables e below (T3.setTop (mkF m 27 #[.val (.int p1), .val (.int (4 : Int32)), .val (.ref w7), .val (.ref w7)] [(.int (4 : Int32)), (.int (8 : Int32)), (.int (8 : Int32))])) _
    refine XS.iconst X3.here hx rfl (hb hby at_27) ?_
    show Steps p.tables e below (T3.setTop (mkF m 28 #[.val (.int p1), .val (.int (4 : Int32)), .val (.ref w7), .val (.ref w7)] [(.int (3 : Int32)), (.int (4 : Int32)), (.int (8 : Int32)), (.int (8 : Int32))])) _
    refine XS.iand X3.here hx rfl (hb hby at_28) rfl ?_
    show Steps p.tables e below (T3.setTop (mkF m 29 #[.val (.int p1), .val (.int (4 : Int32)), .val (.ref w7), .val (.ref w7)] [(.int ((4 : Int32) &&& (3 : Int32))), (.int (8 : Int32)), (.int (8 : Int32))])) _
    rw [show (((4 : Int32) &&& (3 : Int32)) : Int32) = (0 : Int32) from by decide]
    show Steps p.tables e below (T3.setTop (mkF m 29 #[.val (.int p1), .val (.int (4 : Int32)), .val (.ref w7), .val (.ref w7)] [(.int (0 : Int32)), (.int (8 : Int32)), (.int (8 : Int32))])) _
    refine XS.ishl X3.here hx rfl (hb hby at_29) rfl ?_
    show Steps p.tables e below (T3.setTop (mkF m 30 #[.val (.int p1), .val (.int (4 : Int32)), .val (.ref w7), .val (.ref w7)] [(.int ((8 : Int32) <<< ((0 : Int32) &&& 31))), (.int (8 : Int32))])) _
    rw [show (((8 : Int32) <<< ((0 : Int32) &&& 31)) : Int32) = (8 : Int32) from by decide]
    show Steps p.tables e below (T3.setTop (mkF m 30 #[.val (.int p1), .val (.int (4 : Int32)), .val (.ref w7), .val (.ref w7)] [(.int (8 : Int32)), (.int (8 : Int32))])) _
    refine XS.icmpNo X3.here hx rfl (hb hby at_30) rfl (by decide) ?_
    show Steps p.tables e below (T3.setTop (mkF m 33 #[.val (.int p1), .val (.int (4 : Int32)), .val (.ref w7), .val (.ref w7)] [])) _
    refine XS.aloadN X3.here hx rfl (hb hby at_33) rfl rfl ?_
    show Steps p.tables e below (T3.setTop (mkF m 34 #[.val (.int p1), .val (.int (4 : Int32)), .val (.ref w7), .val (.ref w7)] [(.ref w7)])) _
    refine st4 _ ?_
    show Steps p.tables e below (T4.setTop (mkF m 37 #[.val (.int p1), .val (.int (4 : Int32)), .val (.ref w7), .val (.ref w7)] [(.int (0 : Int32))])) _
    refine XS.iloadN X4.here hx rfl (hb hby at_37) rfl ?_
    show Steps p.tables e below (T4.setTop (mkF m 38 #[.val (.int p1), .val (.int (4 : Int32)), .val (.ref w7), .val (.ref w7)] [(.int (4 : Int32)), (.int (0 : Int32))])) _
    refine XS.iconst X4.here hx rfl (hb hby at_38) ?_
    show Steps p.tables e below (T4.setTop (mkF m 39 #[.val (.int p1), .val (.int (4 : Int32)), .val (.ref w7), .val (.ref w7)] [(.int (4 : Int32)), (.int (4 : Int32)), (.int (0 : Int32))])) _
    refine XS.icmpYes X4.here hx rfl (pc0 := 39) (pc' := 46) rfl (hb hby at_39) rfl (by decide) (by decide) (by decide) ?_
    show Steps p.tables e below (T4.setTop (mkF m 46 #[.val (.int p1), .val (.int (4 : Int32)), .val (.ref w7), .val (.ref w7)] [(.int (0 : Int32))])) _
    refine XS.iconst X4.here hx rfl (hb hby at_46) ?_
    show Steps p.tables e below (T4.setTop (mkF m 47 #[.val (.int p1), .val (.int (4 : Int32)), .val (.ref w7), .val (.ref w7)] [(.int (0 : Int32)), (.int (0 : Int32))])) _
    refine XS.icmpNo X4.here hx rfl (hb hby at_47) rfl (by decide) ?_
    show Steps p.tables e below (T4.setTop (mkF m 50 #[.val (.int p1), .val (.int (4 : Int32)), .val (.ref w7), .val (.ref w7)] [])) _
    refine XS.iconst X4.here hx rfl (hb hby at_50) ?_
    show Steps p.tables e below (T4.setTop (mkF m 51 #[.val (.int p1), .val (.int (4 : Int32)), .val (.ref w7), .val (.ref w7)] [(.int (1 : Int32))])) _
    refine XS.goto X4.here hx rfl (pc0 := 51) (pc' := 55) rfl (hb hby at_51) (by decide) (by decide) ?_
    show Steps p.tables e below (T4.setTop (mkF m 55 #[.val (.int p1), .val (.int (4 : Int32)), .val (.ref w7), .val (.ref w7)] [(.int (1 : Int32))])) _
    exact retN X4 hx (t := .boolean) Bd.returns (by simp) (hb hby at_55) hr
  · exact ⟨rfl, N2⟩
set_option maxRecDepth 65536 in
set_option maxHeartbeats 40000000 in
theorem own_of_5 (l : Launch) (Z : State) (a0 : Array Value) (hw : ∀ d ∈ tables_1, d.before a0 Z = true) (ws : List Jvm.Cond) (w0 : Addr) (cl0 : Cell) (w1 : Addr) (w2 : Addr) (w3 : Addr) (w4 : Addr) (w5 : Addr) (w6 : Addr) (w7 : Addr) (w8 : Addr) (h0 : Heap) (n0 : Nat) (Z0 : n0 ≤ h0.size) (K : own_Know Z h0 w0 cl0 w1 w2 w3 w4 w5 w6 w7 w8) :
    MetFree l (⟨"com/example/rawmark/rawmark/io/Format$FixedInteger", "of", "(I)Lcom/example/rawmark/rawmark/io/Format$FixedInteger;"⟩ : MethodName) (head1 (Jvm.Cond.code (⟨"com/example/rawmark/rawmark/io/Format$FixedInteger", "of", "(I)Lcom/example/rawmark/rawmark/io/Format$FixedInteger;"⟩ : MethodName) prog_35_method_4_code 1 (some (.object "com/example/rawmark/rawmark/io/Format$FixedInteger")) :: ws) ({ frames := 0, cells := 0, slots := 0, locals := 0 } : Room)) (fun a U => a = #[(.int (5 : Int32))] ∧ Z.Warmed39 U.vm ∧ U.heap = h0) (fun _ _ _ _ _ => True) (fun _ U o U' => ∃ v L, o = .returned v ∧ own_Q (some (.ref w8)) h0 n0 v U'.heap L ∧ FrameEnd U o U' L ({ frames := 0, cells := 0, slots := 0, locals := 0 } : Room).cells ({ frames := 0, cells := 0, slots := 0, locals := 0 } : Room).slots) := by
  obtain ⟨S0, A0, S1, E1, S2, E2, S3, E3, S4, E4, S5, E5, S6, E6, S7, E7, S8, E8, B0, F1_bits, F1_signed, B3, F2_bits, F2_signed, B6, F3_bits, F3_signed, B7, F4_bits, F4_signed, B2, F5_bits, F5_signed, B1, F6_bits, F6_signed, B4, F7_bits, F7_signed, B5, F8_bits, F8_signed⟩ := id K
  refine MetFree.of_bodySF (plainFor_of_name own_pn_of) hisR ?_
  intro p e s m args below meth c s₁ Bd hml0 hP hK
  obtain ⟨rfl, hZ, hh⟩ := hP
  have hx := Bd.exec
  have hby := Bd.bytes
  have hml : c.maxLocals = 1 := hml0
  have hown : s.vm.findClass "com/example/rawmark/rawmark/io/Format$FixedInteger" = some m.cls := findClass_of_methodNamed Bd.named
  have X0 : Stand p l e ({ frames := 0, cells := 0, slots := 0, locals := 0 } : Room) s m #[(.int (5 : Int32))] below meth c s₁ [] 0 0 := Stand.of_body Bd
  have e0 : s₁.heap = h0 := by rw [← hh, Bd.state]; rfl
  have N0 := Fr.nil n0
  have pre0 : ∀ t, Steps p.tables e below (s₁.setTop (mkF m 0 #[.val (.int (5 : Int32))] [])) t → Steps p.tables e below (s₁.setTop (entryFrame m #[(.int (5 : Int32))] 1)) t := fun t k => castTop (own_ef_of m (5 : Int32)) k
  obtain ⟨T1, X1, e1, st1⟩ := getS2 X0 hx hZ hown (host := "") (Or.inl (hw _ (List.mem_of_getElem? (i := 4) rfl))) Via.refl e0 S0 (g := (mkF m 0 #[.val (.int (5 : Int32))] [])) rfl (hb hby d_of_0)
  obtain ⟨fs, hr, hrun, hended, hW, hsame⟩ := X1.leave (v := some (.ref w8)) (fun h => by rw [Bd.returns] at h; cases h)
  refine ⟨_, _, pre0 _ ?_, hrun, hended, _, _, rfl, ?_, ⟨_, rfl⟩, hW, hsame.mono (by decide) (by decide)⟩
  · show Steps p.tables e below (s₁.setTop (mkF m 0 #[.val (.int (5 : Int32))] [])) _
    refine st1 _ ?_
    show Steps p.tables e below (T1.setTop (mkF m 3 #[.val (.int (5 : Int32))] [(.ref w0)])) _
    refine XS.iloadN X1.here hx rfl (hb hby d_of_3) rfl ?_
    show Steps p.tables e below (T1.setTop (mkF m 4 #[.val (.int (5 : Int32))] [(.int (5 : Int32)), (.ref w0)])) _
    refine X1.aaload hx (j := (5 : Int32)) (v := (.ref w8)) (by rw [e1]; exact A0.1) (State.isArrayOf_alike hZ.alike A0.2.1) rfl A0.2.2 B5.1 B5.2 (g := (mkF m 4 #[.val (.int (5 : Int32))] [(.int (5 : Int32)), (.ref w0)])) rfl rfl (hb hby d_of_4) _ ?_
    show Steps p.tables e below (T1.setTop (mkF m 5 #[.val (.int (5 : Int32))] [(.ref w8)])) _
    jvm_step X1.here [X1.here.top, hx, (hb hby d_of_5), X1.method', Bd.returns, Value.isRef, FieldType.isReference]
    first | (intro acts; rw [hr _ acts rfl rfl rfl]) | rw [hr _ _ rfl rfl rfl]
    exact Steps.refl _
  · show own_Q _ h0 n0 _ T1.heap _
    rw [e1]
    exact ⟨rfl, N0, rfl⟩
set_option maxRecDepth 65536 in
set_option maxHeartbeats 40000000 in
theorem own_expected_5 (l : Launch) (Z : State) (a0 : Array Value) (hw : ∀ d ∈ tables_1, d.before a0 Z = true) (ws : List Jvm.Cond) (w0 : Addr) (cl0 : Cell) (w1 : Addr) (w2 : Addr) (w3 : Addr) (w4 : Addr) (w5 : Addr) (w6 : Addr) (w7 : Addr) (w8 : Addr) (h0 : Heap) (n0 : Nat) (Z0 : n0 ≤ h0.size) (K : own_Know Z h0 w0 cl0 w1 w2 w3 w4 w5 w6 w7 w8) :
    MetFree l (⟨"com/example/rawmark/rawmark/io/FixedIntegerOfPinLaw", "expected", "(I)Lcom/example/rawmark/rawmark/io/Format$FixedInteger;"⟩ : MethodName) (head1 (Jvm.Cond.code (⟨"com/example/rawmark/rawmark/io/FixedIntegerOfPinLaw", "expected", "(I)Lcom/example/rawmark/rawmark/io/Format$FixedInteger;"⟩ : MethodName) method_2_code 2 (some (.object "com/example/rawmark/rawmark/io/Format$FixedInteger")) :: ws) ({ frames := 0, cells := 0, slots := 0, locals := 0 } : Room)) (fun a U => a = #[(.int (5 : Int32))] ∧ Z.Warmed39 U.vm ∧ U.heap = h0) (fun _ _ _ _ _ => True) (fun _ U o U' => ∃ v L, o = .returned v ∧ own_Q (some (.ref w8)) h0 n0 v U'.heap L ∧ FrameEnd U o U' L ({ frames := 0, cells := 0, slots := 0, locals := 0 } : Room).cells ({ frames := 0, cells := 0, slots := 0, locals := 0 } : Room).slots) := by
  obtain ⟨S0, A0, S1, E1, S2, E2, S3, E3, S4, E4, S5, E5, S6, E6, S7, E7, S8, E8, B0, F1_bits, F1_signed, B3, F2_bits, F2_signed, B6, F3_bits, F3_signed, B7, F4_bits, F4_signed, B2, F5_bits, F5_signed, B1, F6_bits, F6_signed, B4, F7_bits, F7_signed, B5, F8_bits, F8_signed⟩ := id K
  refine MetFree.of_bodySF (plainFor_of_name own_pn_expected) hisR ?_
  intro p e s m args below meth c s₁ Bd hml0 hP hK
  obtain ⟨rfl, hZ, hh⟩ := hP
  have hx := Bd.exec
  have hby := Bd.bytes
  have hml : c.maxLocals = 2 := hml0
  have hown : s.vm.findClass "com/example/rawmark/rawmark/io/FixedIntegerOfPinLaw" = some m.cls := findClass_of_methodNamed Bd.named
  have X0 : Stand p l e ({ frames := 0, cells := 0, slots := 0, locals := 0 } : Room) s m #[(.int (5 : Int32))] below meth c s₁ [] 0 0 := Stand.of_body Bd
  have e0 : s₁.heap = h0 := by rw [← hh, Bd.state]; rfl
  have N0 := Fr.nil n0
  have pre0 : ∀ t, Steps p.tables e below (s₁.setTop (mkF m 0 #[.val (.int (5 : Int32)), .unset] [])) t → Steps p.tables e below (s₁.setTop (entryFrame m #[(.int (5 : Int32))] 2)) t := fun t k => castTop (own_ef_expected m (5 : Int32)) k
  obtain ⟨T1, X1, e1, st1⟩ := getS2 X0 hx hZ hown (host := "") (Or.inl (hw _ (List.mem_of_getElem? (i := 29) rfl))) Via.refl e0 S8 (g := (mkF m 65 #[.val (.int (5 : Int32)), .unset] [])) rfl (hb hby d_expected_65)
  obtain ⟨fs, hr, hrun, hended, hW, hsame⟩ := X1.leave (v := some (.ref w8)) (fun h => by rw [Bd.returns] at h; cases h)
  refine ⟨_, _, pre0 _ ?_, hrun, hended, _, _, rfl, ?_, ⟨_, rfl⟩, hW, hsame.mono (by decide) (by decide)⟩
  · show Steps p.tables e below (s₁.setTop (mkF m 0 #[.val (.int (5 : Int32)), .unset] [])) _
    refine XS.iloadN X0.here hx rfl (hb hby d_expected_0) rfl ?_
    show Steps p.tables e below (s₁.setTop (mkF m 1 #[.val (.int (5 : Int32)), .unset] [(.int (5 : Int32))])) _
    refine XS.iconst X0.here hx rfl (hb hby d_expected_1) ?_
    show Steps p.tables e below (s₁.setTop (mkF m 2 #[.val (.int (5 : Int32)), .unset] [(.int (4 : Int32)), (.int (5 : Int32))])) _
    refine XS.icmpYes X0.here hx rfl (pc0 := 2) (pc' := 47) rfl (hb hby d_expected_2) rfl (by decide) (by decide) (by decide) ?_
    show Steps p.tables e below (s₁.setTop (mkF m 47 #[.val (.int (5 : Int32)), .unset] [])) _
    refine XS.iloadN X0.here hx rfl (hb hby d_expected_47) rfl ?_
    show Steps p.tables e below (s₁.setTop (mkF m 48 #[.val (.int (5 : Int32)), .unset] [(.int (5 : Int32))])) _
    refine XS.bipush X0.here hx rfl (hb hby d_expected_48) ?_
    show Steps p.tables e below (s₁.setTop (mkF m 50 #[.val (.int (5 : Int32)), .unset] [(.int (6 : Int32)), (.int (5 : Int32))])) _
    refine XS.icmpNo X0.here hx rfl (hb hby d_expected_50) rfl (by decide) ?_
    show Steps p.tables e below (s₁.setTop (mkF m 53 #[.val (.int (5 : Int32)), .unset] [])) _
    refine XS.iloadN X0.here hx rfl (hb hby d_expected_53) rfl ?_
    show Steps p.tables e below (s₁.setTop (mkF m 54 #[.val (.int (5 : Int32)), .unset] [(.int (5 : Int32))])) _
    refine XS.iconst X0.here hx rfl (hb hby d_expected_54) ?_
    show Steps p.tables e below (s₁.setTop (mkF m 55 #[.val (.int (5 : Int32)), .unset] [(.int (4 : Int32)), (.int (5 : Int32))])) _
    refine XS.icmpYes X0.here hx rfl (pc0 := 55) (pc' := 65) rfl (hb hby d_expected_55) rfl (by decide) (by decide) (by decide) ?_
    show Steps p.tables e below (s₁.setTop (mkF m 65 #[.val (.int (5 : Int32)), .unset] [])) _
    refine st1 _ ?_
    show Steps p.tables e below (T1.setTop (mkF m 68 #[.val (.int (5 : Int32)), .unset] [(.ref w8)])) _
    refine XS.astoreN X1.here hx rfl (hb hby d_expected_68) rfl rfl (l' := #[.val (.int (5 : Int32)), .val (.ref w8)]) rfl ?_
    show Steps p.tables e below (T1.setTop (mkF m 69 #[.val (.int (5 : Int32)), .val (.ref w8)] [])) _
    refine XS.goto X1.here hx rfl (pc0 := 69) (pc' := 89) rfl (hb hby d_expected_69) (by decide) (by decide) ?_
    show Steps p.tables e below (T1.setTop (mkF m 89 #[.val (.int (5 : Int32)), .val (.ref w8)] [])) _
    refine XS.aloadN X1.here hx rfl (hb hby d_expected_89) rfl rfl ?_
    show Steps p.tables e below (T1.setTop (mkF m 90 #[.val (.int (5 : Int32)), .val (.ref w8)] [(.ref w8)])) _
    jvm_step X1.here [X1.here.top, hx, (hb hby d_expected_90), X1.method', Bd.returns, Value.isRef, FieldType.isReference]
    first | (intro acts; rw [hr _ acts rfl rfl rfl]) | rw [hr _ _ rfl rfl rfl]
    exact Steps.refl _
  · show own_Q _ h0 n0 _ T1.heap _
    rw [e1]
    exact ⟨rfl, N0, rfl⟩
set_option maxRecDepth 65536 in
set_option maxHeartbeats 40000000 in
theorem own_law_5 (l : Launch) (Z : State) (a0 : Array Value) (hw : ∀ d ∈ tables_1, d.before a0 Z = true) (ws : List Jvm.Cond) (w0 : Addr) (cl0 : Cell) (w1 : Addr) (w2 : Addr) (w3 : Addr) (w4 : Addr) (w5 : Addr) (w6 : Addr) (w7 : Addr) (w8 : Addr) (h0 : Heap) (n0 : Nat) (Z0 : n0 ≤ h0.size) (K : own_Know Z h0 w0 cl0 w1 w2 w3 w4 w5 w6 w7 w8) (p1 : Int32) (hi : (p1 &&& (7 : Int32)) = (5 : Int32)) :
    MetFree l x (head1 (Jvm.Cond.code x code maxLocals ret :: ws) room_1) (fun a U => a = #[(.int p1)] ∧ Z.Warmed39 U.vm ∧ U.heap = h0) (fun _ _ _ _ _ => True) (fun _ U o U' => ∃ v L, o = .returned v ∧ own_QL n0 v L ∧ FrameEnd U o U' L room_1.cells room_1.slots) := by
  obtain ⟨S0, A0, S1, E1, S2, E2, S3, E3, S4, E4, S5, E5, S6, E6, S7, E7, S8, E8, B0, F1_bits, F1_signed, B3, F2_bits, F2_signed, B6, F3_bits, F3_signed, B7, F4_bits, F4_signed, B2, F5_bits, F5_signed, B1, F6_bits, F6_signed, B4, F7_bits, F7_signed, B5, F8_bits, F8_signed⟩ := id K
  refine MetFree.of_bodySF (plainFor_of_name own_pn_law) hisR ?_
  intro p e s m args below meth c s₁ Bd hml0 hP hK
  obtain ⟨rfl, hZ, hh⟩ := hP
  have hx := Bd.exec
  have hby := Bd.bytes
  have hml : c.maxLocals = 4 := hml0
  have hown : s.vm.findClass "com/example/rawmark/rawmark/io/FixedIntegerOfPinLaw" = some m.cls := findClass_of_methodNamed Bd.named
  have X0 : Stand p l e room_1 s m #[(.int p1)] below meth c s₁ [] 0 0 := Stand.of_body Bd
  have e0 : s₁.heap = h0 := by rw [← hh, Bd.state]; rfl
  have N0 := Fr.nil n0
  have pre0 : ∀ t, Steps p.tables e below (s₁.setTop (mkF m 0 #[.val (.int p1), .unset, .unset, .unset] [])) t → Steps p.tables e below (s₁.setTop (entryFrame m #[(.int p1)] maxLocals)) t := fun t k => castTop (own_ef_law m p1) k
  obtain ⟨_, _, ⟨T1, L1, k1, n1⟩, -, X1, ⟨Lc1, hQ1, l1, y1, z1⟩, st1⟩ := Jvm.LawKit.callS X0 hx (y := (⟨"com/example/rawmark/rawmark/io/Format$FixedInteger", "of", "(I)Lcom/example/rawmark/rawmark/io/Format$FixedInteger;"⟩ : MethodName)) hown (mvT hZ (hw _ (List.mem_of_getElem? (i := 0) rfl))) (mvT hZ (hw _ (List.mem_of_getElem? (i := 1) rfl))) (mvT hZ (hw _ (List.mem_of_getElem? (i := 2) rfl))) (mvT hZ (hw _ (List.mem_of_getElem? (i := 3) rfl))) (by decide) (backOf (W := 0) (own_of_5 l Z a0 hw [] w0 cl0 w1 w2 w3 w4 w5 w6 w7 w8 h0 n0 Z0 K) hZ (hw _ (List.mem_of_getElem? (i := 3) rfl)) (hw _ (List.mem_of_getElem? (i := 2) rfl)) (by decide) (by decide)) (g := (mkF m 6 #[.val (.int p1), .val (.int (5 : Int32)), .unset, .unset] [(.int (5 : Int32))])) rfl (by rw [hml]; rfl) (argsL := [(.int (5 : Int32))]) (rest := []) (lenOf own_pd0 rfl) rfl (by show 2 * 0 + _ ≤ _; exact Nat.le_of_eq rfl) (hb hby at_6) (fun _ _ => ⟨rfl, e0, (by decide : 0 + 0 ≤ _), (by decide : 0 + 0 ≤ _)⟩)
  dsimp only [Pt.U, Pt.locs, Pt.cells, Pt.slots] at X1 l1 y1 z1 st1 hQ1
  subst l1 y1 z1
  obtain ⟨rfl, N1q, e1⟩ := hQ1
  have N1 := Fr.app N0 N1q
  obtain ⟨_, _, ⟨T2, L2, k2, n2⟩, -, X2, ⟨Lc2, hQ2, l2, y2, z2⟩, st2⟩ := Jvm.LawKit.callS X1 hx (y := (⟨"com/example/rawmark/rawmark/io/FixedIntegerOfPinLaw", "expected", "(I)Lcom/example/rawmark/rawmark/io/Format$FixedInteger;"⟩ : MethodName)) hown (mvT hZ (hw _ (List.mem_of_getElem? (i := 7) rfl))) (mvT hZ (hw _ (List.mem_of_getElem? (i := 8) rfl))) (mvT hZ (hw _ (List.mem_of_getElem? (i := 9) rfl))) (mvT hZ (hw _ (List.mem_of_getElem? (i := 10) rfl))) (by decide) (backOf (W := 0) (own_expected_5 l Z a0 hw [] w0 cl0 w1 w2 w3 w4 w5 w6 w7 w8 h0 n0 Z0 K) hZ (hw _ (List.mem_of_getElem? (i := 10) rfl)) (hw _ (List.mem_of_getElem? (i := 9) rfl)) (by decide) (by decide)) (g := (mkF m 11 #[.val (.int p1), .val (.int (5 : Int32)), .val (.ref w8), .unset] [(.int (5 : Int32))])) rfl (by rw [hml]; rfl) (argsL := [(.int (5 : Int32))]) (rest := []) (lenOf own_pd0 rfl) rfl (by show 2 * 0 + _ ≤ _; exact Nat.le_of_eq rfl) (hb hby at_11) (fun _ _ => ⟨rfl, e1, (by decide : 0 + 0 ≤ _), (by decide : 0 + 0 ≤ _)⟩)
  dsimp only [Pt.U, Pt.locs, Pt.cells, Pt.slots] at X2 l2 y2 z2 st2 hQ2
  subst l2 y2 z2
  obtain ⟨rfl, N2q, e2⟩ := hQ2
  have N2 := Fr.app N1 N2q
  obtain ⟨T3, X3, e3, st3⟩ := getF X2 hx hZ hown (host := "") (Or.inl (hw _ (List.mem_of_getElem? (i := 12) rfl))) Via.refl e2 F8_bits (g := (mkF m 21 #[.val (.int p1), .val (.int (5 : Int32)), .val (.ref w8), .val (.ref w8)] [(.ref w8)])) rfl rfl (hb hby at_21)
  obtain ⟨T4, X4, e4, st4⟩ := getF X3 hx hZ hown (host := "") (Or.inl (hw _ (List.mem_of_getElem? (i := 14) rfl))) Via.refl e3 F8_signed (g := (mkF m 34 #[.val (.int p1), .val (.int (5 : Int32)), .val (.ref w8), .val (.ref w8)] [(.ref w8)])) rfl rfl (hb hby at_34)
  obtain ⟨fs, hr, hrun, hended, hW, hsame⟩ := X4.leave (v := some (.int (1 : Int32))) (fun h => by rw [Bd.returns] at h; cases h)
  refine ⟨_, _, pre0 _ ?_, hrun, hended, _, _, rfl, ?_, ⟨_, rfl⟩, hW, hsame.mono (by decide) (by decide)⟩
  · show Steps p.tables e below (s₁.setTop (mkF m 0 #[.val (.int p1), .unset, .unset, .unset] [])) _
    refine XS.iloadN X0.here hx rfl (hb hby at_0) rfl ?_
    show Steps p.tables e below (s₁.setTop (mkF m 1 #[.val (.int p1), .unset, .unset, .unset] [(.int p1)])) _
    refine XS.bipush X0.here hx rfl (hb hby at_1) ?_
    show Steps p.tables e below (s₁.setTop (mkF m 3 #[.val (.int p1), .unset, .unset, .unset] [(.int (7 : Int32)), (.int p1)])) _
    refine XS.iand X0.here hx rfl (hb hby at_3) rfl ?_
    show Steps p.tables e below (s₁.setTop (mkF m 4 #[.val (.int p1), .unset, .unset, .unset] [(.int (p1 &&& (7 : Int32)))])) _
    rw [hi]
    show Steps p.tables e below (s₁.setTop (mkF m 4 #[.val (.int p1), .unset, .unset, .unset] [(.int (5 : Int32))])) _
    refine XS.istoreN X0.here hx rfl (hb hby at_4) rfl (l' := #[.val (.int p1), .val (.int (5 : Int32)), .unset, .unset]) rfl ?_
    show Steps p.tables e below (s₁.setTop (mkF m 5 #[.val (.int p1), .val (.int (5 : Int32)), .unset, .unset] [])) _
    refine XS.iloadN X0.here hx rfl (hb hby at_5) rfl ?_
    show Steps p.tables e below (s₁.setTop (mkF m 6 #[.val (.int p1), .val (.int (5 : Int32)), .unset, .unset] [(.int (5 : Int32))])) _
    refine st1 _ ?_
    show Steps p.tables e below (T1.setTop (mkF m 9 #[.val (.int p1), .val (.int (5 : Int32)), .unset, .unset] [(.ref w8)])) _
    refine XS.astoreN X1.here hx rfl (hb hby at_9) rfl rfl (l' := #[.val (.int p1), .val (.int (5 : Int32)), .val (.ref w8), .unset]) rfl ?_
    show Steps p.tables e below (T1.setTop (mkF m 10 #[.val (.int p1), .val (.int (5 : Int32)), .val (.ref w8), .unset] [])) _
    refine XS.iloadN X1.here hx rfl (hb hby at_10) rfl ?_
    show Steps p.tables e below (T1.setTop (mkF m 11 #[.val (.int p1), .val (.int (5 : Int32)), .val (.ref w8), .unset] [(.int (5 : Int32))])) _
    refine st2 _ ?_
    show Steps p.tables e below (T2.setTop (mkF m 14 #[.val (.int p1), .val (.int (5 : Int32)), .val (.ref w8), .unset] [(.ref w8)])) _
    refine XS.astoreN X2.here hx rfl (hb hby at_14) rfl rfl (l' := #[.val (.int p1), .val (.int (5 : Int32)), .val (.ref w8), .val (.ref w8)]) rfl ?_
    show Steps p.tables e below (T2.setTop (mkF m 15 #[.val (.int p1), .val (.int (5 : Int32)), .val (.ref w8), .val (.ref w8)] [])) _
    refine XS.aloadN X2.here hx rfl (hb hby at_15) rfl rfl ?_
    show Steps p.tables e below (T2.setTop (mkF m 16 #[.val (.int p1), .val (.int (5 : Int32)), .val (.ref w8), .val (.ref w8)] [(.ref w8)])) _
    refine XS.aloadN X2.here hx rfl (hb hby at_16) rfl rfl ?_
    show Steps p.tables e below (T2.setTop (mkF m 17 #[.val (.int p1), .val (.int (5 : Int32)), .val (.ref w8), .val (.ref w8)] [(.ref w8), (.ref w8)])) _
    refine Jvm.RoadKit.acmp (g := (mkF m 17 #[.val (.int p1), .val (.int (5 : Int32)), .val (.ref w8), .val (.ref w8)] [(.ref w8), (.ref w8)])) X2 hx rfl rfl rfl (pc0 := 17) (pc' := 20) (same := true) rfl (hb hby at_17) rfl (decide_eq_true rfl) (by decide) (by decide) ?_
    show Steps p.tables e below (T2.setTop (mkF m 20 #[.val (.int p1), .val (.int (5 : Int32)), .val (.ref w8), .val (.ref w8)] [])) _
    refine XS.aloadN X2.here hx rfl (hb hby at_20) rfl rfl ?_
    show Steps p.tables e below (T2.setTop (mkF m 21 #[.val (.int p1), .val (.int (5 : Int32)), .val (.ref w8), .val (.ref w8)] [(.ref w8)])) _
    refine st3 _ ?_
    show Steps p.tables e below (T3.setTop (mkF m 24 #[.val (.int p1), .val (.int (5 : Int32)), .val (.ref w8), .val (.ref w8)] [(.int (16 : Int32))])) _
    refine XS.bipush X3.here hx rfl (hb hby at_24) ?_
    show Steps p.tables e below (T3.setTop (mkF m 26 #[.val (.int p1), .val (.int (5 : Int32)), .val (.ref w8), .val (.ref w8)] [(.int (8 : Int32)), (.int (16 : Int32))])) _
    refine XS.iloadN X3.here hx rfl (hb hby at_26) rfl ?_
    show Steps p.tables e below (T3.setTop (mkF m 27 #[.val (.int p1), .val (.int (5 : Int32)), .val (.ref w8), .val (.ref w8)] [(.int (5 : Int32)), (.int (8 : Int32)), (.int (16 : Int32))])) _
    refine XS.iconst X3.here hx rfl (hb hby at_27) ?_
    show Steps p.tables e below (T3.setTop (mkF m 28 #[.val (.int p1), .val (.int (5 : Int32)), .val (.ref w8), .val (.ref w8)] [(.int (3 : Int32)), (.int (5 : Int32)), (.int (8 : Int32)), (.int (16 : Int32))])) _
    refine XS.iand X3.here hx rfl (hb hby at_28) rfl ?_
    show Steps p.tables e below (T3.setTop (mkF m 29 #[.val (.int p1), .val (.int (5 : Int32)), .val (.ref w8), .val (.ref w8)] [(.int ((5 : Int32) &&& (3 : Int32))), (.int (8 : Int32)), (.int (16 : Int32))])) _
    rw [show (((5 : Int32) &&& (3 : Int32)) : Int32) = (1 : Int32) from by decide]
    show Steps p.tables e below (T3.setTop (mkF m 29 #[.val (.int p1), .val (.int (5 : Int32)), .val (.ref w8), .val (.ref w8)] [(.int (1 : Int32)), (.int (8 : Int32)), (.int (16 : Int32))])) _
    refine XS.ishl X3.here hx rfl (hb hby at_29) rfl ?_
    show Steps p.tables e below (T3.setTop (mkF m 30 #[.val (.int p1), .val (.int (5 : Int32)), .val (.ref w8), .val (.ref w8)] [(.int ((8 : Int32) <<< ((1 : Int32) &&& 31))), (.int (16 : Int32))])) _
    rw [show (((8 : Int32) <<< ((1 : Int32) &&& 31)) : Int32) = (16 : Int32) from by decide]
    show Steps p.tables e below (T3.setTop (mkF m 30 #[.val (.int p1), .val (.int (5 : Int32)), .val (.ref w8), .val (.ref w8)] [(.int (16 : Int32)), (.int (16 : Int32))])) _
    refine XS.icmpNo X3.here hx rfl (hb hby at_30) rfl (by decide) ?_
    show Steps p.tables e below (T3.setTop (mkF m 33 #[.val (.int p1), .val (.int (5 : Int32)), .val (.ref w8), .val (.ref w8)] [])) _
    refine XS.aloadN X3.here hx rfl (hb hby at_33) rfl rfl ?_
    show Steps p.tables e below (T3.setTop (mkF m 34 #[.val (.int p1), .val (.int (5 : Int32)), .val (.ref w8), .val (.ref w8)] [(.ref w8)])) _
    refine st4 _ ?_
    show Steps p.tables e below (T4.setTop (mkF m 37 #[.val (.int p1), .val (.int (5 : Int32)), .val (.ref w8), .val (.ref w8)] [(.int (0 : Int32))])) _
    refine XS.iloadN X4.here hx rfl (hb hby at_37) rfl ?_
    show Steps p.tables e below (T4.setTop (mkF m 38 #[.val (.int p1), .val (.int (5 : Int32)), .val (.ref w8), .val (.ref w8)] [(.int (5 : Int32)), (.int (0 : Int32))])) _
    refine XS.iconst X4.here hx rfl (hb hby at_38) ?_
    show Steps p.tables e below (T4.setTop (mkF m 39 #[.val (.int p1), .val (.int (5 : Int32)), .val (.ref w8), .val (.ref w8)] [(.int (4 : Int32)), (.int (5 : Int32)), (.int (0 : Int32))])) _
    refine XS.icmpYes X4.here hx rfl (pc0 := 39) (pc' := 46) rfl (hb hby at_39) rfl (by decide) (by decide) (by decide) ?_
    show Steps p.tables e below (T4.setTop (mkF m 46 #[.val (.int p1), .val (.int (5 : Int32)), .val (.ref w8), .val (.ref w8)] [(.int (0 : Int32))])) _
    refine XS.iconst X4.here hx rfl (hb hby at_46) ?_
    show Steps p.tables e below (T4.setTop (mkF m 47 #[.val (.int p1), .val (.int (5 : Int32)), .val (.ref w8), .val (.ref w8)] [(.int (0 : Int32)), (.int (0 : Int32))])) _
    refine XS.icmpNo X4.here hx rfl (hb hby at_47) rfl (by decide) ?_
    show Steps p.tables e below (T4.setTop (mkF m 50 #[.val (.int p1), .val (.int (5 : Int32)), .val (.ref w8), .val (.ref w8)] [])) _
    refine XS.iconst X4.here hx rfl (hb hby at_50) ?_
    show Steps p.tables e below (T4.setTop (mkF m 51 #[.val (.int p1), .val (.int (5 : Int32)), .val (.ref w8), .val (.ref w8)] [(.int (1 : Int32))])) _
    refine XS.goto X4.here hx rfl (pc0 := 51) (pc' := 55) rfl (hb hby at_51) (by decide) (by decide) ?_
    show Steps p.tables e below (T4.setTop (mkF m 55 #[.val (.int p1), .val (.int (5 : Int32)), .val (.ref w8), .val (.ref w8)] [(.int (1 : Int32))])) _
    exact retN X4 hx (t := .boolean) Bd.returns (by simp) (hb hby at_55) hr
  · exact ⟨rfl, N2⟩
set_option maxRecDepth 65536 in
set_option maxHeartbeats 40000000 in
theorem own_of_6 (l : Launch) (Z : State) (a0 : Array Value) (hw : ∀ d ∈ tables_1, d.before a0 Z = true) (ws : List Jvm.Cond) (w0 : Addr) (cl0 : Cell) (w1 : Addr) (w2 : Addr) (w3 : Addr) (w4 : Addr) (w5 : Addr) (w6 : Addr) (w7 : Addr) (w8 : Addr) (h0 : Heap) (n0 : Nat) (Z0 : n0 ≤ h0.size) (K : own_Know Z h0 w0 cl0 w1 w2 w3 w4 w5 w6 w7 w8) :
    MetFree l (⟨"com/example/rawmark/rawmark/io/Format$FixedInteger", "of", "(I)Lcom/example/rawmark/rawmark/io/Format$FixedInteger;"⟩ : MethodName) (head1 (Jvm.Cond.code (⟨"com/example/rawmark/rawmark/io/Format$FixedInteger", "of", "(I)Lcom/example/rawmark/rawmark/io/Format$FixedInteger;"⟩ : MethodName) prog_35_method_4_code 1 (some (.object "com/example/rawmark/rawmark/io/Format$FixedInteger")) :: ws) ({ frames := 0, cells := 0, slots := 0, locals := 0 } : Room)) (fun a U => a = #[(.int (6 : Int32))] ∧ Z.Warmed39 U.vm ∧ U.heap = h0) (fun _ _ _ _ _ => True) (fun _ U o U' => ∃ v L, o = .returned v ∧ own_Q (some (.ref w3)) h0 n0 v U'.heap L ∧ FrameEnd U o U' L ({ frames := 0, cells := 0, slots := 0, locals := 0 } : Room).cells ({ frames := 0, cells := 0, slots := 0, locals := 0 } : Room).slots) := by
  obtain ⟨S0, A0, S1, E1, S2, E2, S3, E3, S4, E4, S5, E5, S6, E6, S7, E7, S8, E8, B0, F1_bits, F1_signed, B3, F2_bits, F2_signed, B6, F3_bits, F3_signed, B7, F4_bits, F4_signed, B2, F5_bits, F5_signed, B1, F6_bits, F6_signed, B4, F7_bits, F7_signed, B5, F8_bits, F8_signed⟩ := id K
  refine MetFree.of_bodySF (plainFor_of_name own_pn_of) hisR ?_
  intro p e s m args below meth c s₁ Bd hml0 hP hK
  obtain ⟨rfl, hZ, hh⟩ := hP
  have hx := Bd.exec
  have hby := Bd.bytes
  have hml : c.maxLocals = 1 := hml0
  have hown : s.vm.findClass "com/example/rawmark/rawmark/io/Format$FixedInteger" = some m.cls := findClass_of_methodNamed Bd.named
  have X0 : Stand p l e ({ frames := 0, cells := 0, slots := 0, locals := 0 } : Room) s m #[(.int (6 : Int32))] below meth c s₁ [] 0 0 := Stand.of_body Bd
  have e0 : s₁.heap = h0 := by rw [← hh, Bd.state]; rfl
  have N0 := Fr.nil n0
  have pre0 : ∀ t, Steps p.tables e below (s₁.setTop (mkF m 0 #[.val (.int (6 : Int32))] [])) t → Steps p.tables e below (s₁.setTop (entryFrame m #[(.int (6 : Int32))] 1)) t := fun t k => castTop (own_ef_of m (6 : Int32)) k
  obtain ⟨T1, X1, e1, st1⟩ := getS2 X0 hx hZ hown (host := "") (Or.inl (hw _ (List.mem_of_getElem? (i := 4) rfl))) Via.refl e0 S0 (g := (mkF m 0 #[.val (.int (6 : Int32))] [])) rfl (hb hby d_of_0)
  obtain ⟨fs, hr, hrun, hended, hW, hsame⟩ := X1.leave (v := some (.ref w3)) (fun h => by rw [Bd.returns] at h; cases h)
  refine ⟨_, _, pre0 _ ?_, hrun, hended, _, _, rfl, ?_, ⟨_, rfl⟩, hW, hsame.mono (by decide) (by decide)⟩
  · show Steps p.tables e below (s₁.setTop (mkF m 0 #[.val (.int (6 : Int32))] [])) _
    refine st1 _ ?_
    show Steps p.tables e below (T1.setTop (mkF m 3 #[.val (.int (6 : Int32))] [(.ref w0)])) _
    refine XS.iloadN X1.here hx rfl (hb hby d_of_3) rfl ?_
    show Steps p.tables e below (T1.setTop (mkF m 4 #[.val (.int (6 : Int32))] [(.int (6 : Int32)), (.ref w0)])) _
    refine X1.aaload hx (j := (6 : Int32)) (v := (.ref w3)) (by rw [e1]; exact A0.1) (State.isArrayOf_alike hZ.alike A0.2.1) rfl A0.2.2 B6.1 B6.2 (g := (mkF m 4 #[.val (.int (6 : Int32))] [(.int (6 : Int32)), (.ref w0)])) rfl rfl (hb hby d_of_4) _ ?_
    show Steps p.tables e below (T1.setTop (mkF m 5 #[.val (.int (6 : Int32))] [(.ref w3)])) _
    jvm_step X1.here [X1.here.top, hx, (hb hby d_of_5), X1.method', Bd.returns, Value.isRef, FieldType.isReference]
    first | (intro acts; rw [hr _ acts rfl rfl rfl]) | rw [hr _ _ rfl rfl rfl]
    exact Steps.refl _
  · show own_Q _ h0 n0 _ T1.heap _
    rw [e1]
    exact ⟨rfl, N0, rfl⟩
set_option maxRecDepth 65536 in
set_option maxHeartbeats 40000000 in
theorem own_expected_6 (l : Launch) (Z : State) (a0 : Array Value) (hw : ∀ d ∈ tables_1, d.before a0 Z = true) (ws : List Jvm.Cond) (w0 : Addr) (cl0 : Cell) (w1 : Addr) (w2 : Addr) (w3 : Addr) (w4 : Addr) (w5 : Addr) (w6 : Addr) (w7 : Addr) (w8 : Addr) (h0 : Heap) (n0 : Nat) (Z0 : n0 ≤ h0.size) (K : own_Know Z h0 w0 cl0 w1 w2 w3 w4 w5 w6 w7 w8) :
    MetFree l (⟨"com/example/rawmark/rawmark/io/FixedIntegerOfPinLaw", "expected", "(I)Lcom/example/rawmark/rawmark/io/Format$FixedInteger;"⟩ : MethodName) (head1 (Jvm.Cond.code (⟨"com/example/rawmark/rawmark/io/FixedIntegerOfPinLaw", "expected", "(I)Lcom/example/rawmark/rawmark/io/Format$FixedInteger;"⟩ : MethodName) method_2_code 2 (some (.object "com/example/rawmark/rawmark/io/Format$FixedInteger")) :: ws) ({ frames := 0, cells := 0, slots := 0, locals := 0 } : Room)) (fun a U => a = #[(.int (6 : Int32))] ∧ Z.Warmed39 U.vm ∧ U.heap = h0) (fun _ _ _ _ _ => True) (fun _ U o U' => ∃ v L, o = .returned v ∧ own_Q (some (.ref w3)) h0 n0 v U'.heap L ∧ FrameEnd U o U' L ({ frames := 0, cells := 0, slots := 0, locals := 0 } : Room).cells ({ frames := 0, cells := 0, slots := 0, locals := 0 } : Room).slots) := by
  obtain ⟨S0, A0, S1, E1, S2, E2, S3, E3, S4, E4, S5, E5, S6, E6, S7, E7, S8, E8, B0, F1_bits, F1_signed, B3, F2_bits, F2_signed, B6, F3_bits, F3_signed, B7, F4_bits, F4_signed, B2, F5_bits, F5_signed, B1, F6_bits, F6_signed, B4, F7_bits, F7_signed, B5, F8_bits, F8_signed⟩ := id K
  refine MetFree.of_bodySF (plainFor_of_name own_pn_expected) hisR ?_
  intro p e s m args below meth c s₁ Bd hml0 hP hK
  obtain ⟨rfl, hZ, hh⟩ := hP
  have hx := Bd.exec
  have hby := Bd.bytes
  have hml : c.maxLocals = 2 := hml0
  have hown : s.vm.findClass "com/example/rawmark/rawmark/io/FixedIntegerOfPinLaw" = some m.cls := findClass_of_methodNamed Bd.named
  have X0 : Stand p l e ({ frames := 0, cells := 0, slots := 0, locals := 0 } : Room) s m #[(.int (6 : Int32))] below meth c s₁ [] 0 0 := Stand.of_body Bd
  have e0 : s₁.heap = h0 := by rw [← hh, Bd.state]; rfl
  have N0 := Fr.nil n0
  have pre0 : ∀ t, Steps p.tables e below (s₁.setTop (mkF m 0 #[.val (.int (6 : Int32)), .unset] [])) t → Steps p.tables e below (s₁.setTop (entryFrame m #[(.int (6 : Int32))] 2)) t := fun t k => castTop (own_ef_expected m (6 : Int32)) k
  obtain ⟨T1, X1, e1, st1⟩ := getS2 X0 hx hZ hown (host := "") (Or.inl (hw _ (List.mem_of_getElem? (i := 19) rfl))) Via.refl e0 S3 (g := (mkF m 78 #[.val (.int (6 : Int32)), .unset] [])) rfl (hb hby d_expected_78)
  obtain ⟨fs, hr, hrun, hended, hW, hsame⟩ := X1.leave (v := some (.ref w3)) (fun h => by rw [Bd.returns] at h; cases h)
  refine ⟨_, _, pre0 _ ?_, hrun, hended, _, _, rfl, ?_, ⟨_, rfl⟩, hW, hsame.mono (by decide) (by decide)⟩
  · show Steps p.tables e below (s₁.setTop (mkF m 0 #[.val (.int (6 : Int32)), .unset] [])) _
    refine XS.iloadN X0.here hx rfl (hb hby d_expected_0) rfl ?_
    show Steps p.tables e below (s₁.setTop (mkF m 1 #[.val (.int (6 : Int32)), .unset] [(.int (6 : Int32))])) _
    refine XS.iconst X0.here hx rfl (hb hby d_expected_1) ?_
    show Steps p.tables e below (s₁.setTop (mkF m 2 #[.val (.int (6 : Int32)), .unset] [(.int (4 : Int32)), (.int (6 : Int32))])) _
    refine XS.icmpYes X0.here hx rfl (pc0 := 2) (pc' := 47) rfl (hb hby d_expected_2) rfl (by decide) (by decide) (by decide) ?_
    show Steps p.tables e below (s₁.setTop (mkF m 47 #[.val (.int (6 : Int32)), .unset] [])) _
    refine XS.iloadN X0.here hx rfl (hb hby d_expected_47) rfl ?_
    show Steps p.tables e below (s₁.setTop (mkF m 48 #[.val (.int (6 : Int32)), .unset] [(.int (6 : Int32))])) _
    refine XS.bipush X0.here hx rfl (hb hby d_expected_48) ?_
    show Steps p.tables e below (s₁.setTop (mkF m 50 #[.val (.int (6 : Int32)), .unset] [(.int (6 : Int32)), (.int (6 : Int32))])) _
    refine XS.icmpYes X0.here hx rfl (pc0 := 50) (pc' := 72) rfl (hb hby d_expected_50) rfl (by decide) (by decide) (by decide) ?_
    show Steps p.tables e below (s₁.setTop (mkF m 72 #[.val (.int (6 : Int32)), .unset] [])) _
    refine XS.iloadN X0.here hx rfl (hb hby d_expected_72) rfl ?_
    show Steps p.tables e below (s₁.setTop (mkF m 73 #[.val (.int (6 : Int32)), .unset] [(.int (6 : Int32))])) _
    refine XS.bipush X0.here hx rfl (hb hby d_expected_73) ?_
    show Steps p.tables e below (s₁.setTop (mkF m 75 #[.val (.int (6 : Int32)), .unset] [(.int (6 : Int32)), (.int (6 : Int32))])) _
    refine XS.icmpNo X0.here hx rfl (hb hby d_expected_75) rfl (by decide) ?_
    show Steps p.tables e below (s₁.setTop (mkF m 78 #[.val (.int (6 : Int32)), .unset] [])) _
    refine st1 _ ?_
    show Steps p.tables e below (T1.setTop (mkF m 81 #[.val (.int (6 : Int32)), .unset] [(.ref w3)])) _
    refine XS.astoreN X1.here hx rfl (hb hby d_expected_81) rfl rfl (l' := #[.val (.int (6 : Int32)), .val (.ref w3)]) rfl ?_
    show Steps p.tables e below (T1.setTop (mkF m 82 #[.val (.int (6 : Int32)), .val (.ref w3)] [])) _
    refine XS.goto X1.here hx rfl (pc0 := 82) (pc' := 89) rfl (hb hby d_expected_82) (by decide) (by decide) ?_
    show Steps p.tables e below (T1.setTop (mkF m 89 #[.val (.int (6 : Int32)), .val (.ref w3)] [])) _
    refine XS.aloadN X1.here hx rfl (hb hby d_expected_89) rfl rfl ?_
    show Steps p.tables e below (T1.setTop (mkF m 90 #[.val (.int (6 : Int32)), .val (.ref w3)] [(.ref w3)])) _
    jvm_step X1.here [X1.here.top, hx, (hb hby d_expected_90), X1.method', Bd.returns, Value.isRef, FieldType.isReference]
    first | (intro acts; rw [hr _ acts rfl rfl rfl]) | rw [hr _ _ rfl rfl rfl]
    exact Steps.refl _
  · show own_Q _ h0 n0 _ T1.heap _
    rw [e1]
    exact ⟨rfl, N0, rfl⟩
set_option maxRecDepth 65536 in
set_option maxHeartbeats 40000000 in
theorem own_law_6 (l : Launch) (Z : State) (a0 : Array Value) (hw : ∀ d ∈ tables_1, d.before a0 Z = true) (ws : List Jvm.Cond) (w0 : Addr) (cl0 : Cell) (w1 : Addr) (w2 : Addr) (w3 : Addr) (w4 : Addr) (w5 : Addr) (w6 : Addr) (w7 : Addr) (w8 : Addr) (h0 : Heap) (n0 : Nat) (Z0 : n0 ≤ h0.size) (K : own_Know Z h0 w0 cl0 w1 w2 w3 w4 w5 w6 w7 w8) (p1 : Int32) (hi : (p1 &&& (7 : Int32)) = (6 : Int32)) :
    MetFree l x (head1 (Jvm.Cond.code x code maxLocals ret :: ws) room_1) (fun a U => a = #[(.int p1)] ∧ Z.Warmed39 U.vm ∧ U.heap = h0) (fun _ _ _ _ _ => True) (fun _ U o U' => ∃ v L, o = .returned v ∧ own_QL n0 v L ∧ FrameEnd U o U' L room_1.cells room_1.slots) := by
  obtain ⟨S0, A0, S1, E1, S2, E2, S3, E3, S4, E4, S5, E5, S6, E6, S7, E7, S8, E8, B0, F1_bits, F1_signed, B3, F2_bits, F2_signed, B6, F3_bits, F3_signed, B7, F4_bits, F4_signed, B2, F5_bits, F5_signed, B1, F6_bits, F6_signed, B4, F7_bits, F7_signed, B5, F8_bits, F8_signed⟩ := id K
  refine MetFree.of_bodySF (plainFor_of_name own_pn_law) hisR ?_
  intro p e s m args below meth c s₁ Bd hml0 hP hK
  obtain ⟨rfl, hZ, hh⟩ := hP
  have hx := Bd.exec
  have hby := Bd.bytes
  have hml : c.maxLocals = 4 := hml0
  have hown : s.vm.findClass "com/example/rawmark/rawmark/io/FixedIntegerOfPinLaw" = some m.cls := findClass_of_methodNamed Bd.named
  have X0 : Stand p l e room_1 s m #[(.int p1)] below meth c s₁ [] 0 0 := Stand.of_body Bd
  have e0 : s₁.heap = h0 := by rw [← hh, Bd.state]; rfl
  have N0 := Fr.nil n0
  have pre0 : ∀ t, Steps p.tables e below (s₁.setTop (mkF m 0 #[.val (.int p1), .unset, .unset, .unset] [])) t → Steps p.tables e below (s₁.setTop (entryFrame m #[(.int p1)] maxLocals)) t := fun t k => castTop (own_ef_law m p1) k
  obtain ⟨_, _, ⟨T1, L1, k1, n1⟩, -, X1, ⟨Lc1, hQ1, l1, y1, z1⟩, st1⟩ := Jvm.LawKit.callS X0 hx (y := (⟨"com/example/rawmark/rawmark/io/Format$FixedInteger", "of", "(I)Lcom/example/rawmark/rawmark/io/Format$FixedInteger;"⟩ : MethodName)) hown (mvT hZ (hw _ (List.mem_of_getElem? (i := 0) rfl))) (mvT hZ (hw _ (List.mem_of_getElem? (i := 1) rfl))) (mvT hZ (hw _ (List.mem_of_getElem? (i := 2) rfl))) (mvT hZ (hw _ (List.mem_of_getElem? (i := 3) rfl))) (by decide) (backOf (W := 0) (own_of_6 l Z a0 hw [] w0 cl0 w1 w2 w3 w4 w5 w6 w7 w8 h0 n0 Z0 K) hZ (hw _ (List.mem_of_getElem? (i := 3) rfl)) (hw _ (List.mem_of_getElem? (i := 2) rfl)) (by decide) (by decide)) (g := (mkF m 6 #[.val (.int p1), .val (.int (6 : Int32)), .unset, .unset] [(.int (6 : Int32))])) rfl (by rw [hml]; rfl) (argsL := [(.int (6 : Int32))]) (rest := []) (lenOf own_pd0 rfl) rfl (by show 2 * 0 + _ ≤ _; exact Nat.le_of_eq rfl) (hb hby at_6) (fun _ _ => ⟨rfl, e0, (by decide : 0 + 0 ≤ _), (by decide : 0 + 0 ≤ _)⟩)
  dsimp only [Pt.U, Pt.locs, Pt.cells, Pt.slots] at X1 l1 y1 z1 st1 hQ1
  subst l1 y1 z1
  obtain ⟨rfl, N1q, e1⟩ := hQ1
  have N1 := Fr.app N0 N1q
  obtain ⟨_, _, ⟨T2, L2, k2, n2⟩, -, X2, ⟨Lc2, hQ2, l2, y2, z2⟩, st2⟩ := Jvm.LawKit.callS X1 hx (y := (⟨"com/example/rawmark/rawmark/io/FixedIntegerOfPinLaw", "expected", "(I)Lcom/example/rawmark/rawmark/io/Format$FixedInteger;"⟩ : MethodName)) hown (mvT hZ (hw _ (List.mem_of_getElem? (i := 7) rfl))) (mvT hZ (hw _ (List.mem_of_getElem? (i := 8) rfl))) (mvT hZ (hw _ (List.mem_of_getElem? (i := 9) rfl))) (mvT hZ (hw _ (List.mem_of_getElem? (i := 10) rfl))) (by decide) (backOf (W := 0) (own_expected_6 l Z a0 hw [] w0 cl0 w1 w2 w3 w4 w5 w6 w7 w8 h0 n0 Z0 K) hZ (hw _ (List.mem_of_getElem? (i := 10) rfl)) (hw _ (List.mem_of_getElem? (i := 9) rfl)) (by decide) (by decide)) (g := (mkF m 11 #[.val (.int p1), .val (.int (6 : Int32)), .val (.ref w3), .unset] [(.int (6 : Int32))])) rfl (by rw [hml]; rfl) (argsL := [(.int (6 : Int32))]) (rest := []) (lenOf own_pd0 rfl) rfl (by show 2 * 0 + _ ≤ _; exact Nat.le_of_eq rfl) (hb hby at_11) (fun _ _ => ⟨rfl, e1, (by decide : 0 + 0 ≤ _), (by decide : 0 + 0 ≤ _)⟩)
  dsimp only [Pt.U, Pt.locs, Pt.cells, Pt.slots] at X2 l2 y2 z2 st2 hQ2
  subst l2 y2 z2
  obtain ⟨rfl, N2q, e2⟩ := hQ2
  have N2 := Fr.app N1 N2q
  obtain ⟨T3, X3, e3, st3⟩ := getF X2 hx hZ hown (host := "") (Or.inl (hw _ (List.mem_of_getElem? (i := 12) rfl))) Via.refl e2 F3_bits (g := (mkF m 21 #[.val (.int p1), .val (.int (6 : Int32)), .val (.ref w3), .val (.ref w3)] [(.ref w3)])) rfl rfl (hb hby at_21)
  obtain ⟨T4, X4, e4, st4⟩ := getF X3 hx hZ hown (host := "") (Or.inl (hw _ (List.mem_of_getElem? (i := 14) rfl))) Via.refl e3 F3_signed (g := (mkF m 34 #[.val (.int p1), .val (.int (6 : Int32)), .val (.ref w3), .val (.ref w3)] [(.ref w3)])) rfl rfl (hb hby at_34)
  obtain ⟨fs, hr, hrun, hended, hW, hsame⟩ := X4.leave (v := some (.int (1 : Int32))) (fun h => by rw [Bd.returns] at h; cases h)
  refine ⟨_, _, pre0 _ ?_, hrun, hended, _, _, rfl, ?_, ⟨_, rfl⟩, hW, hsame.mono (by decide) (by decide)⟩
  · show Steps p.tables e below (s₁.setTop (mkF m 0 #[.val (.int p1), .unset, .unset, .unset] [])) _
    refine XS.iloadN X0.here hx rfl (hb hby at_0) rfl ?_
    show Steps p.tables e below (s₁.setTop (mkF m 1 #[.val (.int p1), .unset, .unset, .unset] [(.int p1)])) _
    refine XS.bipush X0.here hx rfl (hb hby at_1) ?_
    show Steps p.tables e below (s₁.setTop (mkF m 3 #[.val (.int p1), .unset, .unset, .unset] [(.int (7 : Int32)), (.int p1)])) _
    refine XS.iand X0.here hx rfl (hb hby at_3) rfl ?_
    show Steps p.tables e below (s₁.setTop (mkF m 4 #[.val (.int p1), .unset, .unset, .unset] [(.int (p1 &&& (7 : Int32)))])) _
    rw [hi]
    show Steps p.tables e below (s₁.setTop (mkF m 4 #[.val (.int p1), .unset, .unset, .unset] [(.int (6 : Int32))])) _
    refine XS.istoreN X0.here hx rfl (hb hby at_4) rfl (l' := #[.val (.int p1), .val (.int (6 : Int32)), .unset, .unset]) rfl ?_
    show Steps p.tables e below (s₁.setTop (mkF m 5 #[.val (.int p1), .val (.int (6 : Int32)), .unset, .unset] [])) _
    refine XS.iloadN X0.here hx rfl (hb hby at_5) rfl ?_
    show Steps p.tables e below (s₁.setTop (mkF m 6 #[.val (.int p1), .val (.int (6 : Int32)), .unset, .unset] [(.int (6 : Int32))])) _
    refine st1 _ ?_
    show Steps p.tables e below (T1.setTop (mkF m 9 #[.val (.int p1), .val (.int (6 : Int32)), .unset, .unset] [(.ref w3)])) _
    refine XS.astoreN X1.here hx rfl (hb hby at_9) rfl rfl (l' := #[.val (.int p1), .val (.int (6 : Int32)), .val (.ref w3), .unset]) rfl ?_
    show Steps p.tables e below (T1.setTop (mkF m 10 #[.val (.int p1), .val (.int (6 : Int32)), .val (.ref w3), .unset] [])) _
    refine XS.iloadN X1.here hx rfl (hb hby at_10) rfl ?_
    show Steps p.tables e below (T1.setTop (mkF m 11 #[.val (.int p1), .val (.int (6 : Int32)), .val (.ref w3), .unset] [(.int (6 : Int32))])) _
    refine st2 _ ?_
    show Steps p.tables e below (T2.setTop (mkF m 14 #[.val (.int p1), .val (.int (6 : Int32)), .val (.ref w3), .unset] [(.ref w3)])) _
    refine XS.astoreN X2.here hx rfl (hb hby at_14) rfl rfl (l' := #[.val (.int p1), .val (.int (6 : Int32)), .val (.ref w3), .val (.ref w3)]) rfl ?_
    show Steps p.tables e below (T2.setTop (mkF m 15 #[.val (.int p1), .val (.int (6 : Int32)), .val (.ref w3), .val (.ref w3)] [])) _
    refine XS.aloadN X2.here hx rfl (hb hby at_15) rfl rfl ?_
    show Steps p.tables e below (T2.setTop (mkF m 16 #[.val (.int p1), .val (.int (6 : Int32)), .val (.ref w3), .val (.ref w3)] [(.ref w3)])) _
    refine XS.aloadN X2.here hx rfl (hb hby at_16) rfl rfl ?_
    show Steps p.tables e below (T2.setTop (mkF m 17 #[.val (.int p1), .val (.int (6 : Int32)), .val (.ref w3), .val (.ref w3)] [(.ref w3), (.ref w3)])) _
    refine Jvm.RoadKit.acmp (g := (mkF m 17 #[.val (.int p1), .val (.int (6 : Int32)), .val (.ref w3), .val (.ref w3)] [(.ref w3), (.ref w3)])) X2 hx rfl rfl rfl (pc0 := 17) (pc' := 20) (same := true) rfl (hb hby at_17) rfl (decide_eq_true rfl) (by decide) (by decide) ?_
    show Steps p.tables e below (T2.setTop (mkF m 20 #[.val (.int p1), .val (.int (6 : Int32)), .val (.ref w3), .val (.ref w3)] [])) _
    refine XS.aloadN X2.here hx rfl (hb hby at_20) rfl rfl ?_
    show Steps p.tables e below (T2.setTop (mkF m 21 #[.val (.int p1), .val (.int (6 : Int32)), .val (.ref w3), .val (.ref w3)] [(.ref w3)])) _
    refine st3 _ ?_
    show Steps p.tables e below (T3.setTop (mkF m 24 #[.val (.int p1), .val (.int (6 : Int32)), .val (.ref w3), .val (.ref w3)] [(.int (32 : Int32))])) _
    refine XS.bipush X3.here hx rfl (hb hby at_24) ?_
    show Steps p.tables e below (T3.setTop (mkF m 26 #[.val (.int p1), .val (.int (6 : Int32)), .val (.ref w3), .val (.ref w3)] [(.int (8 : Int32)), (.int (32 : Int32))])) _
    refine XS.iloadN X3.here hx rfl (hb hby at_26) rfl ?_
    show Steps p.tables e below (T3.setTop (mkF m 27 #[.val (.int p1), .val (.int (6 : Int32)), .val (.ref w3), .val (.ref w3)] [(.int (6 : Int32)), (.int (8 : Int32)), (.int (32 : Int32))])) _
    refine XS.iconst X3.here hx rfl (hb hby at_27) ?_
    show Steps p.tables e below (T3.setTop (mkF m 28 #[.val (.int p1), .val (.int (6 : Int32)), .val (.ref w3), .val (.ref w3)] [(.int (3 : Int32)), (.int (6 : Int32)), (.int (8 : Int32)), (.int (32 : Int32))])) _
    refine XS.iand X3.here hx rfl (hb hby at_28) rfl ?_
    show Steps p.tables e below (T3.setTop (mkF m 29 #[.val (.int p1), .val (.int (6 : Int32)), .val (.ref w3), .val (.ref w3)] [(.int ((6 : Int32) &&& (3 : Int32))), (.int (8 : Int32)), (.int (32 : Int32))])) _
    rw [show (((6 : Int32) &&& (3 : Int32)) : Int32) = (2 : Int32) from by decide]
    show Steps p.tables e below (T3.setTop (mkF m 29 #[.val (.int p1), .val (.int (6 : Int32)), .val (.ref w3), .val (.ref w3)] [(.int (2 : Int32)), (.int (8 : Int32)), (.int (32 : Int32))])) _
    refine XS.ishl X3.here hx rfl (hb hby at_29) rfl ?_
    show Steps p.tables e below (T3.setTop (mkF m 30 #[.val (.int p1), .val (.int (6 : Int32)), .val (.ref w3), .val (.ref w3)] [(.int ((8 : Int32) <<< ((2 : Int32) &&& 31))), (.int (32 : Int32))])) _
    rw [show (((8 : Int32) <<< ((2 : Int32) &&& 31)) : Int32) = (32 : Int32) from by decide]
    show Steps p.tables e below (T3.setTop (mkF m 30 #[.val (.int p1), .val (.int (6 : Int32)), .val (.ref w3), .val (.ref w3)] [(.int (32 : Int32)), (.int (32 : Int32))])) _
    refine XS.icmpNo X3.here hx rfl (hb hby at_30) rfl (by decide) ?_
    show Steps p.tables e below (T3.setTop (mkF m 33 #[.val (.int p1), .val (.int (6 : Int32)), .val (.ref w3), .val (.ref w3)] [])) _
    refine XS.aloadN X3.here hx rfl (hb hby at_33) rfl rfl ?_
    show Steps p.tables e below (T3.setTop (mkF m 34 #[.val (.int p1), .val (.int (6 : Int32)), .val (.ref w3), .val (.ref w3)] [(.ref w3)])) _
    refine st4 _ ?_
    show Steps p.tables e below (T4.setTop (mkF m 37 #[.val (.int p1), .val (.int (6 : Int32)), .val (.ref w3), .val (.ref w3)] [(.int (0 : Int32))])) _
    refine XS.iloadN X4.here hx rfl (hb hby at_37) rfl ?_
    show Steps p.tables e below (T4.setTop (mkF m 38 #[.val (.int p1), .val (.int (6 : Int32)), .val (.ref w3), .val (.ref w3)] [(.int (6 : Int32)), (.int (0 : Int32))])) _
    refine XS.iconst X4.here hx rfl (hb hby at_38) ?_
    show Steps p.tables e below (T4.setTop (mkF m 39 #[.val (.int p1), .val (.int (6 : Int32)), .val (.ref w3), .val (.ref w3)] [(.int (4 : Int32)), (.int (6 : Int32)), (.int (0 : Int32))])) _
    refine XS.icmpYes X4.here hx rfl (pc0 := 39) (pc' := 46) rfl (hb hby at_39) rfl (by decide) (by decide) (by decide) ?_
    show Steps p.tables e below (T4.setTop (mkF m 46 #[.val (.int p1), .val (.int (6 : Int32)), .val (.ref w3), .val (.ref w3)] [(.int (0 : Int32))])) _
    refine XS.iconst X4.here hx rfl (hb hby at_46) ?_
    show Steps p.tables e below (T4.setTop (mkF m 47 #[.val (.int p1), .val (.int (6 : Int32)), .val (.ref w3), .val (.ref w3)] [(.int (0 : Int32)), (.int (0 : Int32))])) _
    refine XS.icmpNo X4.here hx rfl (hb hby at_47) rfl (by decide) ?_
    show Steps p.tables e below (T4.setTop (mkF m 50 #[.val (.int p1), .val (.int (6 : Int32)), .val (.ref w3), .val (.ref w3)] [])) _
    refine XS.iconst X4.here hx rfl (hb hby at_50) ?_
    show Steps p.tables e below (T4.setTop (mkF m 51 #[.val (.int p1), .val (.int (6 : Int32)), .val (.ref w3), .val (.ref w3)] [(.int (1 : Int32))])) _
    refine XS.goto X4.here hx rfl (pc0 := 51) (pc' := 55) rfl (hb hby at_51) (by decide) (by decide) ?_
    show Steps p.tables e below (T4.setTop (mkF m 55 #[.val (.int p1), .val (.int (6 : Int32)), .val (.ref w3), .val (.ref w3)] [(.int (1 : Int32))])) _
    exact retN X4 hx (t := .boolean) Bd.returns (by simp) (hb hby at_55) hr
  · exact ⟨rfl, N2⟩
set_option maxRecDepth 65536 in
set_option maxHeartbeats 40000000 in
theorem own_of_7 (l : Launch) (Z : State) (a0 : Array Value) (hw : ∀ d ∈ tables_1, d.before a0 Z = true) (ws : List Jvm.Cond) (w0 : Addr) (cl0 : Cell) (w1 : Addr) (w2 : Addr) (w3 : Addr) (w4 : Addr) (w5 : Addr) (w6 : Addr) (w7 : Addr) (w8 : Addr) (h0 : Heap) (n0 : Nat) (Z0 : n0 ≤ h0.size) (K : own_Know Z h0 w0 cl0 w1 w2 w3 w4 w5 w6 w7 w8) :
    MetFree l (⟨"com/example/rawmark/rawmark/io/Format$FixedInteger", "of", "(I)Lcom/example/rawmark/rawmark/io/Format$FixedInteger;"⟩ : MethodName) (head1 (Jvm.Cond.code (⟨"com/example/rawmark/rawmark/io/Format$FixedInteger", "of", "(I)Lcom/example/rawmark/rawmark/io/Format$FixedInteger;"⟩ : MethodName) prog_35_method_4_code 1 (some (.object "com/example/rawmark/rawmark/io/Format$FixedInteger")) :: ws) ({ frames := 0, cells := 0, slots := 0, locals := 0 } : Room)) (fun a U => a = #[(.int (7 : Int32))] ∧ Z.Warmed39 U.vm ∧ U.heap = h0) (fun _ _ _ _ _ => True) (fun _ U o U' => ∃ v L, o = .returned v ∧ own_Q (some (.ref w4)) h0 n0 v U'.heap L ∧ FrameEnd U o U' L ({ frames := 0, cells := 0, slots := 0, locals := 0 } : Room).cells ({ frames := 0, cells := 0, slots := 0, locals := 0 } : Room).slots) := by
  obtain ⟨S0, A0, S1, E1, S2, E2, S3, E3, S4, E4, S5, E5, S6, E6, S7, E7, S8, E8, B0, F1_bits, F1_signed, B3, F2_bits, F2_signed, B6, F3_bits, F3_signed, B7, F4_bits, F4_signed, B2, F5_bits, F5_signed, B1, F6_bits, F6_signed, B4, F7_bits, F7_signed, B5, F8_bits, F8_signed⟩ := id K
  refine MetFree.of_bodySF (plainFor_of_name own_pn_of) hisR ?_
  intro p e s m args below meth c s₁ Bd hml0 hP hK
  obtain ⟨rfl, hZ, hh⟩ := hP
  have hx := Bd.exec
  have hby := Bd.bytes
  have hml : c.maxLocals = 1 := hml0
  have hown : s.vm.findClass "com/example/rawmark/rawmark/io/Format$FixedInteger" = some m.cls := findClass_of_methodNamed Bd.named
  have X0 : Stand p l e ({ frames := 0, cells := 0, slots := 0, locals := 0 } : Room) s m #[(.int (7 : Int32))] below meth c s₁ [] 0 0 := Stand.of_body Bd
  have e0 : s₁.heap = h0 := by rw [← hh, Bd.state]; rfl
  have N0 := Fr.nil n0
  have pre0 : ∀ t, Steps p.tables e below (s₁.setTop (mkF m 0 #[.val (.int (7 : Int32))] [])) t → Steps p.tables e below (s₁.setTop (entryFrame m #[(.int (7 : Int32))] 1)) t := fun t k => castTop (own_ef_of m (7 : Int32)) k
  obtain ⟨T1, X1, e1, st1⟩ := getS2 X0 hx hZ hown (host := "") (Or.inl (hw _ (List.mem_of_getElem? (i := 4) rfl))) Via.refl e0 S0 (g := (mkF m 0 #[.val (.int (7 : Int32))] [])) rfl (hb hby d_of_0)
  obtain ⟨fs, hr, hrun, hended, hW, hsame⟩ := X1.leave (v := some (.ref w4)) (fun h => by rw [Bd.returns] at h; cases h)
  refine ⟨_, _, pre0 _ ?_, hrun, hended, _, _, rfl, ?_, ⟨_, rfl⟩, hW, hsame.mono (by decide) (by decide)⟩
  · show Steps p.tables e below (s₁.setTop (mkF m 0 #[.val (.int (7 : Int32))] [])) _
    refine st1 _ ?_
    show Steps p.tables e below (T1.setTop (mkF m 3 #[.val (.int (7 : Int32))] [(.ref w0)])) _
    refine XS.iloadN X1.here hx rfl (hb hby d_of_3) rfl ?_
    show Steps p.tables e below (T1.setTop (mkF m 4 #[.val (.int (7 : Int32))] [(.int (7 : Int32)), (.ref w0)])) _
    refine X1.aaload hx (j := (7 : Int32)) (v := (.ref w4)) (by rw [e1]; exact A0.1) (State.isArrayOf_alike hZ.alike A0.2.1) rfl A0.2.2 B7.1 B7.2 (g := (mkF m 4 #[.val (.int (7 : Int32))] [(.int (7 : Int32)), (.ref w0)])) rfl rfl (hb hby d_of_4) _ ?_
    show Steps p.tables e below (T1.setTop (mkF m 5 #[.val (.int (7 : Int32))] [(.ref w4)])) _
    jvm_step X1.here [X1.here.top, hx, (hb hby d_of_5), X1.method', Bd.returns, Value.isRef, FieldType.isReference]
    first | (intro acts; rw [hr _ acts rfl rfl rfl]) | rw [hr _ _ rfl rfl rfl]
    exact Steps.refl _
  · show own_Q _ h0 n0 _ T1.heap _
    rw [e1]
    exact ⟨rfl, N0, rfl⟩
set_option maxRecDepth 65536 in
set_option maxHeartbeats 40000000 in
theorem own_expected_7 (l : Launch) (Z : State) (a0 : Array Value) (hw : ∀ d ∈ tables_1, d.before a0 Z = true) (ws : List Jvm.Cond) (w0 : Addr) (cl0 : Cell) (w1 : Addr) (w2 : Addr) (w3 : Addr) (w4 : Addr) (w5 : Addr) (w6 : Addr) (w7 : Addr) (w8 : Addr) (h0 : Heap) (n0 : Nat) (Z0 : n0 ≤ h0.size) (K : own_Know Z h0 w0 cl0 w1 w2 w3 w4 w5 w6 w7 w8) :
    MetFree l (⟨"com/example/rawmark/rawmark/io/FixedIntegerOfPinLaw", "expected", "(I)Lcom/example/rawmark/rawmark/io/Format$FixedInteger;"⟩ : MethodName) (head1 (Jvm.Cond.code (⟨"com/example/rawmark/rawmark/io/FixedIntegerOfPinLaw", "expected", "(I)Lcom/example/rawmark/rawmark/io/Format$FixedInteger;"⟩ : MethodName) method_2_code 2 (some (.object "com/example/rawmark/rawmark/io/Format$FixedInteger")) :: ws) ({ frames := 0, cells := 0, slots := 0, locals := 0 } : Room)) (fun a U => a = #[(.int (7 : Int32))] ∧ Z.Warmed39 U.vm ∧ U.heap = h0) (fun _ _ _ _ _ => True) (fun _ U o U' => ∃ v L, o = .returned v ∧ own_Q (some (.ref w4)) h0 n0 v U'.heap L ∧ FrameEnd U o U' L ({ frames := 0, cells := 0, slots := 0, locals := 0 } : Room).cells ({ frames := 0, cells := 0, slots := 0, locals := 0 } : Room).slots) := by
  obtain ⟨S0, A0, S1, E1, S2, E2, S3, E3, S4, E4, S5, E5, S6, E6, S7, E7, S8, E8, B0, F1_bits, F1_signed, B3, F2_bits, F2_signed, B6, F3_bits, F3_signed, B7, F4_bits, F4_signed, B2, F5_bits, F5_signed, B1, F6_bits, F6_signed, B4, F7_bits, F7_signed, B5, F8_bits, F8_signed⟩ := id K
  refine MetFree.of_bodySF (plainFor_of_name own_pn_expected) hisR ?_
  intro p e s m args below meth c s₁ Bd hml0 hP hK
  obtain ⟨rfl, hZ, hh⟩ := hP
  have hx := Bd.exec
  have hby := Bd.bytes
  have hml : c.maxLocals = 2 := hml0
  have hown : s.vm.findClass "com/example/rawmark/rawmark/io/FixedIntegerOfPinLaw" = some m.cls := findClass_of_methodNamed Bd.named
  have X0 : Stand p l e ({ frames := 0, cells := 0, slots := 0, locals := 0 } : Room) s m #[(.int (7 : Int32))] below meth c s₁ [] 0 0 := Stand.of_body Bd
  have e0 : s₁.heap = h0 := by rw [← hh, Bd.state]; rfl
  have N0 := Fr.nil n0
  have pre0 : ∀ t, Steps p.tables e below (s₁.setTop (mkF m 0 #[.val (.int (7 : Int32)), .unset] [])) t → Steps p.tables e below (s₁.setTop (entryFrame m #[(.int (7 : Int32))] 2)) t := fun t k => castTop (own_ef_expected m (7 : Int32)) k
  obtain ⟨T1, X1, e1, st1⟩ := getS2 X0 hx hZ hown (host := "") (Or.inl (hw _ (List.mem_of_getElem? (i := 21) rfl))) Via.refl e0 S4 (g := (mkF m 85 #[.val (.int (7 : Int32)), .unset] [])) rfl (hb hby d_expected_85)
  obtain ⟨fs, hr, hrun, hended, hW, hsame⟩ := X1.leave (v := some (.ref w4)) (fun h => by rw [Bd.returns] at h; cases h)
  refine ⟨_, _, pre0 _ ?_, hrun, hended, _, _, rfl, ?_, ⟨_, rfl⟩, hW, hsame.mono (by decide) (by decide)⟩
  · show Steps p.tables e below (s₁.setTop (mkF m 0 #[.val (.int (7 : Int32)), .unset] [])) _
    refine XS.iloadN X0.here hx rfl (hb hby d_expected_0) rfl ?_
    show Steps p.tables e below (s₁.setTop (mkF m 1 #[.val (.int (7 : Int32)), .unset] [(.int (7 : Int32))])) _
    refine XS.iconst X0.here hx rfl (hb hby d_expected_1) ?_
    show Steps p.tables e below (s₁.setTop (mkF m 2 #[.val (.int (7 : Int32)), .unset] [(.int (4 : Int32)), (.int (7 : Int32))])) _
    refine XS.icmpYes X0.here hx rfl (pc0 := 2) (pc' := 47) rfl (hb hby d_expected_2) rfl (by decide) (by decide) (by decide) ?_
    show Steps p.tables e below (s₁.setTop (mkF m 47 #[.val (.int (7 : Int32)), .unset] [])) _
    refine XS.iloadN X0.here hx rfl (hb hby d_expected_47) rfl ?_
    show Steps p.tables e below (s₁.setTop (mkF m 48 #[.val (.int (7 : Int32)), .unset] [(.int (7 : Int32))])) _
    refine XS.bipush X0.here hx rfl (hb hby d_expected_48) ?_
    show Steps p.tables e below (s₁.setTop (mkF m 50 #[.val (.int (7 : Int32)), .unset] [(.int (6 : Int32)), (.int (7 : Int32))])) _
    refine XS.icmpYes X0.here hx rfl (pc0 := 50) (pc' := 72) rfl (hb hby d_expected_50) rfl (by decide) (by decide) (by decide) ?_
    show Steps p.tables e below (s₁.setTop (mkF m 72 #[.val (.int (7 : Int32)), .unset] [])) _
    refine XS.iloadN X0.here hx rfl (hb hby d_expected_72) rfl ?_
    show Steps p.tables e below (s₁.setTop (mkF m 73 #[.val (.int (7 : Int32)), .unset] [(.int (7 : Int32))])) _
    refine XS.bipush X0.here hx rfl (hb hby d_expected_73) ?_
    show Steps p.tables e below (s₁.setTop (mkF m 75 #[.val (.int (7 : Int32)), .unset] [(.int (6 : Int32)), (.int (7 : Int32))])) _
    refine XS.icmpYes X0.here hx rfl (pc0 := 75) (pc' := 85) rfl (hb hby d_expected_75) rfl (by decide) (by decide) (by decide) ?_
    show Steps p.tables e below (s₁.setTop (mkF m 85 #[.val (.int (7 : Int32)), .unset] [])) _
    refine st1 _ ?_
    show Steps p.tables e below (T1.setTop (mkF m 88 #[.val (.int (7 : Int32)), .unset] [(.ref w4)])) _
    refine XS.astoreN X1.here hx rfl (hb hby d_expected_88) rfl rfl (l' := #[.val (.int (7 : Int32)), .val (.ref w4)]) rfl ?_
    show Steps p.tables e below (T1.setTop (mkF m 89 #[.val (.int (7 : Int32)), .val (.ref w4)] [])) _
    refine XS.aloadN X1.here hx rfl (hb hby d_expected_89) rfl rfl ?_
    show Steps p.tables e below (T1.setTop (mkF m 90 #[.val (.int (7 : Int32)), .val (.ref w4)] [(.ref w4)])) _
    jvm_step X1.here [X1.here.top, hx, (hb hby d_expected_90), X1.method', Bd.returns, Value.isRef, FieldType.isReference]
    first | (intro acts; rw [hr _ acts rfl rfl rfl]) | rw [hr _ _ rfl rfl rfl]
    exact Steps.refl _
  · show own_Q _ h0 n0 _ T1.heap _
    rw [e1]
    exact ⟨rfl, N0, rfl⟩
set_option maxRecDepth 65536 in
set_option maxHeartbeats 40000000 in
theorem own_law_7 (l : Launch) (Z : State) (a0 : Array Value) (hw : ∀ d ∈ tables_1, d.before a0 Z = true) (ws : List Jvm.Cond) (w0 : Addr) (cl0 : Cell) (w1 : Addr) (w2 : Addr) (w3 : Addr) (w4 : Addr) (w5 : Addr) (w6 : Addr) (w7 : Addr) (w8 : Addr) (h0 : Heap) (n0 : Nat) (Z0 : n0 ≤ h0.size) (K : own_Know Z h0 w0 cl0 w1 w2 w3 w4 w5 w6 w7 w8) (p1 : Int32) (hi : (p1 &&& (7 : Int32)) = (7 : Int32)) :
    MetFree l x (head1 (Jvm.Cond.code x code maxLocals ret :: ws) room_1) (fun a U => a = #[(.int p1)] ∧ Z.Warmed39 U.vm ∧ U.heap = h0) (fun _ _ _ _ _ => True) (fun _ U o U' => ∃ v L, o = .returned v ∧ own_QL n0 v L ∧ FrameEnd U o U' L room_1.cells room_1.slots) := by
  obtain ⟨S0, A0, S1, E1, S2, E2, S3, E3, S4, E4, S5, E5, S6, E6, S7, E7, S8, E8, B0, F1_bits, F1_signed, B3, F2_bits, F2_signed, B6, F3_bits, F3_signed, B7, F4_bits, F4_signed, B2, F5_bits, F5_signed, B1, F6_bits, F6_signed, B4, F7_bits, F7_signed, B5, F8_bits, F8_signed⟩ := id K
  refine MetFree.of_bodySF (plainFor_of_name own_pn_law) hisR ?_
  intro p e s m args below meth c s₁ Bd hml0 hP hK
  obtain ⟨rfl, hZ, hh⟩ := hP
  have hx := Bd.exec
  have hby := Bd.bytes
  have hml : c.maxLocals = 4 := hml0
  have hown : s.vm.findClass "com/example/rawmark/rawmark/io/FixedIntegerOfPinLaw" = some m.cls := findClass_of_methodNamed Bd.named
  have X0 : Stand p l e room_1 s m #[(.int p1)] below meth c s₁ [] 0 0 := Stand.of_body Bd
  have e0 : s₁.heap = h0 := by rw [← hh, Bd.state]; rfl
  have N0 := Fr.nil n0
  have pre0 : ∀ t, Steps p.tables e below (s₁.setTop (mkF m 0 #[.val (.int p1), .unset, .unset, .unset] [])) t → Steps p.tables e below (s₁.setTop (entryFrame m #[(.int p1)] maxLocals)) t := fun t k => castTop (own_ef_law m p1) k
  obtain ⟨_, _, ⟨T1, L1, k1, n1⟩, -, X1, ⟨Lc1, hQ1, l1, y1, z1⟩, st1⟩ := Jvm.LawKit.callS X0 hx (y := (⟨"com/example/rawmark/rawmark/io/Format$FixedInteger", "of", "(I)Lcom/example/rawmark/rawmark/io/Format$FixedInteger;"⟩ : MethodName)) hown (mvT hZ (hw _ (List.mem_of_getElem? (i := 0) rfl))) (mvT hZ (hw _ (List.mem_of_getElem? (i := 1) rfl))) (mvT hZ (hw _ (List.mem_of_getElem? (i := 2) rfl))) (mvT hZ (hw _ (List.mem_of_getElem? (i := 3) rfl))) (by decide) (backOf (W := 0) (own_of_7 l Z a0 hw [] w0 cl0 w1 w2 w3 w4 w5 w6 w7 w8 h0 n0 Z0 K) hZ (hw _ (List.mem_of_getElem? (i := 3) rfl)) (hw _ (List.mem_of_getElem? (i := 2) rfl)) (by decide) (by decide)) (g := (mkF m 6 #[.val (.int p1), .val (.int (7 : Int32)), .unset, .unset] [(.int (7 : Int32))])) rfl (by rw [hml]; rfl) (argsL := [(.int (7 : Int32))]) (rest := []) (lenOf own_pd0 rfl) rfl (by show 2 * 0 + _ ≤ _; exact Nat.le_of_eq rfl) (hb hby at_6) (fun _ _ => ⟨rfl, e0, (by decide : 0 + 0 ≤ _), (by decide : 0 + 0 ≤ _)⟩)
  dsimp only [Pt.U, Pt.locs, Pt.cells, Pt.slots] at X1 l1 y1 z1 st1 hQ1
  subst l1 y1 z1
  obtain ⟨rfl, N1q, e1⟩ := hQ1
  have N1 := Fr.app N0 N1q
  obtain ⟨_, _, ⟨T2, L2, k2, n2⟩, -, X2, ⟨Lc2, hQ2, l2, y2, z2⟩, st2⟩ := Jvm.LawKit.callS X1 hx (y := (⟨"com/example/rawmark/rawmark/io/FixedIntegerOfPinLaw", "expected", "(I)Lcom/example/rawmark/rawmark/io/Format$FixedInteger;"⟩ : MethodName)) hown (mvT hZ (hw _ (List.mem_of_getElem? (i := 7) rfl))) (mvT hZ (hw _ (List.mem_of_getElem? (i := 8) rfl))) (mvT hZ (hw _ (List.mem_of_getElem? (i := 9) rfl))) (mvT hZ (hw _ (List.mem_of_getElem? (i := 10) rfl))) (by decide) (backOf (W := 0) (own_expected_7 l Z a0 hw [] w0 cl0 w1 w2 w3 w4 w5 w6 w7 w8 h0 n0 Z0 K) hZ (hw _ (List.mem_of_getElem? (i := 10) rfl)) (hw _ (List.mem_of_getElem? (i := 9) rfl)) (by decide) (by decide)) (g := (mkF m 11 #[.val (.int p1), .val (.int (7 : Int32)), .val (.ref w4), .unset] [(.int (7 : Int32))])) rfl (by rw [hml]; rfl) (argsL := [(.int (7 : Int32))]) (rest := []) (lenOf own_pd0 rfl) rfl (by show 2 * 0 + _ ≤ _; exact Nat.le_of_eq rfl) (hb hby at_11) (fun _ _ => ⟨rfl, e1, (by decide : 0 + 0 ≤ _), (by decide : 0 + 0 ≤ _)⟩)
  dsimp only [Pt.U, Pt.locs, Pt.cells, Pt.slots] at X2 l2 y2 z2 st2 hQ2
  subst l2 y2 z2
  obtain ⟨rfl, N2q, e2⟩ := hQ2
  have N2 := Fr.app N1 N2q
  obtain ⟨T3, X3, e3, st3⟩ := getF X2 hx hZ hown (host := "") (Or.inl (hw _ (List.mem_of_getElem? (i := 12) rfl))) Via.refl e2 F4_bits (g := (mkF m 21 #[.val (.int p1), .val (.int (7 : Int32)), .val (.ref w4), .val (.ref w4)] [(.ref w4)])) rfl rfl (hb hby at_21)
  obtain ⟨T4, X4, e4, st4⟩ := getF X3 hx hZ hown (host := "") (Or.inl (hw _ (List.mem_of_getElem? (i := 14) rfl))) Via.refl e3 F4_signed (g := (mkF m 34 #[.val (.int p1), .val (.int (7 : Int32)), .val (.ref w4), .val (.ref w4)] [(.ref w4)])) rfl rfl (hb hby at_34)
  obtain ⟨fs, hr, hrun, hended, hW, hsame⟩ := X4.leave (v := some (.int (1 : Int32))) (fun h => by rw [Bd.returns] at h; cases h)
  refine ⟨_, _, pre0 _ ?_, hrun, hended, _, _, rfl, ?_, ⟨_, rfl⟩, hW, hsame.mono (by decide) (by decide)⟩
  · show Steps p.tables e below (s₁.setTop (mkF m 0 #[.val (.int p1), .unset, .unset, .unset] [])) _
    refine XS.iloadN X0.here hx rfl (hb hby at_0) rfl ?_
    show Steps p.tables e below (s₁.setTop (mkF m 1 #[.val (.int p1), .unset, .unset, .unset] [(.int p1)])) _
    refine XS.bipush X0.here hx rfl (hb hby at_1) ?_
    show Steps p.tables e below (s₁.setTop (mkF m 3 #[.val (.int p1), .unset, .unset, .unset] [(.int (7 : Int32)), (.int p1)])) _
    refine XS.iand X0.here hx rfl (hb hby at_3) rfl ?_
    show Steps p.tables e below (s₁.setTop (mkF m 4 #[.val (.int p1), .unset, .unset, .unset] [(.int (p1 &&& (7 : Int32)))])) _
    rw [hi]
    show Steps p.tables e below (s₁.setTop (mkF m 4 #[.val (.int p1), .unset, .unset, .unset] [(.int (7 : Int32))])) _
    refine XS.istoreN X0.here hx rfl (hb hby at_4) rfl (l' := #[.val (.int p1), .val (.int (7 : Int32)), .unset, .unset]) rfl ?_
    show Steps p.tables e below (s₁.setTop (mkF m 5 #[.val (.int p1), .val (.int (7 : Int32)), .unset, .unset] [])) _
    refine XS.iloadN X0.here hx rfl (hb hby at_5) rfl ?_
    show Steps p.tables e below (s₁.setTop (mkF m 6 #[.val (.int p1), .val (.int (7 : Int32)), .unset, .unset] [(.int (7 : Int32))])) _
    refine st1 _ ?_
    show Steps p.tables e below (T1.setTop (mkF m 9 #[.val (.int p1), .val (.int (7 : Int32)), .unset, .unset] [(.ref w4)])) _
    refine XS.astoreN X1.here hx rfl (hb hby at_9) rfl rfl (l' := #[.val (.int p1), .val (.int (7 : Int32)), .val (.ref w4), .unset]) rfl ?_
    show Steps p.tables e below (T1.setTop (mkF m 10 #[.val (.int p1), .val (.int (7 : Int32)), .val (.ref w4), .unset] [])) _
    refine XS.iloadN X1.here hx rfl (hb hby at_10) rfl ?_
    show Steps p.tables e below (T1.setTop (mkF m 11 #[.val (.int p1), .val (.int (7 : Int32)), .val (.ref w4), .unset] [(.int (7 : Int32))])) _
    refine st2 _ ?_
    show Steps p.tables e below (T2.setTop (mkF m 14 #[.val (.int p1), .val (.int (7 : Int32)), .val (.ref w4), .unset] [(.ref w4)])) _
    refine XS.astoreN X2.here hx rfl (hb hby at_14) rfl rfl (l' := #[.val (.int p1), .val (.int (7 : Int32)), .val (.ref w4), .val (.ref w4)]) rfl ?_
    show Steps p.tables e below (T2.setTop (mkF m 15 #[.val (.int p1), .val (.int (7 : Int32)), .val (.ref w4), .val (.ref w4)] [])) _
    refine XS.aloadN X2.here hx rfl (hb hby at_15) rfl rfl ?_
    show Steps p.tables e below (T2.setTop (mkF m 16 #[.val (.int p1), .val (.int (7 : Int32)), .val (.ref w4), .val (.ref w4)] [(.ref w4)])) _
    refine XS.aloadN X2.here hx rfl (hb hby at_16) rfl rfl ?_
    show Steps p.tables e below (T2.setTop (mkF m 17 #[.val (.int p1), .val (.int (7 : Int32)), .val (.ref w4), .val (.ref w4)] [(.ref w4), (.ref w4)])) _
    refine Jvm.RoadKit.acmp (g := (mkF m 17 #[.val (.int p1), .val (.int (7 : Int32)), .val (.ref w4), .val (.ref w4)] [(.ref w4), (.ref w4)])) X2 hx rfl rfl rfl (pc0 := 17) (pc' := 20) (same := true) rfl (hb hby at_17) rfl (decide_eq_true rfl) (by decide) (by decide) ?_
    show Steps p.tables e below (T2.setTop (mkF m 20 #[.val (.int p1), .val (.int (7 : Int32)), .val (.ref w4), .val (.ref w4)] [])) _
    refine XS.aloadN X2.here hx rfl (hb hby at_20) rfl rfl ?_
    show Steps p.tables e below (T2.setTop (mkF m 21 #[.val (.int p1), .val (.int (7 : Int32)), .val (.ref w4), .val (.ref w4)] [(.ref w4)])) _
    refine st3 _ ?_
    show Steps p.tables e below (T3.setTop (mkF m 24 #[.val (.int p1), .val (.int (7 : Int32)), .val (.ref w4), .val (.ref w4)] [(.int (64 : Int32))])) _
    refine XS.bipush X3.here hx rfl (hb hby at_24) ?_
    show Steps p.tables e below (T3.setTop (mkF m 26 #[.val (.int p1), .val (.int (7 : Int32)), .val (.ref w4), .val (.ref w4)] [(.int (8 : Int32)), (.int (64 : Int32))])) _
    refine XS.iloadN X3.here hx rfl (hb hby at_26) rfl ?_
    show Steps p.tables e below (T3.setTop (mkF m 27 #[.val (.int p1), .val (.int (7 : Int32)), .val (.ref w4), .val (.ref w4)] [(.int (7 : Int32)), (.int (8 : Int32)), (.int (64 : Int32))])) _
    refine XS.iconst X3.here hx rfl (hb hby at_27) ?_
    show Steps p.tables e below (T3.setTop (mkF m 28 #[.val (.int p1), .val (.int (7 : Int32)), .val (.ref w4), .val (.ref w4)] [(.int (3 : Int32)), (.int (7 : Int32)), (.int (8 : Int32)), (.int (64 : Int32))])) _
    refine XS.iand X3.here hx rfl (hb hby at_28) rfl ?_
    show Steps p.tables e below (T3.setTop (mkF m 29 #[.val (.int p1), .val (.int (7 : Int32)), .val (.ref w4), .val (.ref w4)] [(.int ((7 : Int32) &&& (3 : Int32))), (.int (8 : Int32)), (.int (64 : Int32))])) _
    rw [show (((7 : Int32) &&& (3 : Int32)) : Int32) = (3 : Int32) from by decide]
    show Steps p.tables e below (T3.setTop (mkF m 29 #[.val (.int p1), .val (.int (7 : Int32)), .val (.ref w4), .val (.ref w4)] [(.int (3 : Int32)), (.int (8 : Int32)), (.int (64 : Int32))])) _
    refine XS.ishl X3.here hx rfl (hb hby at_29) rfl ?_
    show Steps p.tables e below (T3.setTop (mkF m 30 #[.val (.int p1), .val (.int (7 : Int32)), .val (.ref w4), .val (.ref w4)] [(.int ((8 : Int32) <<< ((3 : Int32) &&& 31))), (.int (64 : Int32))])) _
    rw [show (((8 : Int32) <<< ((3 : Int32) &&& 31)) : Int32) = (64 : Int32) from by decide]
    show Steps p.tables e below (T3.setTop (mkF m 30 #[.val (.int p1), .val (.int (7 : Int32)), .val (.ref w4), .val (.ref w4)] [(.int (64 : Int32)), (.int (64 : Int32))])) _
    refine XS.icmpNo X3.here hx rfl (hb hby at_30) rfl (by decide) ?_
    show Steps p.tables e below (T3.setTop (mkF m 33 #[.val (.int p1), .val (.int (7 : Int32)), .val (.ref w4), .val (.ref w4)] [])) _
    refine XS.aloadN X3.here hx rfl (hb hby at_33) rfl rfl ?_
    show Steps p.tables e below (T3.setTop (mkF m 34 #[.val (.int p1), .val (.int (7 : Int32)), .val (.ref w4), .val (.ref w4)] [(.ref w4)])) _
    refine st4 _ ?_
    show Steps p.tables e below (T4.setTop (mkF m 37 #[.val (.int p1), .val (.int (7 : Int32)), .val (.ref w4), .val (.ref w4)] [(.int (0 : Int32))])) _
    refine XS.iloadN X4.here hx rfl (hb hby at_37) rfl ?_
    show Steps p.tables e below (T4.setTop (mkF m 38 #[.val (.int p1), .val (.int (7 : Int32)), .val (.ref w4), .val (.ref w4)] [(.int (7 : Int32)), (.int (0 : Int32))])) _
    refine XS.iconst X4.here hx rfl (hb hby at_38) ?_
    show Steps p.tables e below (T4.setTop (mkF m 39 #[.val (.int p1), .val (.int (7 : Int32)), .val (.ref w4), .val (.ref w4)] [(.int (4 : Int32)), (.int (7 : Int32)), (.int (0 : Int32))])) _
    refine XS.icmpYes X4.here hx rfl (pc0 := 39) (pc' := 46) rfl (hb hby at_39) rfl (by decide) (by decide) (by decide) ?_
    show Steps p.tables e below (T4.setTop (mkF m 46 #[.val (.int p1), .val (.int (7 : Int32)), .val (.ref w4), .val (.ref w4)] [(.int (0 : Int32))])) _
    refine XS.iconst X4.here hx rfl (hb hby at_46) ?_
    show Steps p.tables e below (T4.setTop (mkF m 47 #[.val (.int p1), .val (.int (7 : Int32)), .val (.ref w4), .val (.ref w4)] [(.int (0 : Int32)), (.int (0 : Int32))])) _
    refine XS.icmpNo X4.here hx rfl (hb hby at_47) rfl (by decide) ?_
    show Steps p.tables e below (T4.setTop (mkF m 50 #[.val (.int p1), .val (.int (7 : Int32)), .val (.ref w4), .val (.ref w4)] [])) _
    refine XS.iconst X4.here hx rfl (hb hby at_50) ?_
    show Steps p.tables e below (T4.setTop (mkF m 51 #[.val (.int p1), .val (.int (7 : Int32)), .val (.ref w4), .val (.ref w4)] [(.int (1 : Int32))])) _
    refine XS.goto X4.here hx rfl (pc0 := 51) (pc' := 55) rfl (hb hby at_51) (by decide) (by decide) ?_
    show Steps p.tables e below (T4.setTop (mkF m 55 #[.val (.int p1), .val (.int (7 : Int32)), .val (.ref w4), .val (.ref w4)] [(.int (1 : Int32))])) _
    exact retN X4 hx (t := .boolean) Bd.returns (by simp) (hb hby at_55) hr
  · exact ⟨rfl, N2⟩
theorem own_mod (x : Int32) : (x &&& (7 : Int32)) = (0 : Int32) ∨ (x &&& (7 : Int32)) = (1 : Int32) ∨ (x &&& (7 : Int32)) = (2 : Int32) ∨ (x &&& (7 : Int32)) = (3 : Int32) ∨ (x &&& (7 : Int32)) = (4 : Int32) ∨ (x &&& (7 : Int32)) = (5 : Int32) ∨ (x &&& (7 : Int32)) = (6 : Int32) ∨ (x &&& (7 : Int32)) = (7 : Int32) := by
  have e1 : (x &&& (7 : Int32)).toInt = x.toInt % 2 ^ 3 := Jvm.Kit.i32_mask x 7 (k := 3) (by decide) (by decide)
  simp only [← Int32.toInt_inj, e1]
  have l0 : (0 : Int32).toInt = 0 := by decide
  have l1 : (1 : Int32).toInt = 1 := by decide
  have l2 : (2 : Int32).toInt = 2 := by decide
  have l3 : (3 : Int32).toInt = 3 := by decide
  have l4 : (4 : Int32).toInt = 4 := by decide
  have l5 : (5 : Int32).toInt = 5 := by decide
  have l6 : (6 : Int32).toInt = 6 := by decide
  have l7 : (7 : Int32).toInt = 7 := by decide
  rw [l0, l1, l2, l3, l4, l5, l6, l7]
  omega
theorem own_law (l : Launch) (Z : State) (a0 : Array Value) (hw : ∀ d ∈ tables_1, d.before a0 Z = true) (ws : List Jvm.Cond) (w0 : Addr) (cl0 : Cell) (w1 : Addr) (w2 : Addr) (w3 : Addr) (w4 : Addr) (w5 : Addr) (w6 : Addr) (w7 : Addr) (w8 : Addr) (h0 : Heap) (n0 : Nat) (Z0 : n0 ≤ h0.size) (K : own_Know Z h0 w0 cl0 w1 w2 w3 w4 w5 w6 w7 w8) (p1 : Int32) :
    MetFree l x (head1 (Jvm.Cond.code x code maxLocals ret :: ws) room_1) (fun a U => a = #[(.int p1)] ∧ Z.Warmed39 U.vm ∧ U.heap = h0) (fun _ _ _ _ _ => True) (fun _ U o U' => ∃ v L, o = .returned v ∧ own_QL n0 v L ∧ FrameEnd U o U' L room_1.cells room_1.slots) := by
  rcases own_mod p1 with hi | hi | hi | hi | hi | hi | hi | hi
  · exact own_law_0 l Z a0 hw ws w0 cl0 w1 w2 w3 w4 w5 w6 w7 w8 h0 n0 Z0 K p1 hi
  · exact own_law_1 l Z a0 hw ws w0 cl0 w1 w2 w3 w4 w5 w6 w7 w8 h0 n0 Z0 K p1 hi
  · exact own_law_2 l Z a0 hw ws w0 cl0 w1 w2 w3 w4 w5 w6 w7 w8 h0 n0 Z0 K p1 hi
  · exact own_law_3 l Z a0 hw ws w0 cl0 w1 w2 w3 w4 w5 w6 w7 w8 h0 n0 Z0 K p1 hi
  · exact own_law_4 l Z a0 hw ws w0 cl0 w1 w2 w3 w4 w5 w6 w7 w8 h0 n0 Z0 K p1 hi
  · exact own_law_5 l Z a0 hw ws w0 cl0 w1 w2 w3 w4 w5 w6 w7 w8 h0 n0 Z0 K p1 hi
  · exact own_law_6 l Z a0 hw ws w0 cl0 w1 w2 w3 w4 w5 w6 w7 w8 h0 n0 Z0 K p1 hi
  · exact own_law_7 l Z a0 hw ws w0 cl0 w1 w2 w3 w4 w5 w6 w7 w8 h0 n0 Z0 K p1 hi
set_option maxRecDepth 65536 in
set_option maxHeartbeats 40000000 in
theorem comes_1 {Post : Tables → Env → Array Value → State → Outcome → State → Prop} (hpost : ∀ tb e args s v u, (limb_1_1.after args s (.returned v) u = true ∧ limb_1_2.after args s (.returned v) u = true ∧ True) → FrameEnd s (.returned v) u (Jvm.fieldLocs frame_1_writes args s ++ Jvm.arrayLocs frame_1_arrays args s ++ Jvm.staticLocs frame_1_statics s) 0 0 → Post tb e args s (.returned v) u) :
    ArmFor flags0 classFile x code maxLocals ret World_1 tables_1 room_1 Calls_1 rest_1 Pre_1 Post := by
  intro l hfl _ _ p e ha hc hk s m args below hf hA hF happ hP
  obtain ⟨hcalls, hrest, hpre⟩ := hP
  obtain ⟨-, -, -, hnamed, -, -, -, hat⟩ := (Spec.applies_iff hf).mp happ
  obtain ⟨hg, hn⟩ := and_e (Cond.before_iff.mp (show (Jvm.Cond.and given_1 narrow_1).before args s = true from hpre))
  obtain ⟨g5, g6⟩ := and_e hg
  obtain ⟨w0_0, rfl⟩ : ∃ w0_0 : Value, args = #[w0_0] := by
    have hs : args.size = 1 := by simpa [Cond.value, given_1] using g5
    obtain ⟨L⟩ := args
    match L, hs with
    | [w0_0], _ => exact ⟨w0_0, rfl⟩
  have hw := fun d (hd : d ∈ tables_1) => atoms_spec (ws := Jvm.Cond.code x code maxLocals ret :: tables_1) hat d (List.mem_cons_of_mem _ hd)
  obtain ⟨i0, ei0⟩ := is_v g6
  obtain rfl : w0_0 = (.int i0) := Option.some.inj ei0
  obtain ⟨c0, r0⟩ := and_e hn
  obtain ⟨c1, r1⟩ := and_e r0
  obtain ⟨c2, r2⟩ := and_e r1
  obtain ⟨c3, r3⟩ := and_e r2
  obtain ⟨c4, r4⟩ := and_e r3
  obtain ⟨c5, r5⟩ := and_e r4
  obtain ⟨c6, r6⟩ := and_e r5
  obtain ⟨c7, r7⟩ := and_e r6
  obtain ⟨c8, r8⟩ := and_e r7
  obtain ⟨c9, r9⟩ := and_e r8
  obtain ⟨c10, r10⟩ := and_e r9
  obtain ⟨c11, r11⟩ := and_e r10
  obtain ⟨c12, r12⟩ := and_e r11
  obtain ⟨c13, r13⟩ := and_e r12
  obtain ⟨c14, r14⟩ := and_e r13
  obtain ⟨c15, r15⟩ := and_e r14
  obtain ⟨c16, r16⟩ := and_e r15
  obtain ⟨c17, r17⟩ := and_e r16
  obtain ⟨c18, r18⟩ := and_e r17
  obtain ⟨c19, r19⟩ := and_e r18
  obtain ⟨c20, r20⟩ := and_e r19
  obtain ⟨c21, r21⟩ := and_e r20
  obtain ⟨c22, r22⟩ := and_e r21
  obtain ⟨c23, r23⟩ := and_e r22
  obtain ⟨c24, r24⟩ := and_e r23
  obtain ⟨c25, r25⟩ := and_e r24
  obtain ⟨c26, r26⟩ := and_e r25
  obtain ⟨c27, r27⟩ := and_e r26
  obtain ⟨c28, r28⟩ := and_e r27
  obtain ⟨c29, r29⟩ := and_e r28
  obtain ⟨c30, r30⟩ := and_e r29
  obtain ⟨c31, r31⟩ := and_e r30
  obtain ⟨c32, r32⟩ := and_e r31
  obtain ⟨w0, ev0⟩ := arr_v c0
  have S0 := Sta.start ev0 (Or.inr ⟨(hw _ (List.mem_of_getElem? (i := 2) rfl)), (hw _ (List.mem_of_getElem? (i := 5) rfl))⟩)
  obtain ⟨cl0, A0⟩ := Arr.start ev0 c0
  obtain ⟨w1, ev1⟩ := exa_v c2
  have S1 := Sta.start ev1 (Or.inr ⟨(hw _ (List.mem_of_getElem? (i := 2) rfl)), (hw _ (List.mem_of_getElem? (i := 6) rfl))⟩)
  have E1 := Exa.start ev1 c2
  obtain ⟨w2, ev2⟩ := exa_v c6
  have S2 := Sta.start ev2 (Or.inr ⟨(hw _ (List.mem_of_getElem? (i := 2) rfl)), (hw _ (List.mem_of_getElem? (i := 16) rfl))⟩)
  have E2 := Exa.start ev2 c6
  obtain ⟨w3, ev3⟩ := exa_v c10
  have S3 := Sta.start ev3 (Or.inr ⟨(hw _ (List.mem_of_getElem? (i := 2) rfl)), (hw _ (List.mem_of_getElem? (i := 18) rfl))⟩)
  have E3 := Exa.start ev3 c10
  obtain ⟨w4, ev4⟩ := exa_v c14
  have S4 := Sta.start ev4 (Or.inr ⟨(hw _ (List.mem_of_getElem? (i := 2) rfl)), (hw _ (List.mem_of_getElem? (i := 20) rfl))⟩)
  have E4 := Exa.start ev4 c14
  obtain ⟨w5, ev5⟩ := exa_v c18
  have S5 := Sta.start ev5 (Or.inr ⟨(hw _ (List.mem_of_getElem? (i := 2) rfl)), (hw _ (List.mem_of_getElem? (i := 22) rfl))⟩)
  have E5 := Exa.start ev5 c18
  obtain ⟨w6, ev6⟩ := exa_v c22
  have S6 := Sta.start ev6 (Or.inr ⟨(hw _ (List.mem_of_getElem? (i := 2) rfl)), (hw _ (List.mem_of_getElem? (i := 24) rfl))⟩)
  have E6 := Exa.start ev6 c22
  obtain ⟨w7, ev7⟩ := exa_v c26
  have S7 := Sta.start ev7 (Or.inr ⟨(hw _ (List.mem_of_getElem? (i := 2) rfl)), (hw _ (List.mem_of_getElem? (i := 26) rfl))⟩)
  have E7 := Exa.start ev7 c26
  obtain ⟨w8, ev8⟩ := exa_v c30
  have S8 := Sta.start ev8 (Or.inr ⟨(hw _ (List.mem_of_getElem? (i := 2) rfl)), (hw _ (List.mem_of_getElem? (i := 28) rfl))⟩)
  have E8 := Exa.start ev8 c30
  have B0 := elem_in (Cond.eq_refs (own_h c3) ev1 rfl) ev0 rfl A0.1
  have F1_bits := Fld.start ((fld_at ev1).symm.trans (Cond.eq_int (own_h c4) rfl))
  have F1_signed := Fld.start ((fld_at ev1).symm.trans (Cond.eq_int (own_h c5) rfl))
  have B3 := elem_in (Cond.eq_refs (own_h c7) ev2 rfl) ev0 rfl A0.1
  have F2_bits := Fld.start ((fld_at ev2).symm.trans (Cond.eq_int (own_h c8) rfl))
  have F2_signed := Fld.start ((fld_at ev2).symm.trans (Cond.eq_int (own_h c9) rfl))
  have B6 := elem_in (Cond.eq_refs (own_h c11) ev3 rfl) ev0 rfl A0.1
  have F3_bits := Fld.start ((fld_at ev3).symm.trans (Cond.eq_int (own_h c12) rfl))
  have F3_signed := Fld.start ((fld_at ev3).symm.trans (Cond.eq_int (own_h c13) rfl))
  have B7 := elem_in (Cond.eq_refs (own_h c15) ev4 rfl) ev0 rfl A0.1
  have F4_bits := Fld.start ((fld_at ev4).symm.trans (Cond.eq_int (own_h c16) rfl))
  have F4_signed := Fld.start ((fld_at ev4).symm.trans (Cond.eq_int (own_h c17) rfl))
  have B2 := elem_in (Cond.eq_refs (own_h c19) ev5 rfl) ev0 rfl A0.1
  have F5_bits := Fld.start ((fld_at ev5).symm.trans (Cond.eq_int (own_h c20) rfl))
  have F5_signed := Fld.start ((fld_at ev5).symm.trans (Cond.eq_int (own_h c21) rfl))
  have B1 := elem_in (Cond.eq_refs (own_h c23) ev6 rfl) ev0 rfl A0.1
  have F6_bits := Fld.start ((fld_at ev6).symm.trans (Cond.eq_int (own_h c24) rfl))
  have F6_signed := Fld.start ((fld_at ev6).symm.trans (Cond.eq_int (own_h c25) rfl))
  have B4 := elem_in (Cond.eq_refs (own_h c27) ev7 rfl) ev0 rfl A0.1
  have F7_bits := Fld.start ((fld_at ev7).symm.trans (Cond.eq_int (own_h c28) rfl))
  have F7_signed := Fld.start ((fld_at ev7).symm.trans (Cond.eq_int (own_h c29) rfl))
  have B5 := elem_in (Cond.eq_refs (own_h c31) ev8 rfl) ev0 rfl A0.1
  have F8_bits := Fld.start ((fld_at ev8).symm.trans (Cond.eq_int (own_h c32) rfl))
  have F8_signed := Fld.start ((fld_at ev8).symm.trans (Cond.eq_int (own_h r32) rfl))
  have K : own_Know s s.heap w0 cl0 w1 w2 w3 w4 w5 w6 w7 w8 := ⟨S0, A0, S1, E1, S2, E2, S3, E3, S4, E4, S5, E5, S6, E6, S7, E7, S8, E8, B0, F1_bits, F1_signed, B3, F2_bits, F2_signed, B6, F3_bits, F3_signed, B7, F4_bits, F4_signed, B2, F5_bits, F5_signed, B1, F6_bits, F6_signed, B4, F7_bits, F7_signed, B5, F8_bits, F8_signed⟩
  obtain ⟨n, o, h1, h2, h3, _, L, rfl, ⟨rfl, N⟩, hq⟩ := own_law l s _ hw tables_1 w0 cl0 w1 w2 w3 w4 w5 w6 w7 w8 s.heap s.heap.size (Nat.le_refl _) K i0 p e ha hc hk s m _ below hf ((Spec.applies_iff_loose hf).mp happ).1 ⟨rfl, State.Warmed39.refl s, rfl⟩ trivial
  refine ⟨n, _, h1, h2, h3, hpost _ _ _ _ _ _ ⟨Cond.after_iff.mpr rfl, Cond.after_iff.mpr (eq_i res_at (Term.int_eval (1)) rfl), trivial⟩ ⟨hq.1, hq.2.1, (hq.2.2.sift fun y hy => Or.inr (N y hy)).mono (by decide) (by decide)⟩⟩
theorem main_1_1 : Claimed_1_1 := comes_1 fun _ _ _ _ _ _ h hF => ⟨h.1, hF⟩
theorem main_1_2 : Claimed_1_2 := comes_1 fun _ _ _ _ _ _ h hF => ⟨h.2.1, hF⟩
end Jvm.Pilot.@@N@@
namespace Jvm.Pilot.@@N@@
open Jvm Jvm.ClassFile Sem Op Lib Jvm.Free Jvm.Stand Jvm.Pilot.@@N@@.Jvm.D
/-! MADE BY PROGRAM (witnessworld.py) out of the Statement's table words and the real class files: 11 classes; the members and pool entries that the words name. The judged class is class 1, her method 2. -/
namespace start1
open Jvm.ClassFile
def u (s : String) : CpInfo := .utf8 (stringToUtf16 s)
/-- a pool by its gaps: so many unusable entries, then the entry; so many at the end -/
def gap : Nat → List CpInfo → List CpInfo
  | 0, r => r
  | n + 1, r => .unusable :: gap n r
def poolList (es : List (Nat × CpInfo)) (last : Nat) : List CpInfo := es.foldr (fun e r => gap e.1 (e.2 :: r)) (gap last [])
def pool (es : List (Nat × CpInfo)) (last : Nat) : Array CpInfo := ⟨poolList es last⟩
def fileOf (pool : Array CpInfo) (this : Nat) (attrs : Array Attribute := #[]) (ms : Array MethodInfo := #[]) (fl : Nat := 33) (sup : Nat := 0) (ifs : Array Nat := #[]) (fds : Array FieldInfo := #[]) : ClassFile where
  minorVersion := 0
  majorVersion := 65
  constantPool := pool
  accessFlags := fl
  thisClass := this
  superClass := sup
  interfaces := ifs
  fields := fds
  methods := ms
  attributes := attrs
def plain (name : String) (sup : Option ClassId) : Class where
  name := name
  kind := .ordinary
  loader := none
  accessFlags := 33
  super := sup
  interfaces := #[]
  cf := none
  fields := #[]
  methods := #[]
  instanceTypes := #[]
  staticTypes := #[]
  resolved := #[]
  callSites := []
  init := .initialized
  statics := none
  mirror := none

def pool0 : Array CpInfo := pool [(5, u "<init>"), (0, u "()V"), (1, .class_ 10), (1, u "java/lang/Object")] 113

def k0m0 : Method := { name := "<init>", desc := "()V", sig := { parameters := [], returnType := none }, accessFlags := 1, code := none }
/-- java/lang/Object -/
def k0 : Class := { plain "java/lang/Object" none with
  accessFlags := 33
  interfaces := #[]
  cf := some (fileOf pool0 8 #[] #[{ accessFlags := 1, nameIndex := 5, descriptorIndex := 6, attributes := #[] }] 33 0 #[] #[])
  fields := #[]
  methods := #[k0m0]
  instanceTypes := #[]
  staticTypes := #[]
  resolved := Array.replicate 124 none
  statics := none }

def pool1 : Array CpInfo := pool [(2, .class_ 4), (1, u "java/lang/Object"), (0, u "<init>"), (0, u "()V"), (0, .fieldref 8 9), (0, .class_ 10), (0, .nameAndType 11 12), (0, u "com/example/rawmark/rawmark/io/Format$FixedInteger"), (0, u "INT8"), (0, u "Lcom/example/rawmark/rawmark/io/Format$FixedInteger;"), (0, .fieldref 8 14), (0, .nameAndType 15 12), (0, u "INT16"), (0, .fieldref 8 17), (0, .nameAndType 18 12), (0, u "INT32"), (0, .fieldref 8 20), (0, .nameAndType 21 12), (0, u "INT64"), (0, .fieldref 8 23), (0, .nameAndType 24 12), (0, u "UINT8"), (0, .fieldref 8 26), (0, .nameAndType 27 12), (0, u "UINT16"), (0, .fieldref 8 29), (0, .nameAndType 30 12), (0, u "UINT32"), (0, .fieldref 8 32), (0, .nameAndType 33 12), (0, u "UINT64"), (0, .methodref 8 35), (0, .nameAndType 36 37), (0, u "of"), (0, u "(I)Lcom/example/rawmark/rawmark/io/Format$FixedInteger;"), (0, .methodref 39 40), (0, .class_ 41), (0, .nameAndType 42 37), (0, u "com/example/rawmark/rawmark/io/FixedIntegerOfPinLaw"), (0, u "expected"), (0, .fieldref 8 44), (0, .nameAndType 45 46), (0, u "bits"), (0, u "I"), (0, .fieldref 8 48), (0, .nameAndType 49 50), (0, u "signed"), (0, u "Z"), (3, u "law"), (0, u "(I)Z")] 6

def k1m0 : Method := { name := "<init>", desc := "()V", sig := { parameters := [], returnType := none }, accessFlags := 2, code := none }
def k1c1 : Code := { maxStack := 2, maxLocals := 2, code := method_2_code, exceptionTable := #[], attributes := #[] }
def k1m1 : Method := { name := "expected", desc := "(I)Lcom/example/rawmark/rawmark/io/Format$FixedInteger;", sig := { parameters := [.int], returnType := some (.object "com/example/rawmark/rawmark/io/Format$FixedInteger") }, accessFlags := 10, code := some k1c1 }
def k1c2 : Code := { maxStack := 4, maxLocals := 4, code := code, exceptionTable := #[], attributes := #[] }
def k1m2 : Method := { name := "law", desc := "(I)Z", sig := { parameters := [.int], returnType := some .boolean }, accessFlags := 9, code := some k1c2 }
/-- com/example/rawmark/rawmark/io/FixedIntegerOfPinLaw -/
def k1 : Class := { plain "com/example/rawmark/rawmark/io/FixedIntegerOfPinLaw" (some 0) with
  accessFlags := 49
  interfaces := #[]
  cf := some (fileOf pool1 39 #[] #[{ accessFlags := 2, nameIndex := 5, descriptorIndex := 6, attributes := #[] }, { accessFlags := 10, nameIndex := 42, descriptorIndex := 37, attributes := #[] }, { accessFlags := 9, nameIndex := 54, descriptorIndex := 55, attributes := #[] }] 49 2 #[] #[])
  fields := #[]
  methods := #[k1m0, k1m1, k1m2]
  instanceTypes := #[]
  staticTypes := #[]
  resolved := Array.replicate 62 none
  statics := none }

def pool2 : Array CpInfo := pool [(1, .class_ 2), (0, u "java/lang/constant/Constable"), (0, .class_ 4), (0, u "java/lang/Object")] 6

/-- java/lang/constant/Constable -/
def k2 : Class := { plain "java/lang/constant/Constable" (some 0) with
  accessFlags := 1537
  interfaces := #[]
  cf := some (fileOf pool2 1 #[] #[] 1537 3 #[] #[])
  fields := #[]
  methods := #[]
  instanceTypes := #[]
  staticTypes := #[]
  resolved := Array.replicate 11 none
  statics := none }

def pool3 : Array CpInfo := pool [(1, .class_ 2), (0, u "java/lang/Comparable"), (0, .class_ 4), (0, u "java/lang/Object")] 7

/-- java/lang/Comparable -/
def k3 : Class := { plain "java/lang/Comparable" (some 0) with
  accessFlags := 1537
  interfaces := #[]
  cf := some (fileOf pool3 1 #[] #[] 1537 3 #[] #[])
  fields := #[]
  methods := #[]
  instanceTypes := #[]
  staticTypes := #[]
  resolved := Array.replicate 12 none
  statics := none }

def pool4 : Array CpInfo := pool [(1, .class_ 2), (0, u "java/io/Serializable"), (0, .class_ 4), (0, u "java/lang/Object")] 2

/-- java/io/Serializable -/
def k4 : Class := { plain "java/io/Serializable" (some 0) with
  accessFlags := 1537
  interfaces := #[]
  cf := some (fileOf pool4 1 #[] #[] 1537 3 #[] #[])
  fields := #[]
  methods := #[]
  instanceTypes := #[]
  staticTypes := #[]
  resolved := Array.replicate 7 none
  statics := none }

def pool5 : Array CpInfo := pool [(2, .class_ 4), (1, u "java/lang/Enum"), (0, u "name"), (0, u "Ljava/lang/String;"), (2, u "ordinal"), (0, u "I"), (1, .class_ 14), (1, u "java/lang/Object"), (4, u "hash"), (86, .class_ 108), (1, u "java/lang/Enum$EnumDesc"), (2, .class_ 112), (0, u "java/lang/constant/Constable"), (0, .class_ 114), (0, u "java/lang/Comparable"), (0, .class_ 116), (0, u "java/io/Serializable")] 87

/-- java/lang/Enum -/
def k5 : Class := { plain "java/lang/Enum" (some 0) with
  accessFlags := 1057
  interfaces := #[2, 3, 4]
  cf := some (fileOf pool5 2 #[.nestMembers #[106]] #[] 1057 12 #[111, 113, 115] #[{ accessFlags := 18, nameIndex := 5, descriptorIndex := 6, attributes := #[] }, { accessFlags := 18, nameIndex := 9, descriptorIndex := 10, attributes := #[] }, { accessFlags := 2, nameIndex := 19, descriptorIndex := 10, attributes := #[] }])
  fields := #[{ name := "name", type := (.object "java/lang/String"), accessFlags := 18, slot := 0, constantValue := 0 }, { name := "ordinal", type := .int, accessFlags := 18, slot := 1, constantValue := 0 }, { name := "hash", type := .int, accessFlags := 2, slot := 2, constantValue := 0 }]
  methods := #[]
  instanceTypes := #[(.object "java/lang/String"), .int, .int]
  staticTypes := #[]
  resolved := Array.replicate 204 none
  statics := none }

def pool6 : Array CpInfo := pool [(1, .class_ 2), (0, u "com/example/rawmark/rawmark/io/Format$FixedInteger"), (2, u "INT8"), (0, u "Lcom/example/rawmark/rawmark/io/Format$FixedInteger;"), (2, u "INT16"), (2, u "INT32"), (2, u "INT64"), (2, u "UINT8"), (2, u "UINT16"), (2, u "UINT32"), (2, u "UINT64"), (2, u "$VALUES"), (0, u "[Lcom/example/rawmark/rawmark/io/Format$FixedInteger;"), (6, .class_ 40), (1, u "java/lang/Enum"), (8, u "type"), (0, u "Lcom/example/rawmark/rawmark/io/ValueType;"), (2, u "bits"), (0, u "I"), (2, u "signed"), (0, u "Z"), (0, .fieldref 1 60), (0, .nameAndType 61 31), (0, u "IN_ORDER"), (66, u "of"), (0, u "(I)Lcom/example/rawmark/rawmark/io/Format$FixedInteger;"), (11, .class_ 142), (0, u "com/example/rawmark/rawmark/io/Format")] 2

def k6c0 : Code := { maxStack := 2, maxLocals := 1, code := prog_35_method_4_code, exceptionTable := #[], attributes := #[] }
def k6m0 : Method := { name := "of", desc := "(I)Lcom/example/rawmark/rawmark/io/Format$FixedInteger;", sig := { parameters := [.int], returnType := some (.object "com/example/rawmark/rawmark/io/Format$FixedInteger") }, accessFlags := 8, code := some k6c0 }
/-- com/example/rawmark/rawmark/io/Format$FixedInteger -/
def k6 : Class := { plain "com/example/rawmark/rawmark/io/Format$FixedInteger" (some 5) with
  accessFlags := 16432
  interfaces := #[]
  cf := some (fileOf pool6 1 #[.nestHost 141] #[{ accessFlags := 8, nameIndex := 128, descriptorIndex := 129, attributes := #[] }] 16432 38 #[] #[{ accessFlags := 16409, nameIndex := 5, descriptorIndex := 6, attributes := #[] }, { accessFlags := 16409, nameIndex := 9, descriptorIndex := 6, attributes := #[] }, { accessFlags := 16409, nameIndex := 12, descriptorIndex := 6, attributes := #[] }, { accessFlags := 16409, nameIndex := 15, descriptorIndex := 6, attributes := #[] }, { accessFlags := 16409, nameIndex := 18, descriptorIndex := 6, attributes := #[] }, { accessFlags := 16409, nameIndex := 21, descriptorIndex := 6, attributes := #[] }, { accessFlags := 16409, nameIndex := 24, descriptorIndex := 6, attributes := #[] }, { accessFlags := 16409, nameIndex := 27, descriptorIndex := 6, attributes := #[] }, { accessFlags := 26, nameIndex := 61, descriptorIndex := 31, attributes := #[] }, { accessFlags := 16, nameIndex := 49, descriptorIndex := 50, attributes := #[] }, { accessFlags := 16, nameIndex := 53, descriptorIndex := 54, attributes := #[] }, { accessFlags := 16, nameIndex := 57, descriptorIndex := 58, attributes := #[] }, { accessFlags := 4122, nameIndex := 30, descriptorIndex := 31, attributes := #[] }])
  fields := #[{ name := "INT8", type := (.object "com/example/rawmark/rawmark/io/Format$FixedInteger"), accessFlags := 16409, slot := 0, constantValue := 0 }, { name := "INT16", type := (.object "com/example/rawmark/rawmark/io/Format$FixedInteger"), accessFlags := 16409, slot := 1, constantValue := 0 }, { name := "INT32", type := (.object "com/example/rawmark/rawmark/io/Format$FixedInteger"), accessFlags := 16409, slot := 2, constantValue := 0 }, { name := "INT64", type := (.object "com/example/rawmark/rawmark/io/Format$FixedInteger"), accessFlags := 16409, slot := 3, constantValue := 0 }, { name := "UINT8", type := (.object "com/example/rawmark/rawmark/io/Format$FixedInteger"), accessFlags := 16409, slot := 4, constantValue := 0 }, { name := "UINT16", type := (.object "com/example/rawmark/rawmark/io/Format$FixedInteger"), accessFlags := 16409, slot := 5, constantValue := 0 }, { name := "UINT32", type := (.object "com/example/rawmark/rawmark/io/Format$FixedInteger"), accessFlags := 16409, slot := 6, constantValue := 0 }, { name := "UINT64", type := (.object "com/example/rawmark/rawmark/io/Format$FixedInteger"), accessFlags := 16409, slot := 7, constantValue := 0 }, { name := "IN_ORDER", type := (.array (.object "com/example/rawmark/rawmark/io/Format$FixedInteger")), accessFlags := 26, slot := 8, constantValue := 0 }, { name := "type", type := (.object "com/example/rawmark/rawmark/io/ValueType"), accessFlags := 16, slot := 3, constantValue := 0 }, { name := "bits", type := .int, accessFlags := 16, slot := 4, constantValue := 0 }, { name := "signed", type := .boolean, accessFlags := 16, slot := 5, constantValue := 0 }, { name := "$VALUES", type := (.array (.object "com/example/rawmark/rawmark/io/Format$FixedInteger")), accessFlags := 4122, slot := 9, constantValue := 0 }]
  methods := #[k6m0]
  instanceTypes := #[(.object "java/lang/String"), .int, .int, (.object "com/example/rawmark/rawmark/io/ValueType"), .int, .boolean]
  staticTypes := #[(.object "com/example/rawmark/rawmark/io/Format$FixedInteger"), (.object "com/example/rawmark/rawmark/io/Format$FixedInteger"), (.object "com/example/rawmark/rawmark/io/Format$FixedInteger"), (.object "com/example/rawmark/rawmark/io/Format$FixedInteger"), (.object "com/example/rawmark/rawmark/io/Format$FixedInteger"), (.object "com/example/rawmark/rawmark/io/Format$FixedInteger"), (.object "com/example/rawmark/rawmark/io/Format$FixedInteger"), (.object "com/example/rawmark/rawmark/io/Format$FixedInteger"), (.array (.object "com/example/rawmark/rawmark/io/Format$FixedInteger")), (.array (.object "com/example/rawmark/rawmark/io/Format$FixedInteger"))]
  resolved := Array.replicate 145 none
  statics := some 0 }

def pool7 : Array CpInfo := pool [(1, u "java/lang/Cloneable"), (0, .class_ 1), (0, u "java/lang/Object"), (0, .class_ 3)] 3

/-- java/lang/Cloneable -/
def k7 : Class := { plain "java/lang/Cloneable" (some 0) with
  accessFlags := 1537
  interfaces := #[]
  cf := some (fileOf pool7 2 #[] #[] 1537 4 #[] #[])
  fields := #[]
  methods := #[]
  instanceTypes := #[]
  staticTypes := #[]
  resolved := Array.replicate 8 none
  statics := none }

/-- the primitive byte -/
def k8 : Class := { plain "byte" none with kind := .primitive 'B', accessFlags := 0x411 }
/-- [B -/
def k9 : Class := { plain "[B" (some 0) with kind := .array 8 .byte, interfaces := #[7, 4], accessFlags := 1041 }

/-- [Lcom/example/rawmark/rawmark/io/Format$FixedInteger; -/
def k10 : Class := { plain "[Lcom/example/rawmark/rawmark/io/Format$FixedInteger;" (some 0) with kind := .array 6 (.object "com/example/rawmark/rawmark/io/Format$FixedInteger"), interfaces := #[7, 4], accessFlags := 1041 }

def heap : Heap := #[{ cls := 6, slots := #[.ref 2, .ref 7, .ref 6, .ref 3, .ref 8, .ref 9, .ref 4, .ref 5, .ref 1, .null], vm := .statics 6 },
  { cls := 10, slots := #[.ref 2, .ref 7, .ref 6, .ref 3, .ref 8, .ref 9, .ref 4, .ref 5], vm := .none },
  { cls := 6, slots := #[.null, .int 0, .int 0, .null, .int 8, .int 1], vm := .none },
  { cls := 6, slots := #[.null, .int 0, .int 0, .null, .int 64, .int 1], vm := .none },
  { cls := 6, slots := #[.null, .int 0, .int 0, .null, .int 32, .int 0], vm := .none },
  { cls := 6, slots := #[.null, .int 0, .int 0, .null, .int 64, .int 0], vm := .none },
  { cls := 6, slots := #[.null, .int 0, .int 0, .null, .int 32, .int 1], vm := .none },
  { cls := 6, slots := #[.null, .int 0, .int 0, .null, .int 16, .int 1], vm := .none },
  { cls := 6, slots := #[.null, .int 0, .int 0, .null, .int 8, .int 0], vm := .none },
  { cls := 6, slots := #[.null, .int 0, .int 0, .null, .int 16, .int 0], vm := .none }]
def classes : Array Class := #[k0, k1, k2, k3, k4, k5, k6, k7, k8, k9, k10]
def interned : List (Array UInt16 × Addr) := []
def slotsUsed : Nat := 66
def theMethod : MethodId := ⟨1, 2⟩
def args0 : Array Value := #[.int 5]
def aboutOver (below : List Frame) : State where
  vm := { classes := classes, interned := interned.toArray }
  heap := heap
  slotsUsed := slotsUsed
  threads := #[{ frames := .invoking theMethod args0 :: below }]
def below0 : List Frame := [.native { method := ⟨0, 0⟩, args := #[] }]
def about1 : State := aboutOver below0
def p0 : Program := .bare "" "" ""
def e0 : Env := launch0.env 0 0 0
theorem w_frames : about1.frames = Frame.invoking theMethod args0 :: below0 := rfl
set_option maxRecDepth 65536 in
theorem w_args : argsFit about1.vm theMethod args0 = true := by decide +kernel
set_option maxRecDepth 65536 in
theorem w_heap : heapFits about1 = true := by decide +kernel
set_option maxRecDepth 65536 in
theorem w_runnable : about1.curStatus? = some .runnable := by decide +kernel
set_option maxRecDepth 65536 in
theorem w_alone : about1.alone = true := by decide +kernel
set_option maxRecDepth 65536 in
theorem w_named : about1.methodNamed? x = some theMethod := by decide +kernel
set_option maxRecDepth 65536 in
theorem w_hears : about1.hears theMethod below0 = true := by decide +kernel
set_option maxRecDepth 65536 in
theorem w_ripe : about1.ripe theMethod args0 below0 = true := by decide +kernel
theorem w_running : about1.status = .running := rfl
set_option maxRecDepth 65536 in
theorem w_room : about1.hasRoom e0.platform room_1 = true :=
  launch0.hasRoom_least _ room_1 (by decide +kernel) (by decide +kernel) (by decide +kernel) (by decide +kernel) (by decide +kernel) (by decide +kernel)
theorem allAtoms_all (ts : List Jvm.Cond) (a : Array Jvm.Value) (st : Jvm.State) : (allAtoms ts).before a st = ts.all (fun c => c.before a st) := by
  induction ts with
  | nil => rfl
  | cons c t ih =>
    show (Jvm.Cond.and c (allAtoms t)).before a st = _
    rw [Jvm.Cond.before_and, ih, List.all_cons]
def words1 : List Jvm.Cond := Jvm.Cond.code x code maxLocals ret :: tables_1
/-- a 'code' word, met by the world's own term for the bytes: nothing is compared byte by byte -/
theorem code_word {y : MethodName} {bytes : ByteArray} {mx : Nat} {rt : Option FieldType} {a : Array Value} {s : State} {m : MethodId} {meth : Method} {c : Code} (h1 : s.methodNamed? y = some m) (h2 : s.vm.method? m = some meth) (h3 : meth.code = some c) (h4 : c.code = bytes)
    (h5 : (c.maxLocals == mx && c.exceptionTable.isEmpty && decide (c.maxStack ≤ mostOperands) && decide (meth.sig.returnType = rt) && !meth.locks && decide (parseMethodDescriptor y.desc = some meth.sig)) = true) : (Jvm.Cond.code y bytes mx rt).before a s = true := by
  simp only [Bool.and_eq_true, beq_iff_eq, Bool.not_eq_true', decide_eq_true_eq] at h5
  obtain ⟨⟨⟨⟨⟨g1, g2⟩, g3⟩, g4⟩, g5⟩, g6⟩ := h5
  simp [Cond.before, Cond.holds, Cond.value, h1, h2, h3, h4, g1, g2, g3, g4, g5, g6]
def isCode : Jvm.Cond → Bool
  | .code _ _ _ _ => true
  | _ => false
theorem all_split {L : List Jvm.Cond} {P : Jvm.Cond → Bool} (h1 : L.all (fun c => isCode c || P c) = true) (h2 : ∀ c ∈ L.filter isCode, P c = true) : L.all P = true := by
  refine List.all_eq_true.mpr fun c hc => ?_
  have h := List.all_eq_true.mp h1 c hc
  rcases Bool.eq_false_or_eq_true (isCode c) with hi | hi
  · exact h2 c (List.mem_filter.mpr ⟨hc, hi⟩)
  · simpa [hi] using h
set_option maxRecDepth 65536 in
theorem w_c0 : (Jvm.Cond.code x code maxLocals ret).before args0 about1 = true := code_word (m := ⟨1, 2⟩) (meth := k1m2) (c := k1c2) (by decide +kernel) rfl rfl rfl (by decide +kernel)
set_option maxRecDepth 65536 in
theorem w_c1 : (Jvm.Cond.code ({ cls := "com/example/rawmark/rawmark/io/Format$FixedInteger", name := "of", desc := "(I)Lcom/example/rawmark/rawmark/io/Format$FixedInteger;" } : Jvm.MethodName) prog_35_method_4_code (1 : Nat) (Option.some (Jvm.ClassFile.FieldType.object "com/example/rawmark/rawmark/io/Format$FixedInteger"))).before args0 about1 = true := code_word (m := ⟨6, 0⟩) (meth := k6m0) (c := k6c0) (by decide +kernel) rfl rfl rfl (by decide +kernel)
set_option maxRecDepth 65536 in
theorem w_c2 : (Jvm.Cond.code ({ cls := "com/example/rawmark/rawmark/io/FixedIntegerOfPinLaw", name := "expected", desc := "(I)Lcom/example/rawmark/rawmark/io/Format$FixedInteger;" } : Jvm.MethodName) method_2_code (2 : Nat) (Option.some (Jvm.ClassFile.FieldType.object "com/example/rawmark/rawmark/io/Format$FixedInteger"))).before args0 about1 = true := code_word (m := ⟨1, 1⟩) (meth := k1m1) (c := k1c1) (by decide +kernel) rfl rfl rfl (by decide +kernel)
def codes1 : List Jvm.Cond := [Jvm.Cond.code x code maxLocals ret, Jvm.Cond.code ({ cls := "com/example/rawmark/rawmark/io/Format$FixedInteger", name := "of", desc := "(I)Lcom/example/rawmark/rawmark/io/Format$FixedInteger;" } : Jvm.MethodName) prog_35_method_4_code (1 : Nat) (Option.some (Jvm.ClassFile.FieldType.object "com/example/rawmark/rawmark/io/Format$FixedInteger")), Jvm.Cond.code ({ cls := "com/example/rawmark/rawmark/io/FixedIntegerOfPinLaw", name := "expected", desc := "(I)Lcom/example/rawmark/rawmark/io/Format$FixedInteger;" } : Jvm.MethodName) method_2_code (2 : Nat) (Option.some (Jvm.ClassFile.FieldType.object "com/example/rawmark/rawmark/io/Format$FixedInteger"))]
set_option maxRecDepth 65536 in
theorem codes_eq : words1.filter isCode = codes1 := rfl
theorem w_codes : ∀ c ∈ words1.filter isCode, c.before args0 about1 = true := by
  rw [codes_eq]
  intro c hc
  simp only [codes1, List.mem_cons, List.not_mem_nil, or_false] at hc
  rcases hc with rfl | rfl | rfl
  · exact w_c0
  · exact w_c1
  · exact w_c2
set_option maxRecDepth 65536 in
theorem w_t1 : (words1.take 24).all (fun c => isCode c || c.before args0 about1) = true := by decide +kernel
set_option maxRecDepth 65536 in
theorem w_t2 : (words1.drop 24).all (fun c => isCode c || c.before args0 about1) = true := by decide +kernel
theorem w_tables : (allAtoms (Jvm.Cond.code x code maxLocals ret :: tables_1)).before args0 about1 = true := by
  rw [allAtoms_all]
  show words1.all (fun c => c.before args0 about1) = true
  refine all_split ?_ w_codes
  rw [← List.take_append_drop 24 words1, List.all_append, w_t1, w_t2]
  rfl
set_option maxRecDepth 65536 in
theorem w_case : (Jvm.Cond.and given_1 narrow_1).before args0 about1 = true := by decide +kernel
theorem w_applies : (headSpec (Jvm.Cond.code x code maxLocals ret :: tables_1) room_1).applies x e0.platform about1 = true :=
  (Spec.applies_iff w_frames).mpr ⟨w_running, w_runnable, w_alone, w_named, w_hears, w_ripe, w_room, w_tables⟩
theorem atStart : AtStart classFile x code maxLocals ret World_1 tables_1 room_1 Calls_1 rest_1 Pre_1 launch0 p0 e0 about1 theMethod args0 below0 :=
  ⟨lists_1, trivial, launch0.admits_env _ _ _, launch0.least_env, fairChoices_fair.cas, fairChoices_fair.clock, w_frames, w_args, w_heap, w_applies, trivial, trivial, w_case⟩
end start1
theorem witness_1 : WitnessClaimed_1 := ⟨start1.p0, start1.e0, start1.about1, start1.theMethod, start1.args0, start1.below0, start1.atStart⟩
end Jvm.Pilot.@@N@@
