import JvmDerived
import JvmDerived.Pilot.@@N@@Statement
import JvmDerived.Pilot.@@N@@Code
set_option linter.unusedVariables false
set_option linter.unusedSimpArgs false
@@BLOCK:NumsL.lean.txt@@
namespace Jvm.Pilot.@@N@@
open Jvm Jvm.ClassFile Sem Op Lib Jvm.Free Jvm.Stand Jvm.LawKit Jvm.RoadKit Bundle Jvm.Pilot.@@N@@.Jvm.D
theorem own_pn_law : plainName "com/example/isolatch/isolatch/cli/OperationGivesValuePinLaw" = true := by first | (simp [plainName, overriddenIn]; done) | decide +kernel
theorem own_pn_givesValue : plainName "com/example/isolatch/isolatch/cli/Operation" = true := by first | (simp [plainName, overriddenIn]; done) | decide +kernel
theorem own_pn_getShape : plainName "com/example/isolatch/isolatch/cli/Operation" = true := by first | (simp [plainName, overriddenIn]; done) | decide +kernel
def own_Know (Z : State) (h : Heap) (w0 : Addr) (w1 : Addr) (w2 : Addr) (w3 : Addr) (w4 : Addr) (w5 : Addr) (w6 : Addr) (w7 : Addr) (w8 : Addr) (w9 : Addr) (w10 : Addr) (w11 : Addr) : Prop :=
  Sta Z h "com/example/isolatch/isolatch/cli/Operation" "READ" "Lcom/example/isolatch/isolatch/cli/Operation;" (.ref w0) ∧
  Exa Z h w0 "com/example/isolatch/isolatch/cli/Operation" ∧
  Sta Z h "com/example/isolatch/isolatch/cli/Operation$Shape" "ITEM" "Lcom/example/isolatch/isolatch/cli/Operation$Shape;" (.ref w1) ∧
  Exa Z h w1 "com/example/isolatch/isolatch/cli/Operation$Shape" ∧
  Sta Z h "com/example/isolatch/isolatch/cli/Operation" "WRITE" "Lcom/example/isolatch/isolatch/cli/Operation;" (.ref w2) ∧
  Exa Z h w2 "com/example/isolatch/isolatch/cli/Operation" ∧
  Sta Z h "com/example/isolatch/isolatch/cli/Operation" "READ_FOR_UPDATE" "Lcom/example/isolatch/isolatch/cli/Operation;" (.ref w3) ∧
  Exa Z h w3 "com/example/isolatch/isolatch/cli/Operation" ∧
  Sta Z h "com/example/isolatch/isolatch/cli/Operation$Shape" "ASSIGNMENT" "Lcom/example/isolatch/isolatch/cli/Operation$Shape;" (.ref w4) ∧
  Exa Z h w4 "com/example/isolatch/isolatch/cli/Operation$Shape" ∧
  Sta Z h "com/example/isolatch/isolatch/cli/Operation" "COMMIT" "Lcom/example/isolatch/isolatch/cli/Operation;" (.ref w5) ∧
  Exa Z h w5 "com/example/isolatch/isolatch/cli/Operation" ∧
  Sta Z h "com/example/isolatch/isolatch/cli/Operation$Shape" "BARE" "Lcom/example/isolatch/isolatch/cli/Operation$Shape;" (.ref w6) ∧
  Exa Z h w6 "com/example/isolatch/isolatch/cli/Operation$Shape" ∧
  Sta Z h "com/example/isolatch/isolatch/cli/Operation" "ABORT" "Lcom/example/isolatch/isolatch/cli/Operation;" (.ref w7) ∧
  Exa Z h w7 "com/example/isolatch/isolatch/cli/Operation" ∧
  Sta Z h "com/example/isolatch/isolatch/cli/Operation" "READ_WHERE" "Lcom/example/isolatch/isolatch/cli/Operation;" (.ref w8) ∧
  Exa Z h w8 "com/example/isolatch/isolatch/cli/Operation" ∧
  Sta Z h "com/example/isolatch/isolatch/cli/Operation$Shape" "PREDICATE" "Lcom/example/isolatch/isolatch/cli/Operation$Shape;" (.ref w9) ∧
  Exa Z h w9 "com/example/isolatch/isolatch/cli/Operation$Shape" ∧
  Sta Z h "com/example/isolatch/isolatch/cli/Operation" "DELETE" "Lcom/example/isolatch/isolatch/cli/Operation;" (.ref w10) ∧
  Exa Z h w10 "com/example/isolatch/isolatch/cli/Operation" ∧
  Sta Z h "com/example/isolatch/isolatch/cli/Operation" "BEGIN" "Lcom/example/isolatch/isolatch/cli/Operation;" (.ref w11) ∧
  Exa Z h w11 "com/example/isolatch/isolatch/cli/Operation" ∧
  Fld Z h w0 "com/example/isolatch/isolatch/cli/Operation" "shape" "Lcom/example/isolatch/isolatch/cli/Operation$Shape;" (.ref w1) ∧
  Fld Z Z.heap w2 "java/lang/Enum" "ordinal" "I" (.int (3 : Int32)) ∧
  Fld Z Z.heap w0 "java/lang/Enum" "ordinal" "I" (.int (0 : Int32)) ∧
  Fld Z Z.heap w3 "java/lang/Enum" "ordinal" "I" (.int (2 : Int32)) ∧
  Fld Z h w2 "com/example/isolatch/isolatch/cli/Operation" "shape" "Lcom/example/isolatch/isolatch/cli/Operation$Shape;" (.ref w4) ∧
  Fld Z Z.heap w4 "java/lang/Enum" "ordinal" "I" (.int (2 : Int32)) ∧
  Fld Z Z.heap w1 "java/lang/Enum" "ordinal" "I" (.int (1 : Int32)) ∧
  Fld Z Z.heap w5 "java/lang/Enum" "ordinal" "I" (.int (6 : Int32)) ∧
  Fld Z h w5 "com/example/isolatch/isolatch/cli/Operation" "shape" "Lcom/example/isolatch/isolatch/cli/Operation$Shape;" (.ref w6) ∧
  Fld Z Z.heap w6 "java/lang/Enum" "ordinal" "I" (.int (0 : Int32)) ∧
  Fld Z Z.heap w7 "java/lang/Enum" "ordinal" "I" (.int (7 : Int32)) ∧
  Fld Z h w7 "com/example/isolatch/isolatch/cli/Operation" "shape" "Lcom/example/isolatch/isolatch/cli/Operation$Shape;" (.ref w6) ∧
  Fld Z h w3 "com/example/isolatch/isolatch/cli/Operation" "shape" "Lcom/example/isolatch/isolatch/cli/Operation$Shape;" (.ref w1) ∧
  Fld Z Z.heap w8 "java/lang/Enum" "ordinal" "I" (.int (1 : Int32)) ∧
  Fld Z h w8 "com/example/isolatch/isolatch/cli/Operation" "shape" "Lcom/example/isolatch/isolatch/cli/Operation$Shape;" (.ref w9) ∧
  Fld Z Z.heap w9 "java/lang/Enum" "ordinal" "I" (.int (3 : Int32)) ∧
  Fld Z Z.heap w10 "java/lang/Enum" "ordinal" "I" (.int (4 : Int32)) ∧
  Fld Z h w10 "com/example/isolatch/isolatch/cli/Operation" "shape" "Lcom/example/isolatch/isolatch/cli/Operation$Shape;" (.ref w1) ∧
  Fld Z Z.heap w11 "java/lang/Enum" "ordinal" "I" (.int (5 : Int32)) ∧
  Fld Z h w11 "com/example/isolatch/isolatch/cli/Operation" "shape" "Lcom/example/isolatch/isolatch/cli/Operation$Shape;" (.ref w6)
def own_Q (r : Option Value) (h0 : Heap) (n0 : Nat) (v : Option Value) (h : Heap) (L : List Loc) : Prop := v = r ∧ Fr n0 L ∧ h = h0
def own_QL (n0 : Nat) (v : Option Value) (L : List Loc) : Prop := v = some (.int (1 : Int32)) ∧ Fr n0 L
theorem own_h {c : Jvm.Cond} {args : Array Value} {s : State} (h : c.value args s none s [] = some true) : c.holds args s none s [] = true := beq_iff_eq.mpr h
theorem own_ef_law (m : MethodId) (x0 : Int32) : entryFrame m #[(.int x0)] maxLocals = mkF m 0 #[.val (.int x0), .unset, .unset, .unset, .unset, .unset, .unset] [] := by first | (simp [entryFrame, mkF, argsToLocals, Value.category, maxLocals]; done) | rfl
theorem d_givesValue_0 : decode prog_35_method_7_code 0 = .ok (.aload_n 0, 1) := by decide +kernel
theorem d_givesValue_1 : decode prog_35_method_7_code 1 = .ok (.getstatic 3, 3) := by decide +kernel
theorem d_givesValue_4 : decode prog_35_method_7_code 4 = .ok (.if_acmp .eq 17, 3) := by decide +kernel
theorem d_givesValue_7 : decode prog_35_method_7_code 7 = .ok (.aload_n 0, 1) := by decide +kernel
theorem d_givesValue_8 : decode prog_35_method_7_code 8 = .ok (.getstatic 10, 3) := by decide +kernel
theorem d_givesValue_11 : decode prog_35_method_7_code 11 = .ok (.if_acmp .eq 10, 3) := by decide +kernel
theorem d_givesValue_14 : decode prog_35_method_7_code 14 = .ok (.aload_n 0, 1) := by decide +kernel
theorem d_givesValue_15 : decode prog_35_method_7_code 15 = .ok (.getstatic 13, 3) := by decide +kernel
theorem d_givesValue_18 : decode prog_35_method_7_code 18 = .ok (.if_acmp .ne 7, 3) := by decide +kernel
theorem d_givesValue_21 : decode prog_35_method_7_code 21 = .ok (.iconst 1, 1) := by decide +kernel
theorem d_givesValue_22 : decode prog_35_method_7_code 22 = .ok (.goto 4, 3) := by decide +kernel
theorem d_givesValue_25 : decode prog_35_method_7_code 25 = .ok (.iconst 0, 1) := by decide +kernel
theorem d_givesValue_26 : decode prog_35_method_7_code 26 = .ok (.ireturn, 1) := by decide +kernel
theorem own_ef_givesValue (m : MethodId) (x0 : Addr) : entryFrame m #[(.ref x0)] 1 = mkF m 0 #[.val (.ref x0)] [] := by first | (simp [entryFrame, mkF, argsToLocals, Value.category]; done) | rfl
set_option maxRecDepth 65536 in
set_option maxHeartbeats 40000000 in
theorem own_givesValue_0 (l : Launch) (Z : State) (a0 : Array Value) (hw : ∀ d ∈ tables_1, d.before a0 Z = true) (ws : List Jvm.Cond) (w0 : Addr) (w1 : Addr) (w2 : Addr) (w3 : Addr) (w4 : Addr) (w5 : Addr) (w6 : Addr) (w7 : Addr) (w8 : Addr) (w9 : Addr) (w10 : Addr) (w11 : Addr) (h0 : Heap) (n0 : Nat) (Z0 : n0 ≤ h0.size) (K : own_Know Z h0 w0 w1 w2 w3 w4 w5 w6 w7 w8 w9 w10 w11) :
    MetFree l (⟨"com/example/isolatch/isolatch/cli/Operation", "givesValue", "()Z"⟩ : MethodName) (head1 (Jvm.Cond.code (⟨"com/example/isolatch/isolatch/cli/Operation", "givesValue", "()Z"⟩ : MethodName) prog_35_method_7_code 1 (some .boolean) :: ws) ({ frames := 0, cells := 0, slots := 0, locals := 0 } : Room)) (fun a U => a = #[(.ref w0)] ∧ Z.Warmed39 U.vm ∧ U.heap = h0) (fun _ _ _ _ _ => True) (fun _ U o U' => ∃ v L, o = .returned v ∧ own_Q (some (.int (1 : Int32))) h0 n0 v U'.heap L ∧ FrameEnd U o U' L ({ frames := 0, cells := 0, slots := 0, locals := 0 } : Room).cells ({ frames := 0, cells := 0, slots := 0, locals := 0 } : Room).slots) := by
  obtain ⟨S0, E0, S1, E1, S2, E2, S3, E3, S4, E4, S5, E5, S6, E6, S7, E7, S8, E8, S9, E9, S10, E10, S11, E11, F0_shape, O2, O0, O3, F2_shape, O4, O1, O5, F5_shape, O6, O7, F7_shape, F3_shape, O8, F8_shape, O9, O10, F10_shape, O11, F11_shape⟩ := id K
  refine MetFree.of_bodySF (plainFor_of_name own_pn_givesValue) hisR ?_
  intro p e s m args below meth c s₁ Bd hml0 hP hK
  obtain ⟨rfl, hZ, hh⟩ := hP
  have hx := Bd.exec
  have hby := Bd.bytes
  have hml : c.maxLocals = 1 := hml0
  have hown : s.vm.findClass "com/example/isolatch/isolatch/cli/Operation" = some m.cls := findClass_of_methodNamed Bd.named
  have X0 : Stand p l e ({ frames := 0, cells := 0, slots := 0, locals := 0 } : Room) s m #[(.ref w0)] below meth c s₁ [] 0 0 := Stand.of_body Bd
  have e0 : s₁.heap = h0 := by rw [← hh, Bd.state]; rfl
  have N0 := Fr.nil n0
  have pre0 : ∀ t, Steps p.tables e below (s₁.setTop (mkF m 0 #[.val (.ref w0)] [])) t → Steps p.tables e below (s₁.setTop (entryFrame m #[(.ref w0)] 1)) t := fun t k => castTop (own_ef_givesValue m w0) k
  obtain ⟨T1, X1, e1, st1⟩ := getS2 X0 hx hZ hown (host := "") (Or.inl (hw _ (List.mem_of_getElem? (i := 8) rfl))) Via.refl e0 S0 (g := (mkF m 1 #[.val (.ref w0)] [(.ref w0)])) rfl (hb hby d_givesValue_1)
  obtain ⟨fs, hr, hrun, hended, hW, hsame⟩ := X1.leave (v := some (.int (1 : Int32))) (fun h => by rw [Bd.returns] at h; cases h)
  refine ⟨_, _, pre0 _ ?_, hrun, hended, _, _, rfl, ?_, ⟨_, rfl⟩, hW, hsame.mono (by decide) (by decide)⟩
  · show Steps p.tables e below (s₁.setTop (mkF m 0 #[.val (.ref w0)] [])) _
    refine XS.aloadN X0.here hx rfl (hb hby d_givesValue_0) rfl rfl ?_
    show Steps p.tables e below (s₁.setTop (mkF m 1 #[.val (.ref w0)] [(.ref w0)])) _
    refine st1 _ ?_
    show Steps p.tables e below (T1.setTop (mkF m 4 #[.val (.ref w0)] [(.ref w0), (.ref w0)])) _
    refine Jvm.RoadKit.acmp (g := (mkF m 4 #[.val (.ref w0)] [(.ref w0), (.ref w0)])) X1 hx rfl rfl rfl (pc0 := 4) (pc' := 21) (same := true) rfl (hb hby d_givesValue_4) rfl (decide_eq_true rfl) (by decide) (by decide) ?_
    show Steps p.tables e below (T1.setTop (mkF m 21 #[.val (.ref w0)] [])) _
    refine XS.iconst X1.here hx rfl (hb hby d_givesValue_21) ?_
    show Steps p.tables e below (T1.setTop (mkF m 22 #[.val (.ref w0)] [(.int (1 : Int32))])) _
    refine XS.goto X1.here hx rfl (pc0 := 22) (pc' := 26) rfl (hb hby d_givesValue_22) (by decide) (by decide) ?_
    show Steps p.tables e below (T1.setTop (mkF m 26 #[.val (.ref w0)] [(.int (1 : Int32))])) _
    exact retN X1 hx (t := .boolean) Bd.returns (by simp) (hb hby d_givesValue_26) hr
  · show own_Q _ h0 n0 _ T1.heap _
    rw [e1]
    exact ⟨rfl, N0, rfl⟩
theorem own_pd0 : parseMethodDescriptor "()Z" = some ⟨[], some .boolean⟩ := by decide +kernel
theorem d_getShape_0 : decode prog_35_method_6_code 0 = .ok (.aload_n 0, 1) := by decide +kernel
theorem d_getShape_1 : decode prog_35_method_6_code 1 = .ok (.getfield 51, 3) := by decide +kernel
theorem d_getShape_4 : decode prog_35_method_6_code 4 = .ok (.areturn, 1) := by decide +kernel
theorem own_ef_getShape (m : MethodId) (x0 : Addr) : entryFrame m #[(.ref x0)] 1 = mkF m 0 #[.val (.ref x0)] [] := by first | (simp [entryFrame, mkF, argsToLocals, Value.category]; done) | rfl
set_option maxRecDepth 65536 in
set_option maxHeartbeats 40000000 in
theorem own_getShape_0 (l : Launch) (Z : State) (a0 : Array Value) (hw : ∀ d ∈ tables_1, d.before a0 Z = true) (ws : List Jvm.Cond) (w0 : Addr) (w1 : Addr) (w2 : Addr) (w3 : Addr) (w4 : Addr) (w5 : Addr) (w6 : Addr) (w7 : Addr) (w8 : Addr) (w9 : Addr) (w10 : Addr) (w11 : Addr) (h0 : Heap) (n0 : Nat) (Z0 : n0 ≤ h0.size) (K : own_Know Z h0 w0 w1 w2 w3 w4 w5 w6 w7 w8 w9 w10 w11) :
    MetFree l (⟨"com/example/isolatch/isolatch/cli/Operation", "getShape", "()Lcom/example/isolatch/isolatch/cli/Operation$Shape;"⟩ : MethodName) (head1 (Jvm.Cond.code (⟨"com/example/isolatch/isolatch/cli/Operation", "getShape", "()Lcom/example/isolatch/isolatch/cli/Operation$Shape;"⟩ : MethodName) prog_35_method_6_code 1 (some (.object "com/example/isolatch/isolatch/cli/Operation$Shape")) :: ws) ({ frames := 0, cells := 0, slots := 0, locals := 0 } : Room)) (fun a U => a = #[(.ref w0)] ∧ Z.Warmed39 U.vm ∧ U.heap = h0) (fun _ _ _ _ _ => True) (fun _ U o U' => ∃ v L, o = .returned v ∧ own_Q (some (.ref w1)) h0 n0 v U'.heap L ∧ FrameEnd U o U' L ({ frames := 0, cells := 0, slots := 0, locals := 0 } : Room).cells ({ frames := 0, cells := 0, slots := 0, locals := 0 } : Room).slots) := by
  obtain ⟨S0, E0, S1, E1, S2, E2, S3, E3, S4, E4, S5, E5, S6, E6, S7, E7, S8, E8, S9, E9, S10, E10, S11, E11, F0_shape, O2, O0, O3, F2_shape, O4, O1, O5, F5_shape, O6, O7, F7_shape, F3_shape, O8, F8_shape, O9, O10, F10_shape, O11, F11_shape⟩ := id K
  refine MetFree.of_bodySF (plainFor_of_name own_pn_getShape) hisR ?_
  intro p e s m args below meth c s₁ Bd hml0 hP hK
  obtain ⟨rfl, hZ, hh⟩ := hP
  have hx := Bd.exec
  have hby := Bd.bytes
  have hml : c.maxLocals = 1 := hml0
  have hown : s.vm.findClass "com/example/isolatch/isolatch/cli/Operation" = some m.cls := findClass_of_methodNamed Bd.named
  have X0 : Stand p l e ({ frames := 0, cells := 0, slots := 0, locals := 0 } : Room) s m #[(.ref w0)] below meth c s₁ [] 0 0 := Stand.of_body Bd
  have e0 : s₁.heap = h0 := by rw [← hh, Bd.state]; rfl
  have N0 := Fr.nil n0
  have pre0 : ∀ t, Steps p.tables e below (s₁.setTop (mkF m 0 #[.val (.ref w0)] [])) t → Steps p.tables e below (s₁.setTop (entryFrame m #[(.ref w0)] 1)) t := fun t k => castTop (own_ef_getShape m w0) k
  obtain ⟨T1, X1, e1, st1⟩ := getF X0 hx hZ hown (host := "") (Or.inl (hw _ (List.mem_of_getElem? (i := 14) rfl))) Via.refl e0 F0_shape (g := (mkF m 1 #[.val (.ref w0)] [(.ref w0)])) rfl rfl (hb hby d_getShape_1)
  obtain ⟨fs, hr, hrun, hended, hW, hsame⟩ := X1.leave (v := some (.ref w1)) (fun h => by rw [Bd.returns] at h; cases h)
  refine ⟨_, _, pre0 _ ?_, hrun, hended, _, _, rfl, ?_, ⟨_, rfl⟩, hW, hsame.mono (by decide) (by decide)⟩
  · show Steps p.tables e below (s₁.setTop (mkF m 0 #[.val (.ref w0)] [])) _
    refine XS.aloadN X0.here hx rfl (hb hby d_getShape_0) rfl rfl ?_
    show Steps p.tables e below (s₁.setTop (mkF m 1 #[.val (.ref w0)] [(.ref w0)])) _
    refine st1 _ ?_
    show Steps p.tables e below (T1.setTop (mkF m 4 #[.val (.ref w0)] [(.ref w1)])) _
    jvm_step X1.here [X1.here.top, hx, (hb hby d_getShape_4), X1.method', Bd.returns, Value.isRef, FieldType.isReference]
    first | (intro acts; rw [hr _ acts rfl rfl rfl]) | rw [hr _ _ rfl rfl rfl]
    exact Steps.refl _
  · show own_Q _ h0 n0 _ T1.heap _
    rw [e1]
    exact ⟨rfl, N0, rfl⟩
theorem own_pd1 : parseMethodDescriptor "()Lcom/example/isolatch/isolatch/cli/Operation$Shape;" = some ⟨[], some (.object "com/example/isolatch/isolatch/cli/Operation$Shape")⟩ := by decide +kernel
set_option maxRecDepth 65536 in
set_option maxHeartbeats 40000000 in
theorem own_law_0 (l : Launch) (Z : State) (a0 : Array Value) (hw : ∀ d ∈ tables_1, d.before a0 Z = true) (ws : List Jvm.Cond) (w0 : Addr) (w1 : Addr) (w2 : Addr) (w3 : Addr) (w4 : Addr) (w5 : Addr) (w6 : Addr) (w7 : Addr) (w8 : Addr) (w9 : Addr) (w10 : Addr) (w11 : Addr) (h0 : Heap) (n0 : Nat) (Z0 : n0 ≤ h0.size) (K : own_Know Z h0 w0 w1 w2 w3 w4 w5 w6 w7 w8 w9 w10 w11) (p1 : Int32) (hi : (p1 &&& (7 : Int32)) = (0 : Int32)) :
    MetFree l x (head1 (Jvm.Cond.code x code maxLocals ret :: ws) room_1) (fun a U => a = #[(.int p1)] ∧ Z.Warmed39 U.vm ∧ U.heap = h0) (fun _ _ _ _ _ => True) (fun _ U o U' => ∃ v L, o = .returned v ∧ own_QL n0 v L ∧ FrameEnd U o U' L room_1.cells room_1.slots) := by
  obtain ⟨S0, E0, S1, E1, S2, E2, S3, E3, S4, E4, S5, E5, S6, E6, S7, E7, S8, E8, S9, E9, S10, E10, S11, E11, F0_shape, O2, O0, O3, F2_shape, O4, O1, O5, F5_shape, O6, O7, F7_shape, F3_shape, O8, F8_shape, O9, O10, F10_shape, O11, F11_shape⟩ := id K
  refine MetFree.of_bodySF (plainFor_of_name own_pn_law) hisR ?_
  intro p e s m args below meth c s₁ Bd hml0 hP hK
  obtain ⟨rfl, hZ, hh⟩ := hP
  have hx := Bd.exec
  have hby := Bd.bytes
  have hml : c.maxLocals = 7 := hml0
  have hown : s.vm.findClass "com/example/isolatch/isolatch/cli/OperationGivesValuePinLaw" = some m.cls := findClass_of_methodNamed Bd.named
  have X0 : Stand p l e room_1 s m #[(.int p1)] below meth c s₁ [] 0 0 := Stand.of_body Bd
  have e0 : s₁.heap = h0 := by rw [← hh, Bd.state]; rfl
  have N0 := Fr.nil n0
  have pre0 : ∀ t, Steps p.tables e below (s₁.setTop (mkF m 0 #[.val (.int p1), .unset, .unset, .unset, .unset, .unset, .unset] [])) t → Steps p.tables e below (s₁.setTop (entryFrame m #[(.int p1)] maxLocals)) t := fun t k => castTop (own_ef_law m p1) k
  obtain ⟨T1, X1, e1, st1⟩ := getS2 X0 hx hZ hown (host := "") (Or.inl (hw _ (List.mem_of_getElem? (i := 0) rfl))) Via.refl e0 S0 (g := (mkF m 9 #[.val (.int p1), .val (.int (0 : Int32)), .unset, .unset, .unset, .unset, .unset] [])) rfl (hb hby at_9)
  obtain ⟨cq2, kq2, q2a, q2b, q2c⟩ := isOf hZ e1 E0
  obtain ⟨_, _, ⟨T2, L2, k2, n2⟩, -, X2, ⟨Lc2, hQ2, l2, y2, z2⟩, st2⟩ := X1.virtualBack hx (y := (⟨"com/example/isolatch/isolatch/cli/Operation", "givesValue", "()Z"⟩ : MethodName)) (z := (⟨"com/example/isolatch/isolatch/cli/Operation", "givesValue", "()Z"⟩ : MethodName)) hown (mvT hZ (hw _ (List.mem_of_getElem? (i := 3) rfl))) (mvT hZ (hw _ (List.mem_of_getElem? (i := 4) rfl))) (notFace_of_selects (args := #[]) (mvT hZ (hw _ (List.mem_of_getElem? (i := 6) rfl)))) (mvT hZ (hw _ (List.mem_of_getElem? (i := 6) rfl))) (mvT hZ (hw _ (List.mem_of_getElem? (i := 5) rfl))) (by decide) (backOf (W := 0) (own_givesValue_0 l Z a0 hw [] w0 w1 w2 w3 w4 w5 w6 w7 w8 w9 w10 w11 h0 n0 Z0 K) hZ (hw _ (List.mem_of_getElem? (i := 7) rfl)) (hw _ (List.mem_of_getElem? (i := 1) rfl)) (by decide) (by decide)) q2a q2c (g := (mkF m 110 #[.val (.int p1), .val (.int (0 : Int32)), .val (.ref w0), .val (.int (1 : Int32)), .unset, .unset, .unset] [(.ref w0)])) rfl (by rw [hml]; rfl) (Steps.refl _) (argsL := []) (rest := []) (lenOf own_pd0 rfl) rfl (by show 2 * 0 + _ ≤ _; exact Nat.le_of_eq rfl) (hb hby at_110) (fun _ _ => ⟨rfl, e1, (by decide : 0 + 0 ≤ _), (by decide : 0 + 0 ≤ _)⟩)
  dsimp only [Pt.U, Pt.locs, Pt.cells, Pt.slots] at X2 l2 y2 z2 st2 hQ2
  subst l2 y2 z2
  obtain ⟨rfl, N2q, e2⟩ := hQ2
  have N2 := Fr.app N0 N2q
  obtain ⟨cq3, kq3, q3a, q3b, q3c⟩ := isOf hZ e2 E0
  obtain ⟨_, _, ⟨T3, L3, k3, n3⟩, -, X3, ⟨Lc3, hQ3, l3, y3, z3⟩, st3⟩ := X2.virtualBack hx (y := (⟨"com/example/isolatch/isolatch/cli/Operation", "getShape", "()Lcom/example/isolatch/isolatch/cli/Operation$Shape;"⟩ : MethodName)) (z := (⟨"com/example/isolatch/isolatch/cli/Operation", "getShape", "()Lcom/example/isolatch/isolatch/cli/Operation$Shape;"⟩ : MethodName)) hown (mvT hZ (hw _ (List.mem_of_getElem? (i := 9) rfl))) (mvT hZ (hw _ (List.mem_of_getElem? (i := 10) rfl))) (notFace_of_selects (args := #[]) (mvT hZ (hw _ (List.mem_of_getElem? (i := 12) rfl)))) (mvT hZ (hw _ (List.mem_of_getElem? (i := 12) rfl))) (mvT hZ (hw _ (List.mem_of_getElem? (i := 11) rfl))) (by decide) (backOf (W := 0) (own_getShape_0 l Z a0 hw [] w0 w1 w2 w3 w4 w5 w6 w7 w8 w9 w10 w11 h0 n0 Z0 K) hZ (hw _ (List.mem_of_getElem? (i := 13) rfl)) (hw _ (List.mem_of_getElem? (i := 1) rfl)) (by decide) (by decide)) q3a q3c (g := (mkF m 116 #[.val (.int p1), .val (.int (0 : Int32)), .val (.ref w0), .val (.int (1 : Int32)), .val (.int (1 : Int32)), .unset, .unset] [(.ref w0)])) rfl (by rw [hml]; rfl) (Steps.refl _) (argsL := []) (rest := []) (lenOf own_pd1 rfl) rfl (by show 2 * 0 + _ ≤ _; exact Nat.le_of_eq rfl) (hb hby at_116) (fun _ _ => ⟨rfl, e2, (by decide : 0 + 0 ≤ _), (by decide : 0 + 0 ≤ _)⟩)
  dsimp only [Pt.U, Pt.locs, Pt.cells, Pt.slots] at X3 l3 y3 z3 st3 hQ3
  subst l3 y3 z3
  obtain ⟨rfl, N3q, e3⟩ := hQ3
  have N3 := Fr.app N2 N3q
  obtain ⟨T4, X4, e4, st4⟩ := getS2 X3 hx hZ hown (host := "") (Or.inl (hw _ (List.mem_of_getElem? (i := 18) rfl))) Via.refl e3 S1 (g := (mkF m 123 #[.val (.int p1), .val (.int (0 : Int32)), .val (.ref w0), .val (.int (1 : Int32)), .val (.int (1 : Int32)), .val (.ref w1), .unset] [(.ref w1)])) rfl (hb hby at_123)
  obtain ⟨fs, hr, hrun, hended, hW, hsame⟩ := X4.leave (v := some (.int (1 : Int32))) (fun h => by rw [Bd.returns] at h; cases h)
  refine ⟨_, _, pre0 _ ?_, hrun, hended, _, _, rfl, ?_, ⟨_, rfl⟩, hW, hsame.mono (by decide) (by decide)⟩
  · show Steps p.tables e below (s₁.setTop (mkF m 0 #[.val (.int p1), .unset, .unset, .unset, .unset, .unset, .unset] [])) _
    refine XS.iloadN X0.here hx rfl (hb hby at_0) rfl ?_
    show Steps p.tables e below (s₁.setTop (mkF m 1 #[.val (.int p1), .unset, .unset, .unset, .unset, .unset, .unset] [(.int p1)])) _
    refine XS.bipush X0.here hx rfl (hb hby at_1) ?_
    show Steps p.tables e below (s₁.setTop (mkF m 3 #[.val (.int p1), .unset, .unset, .unset, .unset, .unset, .unset] [(.int (7 : Int32)), (.int p1)])) _
    refine XS.iand X0.here hx rfl (hb hby at_3) rfl ?_
    show Steps p.tables e below (s₁.setTop (mkF m 4 #[.val (.int p1), .unset, .unset, .unset, .unset, .unset, .unset] [(.int (p1 &&& (7 : Int32)))])) _
    rw [hi]
    show Steps p.tables e below (s₁.setTop (mkF m 4 #[.val (.int p1), .unset, .unset, .unset, .unset, .unset, .unset] [(.int (0 : Int32))])) _
    refine XS.istoreN X0.here hx rfl (hb hby at_4) rfl (l' := #[.val (.int p1), .val (.int (0 : Int32)), .unset, .unset, .unset, .unset, .unset]) rfl ?_
    show Steps p.tables e below (s₁.setTop (mkF m 5 #[.val (.int p1), .val (.int (0 : Int32)), .unset, .unset, .unset, .unset, .unset] [])) _
    refine XS.iloadN X0.here hx rfl (hb hby at_5) rfl ?_
    show Steps p.tables e below (s₁.setTop (mkF m 6 #[.val (.int p1), .val (.int (0 : Int32)), .unset, .unset, .unset, .unset, .unset] [(.int (0 : Int32))])) _
    refine XS.ifNo X0.here hx rfl (hb hby at_6) rfl (by decide) ?_
    show Steps p.tables e below (s₁.setTop (mkF m 9 #[.val (.int p1), .val (.int (0 : Int32)), .unset, .unset, .unset, .unset, .unset] [])) _
    refine st1 _ ?_
    show Steps p.tables e below (T1.setTop (mkF m 12 #[.val (.int p1), .val (.int (0 : Int32)), .unset, .unset, .unset, .unset, .unset] [(.ref w0)])) _
    refine XS.astoreN X1.here hx rfl (hb hby at_12) rfl rfl (l' := #[.val (.int p1), .val (.int (0 : Int32)), .val (.ref w0), .unset, .unset, .unset, .unset]) rfl ?_
    show Steps p.tables e below (T1.setTop (mkF m 13 #[.val (.int p1), .val (.int (0 : Int32)), .val (.ref w0), .unset, .unset, .unset, .unset] [])) _
    refine XS.iconst X1.here hx rfl (hb hby at_13) ?_
    show Steps p.tables e below (T1.setTop (mkF m 14 #[.val (.int p1), .val (.int (0 : Int32)), .val (.ref w0), .unset, .unset, .unset, .unset] [(.int (1 : Int32))])) _
    refine XS.istoreN X1.here hx rfl (hb hby at_14) rfl (l' := #[.val (.int p1), .val (.int (0 : Int32)), .val (.ref w0), .val (.int (1 : Int32)), .unset, .unset, .unset]) rfl ?_
    show Steps p.tables e below (T1.setTop (mkF m 15 #[.val (.int p1), .val (.int (0 : Int32)), .val (.ref w0), .val (.int (1 : Int32)), .unset, .unset, .unset] [])) _
    refine XS.goto X1.here hx rfl (pc0 := 15) (pc' := 109) rfl (hb hby at_15) (by decide) (by decide) ?_
    show Steps p.tables e below (T1.setTop (mkF m 109 #[.val (.int p1), .val (.int (0 : Int32)), .val (.ref w0), .val (.int (1 : Int32)), .unset, .unset, .unset] [])) _
    refine XS.aloadN X1.here hx rfl (hb hby at_109) rfl rfl ?_
    show Steps p.tables e below (T1.setTop (mkF m 110 #[.val (.int p1), .val (.int (0 : Int32)), .val (.ref w0), .val (.int (1 : Int32)), .unset, .unset, .unset] [(.ref w0)])) _
    refine st2.trans ?_
    show Steps p.tables e below (T2.setTop (mkF m 113 #[.val (.int p1), .val (.int (0 : Int32)), .val (.ref w0), .val (.int (1 : Int32)), .unset, .unset, .unset] [(.int (1 : Int32))])) _
    refine XS.istore X2.here hx rfl (hb hby at_113) rfl (l' := #[.val (.int p1), .val (.int (0 : Int32)), .val (.ref w0), .val (.int (1 : Int32)), .val (.int (1 : Int32)), .unset, .unset]) rfl ?_
    show Steps p.tables e below (T2.setTop (mkF m 115 #[.val (.int p1), .val (.int (0 : Int32)), .val (.ref w0), .val (.int (1 : Int32)), .val (.int (1 : Int32)), .unset, .unset] [])) _
    refine XS.aloadN X2.here hx rfl (hb hby at_115) rfl rfl ?_
    show Steps p.tables e below (T2.setTop (mkF m 116 #[.val (.int p1), .val (.int (0 : Int32)), .val (.ref w0), .val (.int (1 : Int32)), .val (.int (1 : Int32)), .unset, .unset] [(.ref w0)])) _
    refine st3.trans ?_
    show Steps p.tables e below (T3.setTop (mkF m 119 #[.val (.int p1), .val (.int (0 : Int32)), .val (.ref w0), .val (.int (1 : Int32)), .val (.int (1 : Int32)), .unset, .unset] [(.ref w1)])) _
    refine XS.astore X3.here hx rfl (hb hby at_119) rfl rfl (l' := #[.val (.int p1), .val (.int (0 : Int32)), .val (.ref w0), .val (.int (1 : Int32)), .val (.int (1 : Int32)), .val (.ref w1), .unset]) rfl ?_
    show Steps p.tables e below (T3.setTop (mkF m 121 #[.val (.int p1), .val (.int (0 : Int32)), .val (.ref w0), .val (.int (1 : Int32)), .val (.int (1 : Int32)), .val (.ref w1), .unset] [])) _
    refine XS.aload X3.here hx rfl (hb hby at_121) rfl rfl ?_
    show Steps p.tables e below (T3.setTop (mkF m 123 #[.val (.int p1), .val (.int (0 : Int32)), .val (.ref w0), .val (.int (1 : Int32)), .val (.int (1 : Int32)), .val (.ref w1), .unset] [(.ref w1)])) _
    refine st4 _ ?_
    show Steps p.tables e below (T4.setTop (mkF m 126 #[.val (.int p1), .val (.int (0 : Int32)), .val (.ref w0), .val (.int (1 : Int32)), .val (.int (1 : Int32)), .val (.ref w1), .unset] [(.ref w1), (.ref w1)])) _
    refine Jvm.RoadKit.acmp (g := (mkF m 126 #[.val (.int p1), .val (.int (0 : Int32)), .val (.ref w0), .val (.int (1 : Int32)), .val (.int (1 : Int32)), .val (.ref w1), .unset] [(.ref w1), (.ref w1)])) X4 hx rfl rfl rfl (pc0 := 126) (pc' := 137) (same := true) rfl (hb hby at_126) rfl (decide_eq_true rfl) (by decide) (by decide) ?_
    show Steps p.tables e below (T4.setTop (mkF m 137 #[.val (.int p1), .val (.int (0 : Int32)), .val (.ref w0), .val (.int (1 : Int32)), .val (.int (1 : Int32)), .val (.ref w1), .unset] [])) _
    refine XS.iconst X4.here hx rfl (hb hby at_137) ?_
    show Steps p.tables e below (T4.setTop (mkF m 138 #[.val (.int p1), .val (.int (0 : Int32)), .val (.ref w0), .val (.int (1 : Int32)), .val (.int (1 : Int32)), .val (.ref w1), .unset] [(.int (1 : Int32))])) _
    refine XS.goto X4.here hx rfl (pc0 := 138) (pc' := 142) rfl (hb hby at_138) (by decide) (by decide) ?_
    show Steps p.tables e below (T4.setTop (mkF m 142 #[.val (.int p1), .val (.int (0 : Int32)), .val (.ref w0), .val (.int (1 : Int32)), .val (.int (1 : Int32)), .val (.ref w1), .unset] [(.int (1 : Int32))])) _
    refine XS.istore X4.here hx rfl (hb hby at_142) rfl (l' := #[.val (.int p1), .val (.int (0 : Int32)), .val (.ref w0), .val (.int (1 : Int32)), .val (.int (1 : Int32)), .val (.ref w1), .val (.int (1 : Int32))]) rfl ?_
    show Steps p.tables e below (T4.setTop (mkF m 144 #[.val (.int p1), .val (.int (0 : Int32)), .val (.ref w0), .val (.int (1 : Int32)), .val (.int (1 : Int32)), .val (.ref w1), .val (.int (1 : Int32))] [])) _
    refine XS.iload X4.here hx rfl (hb hby at_144) rfl ?_
    show Steps p.tables e below (T4.setTop (mkF m 146 #[.val (.int p1), .val (.int (0 : Int32)), .val (.ref w0), .val (.int (1 : Int32)), .val (.int (1 : Int32)), .val (.ref w1), .val (.int (1 : Int32))] [(.int (1 : Int32))])) _
    refine XS.iloadN X4.here hx rfl (hb hby at_146) rfl ?_
    show Steps p.tables e below (T4.setTop (mkF m 147 #[.val (.int p1), .val (.int (0 : Int32)), .val (.ref w0), .val (.int (1 : Int32)), .val (.int (1 : Int32)), .val (.ref w1), .val (.int (1 : Int32))] [(.int (1 : Int32)), (.int (1 : Int32))])) _
    refine XS.icmpNo X4.here hx rfl (hb hby at_147) rfl (by decide) ?_
    show Steps p.tables e below (T4.setTop (mkF m 150 #[.val (.int p1), .val (.int (0 : Int32)), .val (.ref w0), .val (.int (1 : Int32)), .val (.int (1 : Int32)), .val (.ref w1), .val (.int (1 : Int32))] [])) _
    refine XS.iload X4.here hx rfl (hb hby at_150) rfl ?_
    show Steps p.tables e below (T4.setTop (mkF m 152 #[.val (.int p1), .val (.int (0 : Int32)), .val (.ref w0), .val (.int (1 : Int32)), .val (.int (1 : Int32)), .val (.ref w1), .val (.int (1 : Int32))] [(.int (1 : Int32))])) _
    refine XS.ifNo X4.here hx rfl (hb hby at_152) rfl (by decide) ?_
    show Steps p.tables e below (T4.setTop (mkF m 155 #[.val (.int p1), .val (.int (0 : Int32)), .val (.ref w0), .val (.int (1 : Int32)), .val (.int (1 : Int32)), .val (.ref w1), .val (.int (1 : Int32))] [])) _
    refine XS.iload X4.here hx rfl (hb hby at_155) rfl ?_
    show Steps p.tables e below (T4.setTop (mkF m 157 #[.val (.int p1), .val (.int (0 : Int32)), .val (.ref w0), .val (.int (1 : Int32)), .val (.int (1 : Int32)), .val (.ref w1), .val (.int (1 : Int32))] [(.int (1 : Int32))])) _
    refine XS.ifNo X4.here hx rfl (hb hby at_157) rfl (by decide) ?_
    show Steps p.tables e below (T4.setTop (mkF m 160 #[.val (.int p1), .val (.int (0 : Int32)), .val (.ref w0), .val (.int (1 : Int32)), .val (.int (1 : Int32)), .val (.ref w1), .val (.int (1 : Int32))] [])) _
    refine XS.iconst X4.here hx rfl (hb hby at_160) ?_
    show Steps p.tables e below (T4.setTop (mkF m 161 #[.val (.int p1), .val (.int (0 : Int32)), .val (.ref w0), .val (.int (1 : Int32)), .val (.int (1 : Int32)), .val (.ref w1), .val (.int (1 : Int32))] [(.int (1 : Int32))])) _
    refine XS.goto X4.here hx rfl (pc0 := 161) (pc' := 165) rfl (hb hby at_161) (by decide) (by decide) ?_
    show Steps p.tables e below (T4.setTop (mkF m 165 #[.val (.int p1), .val (.int (0 : Int32)), .val (.ref w0), .val (.int (1 : Int32)), .val (.int (1 : Int32)), .val (.ref w1), .val (.int (1 : Int32))] [(.int (1 : Int32))])) _
    exact retN X4 hx (t := .boolean) Bd.returns (by simp) (hb hby at_165) hr
  · exact ⟨rfl, N3⟩
set_option maxRecDepth 65536 in
set_option maxHeartbeats 40000000 in
theorem own_givesValue_1 (l : Launch) (Z : State) (a0 : Array Value) (hw : ∀ d ∈ tables_1, d.before a0 Z = true) (ws : List Jvm.Cond) (w0 : Addr) (w1 : Addr) (w2 : Addr) (w3 : Addr) (w4 : Addr) (w5 : Addr) (w6 : Addr) (w7 : Addr) (w8 : Addr) (w9 : Addr) (w10 : Addr) (w11 : Addr) (h0 : Heap) (n0 : Nat) (Z0 : n0 ≤ h0.size) (K : own_Know Z h0 w0 w1 w2 w3 w4 w5 w6 w7 w8 w9 w10 w11) :
    MetFree l (⟨"com/example/isolatch/isolatch/cli/Operation", "givesValue", "()Z"⟩ : MethodName) (head1 (Jvm.Cond.code (⟨"com/example/isolatch/isolatch/cli/Operation", "givesValue", "()Z"⟩ : MethodName) prog_35_method_7_code 1 (some .boolean) :: ws) ({ frames := 0, cells := 0, slots := 0, locals := 0 } : Room)) (fun a U => a = #[(.ref w8)] ∧ Z.Warmed39 U.vm ∧ U.heap = h0) (fun _ _ _ _ _ => True) (fun _ U o U' => ∃ v L, o = .returned v ∧ own_Q (some (.int (0 : Int32))) h0 n0 v U'.heap L ∧ FrameEnd U o U' L ({ frames := 0, cells := 0, slots := 0, locals := 0 } : Room).cells ({ frames := 0, cells := 0, slots := 0, locals := 0 } : Room).slots) := by
  obtain ⟨S0, E0, S1, E1, S2, E2, S3, E3, S4, E4, S5, E5, S6, E6, S7, E7, S8, E8, S9, E9, S10, E10, S11, E11, F0_shape, O2, O0, O3, F2_shape, O4, O1, O5, F5_shape, O6, O7, F7_shape, F3_shape, O8, F8_shape, O9, O10, F10_shape, O11, F11_shape⟩ := id K
  refine MetFree.of_bodySF (plainFor_of_name own_pn_givesValue) hisR ?_
  intro p e s m args below meth c s₁ Bd hml0 hP hK
  obtain ⟨rfl, hZ, hh⟩ := hP
  have hx := Bd.exec
  have hby := Bd.bytes
  have hml : c.maxLocals = 1 := hml0
  have hown : s.vm.findClass "com/example/isolatch/isolatch/cli/Operation" = some m.cls := findClass_of_methodNamed Bd.named
  have X0 : Stand p l e ({ frames := 0, cells := 0, slots := 0, locals := 0 } : Room) s m #[(.ref w8)] below meth c s₁ [] 0 0 := Stand.of_body Bd
  have e0 : s₁.heap = h0 := by rw [← hh, Bd.state]; rfl
  have N0 := Fr.nil n0
  have pre0 : ∀ t, Steps p.tables e below (s₁.setTop (mkF m 0 #[.val (.ref w8)] [])) t → Steps p.tables e below (s₁.setTop (entryFrame m #[(.ref w8)] 1)) t := fun t k => castTop (own_ef_givesValue m w8) k
  obtain ⟨T1, X1, e1, st1⟩ := getS2 X0 hx hZ hown (host := "") (Or.inl (hw _ (List.mem_of_getElem? (i := 8) rfl))) Via.refl e0 S0 (g := (mkF m 1 #[.val (.ref w8)] [(.ref w8)])) rfl (hb hby d_givesValue_1)
  obtain ⟨T2, X2, e2, st2⟩ := getS2 X1 hx hZ hown (host := "") (Or.inl (hw _ (List.mem_of_getElem? (i := 21) rfl))) Via.refl e1 S3 (g := (mkF m 8 #[.val (.ref w8)] [(.ref w8)])) rfl (hb hby d_givesValue_8)
  obtain ⟨T3, X3, e3, st3⟩ := getS2 X2 hx hZ hown (host := "") (Or.inl (hw _ (List.mem_of_getElem? (i := 23) rfl))) Via.refl e2 S2 (g := (mkF m 15 #[.val (.ref w8)] [(.ref w8)])) rfl (hb hby d_givesValue_15)
  obtain ⟨fs, hr, hrun, hended, hW, hsame⟩ := X3.leave (v := some (.int (0 : Int32))) (fun h => by rw [Bd.returns] at h; cases h)
  refine ⟨_, _, pre0 _ ?_, hrun, hended, _, _, rfl, ?_, ⟨_, rfl⟩, hW, hsame.mono (by decide) (by decide)⟩
  · show Steps p.tables e below (s₁.setTop (mkF m 0 #[.val (.ref w8)] [])) _
    refine XS.aloadN X0.here hx rfl (hb hby d_givesValue_0) rfl rfl ?_
    show Steps p.tables e below (s₁.setTop (mkF m 1 #[.val (.ref w8)] [(.ref w8)])) _
    refine st1 _ ?_
    show Steps p.tables e below (T1.setTop (mkF m 4 #[.val (.ref w8)] [(.ref w0), (.ref w8)])) _
    refine Jvm.RoadKit.acmp (g := (mkF m 4 #[.val (.ref w8)] [(.ref w0), (.ref w8)])) X1 hx rfl rfl rfl (pc0 := 4) (pc' := 7) (same := false) rfl (hb hby d_givesValue_4) rfl (decide_eq_false (fun z => (Fld.ne O8 O0 (by decide)) (Value.ref.inj z))) (by decide) (by decide) ?_
    show Steps p.tables e below (T1.setTop (mkF m 7 #[.val (.ref w8)] [])) _
    refine XS.aloadN X1.here hx rfl (hb hby d_givesValue_7) rfl rfl ?_
    show Steps p.tables e below (T1.setTop (mkF m 8 #[.val (.ref w8)] [(.ref w8)])) _
    refine st2 _ ?_
    show Steps p.tables e below (T2.setTop (mkF m 11 #[.val (.ref w8)] [(.ref w3), (.ref w8)])) _
    refine Jvm.RoadKit.acmp (g := (mkF m 11 #[.val (.ref w8)] [(.ref w3), (.ref w8)])) X2 hx rfl rfl rfl (pc0 := 11) (pc' := 14) (same := false) rfl (hb hby d_givesValue_11) rfl (decide_eq_false (fun z => (Fld.ne O8 O3 (by decide)) (Value.ref.inj z))) (by decide) (by decide) ?_
    show Steps p.tables e below (T2.setTop (mkF m 14 #[.val (.ref w8)] [])) _
    refine XS.aloadN X2.here hx rfl (hb hby d_givesValue_14) rfl rfl ?_
    show Steps p.tables e below (T2.setTop (mkF m 15 #[.val (.ref w8)] [(.ref w8)])) _
    refine st3 _ ?_
    show Steps p.tables e below (T3.setTop (mkF m 18 #[.val (.ref w8)] [(.ref w2), (.ref w8)])) _
    refine Jvm.RoadKit.acmp (g := (mkF m 18 #[.val (.ref w8)] [(.ref w2), (.ref w8)])) X3 hx rfl rfl rfl (pc0 := 18) (pc' := 25) (same := false) rfl (hb hby d_givesValue_18) rfl (decide_eq_false (fun z => (Fld.ne O8 O2 (by decide)) (Value.ref.inj z))) (by decide) (by decide) ?_
    show Steps p.tables e below (T3.setTop (mkF m 25 #[.val (.ref w8)] [])) _
    refine XS.iconst X3.here hx rfl (hb hby d_givesValue_25) ?_
    show Steps p.tables e below (T3.setTop (mkF m 26 #[.val (.ref w8)] [(.int (0 : Int32))])) _
    exact retN X3 hx (t := .boolean) Bd.returns (by simp) (hb hby d_givesValue_26) hr
  · show own_Q _ h0 n0 _ T3.heap _
    rw [e3]
    exact ⟨rfl, N0, rfl⟩
set_option maxRecDepth 65536 in
set_option maxHeartbeats 40000000 in
theorem own_getShape_1 (l : Launch) (Z : State) (a0 : Array Value) (hw : ∀ d ∈ tables_1, d.before a0 Z = true) (ws : List Jvm.Cond) (w0 : Addr) (w1 : Addr) (w2 : Addr) (w3 : Addr) (w4 : Addr) (w5 : Addr) (w6 : Addr) (w7 : Addr) (w8 : Addr) (w9 : Addr) (w10 : Addr) (w11 : Addr) (h0 : Heap) (n0 : Nat) (Z0 : n0 ≤ h0.size) (K : own_Know Z h0 w0 w1 w2 w3 w4 w5 w6 w7 w8 w9 w10 w11) :
    MetFree l (⟨"com/example/isolatch/isolatch/cli/Operation", "getShape", "()Lcom/example/isolatch/isolatch/cli/Operation$Shape;"⟩ : MethodName) (head1 (Jvm.Cond.code (⟨"com/example/isolatch/isolatch/cli/Operation", "getShape", "()Lcom/example/isolatch/isolatch/cli/Operation$Shape;"⟩ : MethodName) prog_35_method_6_code 1 (some (.object "com/example/isolatch/isolatch/cli/Operation$Shape")) :: ws) ({ frames := 0, cells := 0, slots := 0, locals := 0 } : Room)) (fun a U => a = #[(.ref w8)] ∧ Z.Warmed39 U.vm ∧ U.heap = h0) (fun _ _ _ _ _ => True) (fun _ U o U' => ∃ v L, o = .returned v ∧ own_Q (some (.ref w9)) h0 n0 v U'.heap L ∧ FrameEnd U o U' L ({ frames := 0, cells := 0, slots := 0, locals := 0 } : Room).cells ({ frames := 0, cells := 0, slots := 0, locals := 0 } : Room).slots) := by
  obtain ⟨S0, E0, S1, E1, S2, E2, S3, E3, S4, E4, S5, E5, S6, E6, S7, E7, S8, E8, S9, E9, S10, E10, S11, E11, F0_shape, O2, O0, O3, F2_shape, O4, O1, O5, F5_shape, O6, O7, F7_shape, F3_shape, O8, F8_shape, O9, O10, F10_shape, O11, F11_shape⟩ := id K
  refine MetFree.of_bodySF (plainFor_of_name own_pn_getShape) hisR ?_
  intro p e s m args below meth c s₁ Bd hml0 hP hK
  obtain ⟨rfl, hZ, hh⟩ := hP
  have hx := Bd.exec
  have hby := Bd.bytes
  have hml : c.maxLocals = 1 := hml0
  have hown : s.vm.findClass "com/example/isolatch/isolatch/cli/Operation" = some m.cls := findClass_of_methodNamed Bd.named
  have X0 : Stand p l e ({ frames := 0, cells := 0, slots := 0, locals := 0 } : Room) s m #[(.ref w8)] below meth c s₁ [] 0 0 := Stand.of_body Bd
  have e0 : s₁.heap = h0 := by rw [← hh, Bd.state]; rfl
  have N0 := Fr.nil n0
  have pre0 : ∀ t, Steps p.tables e below (s₁.setTop (mkF m 0 #[.val (.ref w8)] [])) t → Steps p.tables e below (s₁.setTop (entryFrame m #[(.ref w8)] 1)) t := fun t k => castTop (own_ef_getShape m w8) k
  obtain ⟨T1, X1, e1, st1⟩ := getF X0 hx hZ hown (host := "") (Or.inl (hw _ (List.mem_of_getElem? (i := 14) rfl))) Via.refl e0 F8_shape (g := (mkF m 1 #[.val (.ref w8)] [(.ref w8)])) rfl rfl (hb hby d_getShape_1)
  obtain ⟨fs, hr, hrun, hended, hW, hsame⟩ := X1.leave (v := some (.ref w9)) (fun h => by rw [Bd.returns] at h; cases h)
  refine ⟨_, _, pre0 _ ?_, hrun, hended, _, _, rfl, ?_, ⟨_, rfl⟩, hW, hsame.mono (by decide) (by decide)⟩
  · show Steps p.tables e below (s₁.setTop (mkF m 0 #[.val (.ref w8)] [])) _
    refine XS.aloadN X0.here hx rfl (hb hby d_getShape_0) rfl rfl ?_
    show Steps p.tables e below (s₁.setTop (mkF m 1 #[.val (.ref w8)] [(.ref w8)])) _
    refine st1 _ ?_
    show Steps p.tables e below (T1.setTop (mkF m 4 #[.val (.ref w8)] [(.ref w9)])) _
    jvm_step X1.here [X1.here.top, hx, (hb hby d_getShape_4), X1.method', Bd.returns, Value.isRef, FieldType.isReference]
    first | (intro acts; rw [hr _ acts rfl rfl rfl]) | rw [hr _ _ rfl rfl rfl]
    exact Steps.refl _
  · show own_Q _ h0 n0 _ T1.heap _
    rw [e1]
    exact ⟨rfl, N0, rfl⟩
set_option maxRecDepth 65536 in
set_option maxHeartbeats 40000000 in
theorem own_law_1 (l : Launch) (Z : State) (a0 : Array Value) (hw : ∀ d ∈ tables_1, d.before a0 Z = true) (ws : List Jvm.Cond) (w0 : Addr) (w1 : Addr) (w2 : Addr) (w3 : Addr) (w4 : Addr) (w5 : Addr) (w6 : Addr) (w7 : Addr) (w8 : Addr) (w9 : Addr) (w10 : Addr) (w11 : Addr) (h0 : Heap) (n0 : Nat) (Z0 : n0 ≤ h0.size) (K : own_Know Z h0 w0 w1 w2 w3 w4 w5 w6 w7 w8 w9 w10 w11) (p1 : Int32) (hi : (p1 &&& (7 : Int32)) = (1 : Int32)) :
    MetFree l x (head1 (Jvm.Cond.code x code maxLocals ret :: ws) room_1) (fun a U => a = #[(.int p1)] ∧ Z.Warmed39 U.vm ∧ U.heap = h0) (fun _ _ _ _ _ => True) (fun _ U o U' => ∃ v L, o = .returned v ∧ own_QL n0 v L ∧ FrameEnd U o U' L room_1.cells room_1.slots) := by
  obtain ⟨S0, E0, S1, E1, S2, E2, S3, E3, S4, E4, S5, E5, S6, E6, S7, E7, S8, E8, S9, E9, S10, E10, S11, E11, F0_shape, O2, O0, O3, F2_shape, O4, O1, O5, F5_shape, O6, O7, F7_shape, F3_shape, O8, F8_shape, O9, O10, F10_shape, O11, F11_shape⟩ := id K
  refine MetFree.of_bodySF (plainFor_of_name own_pn_law) hisR ?_
  intro p e s m args below meth c s₁ Bd hml0 hP hK
  obtain ⟨rfl, hZ, hh⟩ := hP
  have hx := Bd.exec
  have hby := Bd.bytes
  have hml : c.maxLocals = 7 := hml0
  have hown : s.vm.findClass "com/example/isolatch/isolatch/cli/OperationGivesValuePinLaw" = some m.cls := findClass_of_methodNamed Bd.named
  have X0 : Stand p l e room_1 s m #[(.int p1)] below meth c s₁ [] 0 0 := Stand.of_body Bd
  have e0 : s₁.heap = h0 := by rw [← hh, Bd.state]; rfl
  have N0 := Fr.nil n0
  have pre0 : ∀ t, Steps p.tables e below (s₁.setTop (mkF m 0 #[.val (.int p1), .unset, .unset, .unset, .unset, .unset, .unset] [])) t → Steps p.tables e below (s₁.setTop (entryFrame m #[(.int p1)] maxLocals)) t := fun t k => castTop (own_ef_law m p1) k
  obtain ⟨T1, X1, e1, st1⟩ := getS2 X0 hx hZ hown (host := "") (Or.inl (hw _ (List.mem_of_getElem? (i := 32) rfl))) Via.refl e0 S8 (g := (mkF m 23 #[.val (.int p1), .val (.int (1 : Int32)), .unset, .unset, .unset, .unset, .unset] [])) rfl (hb hby at_23)
  obtain ⟨cq2, kq2, q2a, q2b, q2c⟩ := isOf hZ e1 E8
  obtain ⟨_, _, ⟨T2, L2, k2, n2⟩, -, X2, ⟨Lc2, hQ2, l2, y2, z2⟩, st2⟩ := X1.virtualBack hx (y := (⟨"com/example/isolatch/isolatch/cli/Operation", "givesValue", "()Z"⟩ : MethodName)) (z := (⟨"com/example/isolatch/isolatch/cli/Operation", "givesValue", "()Z"⟩ : MethodName)) hown (mvT hZ (hw _ (List.mem_of_getElem? (i := 3) rfl))) (mvT hZ (hw _ (List.mem_of_getElem? (i := 4) rfl))) (notFace_of_selects (args := #[]) (mvT hZ (hw _ (List.mem_of_getElem? (i := 6) rfl)))) (mvT hZ (hw _ (List.mem_of_getElem? (i := 6) rfl))) (mvT hZ (hw _ (List.mem_of_getElem? (i := 5) rfl))) (by decide) (backOf (W := 0) (own_givesValue_1 l Z a0 hw [] w0 w1 w2 w3 w4 w5 w6 w7 w8 w9 w10 w11 h0 n0 Z0 K) hZ (hw _ (List.mem_of_getElem? (i := 7) rfl)) (hw _ (List.mem_of_getElem? (i := 1) rfl)) (by decide) (by decide)) q2a q2c (g := (mkF m 110 #[.val (.int p1), .val (.int (1 : Int32)), .val (.ref w8), .val (.int (0 : Int32)), .unset, .unset, .unset] [(.ref w8)])) rfl (by rw [hml]; rfl) (Steps.refl _) (argsL := []) (rest := []) (lenOf own_pd0 rfl) rfl (by show 2 * 0 + _ ≤ _; exact Nat.le_of_eq rfl) (hb hby at_110) (fun _ _ => ⟨rfl, e1, (by decide : 0 + 0 ≤ _), (by decide : 0 + 0 ≤ _)⟩)
  dsimp only [Pt.U, Pt.locs, Pt.cells, Pt.slots] at X2 l2 y2 z2 st2 hQ2
  subst l2 y2 z2
  obtain ⟨rfl, N2q, e2⟩ := hQ2
  have N2 := Fr.app N0 N2q
  obtain ⟨cq3, kq3, q3a, q3b, q3c⟩ := isOf hZ e2 E8
  obtain ⟨_, _, ⟨T3, L3, k3, n3⟩, -, X3, ⟨Lc3, hQ3, l3, y3, z3⟩, st3⟩ := X2.virtualBack hx (y := (⟨"com/example/isolatch/isolatch/cli/Operation", "getShape", "()Lcom/example/isolatch/isolatch/cli/Operation$Shape;"⟩ : MethodName)) (z := (⟨"com/example/isolatch/isolatch/cli/Operation", "getShape", "()Lcom/example/isolatch/isolatch/cli/Operation$Shape;"⟩ : MethodName)) hown (mvT hZ (hw _ (List.mem_of_getElem? (i := 9) rfl))) (mvT hZ (hw _ (List.mem_of_getElem? (i := 10) rfl))) (notFace_of_selects (args := #[]) (mvT hZ (hw _ (List.mem_of_getElem? (i := 12) rfl)))) (mvT hZ (hw _ (List.mem_of_getElem? (i := 12) rfl))) (mvT hZ (hw _ (List.mem_of_getElem? (i := 11) rfl))) (by decide) (backOf (W := 0) (own_getShape_1 l Z a0 hw [] w0 w1 w2 w3 w4 w5 w6 w7 w8 w9 w10 w11 h0 n0 Z0 K) hZ (hw _ (List.mem_of_getElem? (i := 13) rfl)) (hw _ (List.mem_of_getElem? (i := 1) rfl)) (by decide) (by decide)) q3a q3c (g := (mkF m 116 #[.val (.int p1), .val (.int (1 : Int32)), .val (.ref w8), .val (.int (0 : Int32)), .val (.int (0 : Int32)), .unset, .unset] [(.ref w8)])) rfl (by rw [hml]; rfl) (Steps.refl _) (argsL := []) (rest := []) (lenOf own_pd1 rfl) rfl (by show 2 * 0 + _ ≤ _; exact Nat.le_of_eq rfl) (hb hby at_116) (fun _ _ => ⟨rfl, e2, (by decide : 0 + 0 ≤ _), (by decide : 0 + 0 ≤ _)⟩)
  dsimp only [Pt.U, Pt.locs, Pt.cells, Pt.slots] at X3 l3 y3 z3 st3 hQ3
  subst l3 y3 z3
  obtain ⟨rfl, N3q, e3⟩ := hQ3
  have N3 := Fr.app N2 N3q
  obtain ⟨T4, X4, e4, st4⟩ := getS2 X3 hx hZ hown (host := "") (Or.inl (hw _ (List.mem_of_getElem? (i := 18) rfl))) Via.refl e3 S1 (g := (mkF m 123 #[.val (.int p1), .val (.int (1 : Int32)), .val (.ref w8), .val (.int (0 : Int32)), .val (.int (0 : Int32)), .val (.ref w9), .unset] [(.ref w9)])) rfl (hb hby at_123)
  obtain ⟨T5, X5, e5, st5⟩ := getS2 X4 hx hZ hown (host := "") (Or.inl (hw _ (List.mem_of_getElem? (i := 25) rfl))) Via.refl e4 S4 (g := (mkF m 131 #[.val (.int p1), .val (.int (1 : Int32)), .val (.ref w8), .val (.int (0 : Int32)), .val (.int (0 : Int32)), .val (.ref w9), .unset] [(.ref w9)])) rfl (hb hby at_131)
  obtain ⟨fs, hr, hrun, hended, hW, hsame⟩ := X5.leave (v := some (.int (1 : Int32))) (fun h => by rw [Bd.returns] at h; cases h)
  refine ⟨_, _, pre0 _ ?_, hrun, hended, _, _, rfl, ?_, ⟨_, rfl⟩, hW, hsame.mono (by decide) (by decide)⟩
  · show Steps p.tables e below (s₁.setTop (mkF m 0 #[.val (.int p1), .unset, .unset, .unset, .unset, .unset, .unset] [])) _
    refine XS.iloadN X0.here hx rfl (hb hby at_0) rfl ?_
    show Steps p.tables e below (s₁.setTop (mkF m 1 #[.val (.int p1), .unset, .unset, .unset, .unset, .unset, .unset] [(.int p1)])) _
    refine XS.bipush X0.here hx rfl (hb hby at_1) ?_
    show Steps p.tables e below (s₁.setTop (mkF m 3 #[.val (.int p1), .unset, .unset, .unset, .unset, .unset, .unset] [(.int (7 : Int32)), (.int p1)])) _
    refine XS.iand X0.here hx rfl (hb hby at_3) rfl ?_
    show Steps p.tables e below (s₁.setTop (mkF m 4 #[.val (.int p1), .unset, .unset, .unset, .unset, .unset, .unset] [(.int (p1 &&& (7 : Int32)))])) _
    rw [hi]
    show Steps p.tables e below (s₁.setTop (mkF m 4 #[.val (.int p1), .unset, .unset, .unset, .unset, .unset, .unset] [(.int (1 : Int32))])) _
    refine XS.istoreN X0.here hx rfl (hb hby at_4) rfl (l' := #[.val (.int p1), .val (.int (1 : Int32)), .unset, .unset, .unset, .unset, .unset]) rfl ?_
    show Steps p.tables e below (s₁.setTop (mkF m 5 #[.val (.int p1), .val (.int (1 : Int32)), .unset, .unset, .unset, .unset, .unset] [])) _
    refine XS.iloadN X0.here hx rfl (hb hby at_5) rfl ?_
    show Steps p.tables e below (s₁.setTop (mkF m 6 #[.val (.int p1), .val (.int (1 : Int32)), .unset, .unset, .unset, .unset, .unset] [(.int (1 : Int32))])) _
    refine XS.ifYes X0.here hx rfl (pc0 := 6) (pc' := 18) rfl (hb hby at_6) rfl (by decide) (by decide) (by decide) ?_
    show Steps p.tables e below (s₁.setTop (mkF m 18 #[.val (.int p1), .val (.int (1 : Int32)), .unset, .unset, .unset, .unset, .unset] [])) _
    refine XS.iloadN X0.here hx rfl (hb hby at_18) rfl ?_
    show Steps p.tables e below (s₁.setTop (mkF m 19 #[.val (.int p1), .val (.int (1 : Int32)), .unset, .unset, .unset, .unset, .unset] [(.int (1 : Int32))])) _
    refine XS.iconst X0.here hx rfl (hb hby at_19) ?_
    show Steps p.tables e below (s₁.setTop (mkF m 20 #[.val (.int p1), .val (.int (1 : Int32)), .unset, .unset, .unset, .unset, .unset] [(.int (1 : Int32)), (.int (1 : Int32))])) _
    refine XS.icmpNo X0.here hx rfl (hb hby at_20) rfl (by decide) ?_
    show Steps p.tables e below (s₁.setTop (mkF m 23 #[.val (.int p1), .val (.int (1 : Int32)), .unset, .unset, .unset, .unset, .unset] [])) _
    refine st1 _ ?_
    show Steps p.tables e below (T1.setTop (mkF m 26 #[.val (.int p1), .val (.int (1 : Int32)), .unset, .unset, .unset, .unset, .unset] [(.ref w8)])) _
    refine XS.astoreN X1.here hx rfl (hb hby at_26) rfl rfl (l' := #[.val (.int p1), .val (.int (1 : Int32)), .val (.ref w8), .unset, .unset, .unset, .unset]) rfl ?_
    show Steps p.tables e below (T1.setTop (mkF m 27 #[.val (.int p1), .val (.int (1 : Int32)), .val (.ref w8), .unset, .unset, .unset, .unset] [])) _
    refine XS.iconst X1.here hx rfl (hb hby at_27) ?_
    show Steps p.tables e below (T1.setTop (mkF m 28 #[.val (.int p1), .val (.int (1 : Int32)), .val (.ref w8), .unset, .unset, .unset, .unset] [(.int (0 : Int32))])) _
    refine XS.istoreN X1.here hx rfl (hb hby at_28) rfl (l' := #[.val (.int p1), .val (.int (1 : Int32)), .val (.ref w8), .val (.int (0 : Int32)), .unset, .unset, .unset]) rfl ?_
    show Steps p.tables e below (T1.setTop (mkF m 29 #[.val (.int p1), .val (.int (1 : Int32)), .val (.ref w8), .val (.int (0 : Int32)), .unset, .unset, .unset] [])) _
    refine XS.goto X1.here hx rfl (pc0 := 29) (pc' := 109) rfl (hb hby at_29) (by decide) (by decide) ?_
    show Steps p.tables e below (T1.setTop (mkF m 109 #[.val (.int p1), .val (.int (1 : Int32)), .val (.ref w8), .val (.int (0 : Int32)), .unset, .unset, .unset] [])) _
    refine XS.aloadN X1.here hx rfl (hb hby at_109) rfl rfl ?_
    show Steps p.tables e below (T1.setTop (mkF m 110 #[.val (.int p1), .val (.int (1 : Int32)), .val (.ref w8), .val (.int (0 : Int32)), .unset, .unset, .unset] [(.ref w8)])) _
    refine st2.trans ?_
    show Steps p.tables e below (T2.setTop (mkF m 113 #[.val (.int p1), .val (.int (1 : Int32)), .val (.ref w8), .val (.int (0 : Int32)), .unset, .unset, .unset] [(.int (0 : Int32))])) _
    refine XS.istore X2.here hx rfl (hb hby at_113) rfl (l' := #[.val (.int p1), .val (.int (1 : Int32)), .val (.ref w8), .val (.int (0 : Int32)), .val (.int (0 : Int32)), .unset, .unset]) rfl ?_
    show Steps p.tables e below (T2.setTop (mkF m 115 #[.val (.int p1), .val (.int (1 : Int32)), .val (.ref w8), .val (.int (0 : Int32)), .val (.int (0 : Int32)), .unset, .unset] [])) _
    refine XS.aloadN X2.here hx rfl (hb hby at_115) rfl rfl ?_
    show Steps p.tables e below (T2.setTop (mkF m 116 #[.val (.int p1), .val (.int (1 : Int32)), .val (.ref w8), .val (.int (0 : Int32)), .val (.int (0 : Int32)), .unset, .unset] [(.ref w8)])) _
    refine st3.trans ?_
    show Steps p.tables e below (T3.setTop (mkF m 119 #[.val (.int p1), .val (.int (1 : Int32)), .val (.ref w8), .val (.int (0 : Int32)), .val (.int (0 : Int32)), .unset, .unset] [(.ref w9)])) _
    refine XS.astore X3.here hx rfl (hb hby at_119) rfl rfl (l' := #[.val (.int p1), .val (.int (1 : Int32)), .val (.ref w8), .val (.int (0 : Int32)), .val (.int (0 : Int32)), .val (.ref w9), .unset]) rfl ?_
    show Steps p.tables e below (T3.setTop (mkF m 121 #[.val (.int p1), .val (.int (1 : Int32)), .val (.ref w8), .val (.int (0 : Int32)), .val (.int (0 : Int32)), .val (.ref w9), .unset] [])) _
    refine XS.aload X3.here hx rfl (hb hby at_121) rfl rfl ?_
    show Steps p.tables e below (T3.setTop (mkF m 123 #[.val (.int p1), .val (.int (1 : Int32)), .val (.ref w8), .val (.int (0 : Int32)), .val (.int (0 : Int32)), .val (.ref w9), .unset] [(.ref w9)])) _
    refine st4 _ ?_
    show Steps p.tables e below (T4.setTop (mkF m 126 #[.val (.int p1), .val (.int (1 : Int32)), .val (.ref w8), .val (.int (0 : Int32)), .val (.int (0 : Int32)), .val (.ref w9), .unset] [(.ref w1), (.ref w9)])) _
    refine Jvm.RoadKit.acmp (g := (mkF m 126 #[.val (.int p1), .val (.int (1 : Int32)), .val (.ref w8), .val (.int (0 : Int32)), .val (.int (0 : Int32)), .val (.ref w9), .unset] [(.ref w1), (.ref w9)])) X4 hx rfl rfl rfl (pc0 := 126) (pc' := 129) (same := false) rfl (hb hby at_126) rfl (decide_eq_false (fun z => (Fld.ne O9 O1 (by decide)) (Value.ref.inj z))) (by decide) (by decide) ?_
    show Steps p.tables e below (T4.setTop (mkF m 129 #[.val (.int p1), .val (.int (1 : Int32)), .val (.ref w8), .val (.int (0 : Int32)), .val (.int (0 : Int32)), .val (.ref w9), .unset] [])) _
    refine XS.aload X4.here hx rfl (hb hby at_129) rfl rfl ?_
    show Steps p.tables e below (T4.setTop (mkF m 131 #[.val (.int p1), .val (.int (1 : Int32)), .val (.ref w8), .val (.int (0 : Int32)), .val (.int (0 : Int32)), .val (.ref w9), .unset] [(.ref w9)])) _
    refine st5 _ ?_
    show Steps p.tables e below (T5.setTop (mkF m 134 #[.val (.int p1), .val (.int (1 : Int32)), .val (.ref w8), .val (.int (0 : Int32)), .val (.int (0 : Int32)), .val (.ref w9), .unset] [(.ref w4), (.ref w9)])) _
    refine Jvm.RoadKit.acmp (g := (mkF m 134 #[.val (.int p1), .val (.int (1 : Int32)), .val (.ref w8), .val (.int (0 : Int32)), .val (.int (0 : Int32)), .val (.ref w9), .unset] [(.ref w4), (.ref w9)])) X5 hx rfl rfl rfl (pc0 := 134) (pc' := 141) (same := false) rfl (hb hby at_134) rfl (decide_eq_false (fun z => (Fld.ne O9 O4 (by decide)) (Value.ref.inj z))) (by decide) (by decide) ?_
    show Steps p.tables e below (T5.setTop (mkF m 141 #[.val (.int p1), .val (.int (1 : Int32)), .val (.ref w8), .val (.int (0 : Int32)), .val (.int (0 : Int32)), .val (.ref w9), .unset] [])) _
    refine XS.iconst X5.here hx rfl (hb hby at_141) ?_
    show Steps p.tables e below (T5.setTop (mkF m 142 #[.val (.int p1), .val (.int (1 : Int32)), .val (.ref w8), .val (.int (0 : Int32)), .val (.int (0 : Int32)), .val (.ref w9), .unset] [(.int (0 : Int32))])) _
    refine XS.istore X5.here hx rfl (hb hby at_142) rfl (l' := #[.val (.int p1), .val (.int (1 : Int32)), .val (.ref w8), .val (.int (0 : Int32)), .val (.int (0 : Int32)), .val (.ref w9), .val (.int (0 : Int32))]) rfl ?_
    show Steps p.tables e below (T5.setTop (mkF m 144 #[.val (.int p1), .val (.int (1 : Int32)), .val (.ref w8), .val (.int (0 : Int32)), .val (.int (0 : Int32)), .val (.ref w9), .val (.int (0 : Int32))] [])) _
    refine XS.iload X5.here hx rfl (hb hby at_144) rfl ?_
    show Steps p.tables e below (T5.setTop (mkF m 146 #[.val (.int p1), .val (.int (1 : Int32)), .val (.ref w8), .val (.int (0 : Int32)), .val (.int (0 : Int32)), .val (.ref w9), .val (.int (0 : Int32))] [(.int (0 : Int32))])) _
    refine XS.iloadN X5.here hx rfl (hb hby at_146) rfl ?_
    show Steps p.tables e below (T5.setTop (mkF m 147 #[.val (.int p1), .val (.int (1 : Int32)), .val (.ref w8), .val (.int (0 : Int32)), .val (.int (0 : Int32)), .val (.ref w9), .val (.int (0 : Int32))] [(.int (0 : Int32)), (.int (0 : Int32))])) _
    refine XS.icmpNo X5.here hx rfl (hb hby at_147) rfl (by decide) ?_
    show Steps p.tables e below (T5.setTop (mkF m 150 #[.val (.int p1), .val (.int (1 : Int32)), .val (.ref w8), .val (.int (0 : Int32)), .val (.int (0 : Int32)), .val (.ref w9), .val (.int (0 : Int32))] [])) _
    refine XS.iload X5.here hx rfl (hb hby at_150) rfl ?_
    show Steps p.tables e below (T5.setTop (mkF m 152 #[.val (.int p1), .val (.int (1 : Int32)), .val (.ref w8), .val (.int (0 : Int32)), .val (.int (0 : Int32)), .val (.ref w9), .val (.int (0 : Int32))] [(.int (0 : Int32))])) _
    refine XS.ifYes X5.here hx rfl (pc0 := 152) (pc' := 160) rfl (hb hby at_152) rfl (by decide) (by decide) (by decide) ?_
    show Steps p.tables e below (T5.setTop (mkF m 160 #[.val (.int p1), .val (.int (1 : Int32)), .val (.ref w8), .val (.int (0 : Int32)), .val (.int (0 : Int32)), .val (.ref w9), .val (.int (0 : Int32))] [])) _
    refine XS.iconst X5.here hx rfl (hb hby at_160) ?_
    show Steps p.tables e below (T5.setTop (mkF m 161 #[.val (.int p1), .val (.int (1 : Int32)), .val (.ref w8), .val (.int (0 : Int32)), .val (.int (0 : Int32)), .val (.ref w9), .val (.int (0 : Int32))] [(.int (1 : Int32))])) _
    refine XS.goto X5.here hx rfl (pc0 := 161) (pc' := 165) rfl (hb hby at_161) (by decide) (by decide) ?_
    show Steps p.tables e below (T5.setTop (mkF m 165 #[.val (.int p1), .val (.int (1 : Int32)), .val (.ref w8), .val (.int (0 : Int32)), .val (.int (0 : Int32)), .val (.ref w9), .val (.int (0 : Int32))] [(.int (1 : Int32))])) _
    exact retN X5 hx (t := .boolean) Bd.returns (by simp) (hb hby at_165) hr
  · exact ⟨rfl, N3⟩
set_option maxRecDepth 65536 in
set_option maxHeartbeats 40000000 in
theorem own_givesValue_2 (l : Launch) (Z : State) (a0 : Array Value) (hw : ∀ d ∈ tables_1, d.before a0 Z = true) (ws : List Jvm.Cond) (w0 : Addr) (w1 : Addr) (w2 : Addr) (w3 : Addr) (w4 : Addr) (w5 : Addr) (w6 : Addr) (w7 : Addr) (w8 : Addr) (w9 : Addr) (w10 : Addr) (w11 : Addr) (h0 : Heap) (n0 : Nat) (Z0 : n0 ≤ h0.size) (K : own_Know Z h0 w0 w1 w2 w3 w4 w5 w6 w7 w8 w9 w10 w11) :
    MetFree l (⟨"com/example/isolatch/isolatch/cli/Operation", "givesValue", "()Z"⟩ : MethodName) (head1 (Jvm.Cond.code (⟨"com/example/isolatch/isolatch/cli/Operation", "givesValue", "()Z"⟩ : MethodName) prog_35_method_7_code 1 (some .boolean) :: ws) ({ frames := 0, cells := 0, slots := 0, locals := 0 } : Room)) (fun a U => a = #[(.ref w3)] ∧ Z.Warmed39 U.vm ∧ U.heap = h0) (fun _ _ _ _ _ => True) (fun _ U o U' => ∃ v L, o = .returned v ∧ own_Q (some (.int (1 : Int32))) h0 n0 v U'.heap L ∧ FrameEnd U o U' L ({ frames := 0, cells := 0, slots := 0, locals := 0 } : Room).cells ({ frames := 0, cells := 0, slots := 0, locals := 0 } : Room).slots) := by
  obtain ⟨S0, E0, S1, E1, S2, E2, S3, E3, S4, E4, S5, E5, S6, E6, S7, E7, S8, E8, S9, E9, S10, E10, S11, E11, F0_shape, O2, O0, O3, F2_shape, O4, O1, O5, F5_shape, O6, O7, F7_shape, F3_shape, O8, F8_shape, O9, O10, F10_shape, O11, F11_shape⟩ := id K
  refine MetFree.of_bodySF (plainFor_of_name own_pn_givesValue) hisR ?_
  intro p e s m args below meth c s₁ Bd hml0 hP hK
  obtain ⟨rfl, hZ, hh⟩ := hP
  have hx := Bd.exec
  have hby := Bd.bytes
  have hml : c.maxLocals = 1 := hml0
  have hown : s.vm.findClass "com/example/isolatch/isolatch/cli/Operation" = some m.cls := findClass_of_methodNamed Bd.named
  have X0 : Stand p l e ({ frames := 0, cells := 0, slots := 0, locals := 0 } : Room) s m #[(.ref w3)] below meth c s₁ [] 0 0 := Stand.of_body Bd
  have e0 : s₁.heap = h0 := by rw [← hh, Bd.state]; rfl
  have N0 := Fr.nil n0
  have pre0 : ∀ t, Steps p.tables e below (s₁.setTop (mkF m 0 #[.val (.ref w3)] [])) t → Steps p.tables e below (s₁.setTop (entryFrame m #[(.ref w3)] 1)) t := fun t k => castTop (own_ef_givesValue m w3) k
  obtain ⟨T1, X1, e1, st1⟩ := getS2 X0 hx hZ hown (host := "") (Or.inl (hw _ (List.mem_of_getElem? (i := 8) rfl))) Via.refl e0 S0 (g := (mkF m 1 #[.val (.ref w3)] [(.ref w3)])) rfl (hb hby d_givesValue_1)
  obtain ⟨T2, X2, e2, st2⟩ := getS2 X1 hx hZ hown (host := "") (Or.inl (hw _ (List.mem_of_getElem? (i := 21) rfl))) Via.refl e1 S3 (g := (mkF m 8 #[.val (.ref w3)] [(.ref w3)])) rfl (hb hby d_givesValue_8)
  obtain ⟨fs, hr, hrun, hended, hW, hsame⟩ := X2.leave (v := some (.int (1 : Int32))) (fun h => by rw [Bd.returns] at h; cases h)
  refine ⟨_, _, pre0 _ ?_, hrun, hended, _, _, rfl, ?_, ⟨_, rfl⟩, hW, hsame.mono (by decide) (by decide)⟩
  · show Steps p.tables e below (s₁.setTop (mkF m 0 #[.val (.ref w3)] [])) _
    refine XS.aloadN X0.here hx rfl (hb hby d_givesValue_0) rfl rfl ?_
    show Steps p.tables e below (s₁.setTop (mkF m 1 #[.val (.ref w3)] [(.ref w3)])) _
    refine st1 _ ?_
    show Steps p.tables e below (T1.setTop (mkF m 4 #[.val (.ref w3)] [(.ref w0), (.ref w3)])) _
    refine Jvm.RoadKit.acmp (g := (mkF m 4 #[.val (.ref w3)] [(.ref w0), (.ref w3)])) X1 hx rfl rfl rfl (pc0 := 4) (pc' := 7) (same := false) rfl (hb hby d_givesValue_4) rfl (decide_eq_false (fun z => (Fld.ne O3 O0 (by decide)) (Value.ref.inj z))) (by decide) (by decide) ?_
    show Steps p.tables e below (T1.setTop (mkF m 7 #[.val (.ref w3)] [])) _
    refine XS.aloadN X1.here hx rfl (hb hby d_givesValue_7) rfl rfl ?_
    show Steps p.tables e below (T1.setTop (mkF m 8 #[.val (.ref w3)] [(.ref w3)])) _
    refine st2 _ ?_
    show Steps p.tables e below (T2.setTop (mkF m 11 #[.val (.ref w3)] [(.ref w3), (.ref w3)])) _
    refine Jvm.RoadKit.acmp (g := (mkF m 11 #[.val (.ref w3)] [(.ref w3), (.ref w3)])) X2 hx rfl rfl rfl (pc0 := 11) (pc' := 21) (same := true) rfl (hb hby d_givesValue_11) rfl (decide_eq_true rfl) (by decide) (by decide) ?_
    show Steps p.tables e below (T2.setTop (mkF m 21 #[.val (.ref w3)] [])) _
    refine XS.iconst X2.here hx rfl (hb hby d_givesValue_21) ?_
    show Steps p.tables e below (T2.setTop (mkF m 22 #[.val (.ref w3)] [(.int (1 : Int32))])) _
    refine XS.goto X2.here hx rfl (pc0 := 22) (pc' := 26) rfl (hb hby d_givesValue_22) (by decide) (by decide) ?_
    show Steps p.tables e below (T2.setTop (mkF m 26 #[.val (.ref w3)] [(.int (1 : Int32))])) _
    exact retN X2 hx (t := .boolean) Bd.returns (by simp) (hb hby d_givesValue_26) hr
  · show own_Q _ h0 n0 _ T2.heap _
    rw [e2]
    exact ⟨rfl, N0, rfl⟩
set_option maxRecDepth 65536 in
set_option maxHeartbeats 40000000 in
theorem own_getShape_2 (l : Launch) (Z : State) (a0 : Array Value) (hw : ∀ d ∈ tables_1, d.before a0 Z = true) (ws : List Jvm.Cond) (w0 : Addr) (w1 : Addr) (w2 : Addr) (w3 : Addr) (w4 : Addr) (w5 : Addr) (w6 : Addr) (w7 : Addr) (w8 : Addr) (w9 : Addr) (w10 : Addr) (w11 : Addr) (h0 : Heap) (n0 : Nat) (Z0 : n0 ≤ h0.size) (K : own_Know Z h0 w0 w1 w2 w3 w4 w5 w6 w7 w8 w9 w10 w11) :
    MetFree l (⟨"com/example/isolatch/isolatch/cli/Operation", "getShape", "()Lcom/example/isolatch/isolatch/cli/Operation$Shape;"⟩ : MethodName) (head1 (Jvm.Cond.code (⟨"com/example/isolatch/isolatch/cli/Operation", "getShape", "()Lcom/example/isolatch/isolatch/cli/Operation$Shape;"⟩ : MethodName) prog_35_method_6_code 1 (some (.object "com/example/isolatch/isolatch/cli/Operation$Shape")) :: ws) ({ frames := 0, cells := 0, slots := 0, locals := 0 } : Room)) (fun a U => a = #[(.ref w3)] ∧ Z.Warmed39 U.vm ∧ U.heap = h0) (fun _ _ _ _ _ => True) (fun _ U o U' => ∃ v L, o = .returned v ∧ own_Q (some (.ref w1)) h0 n0 v U'.heap L ∧ FrameEnd U o U' L ({ frames := 0, cells := 0, slots := 0, locals := 0 } : Room).cells ({ frames := 0, cells := 0, slots := 0, locals := 0 } : Room).slots) := by
  obtain ⟨S0, E0, S1, E1, S2, E2, S3, E3, S4, E4, S5, E5, S6, E6, S7, E7, S8, E8, S9, E9, S10, E10, S11, E11, F0_shape, O2, O0, O3, F2_shape, O4, O1, O5, F5_shape, O6, O7, F7_shape, F3_shape, O8, F8_shape, O9, O10, F10_shape, O11, F11_shape⟩ := id K
  refine MetFree.of_bodySF (plainFor_of_name own_pn_getShape) hisR ?_
  intro p e s m args below meth c s₁ Bd hml0 hP hK
  obtain ⟨rfl, hZ, hh⟩ := hP
  have hx := Bd.exec
  have hby := Bd.bytes
  have hml : c.maxLocals = 1 := hml0
  have hown : s.vm.findClass "com/example/isolatch/isolatch/cli/Operation" = some m.cls := findClass_of_methodNamed Bd.named
  have X0 : Stand p l e ({ frames := 0, cells := 0, slots := 0, locals := 0 } : Room) s m #[(.ref w3)] below meth c s₁ [] 0 0 := Stand.of_body Bd
  have e0 : s₁.heap = h0 := by rw [← hh, Bd.state]; rfl
  have N0 := Fr.nil n0
  have pre0 : ∀ t, Steps p.tables e below (s₁.setTop (mkF m 0 #[.val (.ref w3)] [])) t → Steps p.tables e below (s₁.setTop (entryFrame m #[(.ref w3)] 1)) t := fun t k => castTop (own_ef_getShape m w3) k
  obtain ⟨T1, X1, e1, st1⟩ := getF X0 hx hZ hown (host := "") (Or.inl (hw _ (List.mem_of_getElem? (i := 14) rfl))) Via.refl e0 F3_shape (g := (mkF m 1 #[.val (.ref w3)] [(.ref w3)])) rfl rfl (hb hby d_getShape_1)
  obtain ⟨fs, hr, hrun, hended, hW, hsame⟩ := X1.leave (v := some (.ref w1)) (fun h => by rw [Bd.returns] at h; cases h)
  refine ⟨_, _, pre0 _ ?_, hrun, hended, _, _, rfl, ?_, ⟨_, rfl⟩, hW, hsame.mono (by decide) (by decide)⟩
  · show Steps p.tables e below (s₁.setTop (mkF m 0 #[.val (.ref w3)] [])) _
    refine XS.aloadN X0.here hx rfl (hb hby d_getShape_0) rfl rfl ?_
    show Steps p.tables e below (s₁.setTop (mkF m 1 #[.val (.ref w3)] [(.ref w3)])) _
    refine st1 _ ?_
    show Steps p.tables e below (T1.setTop (mkF m 4 #[.val (.ref w3)] [(.ref w1)])) _
    jvm_step X1.here [X1.here.top, hx, (hb hby d_getShape_4), X1.method', Bd.returns, Value.isRef, FieldType.isReference]
    first | (intro acts; rw [hr _ acts rfl rfl rfl]) | rw [hr _ _ rfl rfl rfl]
    exact Steps.refl _
  · show own_Q _ h0 n0 _ T1.heap _
    rw [e1]
    exact ⟨rfl, N0, rfl⟩
set_option maxRecDepth 65536 in
set_option maxHeartbeats 40000000 in
theorem own_law_2 (l : Launch) (Z : State) (a0 : Array Value) (hw : ∀ d ∈ tables_1, d.before a0 Z = true) (ws : List Jvm.Cond) (w0 : Addr) (w1 : Addr) (w2 : Addr) (w3 : Addr) (w4 : Addr) (w5 : Addr) (w6 : Addr) (w7 : Addr) (w8 : Addr) (w9 : Addr) (w10 : Addr) (w11 : Addr) (h0 : Heap) (n0 : Nat) (Z0 : n0 ≤ h0.size) (K : own_Know Z h0 w0 w1 w2 w3 w4 w5 w6 w7 w8 w9 w10 w11) (p1 : Int32) (hi : (p1 &&& (7 : Int32)) = (2 : Int32)) :
    MetFree l x (head1 (Jvm.Cond.code x code maxLocals ret :: ws) room_1) (fun a U => a = #[(.int p1)] ∧ Z.Warmed39 U.vm ∧ U.heap = h0) (fun _ _ _ _ _ => True) (fun _ U o U' => ∃ v L, o = .returned v ∧ own_QL n0 v L ∧ FrameEnd U o U' L room_1.cells room_1.slots) := by
  obtain ⟨S0, E0, S1, E1, S2, E2, S3, E3, S4, E4, S5, E5, S6, E6, S7, E7, S8, E8, S9, E9, S10, E10, S11, E11, F0_shape, O2, O0, O3, F2_shape, O4, O1, O5, F5_shape, O6, O7, F7_shape, F3_shape, O8, F8_shape, O9, O10, F10_shape, O11, F11_shape⟩ := id K
  refine MetFree.of_bodySF (plainFor_of_name own_pn_law) hisR ?_
  intro p e s m args below meth c s₁ Bd hml0 hP hK
  obtain ⟨rfl, hZ, hh⟩ := hP
  have hx := Bd.exec
  have hby := Bd.bytes
  have hml : c.maxLocals = 7 := hml0
  have hown : s.vm.findClass "com/example/isolatch/isolatch/cli/OperationGivesValuePinLaw" = some m.cls := findClass_of_methodNamed Bd.named
  have X0 : Stand p l e room_1 s m #[(.int p1)] below meth c s₁ [] 0 0 := Stand.of_body Bd
  have e0 : s₁.heap = h0 := by rw [← hh, Bd.state]; rfl
  have N0 := Fr.nil n0
  have pre0 : ∀ t, Steps p.tables e below (s₁.setTop (mkF m 0 #[.val (.int p1), .unset, .unset, .unset, .unset, .unset, .unset] [])) t → Steps p.tables e below (s₁.setTop (entryFrame m #[(.int p1)] maxLocals)) t := fun t k => castTop (own_ef_law m p1) k
  obtain ⟨T1, X1, e1, st1⟩ := getS2 X0 hx hZ hown (host := "") (Or.inl (hw _ (List.mem_of_getElem? (i := 31) rfl))) Via.refl e0 S3 (g := (mkF m 37 #[.val (.int p1), .val (.int (2 : Int32)), .unset, .unset, .unset, .unset, .unset] [])) rfl (hb hby at_37)
  obtain ⟨cq2, kq2, q2a, q2b, q2c⟩ := isOf hZ e1 E3
  obtain ⟨_, _, ⟨T2, L2, k2, n2⟩, -, X2, ⟨Lc2, hQ2, l2, y2, z2⟩, st2⟩ := X1.virtualBack hx (y := (⟨"com/example/isolatch/isolatch/cli/Operation", "givesValue", "()Z"⟩ : MethodName)) (z := (⟨"com/example/isolatch/isolatch/cli/Operation", "givesValue", "()Z"⟩ : MethodName)) hown (mvT hZ (hw _ (List.mem_of_getElem? (i := 3) rfl))) (mvT hZ (hw _ (List.mem_of_getElem? (i := 4) rfl))) (notFace_of_selects (args := #[]) (mvT hZ (hw _ (List.mem_of_getElem? (i := 6) rfl)))) (mvT hZ (hw _ (List.mem_of_getElem? (i := 6) rfl))) (mvT hZ (hw _ (List.mem_of_getElem? (i := 5) rfl))) (by decide) (backOf (W := 0) (own_givesValue_2 l Z a0 hw [] w0 w1 w2 w3 w4 w5 w6 w7 w8 w9 w10 w11 h0 n0 Z0 K) hZ (hw _ (List.mem_of_getElem? (i := 7) rfl)) (hw _ (List.mem_of_getElem? (i := 1) rfl)) (by decide) (by decide)) q2a q2c (g := (mkF m 110 #[.val (.int p1), .val (.int (2 : Int32)), .val (.ref w3), .val (.int (1 : Int32)), .unset, .unset, .unset] [(.ref w3)])) rfl (by rw [hml]; rfl) (Steps.refl _) (argsL := []) (rest := []) (lenOf own_pd0 rfl) rfl (by show 2 * 0 + _ ≤ _; exact Nat.le_of_eq rfl) (hb hby at_110) (fun _ _ => ⟨rfl, e1, (by decide : 0 + 0 ≤ _), (by decide : 0 + 0 ≤ _)⟩)
  dsimp only [Pt.U, Pt.locs, Pt.cells, Pt.slots] at X2 l2 y2 z2 st2 hQ2
  subst l2 y2 z2
  obtain ⟨rfl, N2q, e2⟩ := hQ2
  have N2 := Fr.app N0 N2q
  obtain ⟨cq3, kq3, q3a, q3b, q3c⟩ := isOf hZ e2 E3
  obtain ⟨_, _, ⟨T3, L3, k3, n3⟩, -, X3, ⟨Lc3, hQ3, l3, y3, z3⟩, st3⟩ := X2.virtualBack hx (y := (⟨"com/example/isolatch/isolatch/cli/Operation", "getShape", "()Lcom/example/isolatch/isolatch/cli/Operation$Shape;"⟩ : MethodName)) (z := (⟨"com/example/isolatch/isolatch/cli/Operation", "getShape", "()Lcom/example/isolatch/isolatch/cli/Operation$Shape;"⟩ : MethodName)) hown (mvT hZ (hw _ (List.mem_of_getElem? (i := 9) rfl))) (mvT hZ (hw _ (List.mem_of_getElem? (i := 10) rfl))) (notFace_of_selects (args := #[]) (mvT hZ (hw _ (List.mem_of_getElem? (i := 12) rfl)))) (mvT hZ (hw _ (List.mem_of_getElem? (i := 12) rfl))) (mvT hZ (hw _ (List.mem_of_getElem? (i := 11) rfl))) (by decide) (backOf (W := 0) (own_getShape_2 l Z a0 hw [] w0 w1 w2 w3 w4 w5 w6 w7 w8 w9 w10 w11 h0 n0 Z0 K) hZ (hw _ (List.mem_of_getElem? (i := 13) rfl)) (hw _ (List.mem_of_getElem? (i := 1) rfl)) (by decide) (by decide)) q3a q3c (g := (mkF m 116 #[.val (.int p1), .val (.int (2 : Int32)), .val (.ref w3), .val (.int (1 : Int32)), .val (.int (1 : Int32)), .unset, .unset] [(.ref w3)])) rfl (by rw [hml]; rfl) (Steps.refl _) (argsL := []) (rest := []) (lenOf own_pd1 rfl) rfl (by show 2 * 0 + _ ≤ _; exact Nat.le_of_eq rfl) (hb hby at_116) (fun _ _ => ⟨rfl, e2, (by decide : 0 + 0 ≤ _), (by decide : 0 + 0 ≤ _)⟩)
  dsimp only [Pt.U, Pt.locs, Pt.cells, Pt.slots] at X3 l3 y3 z3 st3 hQ3
  subst l3 y3 z3
  obtain ⟨rfl, N3q, e3⟩ := hQ3
  have N3 := Fr.app N2 N3q
  obtain ⟨T4, X4, e4, st4⟩ := getS2 X3 hx hZ hown (host := "") (Or.inl (hw _ (List.mem_of_getElem? (i := 18) rfl))) Via.refl e3 S1 (g := (mkF m 123 #[.val (.int p1), .val (.int (2 : Int32)), .val (.ref w3), .val (.int (1 : Int32)), .val (.int (1 : Int32)), .val (.ref w1), .unset] [(.ref w1)])) rfl (hb hby at_123)
  obtain ⟨fs, hr, hrun, hended, hW, hsame⟩ := X4.leave (v := some (.int (1 : Int32))) (fun h => by rw [Bd.returns] at h; cases h)
  refine ⟨_, _, pre0 _ ?_, hrun, hended, _, _, rfl, ?_, ⟨_, rfl⟩, hW, hsame.mono (by decide) (by decide)⟩
  · show Steps p.tables e below (s₁.setTop (mkF m 0 #[.val (.int p1), .unset, .unset, .unset, .unset, .unset, .unset] [])) _
    refine XS.iloadN X0.here hx rfl (hb hby at_0) rfl ?_
    show Steps p.tables e below (s₁.setTop (mkF m 1 #[.val (.int p1), .unset, .unset, .unset, .unset, .unset, .unset] [(.int p1)])) _
    refine XS.bipush X0.here hx rfl (hb hby at_1) ?_
    show Steps p.tables e below (s₁.setTop (mkF m 3 #[.val (.int p1), .unset, .unset, .unset, .unset, .unset, .unset] [(.int (7 : Int32)), (.int p1)])) _
    refine XS.iand X0.here hx rfl (hb hby at_3) rfl ?_
    show Steps p.tables e below (s₁.setTop (mkF m 4 #[.val (.int p1), .unset, .unset, .unset, .unset, .unset, .unset] [(.int (p1 &&& (7 : Int32)))])) _
    rw [hi]
    show Steps p.tables e below (s₁.setTop (mkF m 4 #[.val (.int p1), .unset, .unset, .unset, .unset, .unset, .unset] [(.int (2 : Int32))])) _
    refine XS.istoreN X0.here hx rfl (hb hby at_4) rfl (l' := #[.val (.int p1), .val (.int (2 : Int32)), .unset, .unset, .unset, .unset, .unset]) rfl ?_
    show Steps p.tables e below (s₁.setTop (mkF m 5 #[.val (.int p1), .val (.int (2 : Int32)), .unset, .unset, .unset, .unset, .unset] [])) _
    refine XS.iloadN X0.here hx rfl (hb hby at_5) rfl ?_
    show Steps p.tables e below (s₁.setTop (mkF m 6 #[.val (.int p1), .val (.int (2 : Int32)), .unset, .unset, .unset, .unset, .unset] [(.int (2 : Int32))])) _
    refine XS.ifYes X0.here hx rfl (pc0 := 6) (pc' := 18) rfl (hb hby at_6) rfl (by decide) (by decide) (by decide) ?_
    show Steps p.tables e below (s₁.setTop (mkF m 18 #[.val (.int p1), .val (.int (2 : Int32)), .unset, .unset, .unset, .unset, .unset] [])) _
    refine XS.iloadN X0.here hx rfl (hb hby at_18) rfl ?_
    show Steps p.tables e below (s₁.setTop (mkF m 19 #[.val (.int p1), .val (.int (2 : Int32)), .unset, .unset, .unset, .unset, .unset] [(.int (2 : Int32))])) _
    refine XS.iconst X0.here hx rfl (hb hby at_19) ?_
    show Steps p.tables e below (s₁.setTop (mkF m 20 #[.val (.int p1), .val (.int (2 : Int32)), .unset, .unset, .unset, .unset, .unset] [(.int (1 : Int32)), (.int (2 : Int32))])) _
    refine XS.icmpYes X0.here hx rfl (pc0 := 20) (pc' := 32) rfl (hb hby at_20) rfl (by decide) (by decide) (by decide) ?_
    show Steps p.tables e below (s₁.setTop (mkF m 32 #[.val (.int p1), .val (.int (2 : Int32)), .unset, .unset, .unset, .unset, .unset] [])) _
    refine XS.iloadN X0.here hx rfl (hb hby at_32) rfl ?_
    show Steps p.tables e below (s₁.setTop (mkF m 33 #[.val (.int p1), .val (.int (2 : Int32)), .unset, .unset, .unset, .unset, .unset] [(.int (2 : Int32))])) _
    refine XS.iconst X0.here hx rfl (hb hby at_33) ?_
    show Steps p.tables e below (s₁.setTop (mkF m 34 #[.val (.int p1), .val (.int (2 : Int32)), .unset, .unset, .unset, .unset, .unset] [(.int (2 : Int32)), (.int (2 : Int32))])) _
    refine XS.icmpNo X0.here hx rfl (hb hby at_34) rfl (by decide) ?_
    show Steps p.tables e below (s₁.setTop (mkF m 37 #[.val (.int p1), .val (.int (2 : Int32)), .unset, .unset, .unset, .unset, .unset] [])) _
    refine st1 _ ?_
    show Steps p.tables e below (T1.setTop (mkF m 40 #[.val (.int p1), .val (.int (2 : Int32)), .unset, .unset, .unset, .unset, .unset] [(.ref w3)])) _
    refine XS.astoreN X1.here hx rfl (hb hby at_40) rfl rfl (l' := #[.val (.int p1), .val (.int (2 : Int32)), .val (.ref w3), .unset, .unset, .unset, .unset]) rfl ?_
    show Steps p.tables e below (T1.setTop (mkF m 41 #[.val (.int p1), .val (.int (2 : Int32)), .val (.ref w3), .unset, .unset, .unset, .unset] [])) _
    refine XS.iconst X1.here hx rfl (hb hby at_41) ?_
    show Steps p.tables e below (T1.setTop (mkF m 42 #[.val (.int p1), .val (.int (2 : Int32)), .val (.ref w3), .unset, .unset, .unset, .unset] [(.int (1 : Int32))])) _
    refine XS.istoreN X1.here hx rfl (hb hby at_42) rfl (l' := #[.val (.int p1), .val (.int (2 : Int32)), .val (.ref w3), .val (.int (1 : Int32)), .unset, .unset, .unset]) rfl ?_
    show Steps p.tables e below (T1.setTop (mkF m 43 #[.val (.int p1), .val (.int (2 : Int32)), .val (.ref w3), .val (.int (1 : Int32)), .unset, .unset, .unset] [])) _
    refine XS.goto X1.here hx rfl (pc0 := 43) (pc' := 109) rfl (hb hby at_43) (by decide) (by decide) ?_
    show Steps p.tables e below (T1.setTop (mkF m 109 #[.val (.int p1), .val (.int (2 : Int32)), .val (.ref w3), .val (.int (1 : Int32)), .unset, .unset, .unset] [])) _
    refine XS.aloadN X1.here hx rfl (hb hby at_109) rfl rfl ?_
    show Steps p.tables e below (T1.setTop (mkF m 110 #[.val (.int p1), .val (.int (2 : Int32)), .val (.ref w3), .val (.int (1 : Int32)), .unset, .unset, .unset] [(.ref w3)])) _
    refine st2.trans ?_
    show Steps p.tables e below (T2.setTop (mkF m 113 #[.val (.int p1), .val (.int (2 : Int32)), .val (.ref w3), .val (.int (1 : Int32)), .unset, .unset, .unset] [(.int (1 : Int32))])) _
    refine XS.istore X2.here hx rfl (hb hby at_113) rfl (l' := #[.val (.int p1), .val (.int (2 : Int32)), .val (.ref w3), .val (.int (1 : Int32)), .val (.int (1 : Int32)), .unset, .unset]) rfl ?_
    show Steps p.tables e below (T2.setTop (mkF m 115 #[.val (.int p1), .val (.int (2 : Int32)), .val (.ref w3), .val (.int (1 : Int32)), .val (.int (1 : Int32)), .unset, .unset] [])) _
    refine XS.aloadN X2.here hx rfl (hb hby at_115) rfl rfl ?_
    show Steps p.tables e below (T2.setTop (mkF m 116 #[.val (.int p1), .val (.int (2 : Int32)), .val (.ref w3), .val (.int (1 : Int32)), .val (.int (1 : Int32)), .unset, .unset] [(.ref w3)])) _
    refine st3.trans ?_
    show Steps p.tables e below (T3.setTop (mkF m 119 #[.val (.int p1), .val (.int (2 : Int32)), .val (.ref w3), .val (.int (1 : Int32)), .val (.int (1 : Int32)), .unset, .unset] [(.ref w1)])) _
    refine XS.astore X3.here hx rfl (hb hby at_119) rfl rfl (l' := #[.val (.int p1), .val (.int (2 : Int32)), .val (.ref w3), .val (.int (1 : Int32)), .val (.int (1 : Int32)), .val (.ref w1), .unset]) rfl ?_
    show Steps p.tables e below (T3.setTop (mkF m 121 #[.val (.int p1), .val (.int (2 : Int32)), .val (.ref w3), .val (.int (1 : Int32)), .val (.int (1 : Int32)), .val (.ref w1), .unset] [])) _
    refine XS.aload X3.here hx rfl (hb hby at_121) rfl rfl ?_
    show Steps p.tables e below (T3.setTop (mkF m 123 #[.val (.int p1), .val (.int (2 : Int32)), .val (.ref w3), .val (.int (1 : Int32)), .val (.int (1 : Int32)), .val (.ref w1), .unset] [(.ref w1)])) _
    refine st4 _ ?_
    show Steps p.tables e below (T4.setTop (mkF m 126 #[.val (.int p1), .val (.int (2 : Int32)), .val (.ref w3), .val (.int (1 : Int32)), .val (.int (1 : Int32)), .val (.ref w1), .unset] [(.ref w1), (.ref w1)])) _
    refine Jvm.RoadKit.acmp (g := (mkF m 126 #[.val (.int p1), .val (.int (2 : Int32)), .val (.ref w3), .val (.int (1 : Int32)), .val (.int (1 : Int32)), .val (.ref w1), .unset] [(.ref w1), (.ref w1)])) X4 hx rfl rfl rfl (pc0 := 126) (pc' := 137) (same := true) rfl (hb hby at_126) rfl (decide_eq_true rfl) (by decide) (by decide) ?_
    show Steps p.tables e below (T4.setTop (mkF m 137 #[.val (.int p1), .val (.int (2 : Int32)), .val (.ref w3), .val (.int (1 : Int32)), .val (.int (1 : Int32)), .val (.ref w1), .unset] [])) _
    refine XS.iconst X4.here hx rfl (hb hby at_137) ?_
    show Steps p.tables e below (T4.setTop (mkF m 138 #[.val (.int p1), .val (.int (2 : Int32)), .val (.ref w3), .val (.int (1 : Int32)), .val (.int (1 : Int32)), .val (.ref w1), .unset] [(.int (1 : Int32))])) _
    refine XS.goto X4.here hx rfl (pc0 := 138) (pc' := 142) rfl (hb hby at_138) (by decide) (by decide) ?_
    show Steps p.tables e below (T4.setTop (mkF m 142 #[.val (.int p1), .val (.int (2 : Int32)), .val (.ref w3), .val (.int (1 : Int32)), .val (.int (1 : Int32)), .val (.ref w1), .unset] [(.int (1 : Int32))])) _
    refine XS.istore X4.here hx rfl (hb hby at_142) rfl (l' := #[.val (.int p1), .val (.int (2 : Int32)), .val (.ref w3), .val (.int (1 : Int32)), .val (.int (1 : Int32)), .val (.ref w1), .val (.int (1 : Int32))]) rfl ?_
    show Steps p.tables e below (T4.setTop (mkF m 144 #[.val (.int p1), .val (.int (2 : Int32)), .val (.ref w3), .val (.int (1 : Int32)), .val (.int (1 : Int32)), .val (.ref w1), .val (.int (1 : Int32))] [])) _
    refine XS.iload X4.here hx rfl (hb hby at_144) rfl ?_
    show Steps p.tables e below (T4.setTop (mkF m 146 #[.val (.int p1), .val (.int (2 : Int32)), .val (.ref w3), .val (.int (1 : Int32)), .val (.int (1 : Int32)), .val (.ref w1), .val (.int (1 : Int32))] [(.int (1 : Int32))])) _
    refine XS.iloadN X4.here hx rfl (hb hby at_146) rfl ?_
    show Steps p.tables e below (T4.setTop (mkF m 147 #[.val (.int p1), .val (.int (2 : Int32)), .val (.ref w3), .val (.int (1 : Int32)), .val (.int (1 : Int32)), .val (.ref w1), .val (.int (1 : Int32))] [(.int (1 : Int32)), (.int (1 : Int32))])) _
    refine XS.icmpNo X4.here hx rfl (hb hby at_147) rfl (by decide) ?_
    show Steps p.tables e below (T4.setTop (mkF m 150 #[.val (.int p1), .val (.int (2 : Int32)), .val (.ref w3), .val (.int (1 : Int32)), .val (.int (1 : Int32)), .val (.ref w1), .val (.int (1 : Int32))] [])) _
    refine XS.iload X4.here hx rfl (hb hby at_150) rfl ?_
    show Steps p.tables e below (T4.setTop (mkF m 152 #[.val (.int p1), .val (.int (2 : Int32)), .val (.ref w3), .val (.int (1 : Int32)), .val (.int (1 : Int32)), .val (.ref w1), .val (.int (1 : Int32))] [(.int (1 : Int32))])) _
    refine XS.ifNo X4.here hx rfl (hb hby at_152) rfl (by decide) ?_
    show Steps p.tables e below (T4.setTop (mkF m 155 #[.val (.int p1), .val (.int (2 : Int32)), .val (.ref w3), .val (.int (1 : Int32)), .val (.int (1 : Int32)), .val (.ref w1), .val (.int (1 : Int32))] [])) _
    refine XS.iload X4.here hx rfl (hb hby at_155) rfl ?_
    show Steps p.tables e below (T4.setTop (mkF m 157 #[.val (.int p1), .val (.int (2 : Int32)), .val (.ref w3), .val (.int (1 : Int32)), .val (.int (1 : Int32)), .val (.ref w1), .val (.int (1 : Int32))] [(.int (1 : Int32))])) _
    refine XS.ifNo X4.here hx rfl (hb hby at_157) rfl (by decide) ?_
    show Steps p.tables e below (T4.setTop (mkF m 160 #[.val (.int p1), .val (.int (2 : Int32)), .val (.ref w3), .val (.int (1 : Int32)), .val (.int (1 : Int32)), .val (.ref w1), .val (.int (1 : Int32))] [])) _
    refine XS.iconst X4.here hx rfl (hb hby at_160) ?_
    show Steps p.tables e below (T4.setTop (mkF m 161 #[.val (.int p1), .val (.int (2 : Int32)), .val (.ref w3), .val (.int (1 : Int32)), .val (.int (1 : Int32)), .val (.ref w1), .val (.int (1 : Int32))] [(.int (1 : Int32))])) _
    refine XS.goto X4.here hx rfl (pc0 := 161) (pc' := 165) rfl (hb hby at_161) (by decide) (by decide) ?_
    show Steps p.tables e below (T4.setTop (mkF m 165 #[.val (.int p1), .val (.int (2 : Int32)), .val (.ref w3), .val (.int (1 : Int32)), .val (.int (1 : Int32)), .val (.ref w1), .val (.int (1 : Int32))] [(.int (1 : Int32))])) _
    exact retN X4 hx (t := .boolean) Bd.returns (by simp) (hb hby at_165) hr
  · exact ⟨rfl, N3⟩
set_option maxRecDepth 65536 in
set_option maxHeartbeats 40000000 in
theorem own_givesValue_3 (l : Launch) (Z : State) (a0 : Array Value) (hw : ∀ d ∈ tables_1, d.before a0 Z = true) (ws : List Jvm.Cond) (w0 : Addr) (w1 : Addr) (w2 : Addr) (w3 : Addr) (w4 : Addr) (w5 : Addr) (w6 : Addr) (w7 : Addr) (w8 : Addr) (w9 : Addr) (w10 : Addr) (w11 : Addr) (h0 : Heap) (n0 : Nat) (Z0 : n0 ≤ h0.size) (K : own_Know Z h0 w0 w1 w2 w3 w4 w5 w6 w7 w8 w9 w10 w11) :
    MetFree l (⟨"com/example/isolatch/isolatch/cli/Operation", "givesValue", "()Z"⟩ : MethodName) (head1 (Jvm.Cond.code (⟨"com/example/isolatch/isolatch/cli/Operation", "givesValue", "()Z"⟩ : MethodName) prog_35_method_7_code 1 (some .boolean) :: ws) ({ frames := 0, cells := 0, slots := 0, locals := 0 } : Room)) (fun a U => a = #[(.ref w2)] ∧ Z.Warmed39 U.vm ∧ U.heap = h0) (fun _ _ _ _ _ => True) (fun _ U o U' => ∃ v L, o = .returned v ∧ own_Q (some (.int (1 : Int32))) h0 n0 v U'.heap L ∧ FrameEnd U o U' L ({ frames := 0, cells := 0, slots := 0, locals := 0 } : Room).cells ({ frames := 0, cells := 0, slots := 0, locals := 0 } : Room).slots) := by
  obtain ⟨S0, E0, S1, E1, S2, E2, S3, E3, S4, E4, S5, E5, S6, E6, S7, E7, S8, E8, S9, E9, S10, E10, S11, E11, F0_shape, O2, O0, O3, F2_shape, O4, O1, O5, F5_shape, O6, O7, F7_shape, F3_shape, O8, F8_shape, O9, O10, F10_shape, O11, F11_shape⟩ := id K
  refine MetFree.of_bodySF (plainFor_of_name own_pn_givesValue) hisR ?_
  intro p e s m args below meth c s₁ Bd hml0 hP hK
  obtain ⟨rfl, hZ, hh⟩ := hP
  have hx := Bd.exec
  have hby := Bd.bytes
  have hml : c.maxLocals = 1 := hml0
  have hown : s.vm.findClass "com/example/isolatch/isolatch/cli/Operation" = some m.cls := findClass_of_methodNamed Bd.named
  have X0 : Stand p l e ({ frames := 0, cells := 0, slots := 0, locals := 0 } : Room) s m #[(.ref w2)] below meth c s₁ [] 0 0 := Stand.of_body Bd
  have e0 : s₁.heap = h0 := by rw [← hh, Bd.state]; rfl
  have N0 := Fr.nil n0
  have pre0 : ∀ t, Steps p.tables e below (s₁.setTop (mkF m 0 #[.val (.ref w2)] [])) t → Steps p.tables e below (s₁.setTop (entryFrame m #[(.ref w2)] 1)) t := fun t k => castTop (own_ef_givesValue m w2) k
  obtain ⟨T1, X1, e1, st1⟩ := getS2 X0 hx hZ hown (host := "") (Or.inl (hw _ (List.mem_of_getElem? (i := 8) rfl))) Via.refl e0 S0 (g := (mkF m 1 #[.val (.ref w2)] [(.ref w2)])) rfl (hb hby d_givesValue_1)
  obtain ⟨T2, X2, e2, st2⟩ := getS2 X1 hx hZ hown (host := "") (Or.inl (hw _ (List.mem_of_getElem? (i := 21) rfl))) Via.refl e1 S3 (g := (mkF m 8 #[.val (.ref w2)] [(.ref w2)])) rfl (hb hby d_givesValue_8)
  obtain ⟨T3, X3, e3, st3⟩ := getS2 X2 hx hZ hown (host := "") (Or.inl (hw _ (List.mem_of_getElem? (i := 23) rfl))) Via.refl e2 S2 (g := (mkF m 15 #[.val (.ref w2)] [(.ref w2)])) rfl (hb hby d_givesValue_15)
  obtain ⟨fs, hr, hrun, hended, hW, hsame⟩ := X3.leave (v := some (.int (1 : Int32))) (fun h => by rw [Bd.returns] at h; cases h)
  refine ⟨_, _, pre0 _ ?_, hrun, hended, _, _, rfl, ?_, ⟨_, rfl⟩, hW, hsame.mono (by decide) (by decide)⟩
  · show Steps p.tables e below (s₁.setTop (mkF m 0 #[.val (.ref w2)] [])) _
    refine XS.aloadN X0.here hx rfl (hb hby d_givesValue_0) rfl rfl ?_
    show Steps p.tables e below (s₁.setTop (mkF m 1 #[.val (.ref w2)] [(.ref w2)])) _
    refine st1 _ ?_
    show Steps p.tables e below (T1.setTop (mkF m 4 #[.val (.ref w2)] [(.ref w0), (.ref w2)])) _
    refine Jvm.RoadKit.acmp (g := (mkF m 4 #[.val (.ref w2)] [(.ref w0), (.ref w2)])) X1 hx rfl rfl rfl (pc0 := 4) (pc' := 7) (same := false) rfl (hb hby d_givesValue_4) rfl (decide_eq_false (fun z => (Fld.ne O2 O0 (by decide)) (Value.ref.inj z))) (by decide) (by decide) ?_
    show Steps p.tables e below (T1.setTop (mkF m 7 #[.val (.ref w2)] [])) _
    refine XS.aloadN X1.here hx rfl (hb hby d_givesValue_7) rfl rfl ?_
    show Steps p.tables e below (T1.setTop (mkF m 8 #[.val (.ref w2)] [(.ref w2)])) _
    refine st2 _ ?_
    show Steps p.tables e below (T2.setTop (mkF m 11 #[.val (.ref w2)] [(.ref w3), (.ref w2)])) _
    refine Jvm.RoadKit.acmp (g := (mkF m 11 #[.val (.ref w2)] [(.ref w3), (.ref w2)])) X2 hx rfl rfl rfl (pc0 := 11) (pc' := 14) (same := false) rfl (hb hby d_givesValue_11) rfl (decide_eq_false (fun z => (Fld.ne O2 O3 (by decide)) (Value.ref.inj z))) (by decide) (by decide) ?_
    show Steps p.tables e below (T2.setTop (mkF m 14 #[.val (.ref w2)] [])) _
    refine XS.aloadN X2.here hx rfl (hb hby d_givesValue_14) rfl rfl ?_
    show Steps p.tables e below (T2.setTop (mkF m 15 #[.val (.ref w2)] [(.ref w2)])) _
    refine st3 _ ?_
    show Steps p.tables e below (T3.setTop (mkF m 18 #[.val (.ref w2)] [(.ref w2), (.ref w2)])) _
    refine Jvm.RoadKit.acmp (g := (mkF m 18 #[.val (.ref w2)] [(.ref w2), (.ref w2)])) X3 hx rfl rfl rfl (pc0 := 18) (pc' := 21) (same := true) rfl (hb hby d_givesValue_18) rfl (decide_eq_true rfl) (by decide) (by decide) ?_
    show Steps p.tables e below (T3.setTop (mkF m 21 #[.val (.ref w2)] [])) _
    refine XS.iconst X3.here hx rfl (hb hby d_givesValue_21) ?_
    show Steps p.tables e below (T3.setTop (mkF m 22 #[.val (.ref w2)] [(.int (1 : Int32))])) _
    refine XS.goto X3.here hx rfl (pc0 := 22) (pc' := 26) rfl (hb hby d_givesValue_22) (by decide) (by decide) ?_
    show Steps p.tables e below (T3.setTop (mkF m 26 #[.val (.ref w2)] [(.int (1 : Int32))])) _
    exact retN X3 hx (t := .boolean) Bd.returns (by simp) (hb hby d_givesValue_26) hr
  · show own_Q _ h0 n0 _ T3.heap _
    rw [e3]
    exact ⟨rfl, N0, rfl⟩
set_option maxRecDepth 65536 in
set_option maxHeartbeats 40000000 in
theorem own_getShape_3 (l : Launch) (Z : State) (a0 : Array Value) (hw : ∀ d ∈ tables_1, d.before a0 Z = true) (ws : List Jvm.Cond) (w0 : Addr) (w1 : Addr) (w2 : Addr) (w3 : Addr) (w4 : Addr) (w5 : Addr) (w6 : Addr) (w7 : Addr) (w8 : Addr) (w9 : Addr) (w10 : Addr) (w11 : Addr) (h0 : Heap) (n0 : Nat) (Z0 : n0 ≤ h0.size) (K : own_Know Z h0 w0 w1 w2 w3 w4 w5 w6 w7 w8 w9 w10 w11) :
    MetFree l (⟨"com/example/isolatch/isolatch/cli/Operation", "getShape", "()Lcom/example/isolatch/isolatch/cli/Operation$Shape;"⟩ : MethodName) (head1 (Jvm.Cond.code (⟨"com/example/isolatch/isolatch/cli/Operation", "getShape", "()Lcom/example/isolatch/isolatch/cli/Operation$Shape;"⟩ : MethodName) prog_35_method_6_code 1 (some (.object "com/example/isolatch/isolatch/cli/Operation$Shape")) :: ws) ({ frames := 0, cells := 0, slots := 0, locals := 0 } : Room)) (fun a U => a = #[(.ref w2)] ∧ Z.Warmed39 U.vm ∧ U.heap = h0) (fun _ _ _ _ _ => True) (fun _ U o U' => ∃ v L, o = .returned v ∧ own_Q (some (.ref w4)) h0 n0 v U'.heap L ∧ FrameEnd U o U' L ({ frames := 0, cells := 0, slots := 0, locals := 0 } : Room).cells ({ frames := 0, cells := 0, slots := 0, locals := 0 } : Room).slots) := by
  obtain ⟨S0, E0, S1, E1, S2, E2, S3, E3, S4, E4, S5, E5, S6, E6, S7, E7, S8, E8, S9, E9, S10, E10, S11, E11, F0_shape, O2, O0, O3, F2_shape, O4, O1, O5, F5_shape, O6, O7, F7_shape, F3_shape, O8, F8_shape, O9, O10, F10_shape, O11, F11_shape⟩ := id K
  refine MetFree.of_bodySF (plainFor_of_name own_pn_getShape) hisR ?_
  intro p e s m args below meth c s₁ Bd hml0 hP hK
  obtain ⟨rfl, hZ, hh⟩ := hP
  have hx := Bd.exec
  have hby := Bd.bytes
  have hml : c.maxLocals = 1 := hml0
  have hown : s.vm.findClass "com/example/isolatch/isolatch/cli/Operation" = some m.cls := findClass_of_methodNamed Bd.named
  have X0 : Stand p l e ({ frames := 0, cells := 0, slots := 0, locals := 0 } : Room) s m #[(.ref w2)] below meth c s₁ [] 0 0 := Stand.of_body Bd
  have e0 : s₁.heap = h0 := by rw [← hh, Bd.state]; rfl
  have N0 := Fr.nil n0
  have pre0 : ∀ t, Steps p.tables e below (s₁.setTop (mkF m 0 #[.val (.ref w2)] [])) t → Steps p.tables e below (s₁.setTop (entryFrame m #[(.ref w2)] 1)) t := fun t k => castTop (own_ef_getShape m w2) k
  obtain ⟨T1, X1, e1, st1⟩ := getF X0 hx hZ hown (host := "") (Or.inl (hw _ (List.mem_of_getElem? (i := 14) rfl))) Via.refl e0 F2_shape (g := (mkF m 1 #[.val (.ref w2)] [(.ref w2)])) rfl rfl (hb hby d_getShape_1)
  obtain ⟨fs, hr, hrun, hended, hW, hsame⟩ := X1.leave (v := some (.ref w4)) (fun h => by rw [Bd.returns] at h; cases h)
  refine ⟨_, _, pre0 _ ?_, hrun, hended, _, _, rfl, ?_, ⟨_, rfl⟩, hW, hsame.mono (by decide) (by decide)⟩
  · show Steps p.tables e below (s₁.setTop (mkF m 0 #[.val (.ref w2)] [])) _
    refine XS.aloadN X0.here hx rfl (hb hby d_getShape_0) rfl rfl ?_
    show Steps p.tables e below (s₁.setTop (mkF m 1 #[.val (.ref w2)] [(.ref w2)])) _
    refine st1 _ ?_
    show Steps p.tables e below (T1.setTop (mkF m 4 #[.val (.ref w2)] [(.ref w4)])) _
    jvm_step X1.here [X1.here.top, hx, (hb hby d_getShape_4), X1.method', Bd.returns, Value.isRef, FieldType.isReference]
    first | (intro acts; rw [hr _ acts rfl rfl rfl]) | rw [hr _ _ rfl rfl rfl]
    exact Steps.refl _
  · show own_Q _ h0 n0 _ T1.heap _
    rw [e1]
    exact ⟨rfl, N0, rfl⟩
set_option maxRecDepth 65536 in
set_option maxHeartbeats 40000000 in
theorem own_law_3 (l : Launch) (Z : State) (a0 : Array Value) (hw : ∀ d ∈ tables_1, d.before a0 Z = true) (ws : List Jvm.Cond) (w0 : Addr) (w1 : Addr) (w2 : Addr) (w3 : Addr) (w4 : Addr) (w5 : Addr) (w6 : Addr) (w7 : Addr) (w8 : Addr) (w9 : Addr) (w10 : Addr) (w11 : Addr) (h0 : Heap) (n0 : Nat) (Z0 : n0 ≤ h0.size) (K : own_Know Z h0 w0 w1 w2 w3 w4 w5 w6 w7 w8 w9 w10 w11) (p1 : Int32) (hi : (p1 &&& (7 : Int32)) = (3 : Int32)) :
    MetFree l x (head1 (Jvm.Cond.code x code maxLocals ret :: ws) room_1) (fun a U => a = #[(.int p1)] ∧ Z.Warmed39 U.vm ∧ U.heap = h0) (fun _ _ _ _ _ => True) (fun _ U o U' => ∃ v L, o = .returned v ∧ own_QL n0 v L ∧ FrameEnd U o U' L room_1.cells room_1.slots) := by
  obtain ⟨S0, E0, S1, E1, S2, E2, S3, E3, S4, E4, S5, E5, S6, E6, S7, E7, S8, E8, S9, E9, S10, E10, S11, E11, F0_shape, O2, O0, O3, F2_shape, O4, O1, O5, F5_shape, O6, O7, F7_shape, F3_shape, O8, F8_shape, O9, O10, F10_shape, O11, F11_shape⟩ := id K
  refine MetFree.of_bodySF (plainFor_of_name own_pn_law) hisR ?_
  intro p e s m args below meth c s₁ Bd hml0 hP hK
  obtain ⟨rfl, hZ, hh⟩ := hP
  have hx := Bd.exec
  have hby := Bd.bytes
  have hml : c.maxLocals = 7 := hml0
  have hown : s.vm.findClass "com/example/isolatch/isolatch/cli/OperationGivesValuePinLaw" = some m.cls := findClass_of_methodNamed Bd.named
  have X0 : Stand p l e room_1 s m #[(.int p1)] below meth c s₁ [] 0 0 := Stand.of_body Bd
  have e0 : s₁.heap = h0 := by rw [← hh, Bd.state]; rfl
  have N0 := Fr.nil n0
  have pre0 : ∀ t, Steps p.tables e below (s₁.setTop (mkF m 0 #[.val (.int p1), .unset, .unset, .unset, .unset, .unset, .unset] [])) t → Steps p.tables e below (s₁.setTop (entryFrame m #[(.int p1)] maxLocals)) t := fun t k => castTop (own_ef_law m p1) k
  obtain ⟨T1, X1, e1, st1⟩ := getS2 X0 hx hZ hown (host := "") (Or.inl (hw _ (List.mem_of_getElem? (i := 19) rfl))) Via.refl e0 S2 (g := (mkF m 51 #[.val (.int p1), .val (.int (3 : Int32)), .unset, .unset, .unset, .unset, .unset] [])) rfl (hb hby at_51)
  obtain ⟨cq2, kq2, q2a, q2b, q2c⟩ := isOf hZ e1 E2
  obtain ⟨_, _, ⟨T2, L2, k2, n2⟩, -, X2, ⟨Lc2, hQ2, l2, y2, z2⟩, st2⟩ := X1.virtualBack hx (y := (⟨"com/example/isolatch/isolatch/cli/Operation", "givesValue", "()Z"⟩ : MethodName)) (z := (⟨"com/example/isolatch/isolatch/cli/Operation", "givesValue", "()Z"⟩ : MethodName)) hown (mvT hZ (hw _ (List.mem_of_getElem? (i := 3) rfl))) (mvT hZ (hw _ (List.mem_of_getElem? (i := 4) rfl))) (notFace_of_selects (args := #[]) (mvT hZ (hw _ (List.mem_of_getElem? (i := 6) rfl)))) (mvT hZ (hw _ (List.mem_of_getElem? (i := 6) rfl))) (mvT hZ (hw _ (List.mem_of_getElem? (i := 5) rfl))) (by decide) (backOf (W := 0) (own_givesValue_3 l Z a0 hw [] w0 w1 w2 w3 w4 w5 w6 w7 w8 w9 w10 w11 h0 n0 Z0 K) hZ (hw _ (List.mem_of_getElem? (i := 7) rfl)) (hw _ (List.mem_of_getElem? (i := 1) rfl)) (by decide) (by decide)) q2a q2c (g := (mkF m 110 #[.val (.int p1), .val (.int (3 : Int32)), .val (.ref w2), .val (.int (1 : Int32)), .unset, .unset, .unset] [(.ref w2)])) rfl (by rw [hml]; rfl) (Steps.refl _) (argsL := []) (rest := []) (lenOf own_pd0 rfl) rfl (by show 2 * 0 + _ ≤ _; exact Nat.le_of_eq rfl) (hb hby at_110) (fun _ _ => ⟨rfl, e1, (by decide : 0 + 0 ≤ _), (by decide : 0 + 0 ≤ _)⟩)
  dsimp only [Pt.U, Pt.locs, Pt.cells, Pt.slots] at X2 l2 y2 z2 st2 hQ2
  subst l2 y2 z2
  obtain ⟨rfl, N2q, e2⟩ := hQ2
  have N2 := Fr.app N0 N2q
  obtain ⟨cq3, kq3, q3a, q3b, q3c⟩ := isOf hZ e2 E2
  obtain ⟨_, _, ⟨T3, L3, k3, n3⟩, -, X3, ⟨Lc3, hQ3, l3, y3, z3⟩, st3⟩ := X2.virtualBack hx (y := (⟨"com/example/isolatch/isolatch/cli/Operation", "getShape", "()Lcom/example/isolatch/isolatch/cli/Operation$Shape;"⟩ : MethodName)) (z := (⟨"com/example/isolatch/isolatch/cli/Operation", "getShape", "()Lcom/example/isolatch/isolatch/cli/Operation$Shape;"⟩ : MethodName)) hown (mvT hZ (hw _ (List.mem_of_getElem? (i := 9) rfl))) (mvT hZ (hw _ (List.mem_of_getElem? (i := 10) rfl))) (notFace_of_selects (args := #[]) (mvT hZ (hw _ (List.mem_of_getElem? (i := 12) rfl)))) (mvT hZ (hw _ (List.mem_of_getElem? (i := 12) rfl))) (mvT hZ (hw _ (List.mem_of_getElem? (i := 11) rfl))) (by decide) (backOf (W := 0) (own_getShape_3 l Z a0 hw [] w0 w1 w2 w3 w4 w5 w6 w7 w8 w9 w10 w11 h0 n0 Z0 K) hZ (hw _ (List.mem_of_getElem? (i := 13) rfl)) (hw _ (List.mem_of_getElem? (i := 1) rfl)) (by decide) (by decide)) q3a q3c (g := (mkF m 116 #[.val (.int p1), .val (.int (3 : Int32)), .val (.ref w2), .val (.int (1 : Int32)), .val (.int (1 : Int32)), .unset, .unset] [(.ref w2)])) rfl (by rw [hml]; rfl) (Steps.refl _) (argsL := []) (rest := []) (lenOf own_pd1 rfl) rfl (by show 2 * 0 + _ ≤ _; exact Nat.le_of_eq rfl) (hb hby at_116) (fun _ _ => ⟨rfl, e2, (by decide : 0 + 0 ≤ _), (by decide : 0 + 0 ≤ _)⟩)
  dsimp only [Pt.U, Pt.locs, Pt.cells, Pt.slots] at X3 l3 y3 z3 st3 hQ3
  subst l3 y3 z3
  obtain ⟨rfl, N3q, e3⟩ := hQ3
  have N3 := Fr.app N2 N3q
  obtain ⟨T4, X4, e4, st4⟩ := getS2 X3 hx hZ hown (host := "") (Or.inl (hw _ (List.mem_of_getElem? (i := 18) rfl))) Via.refl e3 S1 (g := (mkF m 123 #[.val (.int p1), .val (.int (3 : Int32)), .val (.ref w2), .val (.int (1 : Int32)), .val (.int (1 : Int32)), .val (.ref w4), .unset] [(.ref w4)])) rfl (hb hby at_123)
  obtain ⟨T5, X5, e5, st5⟩ := getS2 X4 hx hZ hown (host := "") (Or.inl (hw _ (List.mem_of_getElem? (i := 25) rfl))) Via.refl e4 S4 (g := (mkF m 131 #[.val (.int p1), .val (.int (3 : Int32)), .val (.ref w2), .val (.int (1 : Int32)), .val (.int (1 : Int32)), .val (.ref w4), .unset] [(.ref w4)])) rfl (hb hby at_131)
  obtain ⟨fs, hr, hrun, hended, hW, hsame⟩ := X5.leave (v := some (.int (1 : Int32))) (fun h => by rw [Bd.returns] at h; cases h)
  refine ⟨_, _, pre0 _ ?_, hrun, hended, _, _, rfl, ?_, ⟨_, rfl⟩, hW, hsame.mono (by decide) (by decide)⟩
  · show Steps p.tables e below (s₁.setTop (mkF m 0 #[.val (.int p1), .unset, .unset, .unset, .unset, .unset, .unset] [])) _
    refine XS.iloadN X0.here hx rfl (hb hby at_0) rfl ?_
    show Steps p.tables e below (s₁.setTop (mkF m 1 #[.val (.int p1), .unset, .unset, .unset, .unset, .unset, .unset] [(.int p1)])) _
    refine XS.bipush X0.here hx rfl (hb hby at_1) ?_
    show Steps p.tables e below (s₁.setTop (mkF m 3 #[.val (.int p1), .unset, .unset, .unset, .unset, .unset, .unset] [(.int (7 : Int32)), (.int p1)])) _
    refine XS.iand X0.here hx rfl (hb hby at_3) rfl ?_
    show Steps p.tables e below (s₁.setTop (mkF m 4 #[.val (.int p1), .unset, .unset, .unset, .unset, .unset, .unset] [(.int (p1 &&& (7 : Int32)))])) _
    rw [hi]
    show Steps p.tables e below (s₁.setTop (mkF m 4 #[.val (.int p1), .unset, .unset, .unset, .unset, .unset, .unset] [(.int (3 : Int32))])) _
    refine XS.istoreN X0.here hx rfl (hb hby at_4) rfl (l' := #[.val (.int p1), .val (.int (3 : Int32)), .unset, .unset, .unset, .unset, .unset]) rfl ?_
    show Steps p.tables e below (s₁.setTop (mkF m 5 #[.val (.int p1), .val (.int (3 : Int32)), .unset, .unset, .unset, .unset, .unset] [])) _
    refine XS.iloadN X0.here hx rfl (hb hby at_5) rfl ?_
    show Steps p.tables e below (s₁.setTop (mkF m 6 #[.val (.int p1), .val (.int (3 : Int32)), .unset, .unset, .unset, .unset, .unset] [(.int (3 : Int32))])) _
    refine XS.ifYes X0.here hx rfl (pc0 := 6) (pc' := 18) rfl (hb hby at_6) rfl (by decide) (by decide) (by decide) ?_
    show Steps p.tables e below (s₁.setTop (mkF m 18 #[.val (.int p1), .val (.int (3 : Int32)), .unset, .unset, .unset, .unset, .unset] [])) _
    refine XS.iloadN X0.here hx rfl (hb hby at_18) rfl ?_
    show Steps p.tables e below (s₁.setTop (mkF m 19 #[.val (.int p1), .val (.int (3 : Int32)), .unset, .unset, .unset, .unset, .unset] [(.int (3 : Int32))])) _
    refine XS.iconst X0.here hx rfl (hb hby at_19) ?_
    show Steps p.tables e below (s₁.setTop (mkF m 20 #[.val (.int p1), .val (.int (3 : Int32)), .unset, .unset, .unset, .unset, .unset] [(.int (1 : Int32)), (.int (3 : Int32))])) _
    refine XS.icmpYes X0.here hx rfl (pc0 := 20) (pc' := 32) rfl (hb hby at_20) rfl (by decide) (by decide) (by decide) ?_
    show Steps p.tables e below (s₁.setTop (mkF m 32 #[.val (.int p1), .val (.int (3 : Int32)), .unset, .unset, .unset, .unset, .unset] [])) _
    refine XS.iloadN X0.here hx rfl (hb hby at_32) rfl ?_
    show Steps p.tables e below (s₁.setTop (mkF m 33 #[.val (.int p1), .val (.int (3 : Int32)), .unset, .unset, .unset, .unset, .unset] [(.int (3 : Int32))])) _
    refine XS.iconst X0.here hx rfl (hb hby at_33) ?_
    show Steps p.tables e below (s₁.setTop (mkF m 34 #[.val (.int p1), .val (.int (3 : Int32)), .unset, .unset, .unset, .unset, .unset] [(.int (2 : Int32)), (.int (3 : Int32))])) _
    refine XS.icmpYes X0.here hx rfl (pc0 := 34) (pc' := 46) rfl (hb hby at_34) rfl (by decide) (by decide) (by decide) ?_
    show Steps p.tables e below (s₁.setTop (mkF m 46 #[.val (.int p1), .val (.int (3 : Int32)), .unset, .unset, .unset, .unset, .unset] [])) _
    refine XS.iloadN X0.here hx rfl (hb hby at_46) rfl ?_
    show Steps p.tables e below (s₁.setTop (mkF m 47 #[.val (.int p1), .val (.int (3 : Int32)), .unset, .unset, .unset, .unset, .unset] [(.int (3 : Int32))])) _
    refine XS.iconst X0.here hx rfl (hb hby at_47) ?_
    show Steps p.tables e below (s₁.setTop (mkF m 48 #[.val (.int p1), .val (.int (3 : Int32)), .unset, .unset, .unset, .unset, .unset] [(.int (3 : Int32)), (.int (3 : Int32))])) _
    refine XS.icmpNo X0.here hx rfl (hb hby at_48) rfl (by decide) ?_
    show Steps p.tables e below (s₁.setTop (mkF m 51 #[.val (.int p1), .val (.int (3 : Int32)), .unset, .unset, .unset, .unset, .unset] [])) _
    refine st1 _ ?_
    show Steps p.tables e below (T1.setTop (mkF m 54 #[.val (.int p1), .val (.int (3 : Int32)), .unset, .unset, .unset, .unset, .unset] [(.ref w2)])) _
    refine XS.astoreN X1.here hx rfl (hb hby at_54) rfl rfl (l' := #[.val (.int p1), .val (.int (3 : Int32)), .val (.ref w2), .unset, .unset, .unset, .unset]) rfl ?_
    show Steps p.tables e below (T1.setTop (mkF m 55 #[.val (.int p1), .val (.int (3 : Int32)), .val (.ref w2), .unset, .unset, .unset, .unset] [])) _
    refine XS.iconst X1.here hx rfl (hb hby at_55) ?_
    show Steps p.tables e below (T1.setTop (mkF m 56 #[.val (.int p1), .val (.int (3 : Int32)), .val (.ref w2), .unset, .unset, .unset, .unset] [(.int (1 : Int32))])) _
    refine XS.istoreN X1.here hx rfl (hb hby at_56) rfl (l' := #[.val (.int p1), .val (.int (3 : Int32)), .val (.ref w2), .val (.int (1 : Int32)), .unset, .unset, .unset]) rfl ?_
    show Steps p.tables e below (T1.setTop (mkF m 57 #[.val (.int p1), .val (.int (3 : Int32)), .val (.ref w2), .val (.int (1 : Int32)), .unset, .unset, .unset] [])) _
    refine XS.goto X1.here hx rfl (pc0 := 57) (pc' := 109) rfl (hb hby at_57) (by decide) (by decide) ?_
    show Steps p.tables e below (T1.setTop (mkF m 109 #[.val (.int p1), .val (.int (3 : Int32)), .val (.ref w2), .val (.int (1 : Int32)), .unset, .unset, .unset] [])) _
    refine XS.aloadN X1.here hx rfl (hb hby at_109) rfl rfl ?_
    show Steps p.tables e below (T1.setTop (mkF m 110 #[.val (.int p1), .val (.int (3 : Int32)), .val (.ref w2), .val (.int (1 : Int32)), .unset, .unset, .unset] [(.ref w2)])) _
    refine st2.trans ?_
    show Steps p.tables e below (T2.setTop (mkF m 113 #[.val (.int p1), .val (.int (3 : Int32)), .val (.ref w2), .val (.int (1 : Int32)), .unset, .unset, .unset] [(.int (1 : Int32))])) _
    refine XS.istore X2.here hx rfl (hb hby at_113) rfl (l' := #[.val (.int p1), .val (.int (3 : Int32)), .val (.ref w2), .val (.int (1 : Int32)), .val (.int (1 : Int32)), .unset, .unset]) rfl ?_
    show Steps p.tables e below (T2.setTop (mkF m 115 #[.val (.int p1), .val (.int (3 : Int32)), .val (.ref w2), .val (.int (1 : Int32)), .val (.int (1 : Int32)), .unset, .unset] [])) _
    refine XS.aloadN X2.here hx rfl (hb hby at_115) rfl rfl ?_
    show Steps p.tables e below (T2.setTop (mkF m 116 #[.val (.int p1), .val (.int (3 : Int32)), .val (.ref w2), .val (.int (1 : Int32)), .val (.int (1 : Int32)), .unset, .unset] [(.ref w2)])) _
    refine st3.trans ?_
    show Steps p.tables e below (T3.setTop (mkF m 119 #[.val (.int p1), .val (.int (3 : Int32)), .val (.ref w2), .val (.int (1 : Int32)), .val (.int (1 : Int32)), .unset, .unset] [(.ref w4)])) _
    refine XS.astore X3.here hx rfl (hb hby at_119) rfl rfl (l' := #[.val (.int p1), .val (.int (3 : Int32)), .val (.ref w2), .val (.int (1 : Int32)), .val (.int (1 : Int32)), .val (.ref w4), .unset]) rfl ?_
    show Steps p.tables e below (T3.setTop (mkF m 121 #[.val (.int p1), .val (.int (3 : Int32)), .val (.ref w2), .val (.int (1 : Int32)), .val (.int (1 : Int32)), .val (.ref w4), .unset] [])) _
    refine XS.aload X3.here hx rfl (hb hby at_121) rfl rfl ?_
    show Steps p.tables e below (T3.setTop (mkF m 123 #[.val (.int p1), .val (.int (3 : Int32)), .val (.ref w2), .val (.int (1 : Int32)), .val (.int (1 : Int32)), .val (.ref w4), .unset] [(.ref w4)])) _
    refine st4 _ ?_
    show Steps p.tables e below (T4.setTop (mkF m 126 #[.val (.int p1), .val (.int (3 : Int32)), .val (.ref w2), .val (.int (1 : Int32)), .val (.int (1 : Int32)), .val (.ref w4), .unset] [(.ref w1), (.ref w4)])) _
    refine Jvm.RoadKit.acmp (g := (mkF m 126 #[.val (.int p1), .val (.int (3 : Int32)), .val (.ref w2), .val (.int (1 : Int32)), .val (.int (1 : Int32)), .val (.ref w4), .unset] [(.ref w1), (.ref w4)])) X4 hx rfl rfl rfl (pc0 := 126) (pc' := 129) (same := false) rfl (hb hby at_126) rfl (decide_eq_false (fun z => (Fld.ne O4 O1 (by decide)) (Value.ref.inj z))) (by decide) (by decide) ?_
    show Steps p.tables e below (T4.setTop (mkF m 129 #[.val (.int p1), .val (.int (3 : Int32)), .val (.ref w2), .val (.int (1 : Int32)), .val (.int (1 : Int32)), .val (.ref w4), .unset] [])) _
    refine XS.aload X4.here hx rfl (hb hby at_129) rfl rfl ?_
    show Steps p.tables e below (T4.setTop (mkF m 131 #[.val (.int p1), .val (.int (3 : Int32)), .val (.ref w2), .val (.int (1 : Int32)), .val (.int (1 : Int32)), .val (.ref w4), .unset] [(.ref w4)])) _
    refine st5 _ ?_
    show Steps p.tables e below (T5.setTop (mkF m 134 #[.val (.int p1), .val (.int (3 : Int32)), .val (.ref w2), .val (.int (1 : Int32)), .val (.int (1 : Int32)), .val (.ref w4), .unset] [(.ref w4), (.ref w4)])) _
    refine Jvm.RoadKit.acmp (g := (mkF m 134 #[.val (.int p1), .val (.int (3 : Int32)), .val (.ref w2), .val (.int (1 : Int32)), .val (.int (1 : Int32)), .val (.ref w4), .unset] [(.ref w4), (.ref w4)])) X5 hx rfl rfl rfl (pc0 := 134) (pc' := 137) (same := true) rfl (hb hby at_134) rfl (decide_eq_true rfl) (by decide) (by decide) ?_
    show Steps p.tables e below (T5.setTop (mkF m 137 #[.val (.int p1), .val (.int (3 : Int32)), .val (.ref w2), .val (.int (1 : Int32)), .val (.int (1 : Int32)), .val (.ref w4), .unset] [])) _
    refine XS.iconst X5.here hx rfl (hb hby at_137) ?_
    show Steps p.tables e below (T5.setTop (mkF m 138 #[.val (.int p1), .val (.int (3 : Int32)), .val (.ref w2), .val (.int (1 : Int32)), .val (.int (1 : Int32)), .val (.ref w4), .unset] [(.int (1 : Int32))])) _
    refine XS.goto X5.here hx rfl (pc0 := 138) (pc' := 142) rfl (hb hby at_138) (by decide) (by decide) ?_
    show Steps p.tables e below (T5.setTop (mkF m 142 #[.val (.int p1), .val (.int (3 : Int32)), .val (.ref w2), .val (.int (1 : Int32)), .val (.int (1 : Int32)), .val (.ref w4), .unset] [(.int (1 : Int32))])) _
    refine XS.istore X5.here hx rfl (hb hby at_142) rfl (l' := #[.val (.int p1), .val (.int (3 : Int32)), .val (.ref w2), .val (.int (1 : Int32)), .val (.int (1 : Int32)), .val (.ref w4), .val (.int (1 : Int32))]) rfl ?_
    show Steps p.tables e below (T5.setTop (mkF m 144 #[.val (.int p1), .val (.int (3 : Int32)), .val (.ref w2), .val (.int (1 : Int32)), .val (.int (1 : Int32)), .val (.ref w4), .val (.int (1 : Int32))] [])) _
    refine XS.iload X5.here hx rfl (hb hby at_144) rfl ?_
    show Steps p.tables e below (T5.setTop (mkF m 146 #[.val (.int p1), .val (.int (3 : Int32)), .val (.ref w2), .val (.int (1 : Int32)), .val (.int (1 : Int32)), .val (.ref w4), .val (.int (1 : Int32))] [(.int (1 : Int32))])) _
    refine XS.iloadN X5.here hx rfl (hb hby at_146) rfl ?_
    show Steps p.tables e below (T5.setTop (mkF m 147 #[.val (.int p1), .val (.int (3 : Int32)), .val (.ref w2), .val (.int (1 : Int32)), .val (.int (1 : Int32)), .val (.ref w4), .val (.int (1 : Int32))] [(.int (1 : Int32)), (.int (1 : Int32))])) _
    refine XS.icmpNo X5.here hx rfl (hb hby at_147) rfl (by decide) ?_
    show Steps p.tables e below (T5.setTop (mkF m 150 #[.val (.int p1), .val (.int (3 : Int32)), .val (.ref w2), .val (.int (1 : Int32)), .val (.int (1 : Int32)), .val (.ref w4), .val (.int (1 : Int32))] [])) _
    refine XS.iload X5.here hx rfl (hb hby at_150) rfl ?_
    show Steps p.tables e below (T5.setTop (mkF m 152 #[.val (.int p1), .val (.int (3 : Int32)), .val (.ref w2), .val (.int (1 : Int32)), .val (.int (1 : Int32)), .val (.ref w4), .val (.int (1 : Int32))] [(.int (1 : Int32))])) _
    refine XS.ifNo X5.here hx rfl (hb hby at_152) rfl (by decide) ?_
    show Steps p.tables e below (T5.setTop (mkF m 155 #[.val (.int p1), .val (.int (3 : Int32)), .val (.ref w2), .val (.int (1 : Int32)), .val (.int (1 : Int32)), .val (.ref w4), .val (.int (1 : Int32))] [])) _
    refine XS.iload X5.here hx rfl (hb hby at_155) rfl ?_
    show Steps p.tables e below (T5.setTop (mkF m 157 #[.val (.int p1), .val (.int (3 : Int32)), .val (.ref w2), .val (.int (1 : Int32)), .val (.int (1 : Int32)), .val (.ref w4), .val (.int (1 : Int32))] [(.int (1 : Int32))])) _
    refine XS.ifNo X5.here hx rfl (hb hby at_157) rfl (by decide) ?_
    show Steps p.tables e below (T5.setTop (mkF m 160 #[.val (.int p1), .val (.int (3 : Int32)), .val (.ref w2), .val (.int (1 : Int32)), .val (.int (1 : Int32)), .val (.ref w4), .val (.int (1 : Int32))] [])) _
    refine XS.iconst X5.here hx rfl (hb hby at_160) ?_
    show Steps p.tables e below (T5.setTop (mkF m 161 #[.val (.int p1), .val (.int (3 : Int32)), .val (.ref w2), .val (.int (1 : Int32)), .val (.int (1 : Int32)), .val (.ref w4), .val (.int (1 : Int32))] [(.int (1 : Int32))])) _
    refine XS.goto X5.here hx rfl (pc0 := 161) (pc' := 165) rfl (hb hby at_161) (by decide) (by decide) ?_
    show Steps p.tables e below (T5.setTop (mkF m 165 #[.val (.int p1), .val (.int (3 : Int32)), .val (.ref w2), .val (.int (1 : Int32)), .val (.int (1 : Int32)), .val (.ref w4), .val (.int (1 : Int32))] [(.int (1 : Int32))])) _
    exact retN X5 hx (t := .boolean) Bd.returns (by simp) (hb hby at_165) hr
  · exact ⟨rfl, N3⟩
set_option maxRecDepth 65536 in
set_option maxHeartbeats 40000000 in
theorem own_givesValue_4 (l : Launch) (Z : State) (a0 : Array Value) (hw : ∀ d ∈ tables_1, d.before a0 Z = true) (ws : List Jvm.Cond) (w0 : Addr) (w1 : Addr) (w2 : Addr) (w3 : Addr) (w4 : Addr) (w5 : Addr) (w6 : Addr) (w7 : Addr) (w8 : Addr) (w9 : Addr) (w10 : Addr) (w11 : Addr) (h0 : Heap) (n0 : Nat) (Z0 : n0 ≤ h0.size) (K : own_Know Z h0 w0 w1 w2 w3 w4 w5 w6 w7 w8 w9 w10 w11) :
    MetFree l (⟨"com/example/isolatch/isolatch/cli/Operation", "givesValue", "()Z"⟩ : MethodName) (head1 (Jvm.Cond.code (⟨"com/example/isolatch/isolatch/cli/Operation", "givesValue", "()Z"⟩ : MethodName) prog_35_method_7_code 1 (some .boolean) :: ws) ({ frames := 0, cells := 0, slots := 0, locals := 0 } : Room)) (fun a U => a = #[(.ref w10)] ∧ Z.Warmed39 U.vm ∧ U.heap = h0) (fun _ _ _ _ _ => True) (fun _ U o U' => ∃ v L, o = .returned v ∧ own_Q (some (.int (0 : Int32))) h0 n0 v U'.heap L ∧ FrameEnd U o U' L ({ frames := 0, cells := 0, slots := 0, locals := 0 } : Room).cells ({ frames := 0, cells := 0, slots := 0, locals := 0 } : Room).slots) := by
  obtain ⟨S0, E0, S1, E1, S2, E2, S3, E3, S4, E4, S5, E5, S6, E6, S7, E7, S8, E8, S9, E9, S10, E10, S11, E11, F0_shape, O2, O0, O3, F2_shape, O4, O1, O5, F5_shape, O6, O7, F7_shape, F3_shape, O8, F8_shape, O9, O10, F10_shape, O11, F11_shape⟩ := id K
  refine MetFree.of_bodySF (plainFor_of_name own_pn_givesValue) hisR ?_
  intro p e s m args below meth c s₁ Bd hml0 hP hK
  obtain ⟨rfl, hZ, hh⟩ := hP
  have hx := Bd.exec
  have hby := Bd.bytes
  have hml : c.maxLocals = 1 := hml0
  have hown : s.vm.findClass "com/example/isolatch/isolatch/cli/Operation" = some m.cls := findClass_of_methodNamed Bd.named
  have X0 : Stand p l e ({ frames := 0, cells := 0, slots := 0, locals := 0 } : Room) s m #[(.ref w10)] below meth c s₁ [] 0 0 := Stand.of_body Bd
  have e0 : s₁.heap = h0 := by rw [← hh, Bd.state]; rfl
  have N0 := Fr.nil n0
  have pre0 : ∀ t, Steps p.tables e below (s₁.setTop (mkF m 0 #[.val (.ref w10)] [])) t → Steps p.tables e below (s₁.setTop (entryFrame m #[(.ref w10)] 1)) t := fun t k => castTop (own_ef_givesValue m w10) k
  obtain ⟨T1, X1, e1, st1⟩ := getS2 X0 hx hZ hown (host := "") (Or.inl (hw _ (List.mem_of_getElem? (i := 8) rfl))) Via.refl e0 S0 (g := (mkF m 1 #[.val (.ref w10)] [(.ref w10)])) rfl (hb hby d_givesValue_1)
  obtain ⟨T2, X2, e2, st2⟩ := getS2 X1 hx hZ hown (host := "") (Or.inl (hw _ (List.mem_of_getElem? (i := 21) rfl))) Via.refl e1 S3 (g := (mkF m 8 #[.val (.ref w10)] [(.ref w10)])) rfl (hb hby d_givesValue_8)
  obtain ⟨T3, X3, e3, st3⟩ := getS2 X2 hx hZ hown (host := "") (Or.inl (hw _ (List.mem_of_getElem? (i := 23) rfl))) Via.refl e2 S2 (g := (mkF m 15 #[.val (.ref w10)] [(.ref w10)])) rfl (hb hby d_givesValue_15)
  obtain ⟨fs, hr, hrun, hended, hW, hsame⟩ := X3.leave (v := some (.int (0 : Int32))) (fun h => by rw [Bd.returns] at h; cases h)
  refine ⟨_, _, pre0 _ ?_, hrun, hended, _, _, rfl, ?_, ⟨_, rfl⟩, hW, hsame.mono (by decide) (by decide)⟩
  · show Steps p.tables e below (s₁.setTop (mkF m 0 #[.val (.ref w10)] [])) _
    refine XS.aloadN X0.here hx rfl (hb hby d_givesValue_0) rfl rfl ?_
    show Steps p.tables e below (s₁.setTop (mkF m 1 #[.val (.ref w10)] [(.ref w10)])) _
    refine st1 _ ?_
    show Steps p.tables e below (T1.setTop (mkF m 4 #[.val (.ref w10)] [(.ref w0), (.ref w10)])) _
    refine Jvm.RoadKit.acmp (g := (mkF m 4 #[.val (.ref w10)] [(.ref w0), (.ref w10)])) X1 hx rfl rfl rfl (pc0 := 4) (pc' := 7) (same := false) rfl (hb hby d_givesValue_4) rfl (decide_eq_false (fun z => (Fld.ne O10 O0 (by decide)) (Value.ref.inj z))) (by decide) (by decide) ?_
    show Steps p.tables e below (T1.setTop (mkF m 7 #[.val (.ref w10)] [])) _
    refine XS.aloadN X1.here hx rfl (hb hby d_givesValue_7) rfl rfl ?_
    show Steps p.tables e below (T1.setTop (mkF m 8 #[.val (.ref w10)] [(.ref w10)])) _
    refine st2 _ ?_
    show Steps p.tables e below (T2.setTop (mkF m 11 #[.val (.ref w10)] [(.ref w3), (.ref w10)])) _
    refine Jvm.RoadKit.acmp (g := (mkF m 11 #[.val (.ref w10)] [(.ref w3), (.ref w10)])) X2 hx rfl rfl rfl (pc0 := 11) (pc' := 14) (same := false) rfl (hb hby d_givesValue_11) rfl (decide_eq_false (fun z => (Fld.ne O10 O3 (by decide)) (Value.ref.inj z))) (by decide) (by decide) ?_
    show Steps p.tables e below (T2.setTop (mkF m 14 #[.val (.ref w10)] [])) _
    refine XS.aloadN X2.here hx rfl (hb hby d_givesValue_14) rfl rfl ?_
    show Steps p.tables e below (T2.setTop (mkF m 15 #[.val (.ref w10)] [(.ref w10)])) _
    refine st3 _ ?_
    show Steps p.tables e below (T3.setTop (mkF m 18 #[.val (.ref w10)] [(.ref w2), (.ref w10)])) _
    refine Jvm.RoadKit.acmp (g := (mkF m 18 #[.val (.ref w10)] [(.ref w2), (.ref w10)])) X3 hx rfl rfl rfl (pc0 := 18) (pc' := 25) (same := false) rfl (hb hby d_givesValue_18) rfl (decide_eq_false (fun z => (Fld.ne O10 O2 (by decide)) (Value.ref.inj z))) (by decide) (by decide) ?_
    show Steps p.tables e below (T3.setTop (mkF m 25 #[.val (.ref w10)] [])) _
    refine XS.iconst X3.here hx rfl (hb hby d_givesValue_25) ?_
    show Steps p.tables e below (T3.setTop (mkF m 26 #[.val (.ref w10)] [(.int (0 : Int32))])) _
    exact retN X3 hx (t := .boolean) Bd.returns (by simp) (hb hby d_givesValue_26) hr
  · show own_Q _ h0 n0 _ T3.heap _
    rw [e3]
    exact ⟨rfl, N0, rfl⟩
set_option maxRecDepth 65536 in
set_option maxHeartbeats 40000000 in
theorem own_getShape_4 (l : Launch) (Z : State) (a0 : Array Value) (hw : ∀ d ∈ tables_1, d.before a0 Z = true) (ws : List Jvm.Cond) (w0 : Addr) (w1 : Addr) (w2 : Addr) (w3 : Addr) (w4 : Addr) (w5 : Addr) (w6 : Addr) (w7 : Addr) (w8 : Addr) (w9 : Addr) (w10 : Addr) (w11 : Addr) (h0 : Heap) (n0 : Nat) (Z0 : n0 ≤ h0.size) (K : own_Know Z h0 w0 w1 w2 w3 w4 w5 w6 w7 w8 w9 w10 w11) :
    MetFree l (⟨"com/example/isolatch/isolatch/cli/Operation", "getShape", "()Lcom/example/isolatch/isolatch/cli/Operation$Shape;"⟩ : MethodName) (head1 (Jvm.Cond.code (⟨"com/example/isolatch/isolatch/cli/Operation", "getShape", "()Lcom/example/isolatch/isolatch/cli/Operation$Shape;"⟩ : MethodName) prog_35_method_6_code 1 (some (.object "com/example/isolatch/isolatch/cli/Operation$Shape")) :: ws) ({ frames := 0, cells := 0, slots := 0, locals := 0 } : Room)) (fun a U => a = #[(.ref w10)] ∧ Z.Warmed39 U.vm ∧ U.heap = h0) (fun _ _ _ _ _ => True) (fun _ U o U' => ∃ v L, o = .returned v ∧ own_Q (some (.ref w1)) h0 n0 v U'.heap L ∧ FrameEnd U o U' L ({ frames := 0, cells := 0, slots := 0, locals := 0 } : Room).cells ({ frames := 0, cells := 0, slots := 0, locals := 0 } : Room).slots) := by
  obtain ⟨S0, E0, S1, E1, S2, E2, S3, E3, S4, E4, S5, E5, S6, E6, S7, E7, S8, E8, S9, E9, S10, E10, S11, E11, F0_shape, O2, O0, O3, F2_shape, O4, O1, O5, F5_shape, O6, O7, F7_shape, F3_shape, O8, F8_shape, O9, O10, F10_shape, O11, F11_shape⟩ := id K
  refine MetFree.of_bodySF (plainFor_of_name own_pn_getShape) hisR ?_
  intro p e s m args below meth c s₁ Bd hml0 hP hK
  obtain ⟨rfl, hZ, hh⟩ := hP
  have hx := Bd.exec
  have hby := Bd.bytes
  have hml : c.maxLocals = 1 := hml0
  have hown : s.vm.findClass "com/example/isolatch/isolatch/cli/Operation" = some m.cls := findClass_of_methodNamed Bd.named
  have X0 : Stand p l e ({ frames := 0, cells := 0, slots := 0, locals := 0 } : Room) s m #[(.ref w10)] below meth c s₁ [] 0 0 := Stand.of_body Bd
  have e0 : s₁.heap = h0 := by rw [← hh, Bd.state]; rfl
  have N0 := Fr.nil n0
  have pre0 : ∀ t, Steps p.tables e below (s₁.setTop (mkF m 0 #[.val (.ref w10)] [])) t → Steps p.tables e below (s₁.setTop (entryFrame m #[(.ref w10)] 1)) t := fun t k => castTop (own_ef_getShape m w10) k
  obtain ⟨T1, X1, e1, st1⟩ := getF X0 hx hZ hown (host := "") (Or.inl (hw _ (List.mem_of_getElem? (i := 14) rfl))) Via.refl e0 F10_shape (g := (mkF m 1 #[.val (.ref w10)] [(.ref w10)])) rfl rfl (hb hby d_getShape_1)
  obtain ⟨fs, hr, hrun, hended, hW, hsame⟩ := X1.leave (v := some (.ref w1)) (fun h => by rw [Bd.returns] at h; cases h)
  refine ⟨_, _, pre0 _ ?_, hrun, hended, _, _, rfl, ?_, ⟨_, rfl⟩, hW, hsame.mono (by decide) (by decide)⟩
  · show Steps p.tables e below (s₁.setTop (mkF m 0 #[.val (.ref w10)] [])) _
    refine XS.aloadN X0.here hx rfl (hb hby d_getShape_0) rfl rfl ?_
    show Steps p.tables e below (s₁.setTop (mkF m 1 #[.val (.ref w10)] [(.ref w10)])) _
    refine st1 _ ?_
    show Steps p.tables e below (T1.setTop (mkF m 4 #[.val (.ref w10)] [(.ref w1)])) _
    jvm_step X1.here [X1.here.top, hx, (hb hby d_getShape_4), X1.method', Bd.returns, Value.isRef, FieldType.isReference]
    first | (intro acts; rw [hr _ acts rfl rfl rfl]) | rw [hr _ _ rfl rfl rfl]
    exact Steps.refl _
  · show own_Q _ h0 n0 _ T1.heap _
    rw [e1]
    exact ⟨rfl, N0, rfl⟩
set_option maxRecDepth 65536 in
set_option maxHeartbeats 40000000 in
theorem own_law_4 (l : Launch) (Z : State) (a0 : Array Value) (hw : ∀ d ∈ tables_1, d.before a0 Z = true) (ws : List Jvm.Cond) (w0 : Addr) (w1 : Addr) (w2 : Addr) (w3 : Addr) (w4 : Addr) (w5 : Addr) (w6 : Addr) (w7 : Addr) (w8 : Addr) (w9 : Addr) (w10 : Addr) (w11 : Addr) (h0 : Heap) (n0 : Nat) (Z0 : n0 ≤ h0.size) (K : own_Know Z h0 w0 w1 w2 w3 w4 w5 w6 w7 w8 w9 w10 w11) (p1 : Int32) (hi : (p1 &&& (7 : Int32)) = (4 : Int32)) :
    MetFree l x (head1 (Jvm.Cond.code x code maxLocals ret :: ws) room_1) (fun a U => a = #[(.int p1)] ∧ Z.Warmed39 U.vm ∧ U.heap = h0) (fun _ _ _ _ _ => True) (fun _ U o U' => ∃ v L, o = .returned v ∧ own_QL n0 v L ∧ FrameEnd U o U' L room_1.cells room_1.slots) := by
  obtain ⟨S0, E0, S1, E1, S2, E2, S3, E3, S4, E4, S5, E5, S6, E6, S7, E7, S8, E8, S9, E9, S10, E10, S11, E11, F0_shape, O2, O0, O3, F2_shape, O4, O1, O5, F5_shape, O6, O7, F7_shape, F3_shape, O8, F8_shape, O9, O10, F10_shape, O11, F11_shape⟩ := id K
  refine MetFree.of_bodySF (plainFor_of_name own_pn_law) hisR ?_
  intro p e s m args below meth c s₁ Bd hml0 hP hK
  obtain ⟨rfl, hZ, hh⟩ := hP
  have hx := Bd.exec
  have hby := Bd.bytes
  have hml : c.maxLocals = 7 := hml0
  have hown : s.vm.findClass "com/example/isolatch/isolatch/cli/OperationGivesValuePinLaw" = some m.cls := findClass_of_methodNamed Bd.named
  have X0 : Stand p l e room_1 s m #[(.int p1)] below meth c s₁ [] 0 0 := Stand.of_body Bd
  have e0 : s₁.heap = h0 := by rw [← hh, Bd.state]; rfl
  have N0 := Fr.nil n0
  have pre0 : ∀ t, Steps p.tables e below (s₁.setTop (mkF m 0 #[.val (.int p1), .unset, .unset, .unset, .unset, .unset, .unset] [])) t → Steps p.tables e below (s₁.setTop (entryFrame m #[(.int p1)] maxLocals)) t := fun t k => castTop (own_ef_law m p1) k
  obtain ⟨T1, X1, e1, st1⟩ := getS2 X0 hx hZ hown (host := "") (Or.inl (hw _ (List.mem_of_getElem? (i := 35) rfl))) Via.refl e0 S10 (g := (mkF m 65 #[.val (.int p1), .val (.int (4 : Int32)), .unset, .unset, .unset, .unset, .unset] [])) rfl (hb hby at_65)
  obtain ⟨cq2, kq2, q2a, q2b, q2c⟩ := isOf hZ e1 E10
  obtain ⟨_, _, ⟨T2, L2, k2, n2⟩, -, X2, ⟨Lc2, hQ2, l2, y2, z2⟩, st2⟩ := X1.virtualBack hx (y := (⟨"com/example/isolatch/isolatch/cli/Operation", "givesValue", "()Z"⟩ : MethodName)) (z := (⟨"com/example/isolatch/isolatch/cli/Operation", "givesValue", "()Z"⟩ : MethodName)) hown (mvT hZ (hw _ (List.mem_of_getElem? (i := 3) rfl))) (mvT hZ (hw _ (List.mem_of_getElem? (i := 4) rfl))) (notFace_of_selects (args := #[]) (mvT hZ (hw _ (List.mem_of_getElem? (i := 6) rfl)))) (mvT hZ (hw _ (List.mem_of_getElem? (i := 6) rfl))) (mvT hZ (hw _ (List.mem_of_getElem? (i := 5) rfl))) (by decide) (backOf (W := 0) (own_givesValue_4 l Z a0 hw [] w0 w1 w2 w3 w4 w5 w6 w7 w8 w9 w10 w11 h0 n0 Z0 K) hZ (hw _ (List.mem_of_getElem? (i := 7) rfl)) (hw _ (List.mem_of_getElem? (i := 1) rfl)) (by decide) (by decide)) q2a q2c (g := (mkF m 110 #[.val (.int p1), .val (.int (4 : Int32)), .val (.ref w10), .val (.int (0 : Int32)), .unset, .unset, .unset] [(.ref w10)])) rfl (by rw [hml]; rfl) (Steps.refl _) (argsL := []) (rest := []) (lenOf own_pd0 rfl) rfl (by show 2 * 0 + _ ≤ _; exact Nat.le_of_eq rfl) (hb hby at_110) (fun _ _ => ⟨rfl, e1, (by decide : 0 + 0 ≤ _), (by decide : 0 + 0 ≤ _)⟩)
  dsimp only [Pt.U, Pt.locs, Pt.cells, Pt.slots] at X2 l2 y2 z2 st2 hQ2
  subst l2 y2 z2
  obtain ⟨rfl, N2q, e2⟩ := hQ2
  have N2 := Fr.app N0 N2q
  obtain ⟨cq3, kq3, q3a, q3b, q3c⟩ := isOf hZ e2 E10
  obtain ⟨_, _, ⟨T3, L3, k3, n3⟩, -, X3, ⟨Lc3, hQ3, l3, y3, z3⟩, st3⟩ := X2.virtualBack hx (y := (⟨"com/example/isolatch/isolatch/cli/Operation", "getShape", "()Lcom/example/isolatch/isolatch/cli/Operation$Shape;"⟩ : MethodName)) (z := (⟨"com/example/isolatch/isolatch/cli/Operation", "getShape", "()Lcom/example/isolatch/isolatch/cli/Operation$Shape;"⟩ : MethodName)) hown (mvT hZ (hw _ (List.mem_of_getElem? (i := 9) rfl))) (mvT hZ (hw _ (List.mem_of_getElem? (i := 10) rfl))) (notFace_of_selects (args := #[]) (mvT hZ (hw _ (List.mem_of_getElem? (i := 12) rfl)))) (mvT hZ (hw _ (List.mem_of_getElem? (i := 12) rfl))) (mvT hZ (hw _ (List.mem_of_getElem? (i := 11) rfl))) (by decide) (backOf (W := 0) (own_getShape_4 l Z a0 hw [] w0 w1 w2 w3 w4 w5 w6 w7 w8 w9 w10 w11 h0 n0 Z0 K) hZ (hw _ (List.mem_of_getElem? (i := 13) rfl)) (hw _ (List.mem_of_getElem? (i := 1) rfl)) (by decide) (by decide)) q3a q3c (g := (mkF m 116 #[.val (.int p1), .val (.int (4 : Int32)), .val (.ref w10), .val (.int (0 : Int32)), .val (.int (0 : Int32)), .unset, .unset] [(.ref w10)])) rfl (by rw [hml]; rfl) (Steps.refl _) (argsL := []) (rest := []) (lenOf own_pd1 rfl) rfl (by show 2 * 0 + _ ≤ _; exact Nat.le_of_eq rfl) (hb hby at_116) (fun _ _ => ⟨rfl, e2, (by decide : 0 + 0 ≤ _), (by decide : 0 + 0 ≤ _)⟩)
  dsimp only [Pt.U, Pt.locs, Pt.cells, Pt.slots] at X3 l3 y3 z3 st3 hQ3
  subst l3 y3 z3
  obtain ⟨rfl, N3q, e3⟩ := hQ3
  have N3 := Fr.app N2 N3q
  obtain ⟨T4, X4, e4, st4⟩ := getS2 X3 hx hZ hown (host := "") (Or.inl (hw _ (List.mem_of_getElem? (i := 18) rfl))) Via.refl e3 S1 (g := (mkF m 123 #[.val (.int p1), .val (.int (4 : Int32)), .val (.ref w10), .val (.int (0 : Int32)), .val (.int (0 : Int32)), .val (.ref w1), .unset] [(.ref w1)])) rfl (hb hby at_123)
  obtain ⟨fs, hr, hrun, hended, hW, hsame⟩ := X4.leave (v := some (.int (1 : Int32))) (fun h => by rw [Bd.returns] at h; cases h)
  refine ⟨_, _, pre0 _ ?_, hrun, hended, _, _, rfl, ?_, ⟨_, rfl⟩, hW, hsame.mono (by decide) (by decide)⟩
  · show Steps p.tables e below (s₁.setTop (mkF m 0 #[.val (.int p1), .unset, .unset, .unset, .unset, .unset, .unset] [])) _
    refine XS.iloadN X0.here hx rfl (hb hby at_0) rfl ?_
    show Steps p.tables e below (s₁.setTop (mkF m 1 #[.val (.int p1), .unset, .unset, .unset, .unset, .unset, .unset] [(.int p1)])) _
    refine XS.bipush X0.here hx rfl (hb hby at_1) ?_
    show Steps p.tables e below (s₁.setTop (mkF m 3 #[.val (.int p1), .unset, .unset, .unset, .unset, .unset, .unset] [(.int (7 : Int32)), (.int p1)])) _
    refine XS.iand X0.here hx rfl (hb hby at_3) rfl ?_
    show Steps p.tables e below (s₁.setTop (mkF m 4 #[.val (.int p1), .unset, .unset, .unset, .unset, .unset, .unset] [(.int (p1 &&& (7 : Int32)))])) _
    rw [hi]
    show Steps p.tables e below (s₁.setTop (mkF m 4 #[.val (.int p1), .unset, .unset, .unset, .unset, .unset, .unset] [(.int (4 : Int32))])) _
    refine XS.istoreN X0.here hx rfl (hb hby at_4) rfl (l' := #[.val (.int p1), .val (.int (4 : Int32)), .unset, .unset, .unset, .unset, .unset]) rfl ?_
    show Steps p.tables e below (s₁.setTop (mkF m 5 #[.val (.int p1), .val (.int (4 : Int32)), .unset, .unset, .unset, .unset, .unset] [])) _
    refine XS.iloadN X0.here hx rfl (hb hby at_5) rfl ?_
    show Steps p.tables e below (s₁.setTop (mkF m 6 #[.val (.int p1), .val (.int (4 : Int32)), .unset, .unset, .unset, .unset, .unset] [(.int (4 : Int32))])) _
    refine XS.ifYes X0.here hx rfl (pc0 := 6) (pc' := 18) rfl (hb hby at_6) rfl (by decide) (by decide) (by decide) ?_
    show Steps p.tables e below (s₁.setTop (mkF m 18 #[.val (.int p1), .val (.int (4 : Int32)), .unset, .unset, .unset, .unset, .unset] [])) _
    refine XS.iloadN X0.here hx rfl (hb hby at_18) rfl ?_
    show Steps p.tables e below (s₁.setTop (mkF m 19 #[.val (.int p1), .val (.int (4 : Int32)), .unset, .unset, .unset, .unset, .unset] [(.int (4 : Int32))])) _
    refine XS.iconst X0.here hx rfl (hb hby at_19) ?_
    show Steps p.tables e below (s₁.setTop (mkF m 20 #[.val (.int p1), .val (.int (4 : Int32)), .unset, .unset, .unset, .unset, .unset] [(.int (1 : Int32)), (.int (4 : Int32))])) _
    refine XS.icmpYes X0.here hx rfl (pc0 := 20) (pc' := 32) rfl (hb hby at_20) rfl (by decide) (by decide) (by decide) ?_
    show Steps p.tables e below (s₁.setTop (mkF m 32 #[.val (.int p1), .val (.int (4 : Int32)), .unset, .unset, .unset, .unset, .unset] [])) _
    refine XS.iloadN X0.here hx rfl (hb hby at_32) rfl ?_
    show Steps p.tables e below (s₁.setTop (mkF m 33 #[.val (.int p1), .val (.int (4 : Int32)), .unset, .unset, .unset, .unset, .unset] [(.int (4 : Int32))])) _
    refine XS.iconst X0.here hx rfl (hb hby at_33) ?_
    show Steps p.tables e below (s₁.setTop (mkF m 34 #[.val (.int p1), .val (.int (4 : Int32)), .unset, .unset, .unset, .unset, .unset] [(.int (2 : Int32)), (.int (4 : Int32))])) _
    refine XS.icmpYes X0.here hx rfl (pc0 := 34) (pc' := 46) rfl (hb hby at_34) rfl (by decide) (by decide) (by decide) ?_
    show Steps p.tables e below (s₁.setTop (mkF m 46 #[.val (.int p1), .val (.int (4 : Int32)), .unset, .unset, .unset, .unset, .unset] [])) _
    refine XS.iloadN X0.here hx rfl (hb hby at_46) rfl ?_
    show Steps p.tables e below (s₁.setTop (mkF m 47 #[.val (.int p1), .val (.int (4 : Int32)), .unset, .unset, .unset, .unset, .unset] [(.int (4 : Int32))])) _
    refine XS.iconst X0.here hx rfl (hb hby at_47) ?_
    show Steps p.tables e below (s₁.setTop (mkF m 48 #[.val (.int p1), .val (.int (4 : Int32)), .unset, .unset, .unset, .unset, .unset] [(.int (3 : Int32)), (.int (4 : Int32))])) _
    refine XS.icmpYes X0.here hx rfl (pc0 := 48) (pc' := 60) rfl (hb hby at_48) rfl (by decide) (by decide) (by decide) ?_
    show Steps p.tables e below (s₁.setTop (mkF m 60 #[.val (.int p1), .val (.int (4 : Int32)), .unset, .unset, .unset, .unset, .unset] [])) _
    refine XS.iloadN X0.here hx rfl (hb hby at_60) rfl ?_
    show Steps p.tables e below (s₁.setTop (mkF m 61 #[.val (.int p1), .val (.int (4 : Int32)), .unset, .unset, .unset, .unset, .unset] [(.int (4 : Int32))])) _
    refine XS.iconst X0.here hx rfl (hb hby at_61) ?_
    show Steps p.tables e below (s₁.setTop (mkF m 62 #[.val (.int p1), .val (.int (4 : Int32)), .unset, .unset, .unset, .unset, .unset] [(.int (4 : Int32)), (.int (4 : Int32))])) _
    refine XS.icmpNo X0.here hx rfl (hb hby at_62) rfl (by decide) ?_
    show Steps p.tables e below (s₁.setTop (mkF m 65 #[.val (.int p1), .val (.int (4 : Int32)), .unset, .unset, .unset, .unset, .unset] [])) _
    refine st1 _ ?_
    show Steps p.tables e below (T1.setTop (mkF m 68 #[.val (.int p1), .val (.int (4 : Int32)), .unset, .unset, .unset, .unset, .unset] [(.ref w10)])) _
    refine XS.astoreN X1.here hx rfl (hb hby at_68) rfl rfl (l' := #[.val (.int p1), .val (.int (4 : Int32)), .val (.ref w10), .unset, .unset, .unset, .unset]) rfl ?_
    show Steps p.tables e below (T1.setTop (mkF m 69 #[.val (.int p1), .val (.int (4 : Int32)), .val (.ref w10), .unset, .unset, .unset, .unset] [])) _
    refine XS.iconst X1.here hx rfl (hb hby at_69) ?_
    show Steps p.tables e below (T1.setTop (mkF m 70 #[.val (.int p1), .val (.int (4 : Int32)), .val (.ref w10), .unset, .unset, .unset, .unset] [(.int (0 : Int32))])) _
    refine XS.istoreN X1.here hx rfl (hb hby at_70) rfl (l' := #[.val (.int p1), .val (.int (4 : Int32)), .val (.ref w10), .val (.int (0 : Int32)), .unset, .unset, .unset]) rfl ?_
    show Steps p.tables e below (T1.setTop (mkF m 71 #[.val (.int p1), .val (.int (4 : Int32)), .val (.ref w10), .val (.int (0 : Int32)), .unset, .unset, .unset] [])) _
    refine XS.goto X1.here hx rfl (pc0 := 71) (pc' := 109) rfl (hb hby at_71) (by decide) (by decide) ?_
    show Steps p.tables e below (T1.setTop (mkF m 109 #[.val (.int p1), .val (.int (4 : Int32)), .val (.ref w10), .val (.int (0 : Int32)), .unset, .unset, .unset] [])) _
    refine XS.aloadN X1.here hx rfl (hb hby at_109) rfl rfl ?_
    show Steps p.tables e below (T1.setTop (mkF m 110 #[.val (.int p1), .val (.int (4 : Int32)), .val (.ref w10), .val (.int (0 : Int32)), .unset, .unset, .unset] [(.ref w10)])) _
    refine st2.trans ?_
    show Steps p.tables e below (T2.setTop (mkF m 113 #[.val (.int p1), .val (.int (4 : Int32)), .val (.ref w10), .val (.int (0 : Int32)), .unset, .unset, .unset] [(.int (0 : Int32))])) _
    refine XS.istore X2.here hx rfl (hb hby at_113) rfl (l' := #[.val (.int p1), .val (.int (4 : Int32)), .val (.ref w10), .val (.int (0 : Int32)), .val (.int (0 : Int32)), .unset, .unset]) rfl ?_
    show Steps p.tables e below (T2.setTop (mkF m 115 #[.val (.int p1), .val (.int (4 : Int32)), .val (.ref w10), .val (.int (0 : Int32)), .val (.int (0 : Int32)), .unset, .unset] [])) _
    refine XS.aloadN X2.here hx rfl (hb hby at_115) rfl rfl ?_
    show Steps p.tables e below (T2.setTop (mkF m 116 #[.val (.int p1), .val (.int (4 : Int32)), .val (.ref w10), .val (.int (0 : Int32)), .val (.int (0 : Int32)), .unset, .unset] [(.ref w10)])) _
    refine st3.trans ?_
    show Steps p.tables e below (T3.setTop (mkF m 119 #[.val (.int p1), .val (.int (4 : Int32)), .val (.ref w10), .val (.int (0 : Int32)), .val (.int (0 : Int32)), .unset, .unset] [(.ref w1)])) _
    refine XS.astore X3.here hx rfl (hb hby at_119) rfl rfl (l' := #[.val (.int p1), .val (.int (4 : Int32)), .val (.ref w10), .val (.int (0 : Int32)), .val (.int (0 : Int32)), .val (.ref w1), .unset]) rfl ?_
    show Steps p.tables e below (T3.setTop (mkF m 121 #[.val (.int p1), .val (.int (4 : Int32)), .val (.ref w10), .val (.int (0 : Int32)), .val (.int (0 : Int32)), .val (.ref w1), .unset] [])) _
    refine XS.aload X3.here hx rfl (hb hby at_121) rfl rfl ?_
    show Steps p.tables e below (T3.setTop (mkF m 123 #[.val (.int p1), .val (.int (4 : Int32)), .val (.ref w10), .val (.int (0 : Int32)), .val (.int (0 : Int32)), .val (.ref w1), .unset] [(.ref w1)])) _
    refine st4 _ ?_
    show Steps p.tables e below (T4.setTop (mkF m 126 #[.val (.int p1), .val (.int (4 : Int32)), .val (.ref w10), .val (.int (0 : Int32)), .val (.int (0 : Int32)), .val (.ref w1), .unset] [(.ref w1), (.ref w1)])) _
    refine Jvm.RoadKit.acmp (g := (mkF m 126 #[.val (.int p1), .val (.int (4 : Int32)), .val (.ref w10), .val (.int (0 : Int32)), .val (.int (0 : Int32)), .val (.ref w1), .unset] [(.ref w1), (.ref w1)])) X4 hx rfl rfl rfl (pc0 := 126) (pc' := 137) (same := true) rfl (hb hby at_126) rfl (decide_eq_true rfl) (by decide) (by decide) ?_
    show Steps p.tables e below (T4.setTop (mkF m 137 #[.val (.int p1), .val (.int (4 : Int32)), .val (.ref w10), .val (.int (0 : Int32)), .val (.int (0 : Int32)), .val (.ref w1), .unset] [])) _
    refine XS.iconst X4.here hx rfl (hb hby at_137) ?_
    show Steps p.tables e below (T4.setTop (mkF m 138 #[.val (.int p1), .val (.int (4 : Int32)), .val (.ref w10), .val (.int (0 : Int32)), .val (.int (0 : Int32)), .val (.ref w1), .unset] [(.int (1 : Int32))])) _
    refine XS.goto X4.here hx rfl (pc0 := 138) (pc' := 142) rfl (hb hby at_138) (by decide) (by decide) ?_
    show Steps p.tables e below (T4.setTop (mkF m 142 #[.val (.int p1), .val (.int (4 : Int32)), .val (.ref w10), .val (.int (0 : Int32)), .val (.int (0 : Int32)), .val (.ref w1), .unset] [(.int (1 : Int32))])) _
    refine XS.istore X4.here hx rfl (hb hby at_142) rfl (l' := #[.val (.int p1), .val (.int (4 : Int32)), .val (.ref w10), .val (.int (0 : Int32)), .val (.int (0 : Int32)), .val (.ref w1), .val (.int (1 : Int32))]) rfl ?_
    show Steps p.tables e below (T4.setTop (mkF m 144 #[.val (.int p1), .val (.int (4 : Int32)), .val (.ref w10), .val (.int (0 : Int32)), .val (.int (0 : Int32)), .val (.ref w1), .val (.int (1 : Int32))] [])) _
    refine XS.iload X4.here hx rfl (hb hby at_144) rfl ?_
    show Steps p.tables e below (T4.setTop (mkF m 146 #[.val (.int p1), .val (.int (4 : Int32)), .val (.ref w10), .val (.int (0 : Int32)), .val (.int (0 : Int32)), .val (.ref w1), .val (.int (1 : Int32))] [(.int (0 : Int32))])) _
    refine XS.iloadN X4.here hx rfl (hb hby at_146) rfl ?_
    show Steps p.tables e below (T4.setTop (mkF m 147 #[.val (.int p1), .val (.int (4 : Int32)), .val (.ref w10), .val (.int (0 : Int32)), .val (.int (0 : Int32)), .val (.ref w1), .val (.int (1 : Int32))] [(.int (0 : Int32)), (.int (0 : Int32))])) _
    refine XS.icmpNo X4.here hx rfl (hb hby at_147) rfl (by decide) ?_
    show Steps p.tables e below (T4.setTop (mkF m 150 #[.val (.int p1), .val (.int (4 : Int32)), .val (.ref w10), .val (.int (0 : Int32)), .val (.int (0 : Int32)), .val (.ref w1), .val (.int (1 : Int32))] [])) _
    refine XS.iload X4.here hx rfl (hb hby at_150) rfl ?_
    show Steps p.tables e below (T4.setTop (mkF m 152 #[.val (.int p1), .val (.int (4 : Int32)), .val (.ref w10), .val (.int (0 : Int32)), .val (.int (0 : Int32)), .val (.ref w1), .val (.int (1 : Int32))] [(.int (0 : Int32))])) _
    refine XS.ifYes X4.here hx rfl (pc0 := 152) (pc' := 160) rfl (hb hby at_152) rfl (by decide) (by decide) (by decide) ?_
    show Steps p.tables e below (T4.setTop (mkF m 160 #[.val (.int p1), .val (.int (4 : Int32)), .val (.ref w10), .val (.int (0 : Int32)), .val (.int (0 : Int32)), .val (.ref w1), .val (.int (1 : Int32))] [])) _
    refine XS.iconst X4.here hx rfl (hb hby at_160) ?_
    show Steps p.tables e below (T4.setTop (mkF m 161 #[.val (.int p1), .val (.int (4 : Int32)), .val (.ref w10), .val (.int (0 : Int32)), .val (.int (0 : Int32)), .val (.ref w1), .val (.int (1 : Int32))] [(.int (1 : Int32))])) _
    refine XS.goto X4.here hx rfl (pc0 := 161) (pc' := 165) rfl (hb hby at_161) (by decide) (by decide) ?_
    show Steps p.tables e below (T4.setTop (mkF m 165 #[.val (.int p1), .val (.int (4 : Int32)), .val (.ref w10), .val (.int (0 : Int32)), .val (.int (0 : Int32)), .val (.ref w1), .val (.int (1 : Int32))] [(.int (1 : Int32))])) _
    exact retN X4 hx (t := .boolean) Bd.returns (by simp) (hb hby at_165) hr
  · exact ⟨rfl, N3⟩
set_option maxRecDepth 65536 in
set_option maxHeartbeats 40000000 in
theorem own_givesValue_5 (l : Launch) (Z : State) (a0 : Array Value) (hw : ∀ d ∈ tables_1, d.before a0 Z = true) (ws : List Jvm.Cond) (w0 : Addr) (w1 : Addr) (w2 : Addr) (w3 : Addr) (w4 : Addr) (w5 : Addr) (w6 : Addr) (w7 : Addr) (w8 : Addr) (w9 : Addr) (w10 : Addr) (w11 : Addr) (h0 : Heap) (n0 : Nat) (Z0 : n0 ≤ h0.size) (K : own_Know Z h0 w0 w1 w2 w3 w4 w5 w6 w7 w8 w9 w10 w11) :
    MetFree l (⟨"com/example/isolatch/isolatch/cli/Operation", "givesValue", "()Z"⟩ : MethodName) (head1 (Jvm.Cond.code (⟨"com/example/isolatch/isolatch/cli/Operation", "givesValue", "()Z"⟩ : MethodName) prog_35_method_7_code 1 (some .boolean) :: ws) ({ frames := 0, cells := 0, slots := 0, locals := 0 } : Room)) (fun a U => a = #[(.ref w11)] ∧ Z.Warmed39 U.vm ∧ U.heap = h0) (fun _ _ _ _ _ => True) (fun _ U o U' => ∃ v L, o = .returned v ∧ own_Q (some (.int (0 : Int32))) h0 n0 v U'.heap L ∧ FrameEnd U o U' L ({ frames := 0, cells := 0, slots := 0, locals := 0 } : Room).cells ({ frames := 0, cells := 0, slots := 0, locals := 0 } : Room).slots) := by
  obtain ⟨S0, E0, S1, E1, S2, E2, S3, E3, S4, E4, S5, E5, S6, E6, S7, E7, S8, E8, S9, E9, S10, E10, S11, E11, F0_shape, O2, O0, O3, F2_shape, O4, O1, O5, F5_shape, O6, O7, F7_shape, F3_shape, O8, F8_shape, O9, O10, F10_shape, O11, F11_shape⟩ := id K
  refine MetFree.of_bodySF (plainFor_of_name own_pn_givesValue) hisR ?_
  intro p e s m args below meth c s₁ Bd hml0 hP hK
  obtain ⟨rfl, hZ, hh⟩ := hP
  have hx := Bd.exec
  have hby := Bd.bytes
  have hml : c.maxLocals = 1 := hml0
  have hown : s.vm.findClass "com/example/isolatch/isolatch/cli/Operation" = some m.cls := findClass_of_methodNamed Bd.named
  have X0 : Stand p l e ({ frames := 0, cells := 0, slots := 0, locals := 0 } : Room) s m #[(.ref w11)] below meth c s₁ [] 0 0 := Stand.of_body Bd
  have e0 : s₁.heap = h0 := by rw [← hh, Bd.state]; rfl
  have N0 := Fr.nil n0
  have pre0 : ∀ t, Steps p.tables e below (s₁.setTop (mkF m 0 #[.val (.ref w11)] [])) t → Steps p.tables e below (s₁.setTop (entryFrame m #[(.ref w11)] 1)) t := fun t k => castTop (own_ef_givesValue m w11) k
  obtain ⟨T1, X1, e1, st1⟩ := getS2 X0 hx hZ hown (host := "") (Or.inl (hw _ (List.mem_of_getElem? (i := 8) rfl))) Via.refl e0 S0 (g := (mkF m 1 #[.val (.ref w11)] [(.ref w11)])) rfl (hb hby d_givesValue_1)
  obtain ⟨T2, X2, e2, st2⟩ := getS2 X1 hx hZ hown (host := "") (Or.inl (hw _ (List.mem_of_getElem? (i := 21) rfl))) Via.refl e1 S3 (g := (mkF m 8 #[.val (.ref w11)] [(.ref w11)])) rfl (hb hby d_givesValue_8)
  obtain ⟨T3, X3, e3, st3⟩ := getS2 X2 hx hZ hown (host := "") (Or.inl (hw _ (List.mem_of_getElem? (i := 23) rfl))) Via.refl e2 S2 (g := (mkF m 15 #[.val (.ref w11)] [(.ref w11)])) rfl (hb hby d_givesValue_15)
  obtain ⟨fs, hr, hrun, hended, hW, hsame⟩ := X3.leave (v := some (.int (0 : Int32))) (fun h => by rw [Bd.returns] at h; cases h)
  refine ⟨_, _, pre0 _ ?_, hrun, hended, _, _, rfl, ?_, ⟨_, rfl⟩, hW, hsame.mono (by decide) (by decide)⟩
  · show Steps p.tables e below (s₁.setTop (mkF m 0 #[.val (.ref w11)] [])) _
    refine XS.aloadN X0.here hx rfl (hb hby d_givesValue_0) rfl rfl ?_
    show Steps p.tables e below (s₁.setTop (mkF m 1 #[.val (.ref w11)] [(.ref w11)])) _
    refine st1 _ ?_
    show Steps p.tables e below (T1.setTop (mkF m 4 #[.val (.ref w11)] [(.ref w0), (.ref w11)])) _
    refine Jvm.RoadKit.acmp (g := (mkF m 4 #[.val (.ref w11)] [(.ref w0), (.ref w11)])) X1 hx rfl rfl rfl (pc0 := 4) (pc' := 7) (same := false) rfl (hb hby d_givesValue_4) rfl (decide_eq_false (fun z => (Fld.ne O11 O0 (by decide)) (Value.ref.inj z))) (by decide) (by decide) ?_
    show Steps p.tables e below (T1.setTop (mkF m 7 #[.val (.ref w11)] [])) _
    refine XS.aloadN X1.here hx rfl (hb hby d_givesValue_7) rfl rfl ?_
    show Steps p.tables e below (T1.setTop (mkF m 8 #[.val (.ref w11)] [(.ref w11)])) _
    refine st2 _ ?_
    show Steps p.tables e below (T2.setTop (mkF m 11 #[.val (.ref w11)] [(.ref w3), (.ref w11)])) _
    refine Jvm.RoadKit.acmp (g := (mkF m 11 #[.val (.ref w11)] [(.ref w3), (.ref w11)])) X2 hx rfl rfl rfl (pc0 := 11) (pc' := 14) (same := false) rfl (hb hby d_givesValue_11) rfl (decide_eq_false (fun z => (Fld.ne O11 O3 (by decide)) (Value.ref.inj z))) (by decide) (by decide) ?_
    show Steps p.tables e below (T2.setTop (mkF m 14 #[.val (.ref w11)] [])) _
    refine XS.aloadN X2.here hx rfl (hb hby d_givesValue_14) rfl rfl ?_
    show Steps p.tables e below (T2.setTop (mkF m 15 #[.val (.ref w11)] [(.ref w11)])) _
    refine st3 _ ?_
    show Steps p.tables e below (T3.setTop (mkF m 18 #[.val (.ref w11)] [(.ref w2), (.ref w11)])) _
    refine Jvm.RoadKit.acmp (g := (mkF m 18 #[.val (.ref w11)] [(.ref w2), (.ref w11)])) X3 hx rfl rfl rfl (pc0 := 18) (pc' := 25) (same := false) rfl (hb hby d_givesValue_18) rfl (decide_eq_false (fun z => (Fld.ne O11 O2 (by decide)) (Value.ref.inj z))) (by decide) (by decide) ?_
    show Steps p.tables e below (T3.setTop (mkF m 25 #[.val (.ref w11)] [])) _
    refine XS.iconst X3.here hx rfl (hb hby d_givesValue_25) ?_
    show Steps p.tables e below (T3.setTop (mkF m 26 #[.val (.ref w11)] [(.int (0 : Int32))])) _
    exact retN X3 hx (t := .boolean) Bd.returns (by simp) (hb hby d_givesValue_26) hr
  · show own_Q _ h0 n0 _ T3.heap _
    rw [e3]
    exact ⟨rfl, N0, rfl⟩
set_option maxRecDepth 65536 in
set_option maxHeartbeats 40000000 in
theorem own_getShape_5 (l : Launch) (Z : State) (a0 : Array Value) (hw : ∀ d ∈ tables_1, d.before a0 Z = true) (ws : List Jvm.Cond) (w0 : Addr) (w1 : Addr) (w2 : Addr) (w3 : Addr) (w4 : Addr) (w5 : Addr) (w6 : Addr) (w7 : Addr) (w8 : Addr) (w9 : Addr) (w10 : Addr) (w11 : Addr) (h0 : Heap) (n0 : Nat) (Z0 : n0 ≤ h0.size) (K : own_Know Z h0 w0 w1 w2 w3 w4 w5 w6 w7 w8 w9 w10 w11) :
    MetFree l (⟨"com/example/isolatch/isolatch/cli/Operation", "getShape", "()Lcom/example/isolatch/isolatch/cli/Operation$Shape;"⟩ : MethodName) (head1 (Jvm.Cond.code (⟨"com/example/isolatch/isolatch/cli/Operation", "getShape", "()Lcom/example/isolatch/isolatch/cli/Operation$Shape;"⟩ : MethodName) prog_35_method_6_code 1 (some (.object "com/example/isolatch/isolatch/cli/Operation$Shape")) :: ws) ({ frames := 0, cells := 0, slots := 0, locals := 0 } : Room)) (fun a U => a = #[(.ref w11)] ∧ Z.Warmed39 U.vm ∧ U.heap = h0) (fun _ _ _ _ _ => True) (fun _ U o U' => ∃ v L, o = .returned v ∧ own_Q (some (.ref w6)) h0 n0 v U'.heap L ∧ FrameEnd U o U' L ({ frames := 0, cells := 0, slots := 0, locals := 0 } : Room).cells ({ frames := 0, cells := 0, slots := 0, locals := 0 } : Room).slots) := by
  obtain ⟨S0, E0, S1, E1, S2, E2, S3, E3, S4, E4, S5, E5, S6, E6, S7, E7, S8, E8, S9, E9, S10, E10, S11, E11, F0_shape, O2, O0, O3, F2_shape, O4, O1, O5, F5_shape, O6, O7, F7_shape, F3_shape, O8, F8_shape, O9, O10, F10_shape, O11, F11_shape⟩ := id K
  refine MetFree.of_bodySF (plainFor_of_name own_pn_getShape) hisR ?_
  intro p e s m args below meth c s₁ Bd hml0 hP hK
  obtain ⟨rfl, hZ, hh⟩ := hP
  have hx := Bd.exec
  have hby := Bd.bytes
  have hml : c.maxLocals = 1 := hml0
  have hown : s.vm.findClass "com/example/isolatch/isolatch/cli/Operation" = some m.cls := findClass_of_methodNamed Bd.named
  have X0 : Stand p l e ({ frames := 0, cells := 0, slots := 0, locals := 0 } : Room) s m #[(.ref w11)] below meth c s₁ [] 0 0 := Stand.of_body Bd
  have e0 : s₁.heap = h0 := by rw [← hh, Bd.state]; rfl
  have N0 := Fr.nil n0
  have pre0 : ∀ t, Steps p.tables e below (s₁.setTop (mkF m 0 #[.val (.ref w11)] [])) t → Steps p.tables e below (s₁.setTop (entryFrame m #[(.ref w11)] 1)) t := fun t k => castTop (own_ef_getShape m w11) k
  obtain ⟨T1, X1, e1, st1⟩ := getF X0 hx hZ hown (host := "") (Or.inl (hw _ (List.mem_of_getElem? (i := 14) rfl))) Via.refl e0 F11_shape (g := (mkF m 1 #[.val (.ref w11)] [(.ref w11)])) rfl rfl (hb hby d_getShape_1)
  obtain ⟨fs, hr, hrun, hended, hW, hsame⟩ := X1.leave (v := some (.ref w6)) (fun h => by rw [Bd.returns] at h; cases h)
  refine ⟨_, _, pre0 _ ?_, hrun, hended, _, _, rfl, ?_, ⟨_, rfl⟩, hW, hsame.mono (by decide) (by decide)⟩
  · show Steps p.tables e below (s₁.setTop (mkF m 0 #[.val (.ref w11)] [])) _
    refine XS.aloadN X0.here hx rfl (hb hby d_getShape_0) rfl rfl ?_
    show Steps p.tables e below (s₁.setTop (mkF m 1 #[.val (.ref w11)] [(.ref w11)])) _
    refine st1 _ ?_
    show Steps p.tables e below (T1.setTop (mkF m 4 #[.val (.ref w11)] [(.ref w6)])) _
    jvm_step X1.here [X1.here.top, hx, (hb hby d_getShape_4), X1.method', Bd.returns, Value.isRef, FieldType.isReference]
    first | (intro acts; rw [hr _ acts rfl rfl rfl]) | rw [hr _ _ rfl rfl rfl]
    exact Steps.refl _
  · show own_Q _ h0 n0 _ T1.heap _
    rw [e1]
    exact ⟨rfl, N0, rfl⟩
set_option maxRecDepth 65536 in
set_option maxHeartbeats 40000000 in
theorem own_law_5 (l : Launch) (Z : State) (a0 : Array Value) (hw : ∀ d ∈ tables_1, d.before a0 Z = true) (ws : List Jvm.Cond) (w0 : Addr) (w1 : Addr) (w2 : Addr) (w3 : Addr) (w4 : Addr) (w5 : Addr) (w6 : Addr) (w7 : Addr) (w8 : Addr) (w9 : Addr) (w10 : Addr) (w11 : Addr) (h0 : Heap) (n0 : Nat) (Z0 : n0 ≤ h0.size) (K : own_Know Z h0 w0 w1 w2 w3 w4 w5 w6 w7 w8 w9 w10 w11) (p1 : Int32) (hi : (p1 &&& (7 : Int32)) = (5 : Int32)) :
    MetFree l x (head1 (Jvm.Cond.code x code maxLocals ret :: ws) room_1) (fun a U => a = #[(.int p1)] ∧ Z.Warmed39 U.vm ∧ U.heap = h0) (fun _ _ _ _ _ => True) (fun _ U o U' => ∃ v L, o = .returned v ∧ own_QL n0 v L ∧ FrameEnd U o U' L room_1.cells room_1.slots) := by
  obtain ⟨S0, E0, S1, E1, S2, E2, S3, E3, S4, E4, S5, E5, S6, E6, S7, E7, S8, E8, S9, E9, S10, E10, S11, E11, F0_shape, O2, O0, O3, F2_shape, O4, O1, O5, F5_shape, O6, O7, F7_shape, F3_shape, O8, F8_shape, O9, O10, F10_shape, O11, F11_shape⟩ := id K
  refine MetFree.of_bodySF (plainFor_of_name own_pn_law) hisR ?_
  intro p e s m args below meth c s₁ Bd hml0 hP hK
  obtain ⟨rfl, hZ, hh⟩ := hP
  have hx := Bd.exec
  have hby := Bd.bytes
  have hml : c.maxLocals = 7 := hml0
  have hown : s.vm.findClass "com/example/isolatch/isolatch/cli/OperationGivesValuePinLaw" = some m.cls := findClass_of_methodNamed Bd.named
  have X0 : Stand p l e room_1 s m #[(.int p1)] below meth c s₁ [] 0 0 := Stand.of_body Bd
  have e0 : s₁.heap = h0 := by rw [← hh, Bd.state]; rfl
  have N0 := Fr.nil n0
  have pre0 : ∀ t, Steps p.tables e below (s₁.setTop (mkF m 0 #[.val (.int p1), .unset, .unset, .unset, .unset, .unset, .unset] [])) t → Steps p.tables e below (s₁.setTop (entryFrame m #[(.int p1)] maxLocals)) t := fun t k => castTop (own_ef_law m p1) k
  obtain ⟨T1, X1, e1, st1⟩ := getS2 X0 hx hZ hown (host := "") (Or.inl (hw _ (List.mem_of_getElem? (i := 37) rfl))) Via.refl e0 S11 (g := (mkF m 79 #[.val (.int p1), .val (.int (5 : Int32)), .unset, .unset, .unset, .unset, .unset] [])) rfl (hb hby at_79)
  obtain ⟨cq2, kq2, q2a, q2b, q2c⟩ := isOf hZ e1 E11
  obtain ⟨_, _, ⟨T2, L2, k2, n2⟩, -, X2, ⟨Lc2, hQ2, l2, y2, z2⟩, st2⟩ := X1.virtualBack hx (y := (⟨"com/example/isolatch/isolatch/cli/Operation", "givesValue", "()Z"⟩ : MethodName)) (z := (⟨"com/example/isolatch/isolatch/cli/Operation", "givesValue", "()Z"⟩ : MethodName)) hown (mvT hZ (hw _ (List.mem_of_getElem? (i := 3) rfl))) (mvT hZ (hw _ (List.mem_of_getElem? (i := 4) rfl))) (notFace_of_selects (args := #[]) (mvT hZ (hw _ (List.mem_of_getElem? (i := 6) rfl)))) (mvT hZ (hw _ (List.mem_of_getElem? (i := 6) rfl))) (mvT hZ (hw _ (List.mem_of_getElem? (i := 5) rfl))) (by decide) (backOf (W := 0) (own_givesValue_5 l Z a0 hw [] w0 w1 w2 w3 w4 w5 w6 w7 w8 w9 w10 w11 h0 n0 Z0 K) hZ (hw _ (List.mem_of_getElem? (i := 7) rfl)) (hw _ (List.mem_of_getElem? (i := 1) rfl)) (by decide) (by decide)) q2a q2c (g := (mkF m 110 #[.val (.int p1), .val (.int (5 : Int32)), .val (.ref w11), .val (.int (0 : Int32)), .unset, .unset, .unset] [(.ref w11)])) rfl (by rw [hml]; rfl) (Steps.refl _) (argsL := []) (rest := []) (lenOf own_pd0 rfl) rfl (by show 2 * 0 + _ ≤ _; exact Nat.le_of_eq rfl) (hb hby at_110) (fun _ _ => ⟨rfl, e1, (by decide : 0 + 0 ≤ _), (by decide : 0 + 0 ≤ _)⟩)
  dsimp only [Pt.U, Pt.locs, Pt.cells, Pt.slots] at X2 l2 y2 z2 st2 hQ2
  subst l2 y2 z2
  obtain ⟨rfl, N2q, e2⟩ := hQ2
  have N2 := Fr.app N0 N2q
  obtain ⟨cq3, kq3, q3a, q3b, q3c⟩ := isOf hZ e2 E11
  obtain ⟨_, _, ⟨T3, L3, k3, n3⟩, -, X3, ⟨Lc3, hQ3, l3, y3, z3⟩, st3⟩ := X2.virtualBack hx (y := (⟨"com/example/isolatch/isolatch/cli/Operation", "getShape", "()Lcom/example/isolatch/isolatch/cli/Operation$Shape;"⟩ : MethodName)) (z := (⟨"com/example/isolatch/isolatch/cli/Operation", "getShape", "()Lcom/example/isolatch/isolatch/cli/Operation$Shape;"⟩ : MethodName)) hown (mvT hZ (hw _ (List.mem_of_getElem? (i := 9) rfl))) (mvT hZ (hw _ (List.mem_of_getElem? (i := 10) rfl))) (notFace_of_selects (args := #[]) (mvT hZ (hw _ (List.mem_of_getElem? (i := 12) rfl)))) (mvT hZ (hw _ (List.mem_of_getElem? (i := 12) rfl))) (mvT hZ (hw _ (List.mem_of_getElem? (i := 11) rfl))) (by decide) (backOf (W := 0) (own_getShape_5 l Z a0 hw [] w0 w1 w2 w3 w4 w5 w6 w7 w8 w9 w10 w11 h0 n0 Z0 K) hZ (hw _ (List.mem_of_getElem? (i := 13) rfl)) (hw _ (List.mem_of_getElem? (i := 1) rfl)) (by decide) (by decide)) q3a q3c (g := (mkF m 116 #[.val (.int p1), .val (.int (5 : Int32)), .val (.ref w11), .val (.int (0 : Int32)), .val (.int (0 : Int32)), .unset, .unset] [(.ref w11)])) rfl (by rw [hml]; rfl) (Steps.refl _) (argsL := []) (rest := []) (lenOf own_pd1 rfl) rfl (by show 2 * 0 + _ ≤ _; exact Nat.le_of_eq rfl) (hb hby at_116) (fun _ _ => ⟨rfl, e2, (by decide : 0 + 0 ≤ _), (by decide : 0 + 0 ≤ _)⟩)
  dsimp only [Pt.U, Pt.locs, Pt.cells, Pt.slots] at X3 l3 y3 z3 st3 hQ3
  subst l3 y3 z3
  obtain ⟨rfl, N3q, e3⟩ := hQ3
  have N3 := Fr.app N2 N3q
  obtain ⟨T4, X4, e4, st4⟩ := getS2 X3 hx hZ hown (host := "") (Or.inl (hw _ (List.mem_of_getElem? (i := 18) rfl))) Via.refl e3 S1 (g := (mkF m 123 #[.val (.int p1), .val (.int (5 : Int32)), .val (.ref w11), .val (.int (0 : Int32)), .val (.int (0 : Int32)), .val (.ref w6), .unset] [(.ref w6)])) rfl (hb hby at_123)
  obtain ⟨T5, X5, e5, st5⟩ := getS2 X4 hx hZ hown (host := "") (Or.inl (hw _ (List.mem_of_getElem? (i := 25) rfl))) Via.refl e4 S4 (g := (mkF m 131 #[.val (.int p1), .val (.int (5 : Int32)), .val (.ref w11), .val (.int (0 : Int32)), .val (.int (0 : Int32)), .val (.ref w6), .unset] [(.ref w6)])) rfl (hb hby at_131)
  obtain ⟨fs, hr, hrun, hended, hW, hsame⟩ := X5.leave (v := some (.int (1 : Int32))) (fun h => by rw [Bd.returns] at h; cases h)
  refine ⟨_, _, pre0 _ ?_, hrun, hended, _, _, rfl, ?_, ⟨_, rfl⟩, hW, hsame.mono (by decide) (by decide)⟩
  · show Steps p.tables e below (s₁.setTop (mkF m 0 #[.val (.int p1), .unset, .unset, .unset, .unset, .unset, .unset] [])) _
    refine XS.iloadN X0.here hx rfl (hb hby at_0) rfl ?_
    show Steps p.tables e below (s₁.setTop (mkF m 1 #[.val (.int p1), .unset, .unset, .unset, .unset, .unset, .unset] [(.int p1)])) _
    refine XS.bipush X0.here hx rfl (hb hby at_1) ?_
    show Steps p.tables e below (s₁.setTop (mkF m 3 #[.val (.int p1), .unset, .unset, .unset, .unset, .unset, .unset] [(.int (7 : Int32)), (.int p1)])) _
    refine XS.iand X0.here hx rfl (hb hby at_3) rfl ?_
    show Steps p.tables e below (s₁.setTop (mkF m 4 #[.val (.int p1), .unset, .unset, .unset, .unset, .unset, .unset] [(.int (p1 &&& (7 : Int32)))])) _
    rw [hi]
    show Steps p.tables e below (s₁.setTop (mkF m 4 #[.val (.int p1), .unset, .unset, .unset, .unset, .unset, .unset] [(.int (5 : Int32))])) _
    refine XS.istoreN X0.here hx rfl (hb hby at_4) rfl (l' := #[.val (.int p1), .val (.int (5 : Int32)), .unset, .unset, .unset, .unset, .unset]) rfl ?_
    show Steps p.tables e below (s₁.setTop (mkF m 5 #[.val (.int p1), .val (.int (5 : Int32)), .unset, .unset, .unset, .unset, .unset] [])) _
    refine XS.iloadN X0.here hx rfl (hb hby at_5) rfl ?_
    show Steps p.tables e below (s₁.setTop (mkF m 6 #[.val (.int p1), .val (.int (5 : Int32)), .unset, .unset, .unset, .unset, .unset] [(.int (5 : Int32))])) _
    refine XS.ifYes X0.here hx rfl (pc0 := 6) (pc' := 18) rfl (hb hby at_6) rfl (by decide) (by decide) (by decide) ?_
    show Steps p.tables e below (s₁.setTop (mkF m 18 #[.val (.int p1), .val (.int (5 : Int32)), .unset, .unset, .unset, .unset, .unset] [])) _
    refine XS.iloadN X0.here hx rfl (hb hby at_18) rfl ?_
    show Steps p.tables e below (s₁.setTop (mkF m 19 #[.val (.int p1), .val (.int (5 : Int32)), .unset, .unset, .unset, .unset, .unset] [(.int (5 : Int32))])) _
    refine XS.iconst X0.here hx rfl (hb hby at_19) ?_
    show Steps p.tables e below (s₁.setTop (mkF m 20 #[.val (.int p1), .val (.int (5 : Int32)), .unset, .unset, .unset, .unset, .unset] [(.int (1 : Int32)), (.int (5 : Int32))])) _
    refine XS.icmpYes X0.here hx rfl (pc0 := 20) (pc' := 32) rfl (hb hby at_20) rfl (by decide) (by decide) (by decide) ?_
    show Steps p.tables e below (s₁.setTop (mkF m 32 #[.val (.int p1), .val (.int (5 : Int32)), .unset, .unset, .unset, .unset, .unset] [])) _
    refine XS.iloadN X0.here hx rfl (hb hby at_32) rfl ?_
    show Steps p.tables e below (s₁.setTop (mkF m 33 #[.val (.int p1), .val (.int (5 : Int32)), .unset, .unset, .unset, .unset, .unset] [(.int (5 : Int32))])) _
    refine XS.iconst X0.here hx rfl (hb hby at_33) ?_
    show Steps p.tables e below (s₁.setTop (mkF m 34 #[.val (.int p1), .val (.int (5 : Int32)), .unset, .unset, .unset, .unset, .unset] [(.int (2 : Int32)), (.int (5 : Int32))])) _
    refine XS.icmpYes X0.here hx rfl (pc0 := 34) (pc' := 46) rfl (hb hby at_34) rfl (by decide) (by decide) (by decide) ?_
    show Steps p.tables e below (s₁.setTop (mkF m 46 #[.val (.int p1), .val (.int (5 : Int32)), .unset, .unset, .unset, .unset, .unset] [])) _
    refine XS.iloadN X0.here hx rfl (hb hby at_46) rfl ?_
    show Steps p.tables e below (s₁.setTop (mkF m 47 #[.val (.int p1), .val (.int (5 : Int32)), .unset, .unset, .unset, .unset, .unset] [(.int (5 : Int32))])) _
    refine XS.iconst X0.here hx rfl (hb hby at_47) ?_
    show Steps p.tables e below (s₁.setTop (mkF m 48 #[.val (.int p1), .val (.int (5 : Int32)), .unset, .unset, .unset, .unset, .unset] [(.int (3 : Int32)), (.int (5 : Int32))])) _
    refine XS.icmpYes X0.here hx rfl (pc0 := 48) (pc' := 60) rfl (hb hby at_48) rfl (by decide) (by decide) (by decide) ?_
    show Steps p.tables e below (s₁.setTop (mkF m 60 #[.val (.int p1), .val (.int (5 : Int32)), .unset, .unset, .unset, .unset, .unset] [])) _
    refine XS.iloadN X0.here hx rfl (hb hby at_60) rfl ?_
    show Steps p.tables e below (s₁.setTop (mkF m 61 #[.val (.int p1), .val (.int (5 : Int32)), .unset, .unset, .unset, .unset, .unset] [(.int (5 : Int32))])) _
    refine XS.iconst X0.here hx rfl (hb hby at_61) ?_
    show Steps p.tables e below (s₁.setTop (mkF m 62 #[.val (.int p1), .val (.int (5 : Int32)), .unset, .unset, .unset, .unset, .unset] [(.int (4 : Int32)), (.int (5 : Int32))])) _
    refine XS.icmpYes X0.here hx rfl (pc0 := 62) (pc' := 74) rfl (hb hby at_62) rfl (by decide) (by decide) (by decide) ?_
    show Steps p.tables e below (s₁.setTop (mkF m 74 #[.val (.int p1), .val (.int (5 : Int32)), .unset, .unset, .unset, .unset, .unset] [])) _
    refine XS.iloadN X0.here hx rfl (hb hby at_74) rfl ?_
    show Steps p.tables e below (s₁.setTop (mkF m 75 #[.val (.int p1), .val (.int (5 : Int32)), .unset, .unset, .unset, .unset, .unset] [(.int (5 : Int32))])) _
    refine XS.iconst X0.here hx rfl (hb hby at_75) ?_
    show Steps p.tables e below (s₁.setTop (mkF m 76 #[.val (.int p1), .val (.int (5 : Int32)), .unset, .unset, .unset, .unset, .unset] [(.int (5 : Int32)), (.int (5 : Int32))])) _
    refine XS.icmpNo X0.here hx rfl (hb hby at_76) rfl (by decide) ?_
    show Steps p.tables e below (s₁.setTop (mkF m 79 #[.val (.int p1), .val (.int (5 : Int32)), .unset, .unset, .unset, .unset, .unset] [])) _
    refine st1 _ ?_
    show Steps p.tables e below (T1.setTop (mkF m 82 #[.val (.int p1), .val (.int (5 : Int32)), .unset, .unset, .unset, .unset, .unset] [(.ref w11)])) _
    refine XS.astoreN X1.here hx rfl (hb hby at_82) rfl rfl (l' := #[.val (.int p1), .val (.int (5 : Int32)), .val (.ref w11), .unset, .unset, .unset, .unset]) rfl ?_
    show Steps p.tables e below (T1.setTop (mkF m 83 #[.val (.int p1), .val (.int (5 : Int32)), .val (.ref w11), .unset, .unset, .unset, .unset] [])) _
    refine XS.iconst X1.here hx rfl (hb hby at_83) ?_
    show Steps p.tables e below (T1.setTop (mkF m 84 #[.val (.int p1), .val (.int (5 : Int32)), .val (.ref w11), .unset, .unset, .unset, .unset] [(.int (0 : Int32))])) _
    refine XS.istoreN X1.here hx rfl (hb hby at_84) rfl (l' := #[.val (.int p1), .val (.int (5 : Int32)), .val (.ref w11), .val (.int (0 : Int32)), .unset, .unset, .unset]) rfl ?_
    show Steps p.tables e below (T1.setTop (mkF m 85 #[.val (.int p1), .val (.int (5 : Int32)), .val (.ref w11), .val (.int (0 : Int32)), .unset, .unset, .unset] [])) _
    refine XS.goto X1.here hx rfl (pc0 := 85) (pc' := 109) rfl (hb hby at_85) (by decide) (by decide) ?_
    show Steps p.tables e below (T1.setTop (mkF m 109 #[.val (.int p1), .val (.int (5 : Int32)), .val (.ref w11), .val (.int (0 : Int32)), .unset, .unset, .unset] [])) _
    refine XS.aloadN X1.here hx rfl (hb hby at_109) rfl rfl ?_
    show Steps p.tables e below (T1.setTop (mkF m 110 #[.val (.int p1), .val (.int (5 : Int32)), .val (.ref w11), .val (.int (0 : Int32)), .unset, .unset, .unset] [(.ref w11)])) _
    refine st2.trans ?_
    show Steps p.tables e below (T2.setTop (mkF m 113 #[.val (.int p1), .val (.int (5 : Int32)), .val (.ref w11), .val (.int (0 : Int32)), .unset, .unset, .unset] [(.int (0 : Int32))])) _
    refine XS.istore X2.here hx rfl (hb hby at_113) rfl (l' := #[.val (.int p1), .val (.int (5 : Int32)), .val (.ref w11), .val (.int (0 : Int32)), .val (.int (0 : Int32)), .unset, .unset]) rfl ?_
    show Steps p.tables e below (T2.setTop (mkF m 115 #[.val (.int p1), .val (.int (5 : Int32)), .val (.ref w11), .val (.int (0 : Int32)), .val (.int (0 : Int32)), .unset, .unset] [])) _
    refine XS.aloadN X2.here hx rfl (hb hby at_115) rfl rfl ?_
    show Steps p.tables e below (T2.setTop (mkF m 116 #[.val (.int p1), .val (.int (5 : Int32)), .val (.ref w11), .val (.int (0 : Int32)), .val (.int (0 : Int32)), .unset, .unset] [(.ref w11)])) _
    refine st3.trans ?_
    show Steps p.tables e below (T3.setTop (mkF m 119 #[.val (.int p1), .val (.int (5 : Int32)), .val (.ref w11), .val (.int (0 : Int32)), .val (.int (0 : Int32)), .unset, .unset] [(.ref w6)])) _
    refine XS.astore X3.here hx rfl (hb hby at_119) rfl rfl (l' := #[.val (.int p1), .val (.int (5 : Int32)), .val (.ref w11), .val (.int (0 : Int32)), .val (.int (0 : Int32)), .val (.ref w6), .unset]) rfl ?_
    show Steps p.tables e below (T3.setTop (mkF m 121 #[.val (.int p1), .val (.int (5 : Int32)), .val (.ref w11), .val (.int (0 : Int32)), .val (.int (0 : Int32)), .val (.ref w6), .unset] [])) _
    refine XS.aload X3.here hx rfl (hb hby at_121) rfl rfl ?_
    show Steps p.tables e below (T3.setTop (mkF m 123 #[.val (.int p1), .val (.int (5 : Int32)), .val (.ref w11), .val (.int (0 : Int32)), .val (.int (0 : Int32)), .val (.ref w6), .unset] [(.ref w6)])) _
    refine st4 _ ?_
    show Steps p.tables e below (T4.setTop (mkF m 126 #[.val (.int p1), .val (.int (5 : Int32)), .val (.ref w11), .val (.int (0 : Int32)), .val (.int (0 : Int32)), .val (.ref w6), .unset] [(.ref w1), (.ref w6)])) _
    refine Jvm.RoadKit.acmp (g := (mkF m 126 #[.val (.int p1), .val (.int (5 : Int32)), .val (.ref w11), .val (.int (0 : Int32)), .val (.int (0 : Int32)), .val (.ref w6), .unset] [(.ref w1), (.ref w6)])) X4 hx rfl rfl rfl (pc0 := 126) (pc' := 129) (same := false) rfl (hb hby at_126) rfl (decide_eq_false (fun z => (Fld.ne O6 O1 (by decide)) (Value.ref.inj z))) (by decide) (by decide) ?_
    show Steps p.tables e below (T4.setTop (mkF m 129 #[.val (.int p1), .val (.int (5 : Int32)), .val (.ref w11), .val (.int (0 : Int32)), .val (.int (0 : Int32)), .val (.ref w6), .unset] [])) _
    refine XS.aload X4.here hx rfl (hb hby at_129) rfl rfl ?_
    show Steps p.tables e below (T4.setTop (mkF m 131 #[.val (.int p1), .val (.int (5 : Int32)), .val (.ref w11), .val (.int (0 : Int32)), .val (.int (0 : Int32)), .val (.ref w6), .unset] [(.ref w6)])) _
    refine st5 _ ?_
    show Steps p.tables e below (T5.setTop (mkF m 134 #[.val (.int p1), .val (.int (5 : Int32)), .val (.ref w11), .val (.int (0 : Int32)), .val (.int (0 : Int32)), .val (.ref w6), .unset] [(.ref w4), (.ref w6)])) _
    refine Jvm.RoadKit.acmp (g := (mkF m 134 #[.val (.int p1), .val (.int (5 : Int32)), .val (.ref w11), .val (.int (0 : Int32)), .val (.int (0 : Int32)), .val (.ref w6), .unset] [(.ref w4), (.ref w6)])) X5 hx rfl rfl rfl (pc0 := 134) (pc' := 141) (same := false) rfl (hb hby at_134) rfl (decide_eq_false (fun z => (Fld.ne O6 O4 (by decide)) (Value.ref.inj z))) (by decide) (by decide) ?_
    show Steps p.tables e below (T5.setTop (mkF m 141 #[.val (.int p1), .val (.int (5 : Int32)), .val (.ref w11), .val (.int (0 : Int32)), .val (.int (0 : Int32)), .val (.ref w6), .unset] [])) _
    refine XS.iconst X5.here hx rfl (hb hby at_141) ?_
    show Steps p.tables e below (T5.setTop (mkF m 142 #[.val (.int p1), .val (.int (5 : Int32)), .val (.ref w11), .val (.int (0 : Int32)), .val (.int (0 : Int32)), .val (.ref w6), .unset] [(.int (0 : Int32))])) _
    refine XS.istore X5.here hx rfl (hb hby at_142) rfl (l' := #[.val (.int p1), .val (.int (5 : Int32)), .val (.ref w11), .val (.int (0 : Int32)), .val (.int (0 : Int32)), .val (.ref w6), .val (.int (0 : Int32))]) rfl ?_
    show Steps p.tables e below (T5.setTop (mkF m 144 #[.val (.int p1), .val (.int (5 : Int32)), .val (.ref w11), .val (.int (0 : Int32)), .val (.int (0 : Int32)), .val (.ref w6), .val (.int (0 : Int32))] [])) _
    refine XS.iload X5.here hx rfl (hb hby at_144) rfl ?_
    show Steps p.tables e below (T5.setTop (mkF m 146 #[.val (.int p1), .val (.int (5 : Int32)), .val (.ref w11), .val (.int (0 : Int32)), .val (.int (0 : Int32)), .val (.ref w6), .val (.int (0 : Int32))] [(.int (0 : Int32))])) _
    refine XS.iloadN X5.here hx rfl (hb hby at_146) rfl ?_
    show Steps p.tables e below (T5.setTop (mkF m 147 #[.val (.int p1), .val (.int (5 : Int32)), .val (.ref w11), .val (.int (0 : Int32)), .val (.int (0 : Int32)), .val (.ref w6), .val (.int (0 : Int32))] [(.int (0 : Int32)), (.int (0 : Int32))])) _
    refine XS.icmpNo X5.here hx rfl (hb hby at_147) rfl (by decide) ?_
    show Steps p.tables e below (T5.setTop (mkF m 150 #[.val (.int p1), .val (.int (5 : Int32)), .val (.ref w11), .val (.int (0 : Int32)), .val (.int (0 : Int32)), .val (.ref w6), .val (.int (0 : Int32))] [])) _
    refine XS.iload X5.here hx rfl (hb hby at_150) rfl ?_
    show Steps p.tables e below (T5.setTop (mkF m 152 #[.val (.int p1), .val (.int (5 : Int32)), .val (.ref w11), .val (.int (0 : Int32)), .val (.int (0 : Int32)), .val (.ref w6), .val (.int (0 : Int32))] [(.int (0 : Int32))])) _
    refine XS.ifYes X5.here hx rfl (pc0 := 152) (pc' := 160) rfl (hb hby at_152) rfl (by decide) (by decide) (by decide) ?_
    show Steps p.tables e below (T5.setTop (mkF m 160 #[.val (.int p1), .val (.int (5 : Int32)), .val (.ref w11), .val (.int (0 : Int32)), .val (.int (0 : Int32)), .val (.ref w6), .val (.int (0 : Int32))] [])) _
    refine XS.iconst X5.here hx rfl (hb hby at_160) ?_
    show Steps p.tables e below (T5.setTop (mkF m 161 #[.val (.int p1), .val (.int (5 : Int32)), .val (.ref w11), .val (.int (0 : Int32)), .val (.int (0 : Int32)), .val (.ref w6), .val (.int (0 : Int32))] [(.int (1 : Int32))])) _
    refine XS.goto X5.here hx rfl (pc0 := 161) (pc' := 165) rfl (hb hby at_161) (by decide) (by decide) ?_
    show Steps p.tables e below (T5.setTop (mkF m 165 #[.val (.int p1), .val (.int (5 : Int32)), .val (.ref w11), .val (.int (0 : Int32)), .val (.int (0 : Int32)), .val (.ref w6), .val (.int (0 : Int32))] [(.int (1 : Int32))])) _
    exact retN X5 hx (t := .boolean) Bd.returns (by simp) (hb hby at_165) hr
  · exact ⟨rfl, N3⟩
set_option maxRecDepth 65536 in
set_option maxHeartbeats 40000000 in
theorem own_givesValue_6 (l : Launch) (Z : State) (a0 : Array Value) (hw : ∀ d ∈ tables_1, d.before a0 Z = true) (ws : List Jvm.Cond) (w0 : Addr) (w1 : Addr) (w2 : Addr) (w3 : Addr) (w4 : Addr) (w5 : Addr) (w6 : Addr) (w7 : Addr) (w8 : Addr) (w9 : Addr) (w10 : Addr) (w11 : Addr) (h0 : Heap) (n0 : Nat) (Z0 : n0 ≤ h0.size) (K : own_Know Z h0 w0 w1 w2 w3 w4 w5 w6 w7 w8 w9 w10 w11) :
    MetFree l (⟨"com/example/isolatch/isolatch/cli/Operation", "givesValue", "()Z"⟩ : MethodName) (head1 (Jvm.Cond.code (⟨"com/example/isolatch/isolatch/cli/Operation", "givesValue", "()Z"⟩ : MethodName) prog_35_method_7_code 1 (some .boolean) :: ws) ({ frames := 0, cells := 0, slots := 0, locals := 0 } : Room)) (fun a U => a = #[(.ref w5)] ∧ Z.Warmed39 U.vm ∧ U.heap = h0) (fun _ _ _ _ _ => True) (fun _ U o U' => ∃ v L, o = .returned v ∧ own_Q (some (.int (0 : Int32))) h0 n0 v U'.heap L ∧ FrameEnd U o U' L ({ frames := 0, cells := 0, slots := 0, locals := 0 } : Room).cells ({ frames := 0, cells := 0, slots := 0, locals := 0 } : Room).slots) := by
  obtain ⟨S0, E0, S1, E1, S2, E2, S3, E3, S4, E4, S5, E5, S6, E6, S7, E7, S8, E8, S9, E9, S10, E10, S11, E11, F0_shape, O2, O0, O3, F2_shape, O4, O1, O5, F5_shape, O6, O7, F7_shape, F3_shape, O8, F8_shape, O9, O10, F10_shape, O11, F11_shape⟩ := id K
  refine MetFree.of_bodySF (plainFor_of_name own_pn_givesValue) hisR ?_
  intro p e s m args below meth c s₁ Bd hml0 hP hK
  obtain ⟨rfl, hZ, hh⟩ := hP
  have hx := Bd.exec
  have hby := Bd.bytes
  have hml : c.maxLocals = 1 := hml0
  have hown : s.vm.findClass "com/example/isolatch/isolatch/cli/Operation" = some m.cls := findClass_of_methodNamed Bd.named
  have X0 : Stand p l e ({ frames := 0, cells := 0, slots := 0, locals := 0 } : Room) s m #[(.ref w5)] below meth c s₁ [] 0 0 := Stand.of_body Bd
  have e0 : s₁.heap = h0 := by rw [← hh, Bd.state]; rfl
  have N0 := Fr.nil n0
  have pre0 : ∀ t, Steps p.tables e below (s₁.setTop (mkF m 0 #[.val (.ref w5)] [])) t → Steps p.tables e below (s₁.setTop (entryFrame m #[(.ref w5)] 1)) t := fun t k => castTop (own_ef_givesValue m w5) k
  obtain ⟨T1, X1, e1, st1⟩ := getS2 X0 hx hZ hown (host := "") (Or.inl (hw _ (List.mem_of_getElem? (i := 8) rfl))) Via.refl e0 S0 (g := (mkF m 1 #[.val (.ref w5)] [(.ref w5)])) rfl (hb hby d_givesValue_1)
  obtain ⟨T2, X2, e2, st2⟩ := getS2 X1 hx hZ hown (host := "") (Or.inl (hw _ (List.mem_of_getElem? (i := 21) rfl))) Via.refl e1 S3 (g := (mkF m 8 #[.val (.ref w5)] [(.ref w5)])) rfl (hb hby d_givesValue_8)
  obtain ⟨T3, X3, e3, st3⟩ := getS2 X2 hx hZ hown (host := "") (Or.inl (hw _ (List.mem_of_getElem? (i := 23) rfl))) Via.refl e2 S2 (g := (mkF m 15 #[.val (.ref w5)] [(.ref w5)])) rfl (hb hby d_givesValue_15)
  obtain ⟨fs, hr, hrun, hended, hW, hsame⟩ := X3.leave (v := some (.int (0 : Int32))) (fun h => by rw [Bd.returns] at h; cases h)
  refine ⟨_, _, pre0 _ ?_, hrun, hended, _, _, rfl, ?_, ⟨_, rfl⟩, hW, hsame.mono (by decide) (by decide)⟩
  · show Steps p.tables e below (s₁.setTop (mkF m 0 #[.val (.ref w5)] [])) _
    refine XS.aloadN X0.here hx rfl (hb hby d_givesValue_0) rfl rfl ?_
    show Steps p.tables e below (s₁.setTop (mkF m 1 #[.val (.ref w5)] [(.ref w5)])) _
    refine st1 _ ?_
    show Steps p.tables e below (T1.setTop (mkF m 4 #[.val (.ref w5)] [(.ref w0), (.ref w5)])) _
    refine Jvm.RoadKit.acmp (g := (mkF m 4 #[.val (.ref w5)] [(.ref w0), (.ref w5)])) X1 hx rfl rfl rfl (pc0 := 4) (pc' := 7) (same := false) rfl (hb hby d_givesValue_4) rfl (decide_eq_false (fun z => (Fld.ne O5 O0 (by decide)) (Value.ref.inj z))) (by decide) (by decide) ?_
    show Steps p.tables e below (T1.setTop (mkF m 7 #[.val (.ref w5)] [])) _
    refine XS.aloadN X1.here hx rfl (hb hby d_givesValue_7) rfl rfl ?_
    show Steps p.tables e below (T1.setTop (mkF m 8 #[.val (.ref w5)] [(.ref w5)])) _
    refine st2 _ ?_
    show Steps p.tables e below (T2.setTop (mkF m 11 #[.val (.ref w5)] [(.ref w3), (.ref w5)])) _
    refine Jvm.RoadKit.acmp (g := (mkF m 11 #[.val (.ref w5)] [(.ref w3), (.ref w5)])) X2 hx rfl rfl rfl (pc0 := 11) (pc' := 14) (same := false) rfl (hb hby d_givesValue_11) rfl (decide_eq_false (fun z => (Fld.ne O5 O3 (by decide)) (Value.ref.inj z))) (by decide) (by decide) ?_
    show Steps p.tables e below (T2.setTop (mkF m 14 #[.val (.ref w5)] [])) _
    refine XS.aloadN X2.here hx rfl (hb hby d_givesValue_14) rfl rfl ?_
    show Steps p.tables e below (T2.setTop (mkF m 15 #[.val (.ref w5)] [(.ref w5)])) _
    refine st3 _ ?_
    show Steps p.tables e below (T3.setTop (mkF m 18 #[.val (.ref w5)] [(.ref w2), (.ref w5)])) _
    refine Jvm.RoadKit.acmp (g := (mkF m 18 #[.val (.ref w5)] [(.ref w2), (.ref w5)])) X3 hx rfl rfl rfl (pc0 := 18) (pc' := 25) (same := false) rfl (hb hby d_givesValue_18) rfl (decide_eq_false (fun z => (Fld.ne O5 O2 (by decide)) (Value.ref.inj z))) (by decide) (by decide) ?_
    show Steps p.tables e below (T3.setTop (mkF m 25 #[.val (.ref w5)] [])) _
    refine XS.iconst X3.here hx rfl (hb hby d_givesValue_25) ?_
    show Steps p.tables e below (T3.setTop (mkF m 26 #[.val (.ref w5)] [(.int (0 : Int32))])) _
    exact retN X3 hx (t := .boolean) Bd.returns (by simp) (hb hby d_givesValue_26) hr
  · show own_Q _ h0 n0 _ T3.heap _
    rw [e3]
    exact ⟨rfl, N0, rfl⟩
set_option maxRecDepth 65536 in
set_option maxHeartbeats 40000000 in
theorem own_getShape_6 (l : Launch) (Z : State) (a0 : Array Value) (hw : ∀ d ∈ tables_1, d.before a0 Z = true) (ws : List Jvm.Cond) (w0 : Addr) (w1 : Addr) (w2 : Addr) (w3 : Addr) (w4 : Addr) (w5 : Addr) (w6 : Addr) (w7 : Addr) (w8 : Addr) (w9 : Addr) (w10 : Addr) (w11 : Addr) (h0 : Heap) (n0 : Nat) (Z0 : n0 ≤ h0.size) (K : own_Know Z h0 w0 w1 w2 w3 w4 w5 w6 w7 w8 w9 w10 w11) :
    MetFree l (⟨"com/example/isolatch/isolatch/cli/Operation", "getShape", "()Lcom/example/isolatch/isolatch/cli/Operation$Shape;"⟩ : MethodName) (head1 (Jvm.Cond.code (⟨"com/example/isolatch/isolatch/cli/Operation", "getShape", "()Lcom/example/isolatch/isolatch/cli/Operation$Shape;"⟩ : MethodName) prog_35_method_6_code 1 (some (.object "com/example/isolatch/isolatch/cli/Operation$Shape")) :: ws) ({ frames := 0, cells := 0, slots := 0, locals := 0 } : Room)) (fun a U => a = #[(.ref w5)] ∧ Z.Warmed39 U.vm ∧ U.heap = h0) (fun _ _ _ _ _ => True) (fun _ U o U' => ∃ v L, o = .returned v ∧ own_Q (some (.ref w6)) h0 n0 v U'.heap L ∧ FrameEnd U o U' L ({ frames := 0, cells := 0, slots := 0, locals := 0 } : Room).cells ({ frames := 0, cells := 0, slots := 0, locals := 0 } : Room).slots) := by
  obtain ⟨S0, E0, S1, E1, S2, E2, S3, E3, S4, E4, S5, E5, S6, E6, S7, E7, S8, E8, S9, E9, S10, E10, S11, E11, F0_shape, O2, O0, O3, F2_shape, O4, O1, O5, F5_shape, O6, O7, F7_shape, F3_shape, O8, F8_shape, O9, O10, F10_shape, O11, F11_shape⟩ := id K
  refine MetFree.of_bodySF (plainFor_of_name own_pn_getShape) hisR ?_
  intro p e s m args below meth c s₁ Bd hml0 hP hK
  obtain ⟨rfl, hZ, hh⟩ := hP
  have hx := Bd.exec
  have hby := Bd.bytes
  have hml : c.maxLocals = 1 := hml0
  have hown : s.vm.findClass "com/example/isolatch/isolatch/cli/Operation" = some m.cls := findClass_of_methodNamed Bd.named
  have X0 : Stand p l e ({ frames := 0, cells := 0, slots := 0, locals := 0 } : Room) s m #[(.ref w5)] below meth c s₁ [] 0 0 := Stand.of_body Bd
  have e0 : s₁.heap = h0 := by rw [← hh, Bd.state]; rfl
  have N0 := Fr.nil n0
  have pre0 : ∀ t, Steps p.tables e below (s₁.setTop (mkF m 0 #[.val (.ref w5)] [])) t → Steps p.tables e below (s₁.setTop (entryFrame m #[(.ref w5)] 1)) t := fun t k => castTop (own_ef_getShape m w5) k
  obtain ⟨T1, X1, e1, st1⟩ := getF X0 hx hZ hown (host := "") (Or.inl (hw _ (List.mem_of_getElem? (i := 14) rfl))) Via.refl e0 F5_shape (g := (mkF m 1 #[.val (.ref w5)] [(.ref w5)])) rfl rfl (hb hby d_getShape_1)
  obtain ⟨fs, hr, hrun, hended, hW, hsame⟩ := X1.leave (v := some (.ref w6)) (fun h => by rw [Bd.returns] at h; cases h)
  refine ⟨_, _, pre0 _ ?_, hrun, hended, _, _, rfl, ?_, ⟨_, rfl⟩, hW, hsame.mono (by decide) (by decide)⟩
  · show Steps p.tables e below (s₁.setTop (mkF m 0 #[.val (.ref w5)] [])) _
    refine XS.aloadN X0.here hx rfl (hb hby d_getShape_0) rfl rfl ?_
    show Steps p.tables e below (s₁.setTop (mkF m 1 #[.val (.ref w5)] [(.ref w5)])) _
    refine st1 _ ?_
    show Steps p.tables e below (T1.setTop (mkF m 4 #[.val (.ref w5)] [(.ref w6)])) _
    jvm_step X1.here [X1.here.top, hx, (hb hby d_getShape_4), X1.method', Bd.returns, Value.isRef, FieldType.isReference]
    first | (intro acts; rw [hr _ acts rfl rfl rfl]) | rw [hr _ _ rfl rfl rfl]
    exact Steps.refl _
  · show own_Q _ h0 n0 _ T1.heap _
    rw [e1]
    exact ⟨rfl, N0, rfl⟩
set_option maxRecDepth 65536 in
set_option maxHeartbeats 40000000 in
theorem own_law_6 (l : Launch) (Z : State) (a0 : Array Value) (hw : ∀ d ∈ tables_1, d.before a0 Z = true) (ws : List Jvm.Cond) (w0 : Addr) (w1 : Addr) (w2 : Addr) (w3 : Addr) (w4 : Addr) (w5 : Addr) (w6 : Addr) (w7 : Addr) (w8 : Addr) (w9 : Addr) (w10 : Addr) (w11 : Addr) (h0 : Heap) (n0 : Nat) (Z0 : n0 ≤ h0.size) (K : own_Know Z h0 w0 w1 w2 w3 w4 w5 w6 w7 w8 w9 w10 w11) (p1 : Int32) (hi : (p1 &&& (7 : Int32)) = (6 : Int32)) :
    MetFree l x (head1 (Jvm.Cond.code x code maxLocals ret :: ws) room_1) (fun a U => a = #[(.int p1)] ∧ Z.Warmed39 U.vm ∧ U.heap = h0) (fun _ _ _ _ _ => True) (fun _ U o U' => ∃ v L, o = .returned v ∧ own_QL n0 v L ∧ FrameEnd U o U' L room_1.cells room_1.slots) := by
  obtain ⟨S0, E0, S1, E1, S2, E2, S3, E3, S4, E4, S5, E5, S6, E6, S7, E7, S8, E8, S9, E9, S10, E10, S11, E11, F0_shape, O2, O0, O3, F2_shape, O4, O1, O5, F5_shape, O6, O7, F7_shape, F3_shape, O8, F8_shape, O9, O10, F10_shape, O11, F11_shape⟩ := id K
  refine MetFree.of_bodySF (plainFor_of_name own_pn_law) hisR ?_
  intro p e s m args below meth c s₁ Bd hml0 hP hK
  obtain ⟨rfl, hZ, hh⟩ := hP
  have hx := Bd.exec
  have hby := Bd.bytes
  have hml : c.maxLocals = 7 := hml0
  have hown : s.vm.findClass "com/example/isolatch/isolatch/cli/OperationGivesValuePinLaw" = some m.cls := findClass_of_methodNamed Bd.named
  have X0 : Stand p l e room_1 s m #[(.int p1)] below meth c s₁ [] 0 0 := Stand.of_body Bd
  have e0 : s₁.heap = h0 := by rw [← hh, Bd.state]; rfl
  have N0 := Fr.nil n0
  have pre0 : ∀ t, Steps p.tables e below (s₁.setTop (mkF m 0 #[.val (.int p1), .unset, .unset, .unset, .unset, .unset, .unset] [])) t → Steps p.tables e below (s₁.setTop (entryFrame m #[(.int p1)] maxLocals)) t := fun t k => castTop (own_ef_law m p1) k
  obtain ⟨T1, X1, e1, st1⟩ := getS2 X0 hx hZ hown (host := "") (Or.inl (hw _ (List.mem_of_getElem? (i := 26) rfl))) Via.refl e0 S5 (g := (mkF m 94 #[.val (.int p1), .val (.int (6 : Int32)), .unset, .unset, .unset, .unset, .unset] [])) rfl (hb hby at_94)
  obtain ⟨cq2, kq2, q2a, q2b, q2c⟩ := isOf hZ e1 E5
  obtain ⟨_, _, ⟨T2, L2, k2, n2⟩, -, X2, ⟨Lc2, hQ2, l2, y2, z2⟩, st2⟩ := X1.virtualBack hx (y := (⟨"com/example/isolatch/isolatch/cli/Operation", "givesValue", "()Z"⟩ : MethodName)) (z := (⟨"com/example/isolatch/isolatch/cli/Operation", "givesValue", "()Z"⟩ : MethodName)) hown (mvT hZ (hw _ (List.mem_of_getElem? (i := 3) rfl))) (mvT hZ (hw _ (List.mem_of_getElem? (i := 4) rfl))) (notFace_of_selects (args := #[]) (mvT hZ (hw _ (List.mem_of_getElem? (i := 6) rfl)))) (mvT hZ (hw _ (List.mem_of_getElem? (i := 6) rfl))) (mvT hZ (hw _ (List.mem_of_getElem? (i := 5) rfl))) (by decide) (backOf (W := 0) (own_givesValue_6 l Z a0 hw [] w0 w1 w2 w3 w4 w5 w6 w7 w8 w9 w10 w11 h0 n0 Z0 K) hZ (hw _ (List.mem_of_getElem? (i := 7) rfl)) (hw _ (List.mem_of_getElem? (i := 1) rfl)) (by decide) (by decide)) q2a q2c (g := (mkF m 110 #[.val (.int p1), .val (.int (6 : Int32)), .val (.ref w5), .val (.int (0 : Int32)), .unset, .unset, .unset] [(.ref w5)])) rfl (by rw [hml]; rfl) (Steps.refl _) (argsL := []) (rest := []) (lenOf own_pd0 rfl) rfl (by show 2 * 0 + _ ≤ _; exact Nat.le_of_eq rfl) (hb hby at_110) (fun _ _ => ⟨rfl, e1, (by decide : 0 + 0 ≤ _), (by decide : 0 + 0 ≤ _)⟩)
  dsimp only [Pt.U, Pt.locs, Pt.cells, Pt.slots] at X2 l2 y2 z2 st2 hQ2
  subst l2 y2 z2
  obtain ⟨rfl, N2q, e2⟩ := hQ2
  have N2 := Fr.app N0 N2q
  obtain ⟨cq3, kq3, q3a, q3b, q3c⟩ := isOf hZ e2 E5
  obtain ⟨_, _, ⟨T3, L3, k3, n3⟩, -, X3, ⟨Lc3, hQ3, l3, y3, z3⟩, st3⟩ := X2.virtualBack hx (y := (⟨"com/example/isolatch/isolatch/cli/Operation", "getShape", "()Lcom/example/isolatch/isolatch/cli/Operation$Shape;"⟩ : MethodName)) (z := (⟨"com/example/isolatch/isolatch/cli/Operation", "getShape", "()Lcom/example/isolatch/isolatch/cli/Operation$Shape;"⟩ : MethodName)) hown (mvT hZ (hw _ (List.mem_of_getElem? (i := 9) rfl))) (mvT hZ (hw _ (List.mem_of_getElem? (i := 10) rfl))) (notFace_of_selects (args := #[]) (mvT hZ (hw _ (List.mem_of_getElem? (i := 12) rfl)))) (mvT hZ (hw _ (List.mem_of_getElem? (i := 12) rfl))) (mvT hZ (hw _ (List.mem_of_getElem? (i := 11) rfl))) (by decide) (backOf (W := 0) (own_getShape_6 l Z a0 hw [] w0 w1 w2 w3 w4 w5 w6 w7 w8 w9 w10 w11 h0 n0 Z0 K) hZ (hw _ (List.mem_of_getElem? (i := 13) rfl)) (hw _ (List.mem_of_getElem? (i := 1) rfl)) (by decide) (by decide)) q3a q3c (g := (mkF m 116 #[.val (.int p1), .val (.int (6 : Int32)), .val (.ref w5), .val (.int (0 : Int32)), .val (.int (0 : Int32)), .unset, .unset] [(.ref w5)])) rfl (by rw [hml]; rfl) (Steps.refl _) (argsL := []) (rest := []) (lenOf own_pd1 rfl) rfl (by show 2 * 0 + _ ≤ _; exact Nat.le_of_eq rfl) (hb hby at_116) (fun _ _ => ⟨rfl, e2, (by decide : 0 + 0 ≤ _), (by decide : 0 + 0 ≤ _)⟩)
  dsimp only [Pt.U, Pt.locs, Pt.cells, Pt.slots] at X3 l3 y3 z3 st3 hQ3
  subst l3 y3 z3
  obtain ⟨rfl, N3q, e3⟩ := hQ3
  have N3 := Fr.app N2 N3q
  obtain ⟨T4, X4, e4, st4⟩ := getS2 X3 hx hZ hown (host := "") (Or.inl (hw _ (List.mem_of_getElem? (i := 18) rfl))) Via.refl e3 S1 (g := (mkF m 123 #[.val (.int p1), .val (.int (6 : Int32)), .val (.ref w5), .val (.int (0 : Int32)), .val (.int (0 : Int32)), .val (.ref w6), .unset] [(.ref w6)])) rfl (hb hby at_123)
  obtain ⟨T5, X5, e5, st5⟩ := getS2 X4 hx hZ hown (host := "") (Or.inl (hw _ (List.mem_of_getElem? (i := 25) rfl))) Via.refl e4 S4 (g := (mkF m 131 #[.val (.int p1), .val (.int (6 : Int32)), .val (.ref w5), .val (.int (0 : Int32)), .val (.int (0 : Int32)), .val (.ref w6), .unset] [(.ref w6)])) rfl (hb hby at_131)
  obtain ⟨fs, hr, hrun, hended, hW, hsame⟩ := X5.leave (v := some (.int (1 : Int32))) (fun h => by rw [Bd.returns] at h; cases h)
  refine ⟨_, _, pre0 _ ?_, hrun, hended, _, _, rfl, ?_, ⟨_, rfl⟩, hW, hsame.mono (by decide) (by decide)⟩
  · show Steps p.tables e below (s₁.setTop (mkF m 0 #[.val (.int p1), .unset, .unset, .unset, .unset, .unset, .unset] [])) _
    refine XS.iloadN X0.here hx rfl (hb hby at_0) rfl ?_
    show Steps p.tables e below (s₁.setTop (mkF m 1 #[.val (.int p1), .unset, .unset, .unset, .unset, .unset, .unset] [(.int p1)])) _
    refine XS.bipush X0.here hx rfl (hb hby at_1) ?_
    show Steps p.tables e below (s₁.setTop (mkF m 3 #[.val (.int p1), .unset, .unset, .unset, .unset, .unset, .unset] [(.int (7 : Int32)), (.int p1)])) _
    refine XS.iand X0.here hx rfl (hb hby at_3) rfl ?_
    show Steps p.tables e below (s₁.setTop (mkF m 4 #[.val (.int p1), .unset, .unset, .unset, .unset, .unset, .unset] [(.int (p1 &&& (7 : Int32)))])) _
    rw [hi]
    show Steps p.tables e below (s₁.setTop (mkF m 4 #[.val (.int p1), .unset, .unset, .unset, .unset, .unset, .unset] [(.int (6 : Int32))])) _
    refine XS.istoreN X0.here hx rfl (hb hby at_4) rfl (l' := #[.val (.int p1), .val (.int (6 : Int32)), .unset, .unset, .unset, .unset, .unset]) rfl ?_
    show Steps p.tables e below (s₁.setTop (mkF m 5 #[.val (.int p1), .val (.int (6 : Int32)), .unset, .unset, .unset, .unset, .unset] [])) _
    refine XS.iloadN X0.here hx rfl (hb hby at_5) rfl ?_
    show Steps p.tables e below (s₁.setTop (mkF m 6 #[.val (.int p1), .val (.int (6 : Int32)), .unset, .unset, .unset, .unset, .unset] [(.int (6 : Int32))])) _
    refine XS.ifYes X0.here hx rfl (pc0 := 6) (pc' := 18) rfl (hb hby at_6) rfl (by decide) (by decide) (by decide) ?_
    show Steps p.tables e below (s₁.setTop (mkF m 18 #[.val (.int p1), .val (.int (6 : Int32)), .unset, .unset, .unset, .unset, .unset] [])) _
    refine XS.iloadN X0.here hx rfl (hb hby at_18) rfl ?_
    show Steps p.tables e below (s₁.setTop (mkF m 19 #[.val (.int p1), .val (.int (6 : Int32)), .unset, .unset, .unset, .unset, .unset] [(.int (6 : Int32))])) _
    refine XS.iconst X0.here hx rfl (hb hby at_19) ?_
    show Steps p.tables e below (s₁.setTop (mkF m 20 #[.val (.int p1), .val (.int (6 : Int32)), .unset, .unset, .unset, .unset, .unset] [(.int (1 : Int32)), (.int (6 : Int32))])) _
    refine XS.icmpYes X0.here hx rfl (pc0 := 20) (pc' := 32) rfl (hb hby at_20) rfl (by decide) (by decide) (by decide) ?_
    show Steps p.tables e below (s₁.setTop (mkF m 32 #[.val (.int p1), .val (.int (6 : Int32)), .unset, .unset, .unset, .unset, .unset] [])) _
    refine XS.iloadN X0.here hx rfl (hb hby at_32) rfl ?_
    show Steps p.tables e below (s₁.setTop (mkF m 33 #[.val (.int p1), .val (.int (6 : Int32)), .unset, .unset, .unset, .unset, .unset] [(.int (6 : Int32))])) _
    refine XS.iconst X0.here hx rfl (hb hby at_33) ?_
    show Steps p.tables e below (s₁.setTop (mkF m 34 #[.val (.int p1), .val (.int (6 : Int32)), .unset, .unset, .unset, .unset, .unset] [(.int (2 : Int32)), (.int (6 : Int32))])) _
    refine XS.icmpYes X0.here hx rfl (pc0 := 34) (pc' := 46) rfl (hb hby at_34) rfl (by decide) (by decide) (by decide) ?_
    show Steps p.tables e below (s₁.setTop (mkF m 46 #[.val (.int p1), .val (.int (6 : Int32)), .unset, .unset, .unset, .unset, .unset] [])) _
    refine XS.iloadN X0.here hx rfl (hb hby at_46) rfl ?_
    show Steps p.tables e below (s₁.setTop (mkF m 47 #[.val (.int p1), .val (.int (6 : Int32)), .unset, .unset, .unset, .unset, .unset] [(.int (6 : Int32))])) _
    refine XS.iconst X0.here hx rfl (hb hby at_47) ?_
    show Steps p.tables e below (s₁.setTop (mkF m 48 #[.val (.int p1), .val (.int (6 : Int32)), .unset, .unset, .unset, .unset, .unset] [(.int (3 : Int32)), (.int (6 : Int32))])) _
    refine XS.icmpYes X0.here hx rfl (pc0 := 48) (pc' := 60) rfl (hb hby at_48) rfl (by decide) (by decide) (by decide) ?_
    show Steps p.tables e below (s₁.setTop (mkF m 60 #[.val (.int p1), .val (.int (6 : Int32)), .unset, .unset, .unset, .unset, .unset] [])) _
    refine XS.iloadN X0.here hx rfl (hb hby at_60) rfl ?_
    show Steps p.tables e below (s₁.setTop (mkF m 61 #[.val (.int p1), .val (.int (6 : Int32)), .unset, .unset, .unset, .unset, .unset] [(.int (6 : Int32))])) _
    refine XS.iconst X0.here hx rfl (hb hby at_61) ?_
    show Steps p.tables e below (s₁.setTop (mkF m 62 #[.val (.int p1), .val (.int (6 : Int32)), .unset, .unset, .unset, .unset, .unset] [(.int (4 : Int32)), (.int (6 : Int32))])) _
    refine XS.icmpYes X0.here hx rfl (pc0 := 62) (pc' := 74) rfl (hb hby at_62) rfl (by decide) (by decide) (by decide) ?_
    show Steps p.tables e below (s₁.setTop (mkF m 74 #[.val (.int p1), .val (.int (6 : Int32)), .unset, .unset, .unset, .unset, .unset] [])) _
    refine XS.iloadN X0.here hx rfl (hb hby at_74) rfl ?_
    show Steps p.tables e below (s₁.setTop (mkF m 75 #[.val (.int p1), .val (.int (6 : Int32)), .unset, .unset, .unset, .unset, .unset] [(.int (6 : Int32))])) _
    refine XS.iconst X0.here hx rfl (hb hby at_75) ?_
    show Steps p.tables e below (s₁.setTop (mkF m 76 #[.val (.int p1), .val (.int (6 : Int32)), .unset, .unset, .unset, .unset, .unset] [(.int (5 : Int32)), (.int (6 : Int32))])) _
    refine XS.icmpYes X0.here hx rfl (pc0 := 76) (pc' := 88) rfl (hb hby at_76) rfl (by decide) (by decide) (by decide) ?_
    show Steps p.tables e below (s₁.setTop (mkF m 88 #[.val (.int p1), .val (.int (6 : Int32)), .unset, .unset, .unset, .unset, .unset] [])) _
    refine XS.iloadN X0.here hx rfl (hb hby at_88) rfl ?_
    show Steps p.tables e below (s₁.setTop (mkF m 89 #[.val (.int p1), .val (.int (6 : Int32)), .unset, .unset, .unset, .unset, .unset] [(.int (6 : Int32))])) _
    refine XS.bipush X0.here hx rfl (hb hby at_89) ?_
    show Steps p.tables e below (s₁.setTop (mkF m 91 #[.val (.int p1), .val (.int (6 : Int32)), .unset, .unset, .unset, .unset, .unset] [(.int (6 : Int32)), (.int (6 : Int32))])) _
    refine XS.icmpNo X0.here hx rfl (hb hby at_91) rfl (by decide) ?_
    show Steps p.tables e below (s₁.setTop (mkF m 94 #[.val (.int p1), .val (.int (6 : Int32)), .unset, .unset, .unset, .unset, .unset] [])) _
    refine st1 _ ?_
    show Steps p.tables e below (T1.setTop (mkF m 97 #[.val (.int p1), .val (.int (6 : Int32)), .unset, .unset, .unset, .unset, .unset] [(.ref w5)])) _
    refine XS.astoreN X1.here hx rfl (hb hby at_97) rfl rfl (l' := #[.val (.int p1), .val (.int (6 : Int32)), .val (.ref w5), .unset, .unset, .unset, .unset]) rfl ?_
    show Steps p.tables e below (T1.setTop (mkF m 98 #[.val (.int p1), .val (.int (6 : Int32)), .val (.ref w5), .unset, .unset, .unset, .unset] [])) _
    refine XS.iconst X1.here hx rfl (hb hby at_98) ?_
    show Steps p.tables e below (T1.setTop (mkF m 99 #[.val (.int p1), .val (.int (6 : Int32)), .val (.ref w5), .unset, .unset, .unset, .unset] [(.int (0 : Int32))])) _
    refine XS.istoreN X1.here hx rfl (hb hby at_99) rfl (l' := #[.val (.int p1), .val (.int (6 : Int32)), .val (.ref w5), .val (.int (0 : Int32)), .unset, .unset, .unset]) rfl ?_
    show Steps p.tables e below (T1.setTop (mkF m 100 #[.val (.int p1), .val (.int (6 : Int32)), .val (.ref w5), .val (.int (0 : Int32)), .unset, .unset, .unset] [])) _
    refine XS.goto X1.here hx rfl (pc0 := 100) (pc' := 109) rfl (hb hby at_100) (by decide) (by decide) ?_
    show Steps p.tables e below (T1.setTop (mkF m 109 #[.val (.int p1), .val (.int (6 : Int32)), .val (.ref w5), .val (.int (0 : Int32)), .unset, .unset, .unset] [])) _
    refine XS.aloadN X1.here hx rfl (hb hby at_109) rfl rfl ?_
    show Steps p.tables e below (T1.setTop (mkF m 110 #[.val (.int p1), .val (.int (6 : Int32)), .val (.ref w5), .val (.int (0 : Int32)), .unset, .unset, .unset] [(.ref w5)])) _
    refine st2.trans ?_
    show Steps p.tables e below (T2.setTop (mkF m 113 #[.val (.int p1), .val (.int (6 : Int32)), .val (.ref w5), .val (.int (0 : Int32)), .unset, .unset, .unset] [(.int (0 : Int32))])) _
    refine XS.istore X2.here hx rfl (hb hby at_113) rfl (l' := #[.val (.int p1), .val (.int (6 : Int32)), .val (.ref w5), .val (.int (0 : Int32)), .val (.int (0 : Int32)), .unset, .unset]) rfl ?_
    show Steps p.tables e below (T2.setTop (mkF m 115 #[.val (.int p1), .val (.int (6 : Int32)), .val (.ref w5), .val (.int (0 : Int32)), .val (.int (0 : Int32)), .unset, .unset] [])) _
    refine XS.aloadN X2.here hx rfl (hb hby at_115) rfl rfl ?_
    show Steps p.tables e below (T2.setTop (mkF m 116 #[.val (.int p1), .val (.int (6 : Int32)), .val (.ref w5), .val (.int (0 : Int32)), .val (.int (0 : Int32)), .unset, .unset] [(.ref w5)])) _
    refine st3.trans ?_
    show Steps p.tables e below (T3.setTop (mkF m 119 #[.val (.int p1), .val (.int (6 : Int32)), .val (.ref w5), .val (.int (0 : Int32)), .val (.int (0 : Int32)), .unset, .unset] [(.ref w6)])) _
    refine XS.astore X3.here hx rfl (hb hby at_119) rfl rfl (l' := #[.val (.int p1), .val (.int (6 : Int32)), .val (.ref w5), .val (.int (0 : Int32)), .val (.int (0 : Int32)), .val (.ref w6), .unset]) rfl ?_
    show Steps p.tables e below (T3.setTop (mkF m 121 #[.val (.int p1), .val (.int (6 : Int32)), .val (.ref w5), .val (.int (0 : Int32)), .val (.int (0 : Int32)), .val (.ref w6), .unset] [])) _
    refine XS.aload X3.here hx rfl (hb hby at_121) rfl rfl ?_
    show Steps p.tables e below (T3.setTop (mkF m 123 #[.val (.int p1), .val (.int (6 : Int32)), .val (.ref w5), .val (.int (0 : Int32)), .val (.int (0 : Int32)), .val (.ref w6), .unset] [(.ref w6)])) _
    refine st4 _ ?_
    show Steps p.tables e below (T4.setTop (mkF m 126 #[.val (.int p1), .val (.int (6 : Int32)), .val (.ref w5), .val (.int (0 : Int32)), .val (.int (0 : Int32)), .val (.ref w6), .unset] [(.ref w1), (.ref w6)])) _
    refine Jvm.RoadKit.acmp (g := (mkF m 126 #[.val (.int p1), .val (.int (6 : Int32)), .val (.ref w5), .val (.int (0 : Int32)), .val (.int (0 : Int32)), .val (.ref w6), .unset] [(.ref w1), (.ref w6)])) X4 hx rfl rfl rfl (pc0 := 126) (pc' := 129) (same := false) rfl (hb hby at_126) rfl (decide_eq_false (fun z => (Fld.ne O6 O1 (by decide)) (Value.ref.inj z))) (by decide) (by decide) ?_
    show Steps p.tables e below (T4.setTop (mkF m 129 #[.val (.int p1), .val (.int (6 : Int32)), .val (.ref w5), .val (.int (0 : Int32)), .val (.int (0 : Int32)), .val (.ref w6), .unset] [])) _
    refine XS.aload X4.here hx rfl (hb hby at_129) rfl rfl ?_
    show Steps p.tables e below (T4.setTop (mkF m 131 #[.val (.int p1), .val (.int (6 : Int32)), .val (.ref w5), .val (.int (0 : Int32)), .val (.int (0 : Int32)), .val (.ref w6), .unset] [(.ref w6)])) _
    refine st5 _ ?_
    show Steps p.tables e below (T5.setTop (mkF m 134 #[.val (.int p1), .val (.int (6 : Int32)), .val (.ref w5), .val (.int (0 : Int32)), .val (.int (0 : Int32)), .val (.ref w6), .unset] [(.ref w4), (.ref w6)])) _
    refine Jvm.RoadKit.acmp (g := (mkF m 134 #[.val (.int p1), .val (.int (6 : Int32)), .val (.ref w5), .val (.int (0 : Int32)), .val (.int (0 : Int32)), .val (.ref w6), .unset] [(.ref w4), (.ref w6)])) X5 hx rfl rfl rfl (pc0 := 134) (pc' := 141) (same := false) rfl (hb hby at_134) rfl (decide_eq_false (fun z => (Fld.ne O6 O4 (by decide)) (Value.ref.inj z))) (by decide) (by decide) ?_
    show Steps p.tables e below (T5.setTop (mkF m 141 #[.val (.int p1), .val (.int (6 : Int32)), .val (.ref w5), .val (.int (0 : Int32)), .val (.int (0 : Int32)), .val (.ref w6), .unset] [])) _
    refine XS.iconst X5.here hx rfl (hb hby at_141) ?_
    show Steps p.tables e below (T5.setTop (mkF m 142 #[.val (.int p1), .val (.int (6 : Int32)), .val (.ref w5), .val (.int (0 : Int32)), .val (.int (0 : Int32)), .val (.ref w6), .unset] [(.int (0 : Int32))])) _
    refine XS.istore X5.here hx rfl (hb hby at_142) rfl (l' := #[.val (.int p1), .val (.int (6 : Int32)), .val (.ref w5), .val (.int (0 : Int32)), .val (.int (0 : Int32)), .val (.ref w6), .val (.int (0 : Int32))]) rfl ?_
    show Steps p.tables e below (T5.setTop (mkF m 144 #[.val (.int p1), .val (.int (6 : Int32)), .val (.ref w5), .val (.int (0 : Int32)), .val (.int (0 : Int32)), .val (.ref w6), .val (.int (0 : Int32))] [])) _
    refine XS.iload X5.here hx rfl (hb hby at_144) rfl ?_
    show Steps p.tables e below (T5.setTop (mkF m 146 #[.val (.int p1), .val (.int (6 : Int32)), .val (.ref w5), .val (.int (0 : Int32)), .val (.int (0 : Int32)), .val (.ref w6), .val (.int (0 : Int32))] [(.int (0 : Int32))])) _
    refine XS.iloadN X5.here hx rfl (hb hby at_146) rfl ?_
    show Steps p.tables e below (T5.setTop (mkF m 147 #[.val (.int p1), .val (.int (6 : Int32)), .val (.ref w5), .val (.int (0 : Int32)), .val (.int (0 : Int32)), .val (.ref w6), .val (.int (0 : Int32))] [(.int (0 : Int32)), (.int (0 : Int32))])) _
    refine XS.icmpNo X5.here hx rfl (hb hby at_147) rfl (by decide) ?_
    show Steps p.tables e below (T5.setTop (mkF m 150 #[.val (.int p1), .val (.int (6 : Int32)), .val (.ref w5), .val (.int (0 : Int32)), .val (.int (0 : Int32)), .val (.ref w6), .val (.int (0 : Int32))] [])) _
    refine XS.iload X5.here hx rfl (hb hby at_150) rfl ?_
    show Steps p.tables e below (T5.setTop (mkF m 152 #[.val (.int p1), .val (.int (6 : Int32)), .val (.ref w5), .val (.int (0 : Int32)), .val (.int (0 : Int32)), .val (.ref w6), .val (.int (0 : Int32))] [(.int (0 : Int32))])) _
    refine XS.ifYes X5.here hx rfl (pc0 := 152) (pc' := 160) rfl (hb hby at_152) rfl (by decide) (by decide) (by decide) ?_
    show Steps p.tables e below (T5.setTop (mkF m 160 #[.val (.int p1), .val (.int (6 : Int32)), .val (.ref w5), .val (.int (0 : Int32)), .val (.int (0 : Int32)), .val (.ref w6), .val (.int (0 : Int32))] [])) _
    refine XS.iconst X5.here hx rfl (hb hby at_160) ?_
    show Steps p.tables e below (T5.setTop (mkF m 161 #[.val (.int p1), .val (.int (6 : Int32)), .val (.ref w5), .val (.int (0 : Int32)), .val (.int (0 : Int32)), .val (.ref w6), .val (.int (0 : Int32))] [(.int (1 : Int32))])) _
    refine XS.goto X5.here hx rfl (pc0 := 161) (pc' := 165) rfl (hb hby at_161) (by decide) (by decide) ?_
    show Steps p.tables e below (T5.setTop (mkF m 165 #[.val (.int p1), .val (.int (6 : Int32)), .val (.ref w5), .val (.int (0 : Int32)), .val (.int (0 : Int32)), .val (.ref w6), .val (.int (0 : Int32))] [(.int (1 : Int32))])) _
    exact retN X5 hx (t := .boolean) Bd.returns (by simp) (hb hby at_165) hr
  · exact ⟨rfl, N3⟩
set_option maxRecDepth 65536 in
set_option maxHeartbeats 40000000 in
theorem own_givesValue_7 (l : Launch) (Z : State) (a0 : Array Value) (hw : ∀ d ∈ tables_1, d.before a0 Z = true) (ws : List Jvm.Cond) (w0 : Addr) (w1 : Addr) (w2 : Addr) (w3 : Addr) (w4 : Addr) (w5 : Addr) (w6 : Addr) (w7 : Addr) (w8 : Addr) (w9 : Addr) (w10 : Addr) (w11 : Addr) (h0 : Heap) (n0 : Nat) (Z0 : n0 ≤ h0.size) (K : own_Know Z h0 w0 w1 w2 w3 w4 w5 w6 w7 w8 w9 w10 w11) :
    MetFree l (⟨"com/example/isolatch/isolatch/cli/Operation", "givesValue", "()Z"⟩ : MethodName) (head1 (Jvm.Cond.code (⟨"com/example/isolatch/isolatch/cli/Operation", "givesValue", "()Z"⟩ : MethodName) prog_35_method_7_code 1 (some .boolean) :: ws) ({ frames := 0, cells := 0, slots := 0, locals := 0 } : Room)) (fun a U => a = #[(.ref w7)] ∧ Z.Warmed39 U.vm ∧ U.heap = h0) (fun _ _ _ _ _ => True) (fun _ U o U' => ∃ v L, o = .returned v ∧ own_Q (some (.int (0 : Int32))) h0 n0 v U'.heap L ∧ FrameEnd U o U' L ({ frames := 0, cells := 0, slots := 0, locals := 0 } : Room).cells ({ frames := 0, cells := 0, slots := 0, locals := 0 } : Room).slots) := by
  obtain ⟨S0, E0, S1, E1, S2, E2, S3, E3, S4, E4, S5, E5, S6, E6, S7, E7, S8, E8, S9, E9, S10, E10, S11, E11, F0_shape, O2, O0, O3, F2_shape, O4, O1, O5, F5_shape, O6, O7, F7_shape, F3_shape, O8, F8_shape, O9, O10, F10_shape, O11, F11_shape⟩ := id K
  refine MetFree.of_bodySF (plainFor_of_name own_pn_givesValue) hisR ?_
  intro p e s m args below meth c s₁ Bd hml0 hP hK
  obtain ⟨rfl, hZ, hh⟩ := hP
  have hx := Bd.exec
  have hby := Bd.bytes
  have hml : c.maxLocals = 1 := hml0
  have hown : s.vm.findClass "com/example/isolatch/isolatch/cli/Operation" = some m.cls := findClass_of_methodNamed Bd.named
  have X0 : Stand p l e ({ frames := 0, cells := 0, slots := 0, locals := 0 } : Room) s m #[(.ref w7)] below meth c s₁ [] 0 0 := Stand.of_body Bd
  have e0 : s₁.heap = h0 := by rw [← hh, Bd.state]; rfl
  have N0 := Fr.nil n0
  have pre0 : ∀ t, Steps p.tables e below (s₁.setTop (mkF m 0 #[.val (.ref w7)] [])) t → Steps p.tables e below (s₁.setTop (entryFrame m #[(.ref w7)] 1)) t := fun t k => castTop (own_ef_givesValue m w7) k
  obtain ⟨T1, X1, e1, st1⟩ := getS2 X0 hx hZ hown (host := "") (Or.inl (hw _ (List.mem_of_getElem? (i := 8) rfl))) Via.refl e0 S0 (g := (mkF m 1 #[.val (.ref w7)] [(.ref w7)])) rfl (hb hby d_givesValue_1)
  obtain ⟨T2, X2, e2, st2⟩ := getS2 X1 hx hZ hown (host := "") (Or.inl (hw _ (List.mem_of_getElem? (i := 21) rfl))) Via.refl e1 S3 (g := (mkF m 8 #[.val (.ref w7)] [(.ref w7)])) rfl (hb hby d_givesValue_8)
  obtain ⟨T3, X3, e3, st3⟩ := getS2 X2 hx hZ hown (host := "") (Or.inl (hw _ (List.mem_of_getElem? (i := 23) rfl))) Via.refl e2 S2 (g := (mkF m 15 #[.val (.ref w7)] [(.ref w7)])) rfl (hb hby d_givesValue_15)
  obtain ⟨fs, hr, hrun, hended, hW, hsame⟩ := X3.leave (v := some (.int (0 : Int32))) (fun h => by rw [Bd.returns] at h; cases h)
  refine ⟨_, _, pre0 _ ?_, hrun, hended, _, _, rfl, ?_, ⟨_, rfl⟩, hW, hsame.mono (by decide) (by decide)⟩
  · show Steps p.tables e below (s₁.setTop (mkF m 0 #[.val (.ref w7)] [])) _
    refine XS.aloadN X0.here hx rfl (hb hby d_givesValue_0) rfl rfl ?_
    show Steps p.tables e below (s₁.setTop (mkF m 1 #[.val (.ref w7)] [(.ref w7)])) _
    refine st1 _ ?_
    show Steps p.tables e below (T1.setTop (mkF m 4 #[.val (.ref w7)] [(.ref w0), (.ref w7)])) _
    refine Jvm.RoadKit.acmp (g := (mkF m 4 #[.val (.ref w7)] [(.ref w0), (.ref w7)])) X1 hx rfl rfl rfl (pc0 := 4) (pc' := 7) (same := false) rfl (hb hby d_givesValue_4) rfl (decide_eq_false (fun z => (Fld.ne O7 O0 (by decide)) (Value.ref.inj z))) (by decide) (by decide) ?_
    show Steps p.tables e below (T1.setTop (mkF m 7 #[.val (.ref w7)] [])) _
    refine XS.aloadN X1.here hx rfl (hb hby d_givesValue_7) rfl rfl ?_
    show Steps p.tables e below (T1.setTop (mkF m 8 #[.val (.ref w7)] [(.ref w7)])) _
    refine st2 _ ?_
    show Steps p.tables e below (T2.setTop (mkF m 11 #[.val (.ref w7)] [(.ref w3), (.ref w7)])) _
    refine Jvm.RoadKit.acmp (g := (mkF m 11 #[.val (.ref w7)] [(.ref w3), (.ref w7)])) X2 hx rfl rfl rfl (pc0 := 11) (pc' := 14) (same := false) rfl (hb hby d_givesValue_11) rfl (decide_eq_false (fun z => (Fld.ne O7 O3 (by decide)) (Value.ref.inj z))) (by decide) (by decide) ?_
    show Steps p.tables e below (T2.setTop (mkF m 14 #[.val (.ref w7)] [])) _
    refine XS.aloadN X2.here hx rfl (hb hby d_givesValue_14) rfl rfl ?_
    show Steps p.tables e below (T2.setTop (mkF m 15 #[.val (.ref w7)] [(.ref w7)])) _
    refine st3 _ ?_
    show Steps p.tables e below (T3.setTop (mkF m 18 #[.val (.ref w7)] [(.ref w2), (.ref w7)])) _
    refine Jvm.RoadKit.acmp (g := (mkF m 18 #[.val (.ref w7)] [(.ref w2), (.ref w7)])) X3 hx rfl rfl rfl (pc0 := 18) (pc' := 25) (same := false) rfl (hb hby d_givesValue_18) rfl (decide_eq_false (fun z => (Fld.ne O7 O2 (by decide)) (Value.ref.inj z))) (by decide) (by decide) ?_
    show Steps p.tables e below (T3.setTop (mkF m 25 #[.val (.ref w7)] [])) _
    refine XS.iconst X3.here hx rfl (hb hby d_givesValue_25) ?_
    show Steps p.tables e below (T3.setTop (mkF m 26 #[.val (.ref w7)] [(.int (0 : Int32))])) _
    exact retN X3 hx (t := .boolean) Bd.returns (by simp) (hb hby d_givesValue_26) hr
  · show own_Q _ h0 n0 _ T3.heap _
    rw [e3]
    exact ⟨rfl, N0, rfl⟩
set_option maxRecDepth 65536 in
set_option maxHeartbeats 40000000 in
theorem own_getShape_7 (l : Launch) (Z : State) (a0 : Array Value) (hw : ∀ d ∈ tables_1, d.before a0 Z = true) (ws : List Jvm.Cond) (w0 : Addr) (w1 : Addr) (w2 : Addr) (w3 : Addr) (w4 : Addr) (w5 : Addr) (w6 : Addr) (w7 : Addr) (w8 : Addr) (w9 : Addr) (w10 : Addr) (w11 : Addr) (h0 : Heap) (n0 : Nat) (Z0 : n0 ≤ h0.size) (K : own_Know Z h0 w0 w1 w2 w3 w4 w5 w6 w7 w8 w9 w10 w11) :
    MetFree l (⟨"com/example/isolatch/isolatch/cli/Operation", "getShape", "()Lcom/example/isolatch/isolatch/cli/Operation$Shape;"⟩ : MethodName) (head1 (Jvm.Cond.code (⟨"com/example/isolatch/isolatch/cli/Operation", "getShape", "()Lcom/example/isolatch/isolatch/cli/Operation$Shape;"⟩ : MethodName) prog_35_method_6_code 1 (some (.object "com/example/isolatch/isolatch/cli/Operation$Shape")) :: ws) ({ frames := 0, cells := 0, slots := 0, locals := 0 } : Room)) (fun a U => a = #[(.ref w7)] ∧ Z.Warmed39 U.vm ∧ U.heap = h0) (fun _ _ _ _ _ => True) (fun _ U o U' => ∃ v L, o = .returned v ∧ own_Q (some (.ref w6)) h0 n0 v U'.heap L ∧ FrameEnd U o U' L ({ frames := 0, cells := 0, slots := 0, locals := 0 } : Room).cells ({ frames := 0, cells := 0, slots := 0, locals := 0 } : Room).slots) := by
  obtain ⟨S0, E0, S1, E1, S2, E2, S3, E3, S4, E4, S5, E5, S6, E6, S7, E7, S8, E8, S9, E9, S10, E10, S11, E11, F0_shape, O2, O0, O3, F2_shape, O4, O1, O5, F5_shape, O6, O7, F7_shape, F3_shape, O8, F8_shape, O9, O10, F10_shape, O11, F11_shape⟩ := id K
  refine MetFree.of_bodySF (plainFor_of_name own_pn_getShape) hisR ?_
  intro p e s m args below meth c s₁ Bd hml0 hP hK
  obtain ⟨rfl, hZ, hh⟩ := hP
  have hx := Bd.exec
  have hby := Bd.bytes
  have hml : c.maxLocals = 1 := hml0
  have hown : s.vm.findClass "com/example/isolatch/isolatch/cli/Operation" = some m.cls := findClass_of_methodNamed Bd.named
  have X0 : Stand p l e ({ frames := 0, cells := 0, slots := 0, locals := 0 } : Room) s m #[(.ref w7)] below meth c s₁ [] 0 0 := Stand.of_body Bd
  have e0 : s₁.heap = h0 := by rw [← hh, Bd.state]; rfl
  have N0 := Fr.nil n0
  have pre0 : ∀ t, Steps p.tables e below (s₁.setTop (mkF m 0 #[.val (.ref w7)] [])) t → Steps p.tables e below (s₁.setTop (entryFrame m #[(.ref w7)] 1)) t := fun t k => castTop (own_ef_getShape m w7) k
  obtain ⟨T1, X1, e1, st1⟩ := getF X0 hx hZ hown (host := "") (Or.inl (hw _ (List.mem_of_getElem? (i := 14) rfl))) Via.refl e0 F7_shape (g := (mkF m 1 #[.val (.ref w7)] [(.ref w7)])) rfl rfl (hb hby d_getShape_1)
  obtain ⟨fs, hr, hrun, hended, hW, hsame⟩ := X1.leave (v := some (.ref w6)) (fun h => by rw [Bd.returns] at h; cases h)
  refine ⟨_, _, pre0 _ ?_, hrun, hended, _, _, rfl, ?_, ⟨_, rfl⟩, hW, hsame.mono (by decide) (by decide)⟩
  · show Steps p.tables e below (s₁.setTop (mkF m 0 #[.val (.ref w7)] [])) _
    refine XS.aloadN X0.here hx rfl (hb hby d_getShape_0) rfl rfl ?_
    show Steps p.tables e below (s₁.setTop (mkF m 1 #[.val (.ref w7)] [(.ref w7)])) _
    refine st1 _ ?_
    show Steps p.tables e below (T1.setTop (mkF m 4 #[.val (.ref w7)] [(.ref w6)])) _
    jvm_step X1.here [X1.here.top, hx, (hb hby d_getShape_4), X1.method', Bd.returns, Value.isRef, FieldType.isReference]
    first | (intro acts; rw [hr _ acts rfl rfl rfl]) | rw [hr _ _ rfl rfl rfl]
    exact Steps.refl _
  · show own_Q _ h0 n0 _ T1.heap _
    rw [e1]
    exact ⟨rfl, N0, rfl⟩
set_option maxRecDepth 65536 in
set_option maxHeartbeats 40000000 in
theorem own_law_7 (l : Launch) (Z : State) (a0 : Array Value) (hw : ∀ d ∈ tables_1, d.before a0 Z = true) (ws : List Jvm.Cond) (w0 : Addr) (w1 : Addr) (w2 : Addr) (w3 : Addr) (w4 : Addr) (w5 : Addr) (w6 : Addr) (w7 : Addr) (w8 : Addr) (w9 : Addr) (w10 : Addr) (w11 : Addr) (h0 : Heap) (n0 : Nat) (Z0 : n0 ≤ h0.size) (K : own_Know Z h0 w0 w1 w2 w3 w4 w5 w6 w7 w8 w9 w10 w11) (p1 : Int32) (hi : (p1 &&& (7 : Int32)) = (7 : Int32)) :
    MetFree l x (head1 (Jvm.Cond.code x code maxLocals ret :: ws) room_1) (fun a U => a = #[(.int p1)] ∧ Z.Warmed39 U.vm ∧ U.heap = h0) (fun _ _ _ _ _ => True) (fun _ U o U' => ∃ v L, o = .returned v ∧ own_QL n0 v L ∧ FrameEnd U o U' L room_1.cells room_1.slots) := by
  obtain ⟨S0, E0, S1, E1, S2, E2, S3, E3, S4, E4, S5, E5, S6, E6, S7, E7, S8, E8, S9, E9, S10, E10, S11, E11, F0_shape, O2, O0, O3, F2_shape, O4, O1, O5, F5_shape, O6, O7, F7_shape, F3_shape, O8, F8_shape, O9, O10, F10_shape, O11, F11_shape⟩ := id K
  refine MetFree.of_bodySF (plainFor_of_name own_pn_law) hisR ?_
  intro p e s m args below meth c s₁ Bd hml0 hP hK
  obtain ⟨rfl, hZ, hh⟩ := hP
  have hx := Bd.exec
  have hby := Bd.bytes
  have hml : c.maxLocals = 7 := hml0
  have hown : s.vm.findClass "com/example/isolatch/isolatch/cli/OperationGivesValuePinLaw" = some m.cls := findClass_of_methodNamed Bd.named
  have X0 : Stand p l e room_1 s m #[(.int p1)] below meth c s₁ [] 0 0 := Stand.of_body Bd
  have e0 : s₁.heap = h0 := by rw [← hh, Bd.state]; rfl
  have N0 := Fr.nil n0
  have pre0 : ∀ t, Steps p.tables e below (s₁.setTop (mkF m 0 #[.val (.int p1), .unset, .unset, .unset, .unset, .unset, .unset] [])) t → Steps p.tables e below (s₁.setTop (entryFrame m #[(.int p1)] maxLocals)) t := fun t k => castTop (own_ef_law m p1) k
  obtain ⟨T1, X1, e1, st1⟩ := getS2 X0 hx hZ hown (host := "") (Or.inl (hw _ (List.mem_of_getElem? (i := 29) rfl))) Via.refl e0 S7 (g := (mkF m 103 #[.val (.int p1), .val (.int (7 : Int32)), .unset, .unset, .unset, .unset, .unset] [])) rfl (hb hby at_103)
  obtain ⟨cq2, kq2, q2a, q2b, q2c⟩ := isOf hZ e1 E7
  obtain ⟨_, _, ⟨T2, L2, k2, n2⟩, -, X2, ⟨Lc2, hQ2, l2, y2, z2⟩, st2⟩ := X1.virtualBack hx (y := (⟨"com/example/isolatch/isolatch/cli/Operation", "givesValue", "()Z"⟩ : MethodName)) (z := (⟨"com/example/isolatch/isolatch/cli/Operation", "givesValue", "()Z"⟩ : MethodName)) hown (mvT hZ (hw _ (List.mem_of_getElem? (i := 3) rfl))) (mvT hZ (hw _ (List.mem_of_getElem? (i := 4) rfl))) (notFace_of_selects (args := #[]) (mvT hZ (hw _ (List.mem_of_getElem? (i := 6) rfl)))) (mvT hZ (hw _ (List.mem_of_getElem? (i := 6) rfl))) (mvT hZ (hw _ (List.mem_of_getElem? (i := 5) rfl))) (by decide) (backOf (W := 0) (own_givesValue_7 l Z a0 hw [] w0 w1 w2 w3 w4 w5 w6 w7 w8 w9 w10 w11 h0 n0 Z0 K) hZ (hw _ (List.mem_of_getElem? (i := 7) rfl)) (hw _ (List.mem_of_getElem? (i := 1) rfl)) (by decide) (by decide)) q2a q2c (g := (mkF m 110 #[.val (.int p1), .val (.int (7 : Int32)), .val (.ref w7), .val (.int (0 : Int32)), .unset, .unset, .unset] [(.ref w7)])) rfl (by rw [hml]; rfl) (Steps.refl _) (argsL := []) (rest := []) (lenOf own_pd0 rfl) rfl (by show 2 * 0 + _ ≤ _; exact Nat.le_of_eq rfl) (hb hby at_110) (fun _ _ => ⟨rfl, e1, (by decide : 0 + 0 ≤ _), (by decide : 0 + 0 ≤ _)⟩)
  dsimp only [Pt.U, Pt.locs, Pt.cells, Pt.slots] at X2 l2 y2 z2 st2 hQ2
  subst l2 y2 z2
  obtain ⟨rfl, N2q, e2⟩ := hQ2
  have N2 := Fr.app N0 N2q
  obtain ⟨cq3, kq3, q3a, q3b, q3c⟩ := isOf hZ e2 E7
  obtain ⟨_, _, ⟨T3, L3, k3, n3⟩, -, X3, ⟨Lc3, hQ3, l3, y3, z3⟩, st3⟩ := X2.virtualBack hx (y := (⟨"com/example/isolatch/isolatch/cli/Operation", "getShape", "()Lcom/example/isolatch/isolatch/cli/Operation$Shape;"⟩ : MethodName)) (z := (⟨"com/example/isolatch/isolatch/cli/Operation", "getShape", "()Lcom/example/isolatch/isolatch/cli/Operation$Shape;"⟩ : MethodName)) hown (mvT hZ (hw _ (List.mem_of_getElem? (i := 9) rfl))) (mvT hZ (hw _ (List.mem_of_getElem? (i := 10) rfl))) (notFace_of_selects (args := #[]) (mvT hZ (hw _ (List.mem_of_getElem? (i := 12) rfl)))) (mvT hZ (hw _ (List.mem_of_getElem? (i := 12) rfl))) (mvT hZ (hw _ (List.mem_of_getElem? (i := 11) rfl))) (by decide) (backOf (W := 0) (own_getShape_7 l Z a0 hw [] w0 w1 w2 w3 w4 w5 w6 w7 w8 w9 w10 w11 h0 n0 Z0 K) hZ (hw _ (List.mem_of_getElem? (i := 13) rfl)) (hw _ (List.mem_of_getElem? (i := 1) rfl)) (by decide) (by decide)) q3a q3c (g := (mkF m 116 #[.val (.int p1), .val (.int (7 : Int32)), .val (.ref w7), .val (.int (0 : Int32)), .val (.int (0 : Int32)), .unset, .unset] [(.ref w7)])) rfl (by rw [hml]; rfl) (Steps.refl _) (argsL := []) (rest := []) (lenOf own_pd1 rfl) rfl (by show 2 * 0 + _ ≤ _; exact Nat.le_of_eq rfl) (hb hby at_116) (fun _ _ => ⟨rfl, e2, (by decide : 0 + 0 ≤ _), (by decide : 0 + 0 ≤ _)⟩)
  dsimp only [Pt.U, Pt.locs, Pt.cells, Pt.slots] at X3 l3 y3 z3 st3 hQ3
  subst l3 y3 z3
  obtain ⟨rfl, N3q, e3⟩ := hQ3
  have N3 := Fr.app N2 N3q
  obtain ⟨T4, X4, e4, st4⟩ := getS2 X3 hx hZ hown (host := "") (Or.inl (hw _ (List.mem_of_getElem? (i := 18) rfl))) Via.refl e3 S1 (g := (mkF m 123 #[.val (.int p1), .val (.int (7 : Int32)), .val (.ref w7), .val (.int (0 : Int32)), .val (.int (0 : Int32)), .val (.ref w6), .unset] [(.ref w6)])) rfl (hb hby at_123)
  obtain ⟨T5, X5, e5, st5⟩ := getS2 X4 hx hZ hown (host := "") (Or.inl (hw _ (List.mem_of_getElem? (i := 25) rfl))) Via.refl e4 S4 (g := (mkF m 131 #[.val (.int p1), .val (.int (7 : Int32)), .val (.ref w7), .val (.int (0 : Int32)), .val (.int (0 : Int32)), .val (.ref w6), .unset] [(.ref w6)])) rfl (hb hby at_131)
  obtain ⟨fs, hr, hrun, hended, hW, hsame⟩ := X5.leave (v := some (.int (1 : Int32))) (fun h => by rw [Bd.returns] at h; cases h)
  refine ⟨_, _, pre0 _ ?_, hrun, hended, _, _, rfl, ?_, ⟨_, rfl⟩, hW, hsame.mono (by decide) (by decide)⟩
  · show Steps p.tables e below (s₁.setTop (mkF m 0 #[.val (.int p1), .unset, .unset, .unset, .unset, .unset, .unset] [])) _
    refine XS.iloadN X0.here hx rfl (hb hby at_0) rfl ?_
    show Steps p.tables e below (s₁.setTop (mkF m 1 #[.val (.int p1), .unset, .unset, .unset, .unset, .unset, .unset] [(.int p1)])) _
    refine XS.bipush X0.here hx rfl (hb hby at_1) ?_
    show Steps p.tables e below (s₁.setTop (mkF m 3 #[.val (.int p1), .unset, .unset, .unset, .unset, .unset, .unset] [(.int (7 : Int32)), (.int p1)])) _
    refine XS.iand X0.here hx rfl (hb hby at_3) rfl ?_
    show Steps p.tables e below (s₁.setTop (mkF m 4 #[.val (.int p1), .unset, .unset, .unset, .unset, .unset, .unset] [(.int (p1 &&& (7 : Int32)))])) _
    rw [hi]
    show Steps p.tables e below (s₁.setTop (mkF m 4 #[.val (.int p1), .unset, .unset, .unset, .unset, .unset, .unset] [(.int (7 : Int32))])) _
    refine XS.istoreN X0.here hx rfl (hb hby at_4) rfl (l' := #[.val (.int p1), .val (.int (7 : Int32)), .unset, .unset, .unset, .unset, .unset]) rfl ?_
    show Steps p.tables e below (s₁.setTop (mkF m 5 #[.val (.int p1), .val (.int (7 : Int32)), .unset, .unset, .unset, .unset, .unset] [])) _
    refine XS.iloadN X0.here hx rfl (hb hby at_5) rfl ?_
    show Steps p.tables e below (s₁.setTop (mkF m 6 #[.val (.int p1), .val (.int (7 : Int32)), .unset, .unset, .unset, .unset, .unset] [(.int (7 : Int32))])) _
    refine XS.ifYes X0.here hx rfl (pc0 := 6) (pc' := 18) rfl (hb hby at_6) rfl (by decide) (by decide) (by decide) ?_
    show Steps p.tables e below (s₁.setTop (mkF m 18 #[.val (.int p1), .val (.int (7 : Int32)), .unset, .unset, .unset, .unset, .unset] [])) _
    refine XS.iloadN X0.here hx rfl (hb hby at_18) rfl ?_
    show Steps p.tables e below (s₁.setTop (mkF m 19 #[.val (.int p1), .val (.int (7 : Int32)), .unset, .unset, .unset, .unset, .unset] [(.int (7 : Int32))])) _
    refine XS.iconst X0.here hx rfl (hb hby at_19) ?_
    show Steps p.tables e below (s₁.setTop (mkF m 20 #[.val (.int p1), .val (.int (7 : Int32)), .unset, .unset, .unset, .unset, .unset] [(.int (1 : Int32)), (.int (7 : Int32))])) _
    refine XS.icmpYes X0.here hx rfl (pc0 := 20) (pc' := 32) rfl (hb hby at_20) rfl (by decide) (by decide) (by decide) ?_
    show Steps p.tables e below (s₁.setTop (mkF m 32 #[.val (.int p1), .val (.int (7 : Int32)), .unset, .unset, .unset, .unset, .unset] [])) _
    refine XS.iloadN X0.here hx rfl (hb hby at_32) rfl ?_
    show Steps p.tables e below (s₁.setTop (mkF m 33 #[.val (.int p1), .val (.int (7 : Int32)), .unset, .unset, .unset, .unset, .unset] [(.int (7 : Int32))])) _
    refine XS.iconst X0.here hx rfl (hb hby at_33) ?_
    show Steps p.tables e below (s₁.setTop (mkF m 34 #[.val (.int p1), .val (.int (7 : Int32)), .unset, .unset, .unset, .unset, .unset] [(.int (2 : Int32)), (.int (7 : Int32))])) _
    refine XS.icmpYes X0.here hx rfl (pc0 := 34) (pc' := 46) rfl (hb hby at_34) rfl (by decide) (by decide) (by decide) ?_
    show Steps p.tables e below (s₁.setTop (mkF m 46 #[.val (.int p1), .val (.int (7 : Int32)), .unset, .unset, .unset, .unset, .unset] [])) _
    refine XS.iloadN X0.here hx rfl (hb hby at_46) rfl ?_
    show Steps p.tables e below (s₁.setTop (mkF m 47 #[.val (.int p1), .val (.int (7 : Int32)), .unset, .unset, .unset, .unset, .unset] [(.int (7 : Int32))])) _
    refine XS.iconst X0.here hx rfl (hb hby at_47) ?_
    show Steps p.tables e below (s₁.setTop (mkF m 48 #[.val (.int p1), .val (.int (7 : Int32)), .unset, .unset, .unset, .unset, .unset] [(.int (3 : Int32)), (.int (7 : Int32))])) _
    refine XS.icmpYes X0.here hx rfl (pc0 := 48) (pc' := 60) rfl (hb hby at_48) rfl (by decide) (by decide) (by decide) ?_
    show Steps p.tables e below (s₁.setTop (mkF m 60 #[.val (.int p1), .val (.int (7 : Int32)), .unset, .unset, .unset, .unset, .unset] [])) _
    refine XS.iloadN X0.here hx rfl (hb hby at_60) rfl ?_
    show Steps p.tables e below (s₁.setTop (mkF m 61 #[.val (.int p1), .val (.int (7 : Int32)), .unset, .unset, .unset, .unset, .unset] [(.int (7 : Int32))])) _
    refine XS.iconst X0.here hx rfl (hb hby at_61) ?_
    show Steps p.tables e below (s₁.setTop (mkF m 62 #[.val (.int p1), .val (.int (7 : Int32)), .unset, .unset, .unset, .unset, .unset] [(.int (4 : Int32)), (.int (7 : Int32))])) _
    refine XS.icmpYes X0.here hx rfl (pc0 := 62) (pc' := 74) rfl (hb hby at_62) rfl (by decide) (by decide) (by decide) ?_
    show Steps p.tables e below (s₁.setTop (mkF m 74 #[.val (.int p1), .val (.int (7 : Int32)), .unset, .unset, .unset, .unset, .unset] [])) _
    refine XS.iloadN X0.here hx rfl (hb hby at_74) rfl ?_
    show Steps p.tables e below (s₁.setTop (mkF m 75 #[.val (.int p1), .val (.int (7 : Int32)), .unset, .unset, .unset, .unset, .unset] [(.int (7 : Int32))])) _
    refine XS.iconst X0.here hx rfl (hb hby at_75) ?_
    show Steps p.tables e below (s₁.setTop (mkF m 76 #[.val (.int p1), .val (.int (7 : Int32)), .unset, .unset, .unset, .unset, .unset] [(.int (5 : Int32)), (.int (7 : Int32))])) _
    refine XS.icmpYes X0.here hx rfl (pc0 := 76) (pc' := 88) rfl (hb hby at_76) rfl (by decide) (by decide) (by decide) ?_
    show Steps p.tables e below (s₁.setTop (mkF m 88 #[.val (.int p1), .val (.int (7 : Int32)), .unset, .unset, .unset, .unset, .unset] [])) _
    refine XS.iloadN X0.here hx rfl (hb hby at_88) rfl ?_
    show Steps p.tables e below (s₁.setTop (mkF m 89 #[.val (.int p1), .val (.int (7 : Int32)), .unset, .unset, .unset, .unset, .unset] [(.int (7 : Int32))])) _
    refine XS.bipush X0.here hx rfl (hb hby at_89) ?_
    show Steps p.tables e below (s₁.setTop (mkF m 91 #[.val (.int p1), .val (.int (7 : Int32)), .unset, .unset, .unset, .unset, .unset] [(.int (6 : Int32)), (.int (7 : Int32))])) _
    refine XS.icmpYes X0.here hx rfl (pc0 := 91) (pc' := 103) rfl (hb hby at_91) rfl (by decide) (by decide) (by decide) ?_
    show Steps p.tables e below (s₁.setTop (mkF m 103 #[.val (.int p1), .val (.int (7 : Int32)), .unset, .unset, .unset, .unset, .unset] [])) _
    refine st1 _ ?_
    show Steps p.tables e below (T1.setTop (mkF m 106 #[.val (.int p1), .val (.int (7 : Int32)), .unset, .unset, .unset, .unset, .unset] [(.ref w7)])) _
    refine XS.astoreN X1.here hx rfl (hb hby at_106) rfl rfl (l' := #[.val (.int p1), .val (.int (7 : Int32)), .val (.ref w7), .unset, .unset, .unset, .unset]) rfl ?_
    show Steps p.tables e below (T1.setTop (mkF m 107 #[.val (.int p1), .val (.int (7 : Int32)), .val (.ref w7), .unset, .unset, .unset, .unset] [])) _
    refine XS.iconst X1.here hx rfl (hb hby at_107) ?_
    show Steps p.tables e below (T1.setTop (mkF m 108 #[.val (.int p1), .val (.int (7 : Int32)), .val (.ref w7), .unset, .unset, .unset, .unset] [(.int (0 : Int32))])) _
    refine XS.istoreN X1.here hx rfl (hb hby at_108) rfl (l' := #[.val (.int p1), .val (.int (7 : Int32)), .val (.ref w7), .val (.int (0 : Int32)), .unset, .unset, .unset]) rfl ?_
    show Steps p.tables e below (T1.setTop (mkF m 109 #[.val (.int p1), .val (.int (7 : Int32)), .val (.ref w7), .val (.int (0 : Int32)), .unset, .unset, .unset] [])) _
    refine XS.aloadN X1.here hx rfl (hb hby at_109) rfl rfl ?_
    show Steps p.tables e below (T1.setTop (mkF m 110 #[.val (.int p1), .val (.int (7 : Int32)), .val (.ref w7), .val (.int (0 : Int32)), .unset, .unset, .unset] [(.ref w7)])) _
    refine st2.trans ?_
    show Steps p.tables e below (T2.setTop (mkF m 113 #[.val (.int p1), .val (.int (7 : Int32)), .val (.ref w7), .val (.int (0 : Int32)), .unset, .unset, .unset] [(.int (0 : Int32))])) _
    refine XS.istore X2.here hx rfl (hb hby at_113) rfl (l' := #[.val (.int p1), .val (.int (7 : Int32)), .val (.ref w7), .val (.int (0 : Int32)), .val (.int (0 : Int32)), .unset, .unset]) rfl ?_
    show Steps p.tables e below (T2.setTop (mkF m 115 #[.val (.int p1), .val (.int (7 : Int32)), .val (.ref w7), .val (.int (0 : Int32)), .val (.int (0 : Int32)), .unset, .unset] [])) _
    refine XS.aloadN X2.here hx rfl (hb hby at_115) rfl rfl ?_
    show Steps p.tables e below (T2.setTop (mkF m 116 #[.val (.int p1), .val (.int (7 : Int32)), .val (.ref w7), .val (.int (0 : Int32)), .val (.int (0 : Int32)), .unset, .unset] [(.ref w7)])) _
    refine st3.trans ?_
    show Steps p.tables e below (T3.setTop (mkF m 119 #[.val (.int p1), .val (.int (7 : Int32)), .val (.ref w7), .val (.int (0 : Int32)), .val (.int (0 : Int32)), .unset, .unset] [(.ref w6)])) _
    refine XS.astore X3.here hx rfl (hb hby at_119) rfl rfl (l' := #[.val (.int p1), .val (.int (7 : Int32)), .val (.ref w7), .val (.int (0 : Int32)), .val (.int (0 : Int32)), .val (.ref w6), .unset]) rfl ?_
    show Steps p.tables e below (T3.setTop (mkF m 121 #[.val (.int p1), .val (.int (7 : Int32)), .val (.ref w7), .val (.int (0 : Int32)), .val (.int (0 : Int32)), .val (.ref w6), .unset] [])) _
    refine XS.aload X3.here hx rfl (hb hby at_121) rfl rfl ?_
    show Steps p.tables e below (T3.setTop (mkF m 123 #[.val (.int p1), .val (.int (7 : Int32)), .val (.ref w7), .val (.int (0 : Int32)), .val (.int (0 : Int32)), .val (.ref w6), .unset] [(.ref w6)])) _
    refine st4 _ ?_
    show Steps p.tables e below (T4.setTop (mkF m 126 #[.val (.int p1), .val (.int (7 : Int32)), .val (.ref w7), .val (.int (0 : Int32)), .val (.int (0 : Int32)), .val (.ref w6), .unset] [(.ref w1), (.ref w6)])) _
    refine Jvm.RoadKit.acmp (g := (mkF m 126 #[.val (.int p1), .val (.int (7 : Int32)), .val (.ref w7), .val (.int (0 : Int32)), .val (.int (0 : Int32)), .val (.ref w6), .unset] [(.ref w1), (.ref w6)])) X4 hx rfl rfl rfl (pc0 := 126) (pc' := 129) (same := false) rfl (hb hby at_126) rfl (decide_eq_false (fun z => (Fld.ne O6 O1 (by decide)) (Value.ref.inj z))) (by decide) (by decide) ?_
    show Steps p.tables e below (T4.setTop (mkF m 129 #[.val (.int p1), .val (.int (7 : Int32)), .val (.ref w7), .val (.int (0 : Int32)), .val (.int (0 : Int32)), .val (.ref w6), .unset] [])) _
    refine XS.aload X4.here hx rfl (hb hby at_129) rfl rfl ?_
    show Steps p.tables e below (T4.setTop (mkF m 131 #[.val (.int p1), .val (.int (7 : Int32)), .val (.ref w7), .val (.int (0 : Int32)), .val (.int (0 : Int32)), .val (.ref w6), .unset] [(.ref w6)])) _
    refine st5 _ ?_
    show Steps p.tables e below (T5.setTop (mkF m 134 #[.val (.int p1), .val (.int (7 : Int32)), .val (.ref w7), .val (.int (0 : Int32)), .val (.int (0 : Int32)), .val (.ref w6), .unset] [(.ref w4), (.ref w6)])) _
    refine Jvm.RoadKit.acmp (g := (mkF m 134 #[.val (.int p1), .val (.int (7 : Int32)), .val (.ref w7), .val (.int (0 : Int32)), .val (.int (0 : Int32)), .val (.ref w6), .unset] [(.ref w4), (.ref w6)])) X5 hx rfl rfl rfl (pc0 := 134) (pc' := 141) (same := false) rfl (hb hby at_134) rfl (decide_eq_false (fun z => (Fld.ne O6 O4 (by decide)) (Value.ref.inj z))) (by decide) (by decide) ?_
    show Steps p.tables e below (T5.setTop (mkF m 141 #[.val (.int p1), .val (.int (7 : Int32)), .val (.ref w7), .val (.int (0 : Int32)), .val (.int (0 : Int32)), .val (.ref w6), .unset] [])) _
    refine XS.iconst X5.here hx rfl (hb hby at_141) ?_
    show Steps p.tables e below (T5.setTop (mkF m 142 #[.val (.int p1), .val (.int (7 : Int32)), .val (.ref w7), .val (.int (0 : Int32)), .val (.int (0 : Int32)), .val (.ref w6), .unset] [(.int (0 : Int32))])) _
    refine XS.istore X5.here hx rfl (hb hby at_142) rfl (l' := #[.val (.int p1), .val (.int (7 : Int32)), .val (.ref w7), .val (.int (0 : Int32)), .val (.int (0 : Int32)), .val (.ref w6), .val (.int (0 : Int32))]) rfl ?_
    show Steps p.tables e below (T5.setTop (mkF m 144 #[.val (.int p1), .val (.int (7 : Int32)), .val (.ref w7), .val (.int (0 : Int32)), .val (.int (0 : Int32)), .val (.ref w6), .val (.int (0 : Int32))] [])) _
    refine XS.iload X5.here hx rfl (hb hby at_144) rfl ?_
    show Steps p.tables e below (T5.setTop (mkF m 146 #[.val (.int p1), .val (.int (7 : Int32)), .val (.ref w7), .val (.int (0 : Int32)), .val (.int (0 : Int32)), .val (.ref w6), .val (.int (0 : Int32))] [(.int (0 : Int32))])) _
    refine XS.iloadN X5.here hx rfl (hb hby at_146) rfl ?_
    show Steps p.tables e below (T5.setTop (mkF m 147 #[.val (.int p1), .val (.int (7 : Int32)), .val (.ref w7), .val (.int (0 : Int32)), .val (.int (0 : Int32)), .val (.ref w6), .val (.int (0 : Int32))] [(.int (0 : Int32)), (.int (0 : Int32))])) _
    refine XS.icmpNo X5.here hx rfl (hb hby at_147) rfl (by decide) ?_
    show Steps p.tables e below (T5.setTop (mkF m 150 #[.val (.int p1), .val (.int (7 : Int32)), .val (.ref w7), .val (.int (0 : Int32)), .val (.int (0 : Int32)), .val (.ref w6), .val (.int (0 : Int32))] [])) _
    refine XS.iload X5.here hx rfl (hb hby at_150) rfl ?_
    show Steps p.tables e below (T5.setTop (mkF m 152 #[.val (.int p1), .val (.int (7 : Int32)), .val (.ref w7), .val (.int (0 : Int32)), .val (.int (0 : Int32)), .val (.ref w6), .val (.int (0 : Int32))] [(.int (0 : Int32))])) _
    refine XS.ifYes X5.here hx rfl (pc0 := 152) (pc' := 160) rfl (hb hby at_152) rfl (by decide) (by decide) (by decide) ?_
    show Steps p.tables e below (T5.setTop (mkF m 160 #[.val (.int p1), .val (.int (7 : Int32)), .val (.ref w7), .val (.int (0 : Int32)), .val (.int (0 : Int32)), .val (.ref w6), .val (.int (0 : Int32))] [])) _
    refine XS.iconst X5.here hx rfl (hb hby at_160) ?_
    show Steps p.tables e below (T5.setTop (mkF m 161 #[.val (.int p1), .val (.int (7 : Int32)), .val (.ref w7), .val (.int (0 : Int32)), .val (.int (0 : Int32)), .val (.ref w6), .val (.int (0 : Int32))] [(.int (1 : Int32))])) _
    refine XS.goto X5.here hx rfl (pc0 := 161) (pc' := 165) rfl (hb hby at_161) (by decide) (by decide) ?_
    show Steps p.tables e below (T5.setTop (mkF m 165 #[.val (.int p1), .val (.int (7 : Int32)), .val (.ref w7), .val (.int (0 : Int32)), .val (.int (0 : Int32)), .val (.ref w6), .val (.int (0 : Int32))] [(.int (1 : Int32))])) _
    exact retN X5 hx (t := .boolean) Bd.returns (by simp) (hb hby at_165) hr
  · exact ⟨rfl, N3⟩
theorem own_mod (x : Int32) : (x &&& (7 : Int32)) = (0 : Int32) ∨ (x &&& (7 : Int32)) = (1 : Int32) ∨ (x &&& (7 : Int32)) = (2 : Int32) ∨ (x &&& (7 : Int32)) = (3 : Int32) ∨ (x &&& (7 : Int32)) = (4 : Int32) ∨ (x &&& (7 : Int32)) = (5 : Int32) ∨ (x &&& (7 : Int32)) = (6 : Int32) ∨ (x &&& (7 : Int32)) = (7 : Int32) := by
  have e1 : (x &&& (7 : Int32)).toInt = x.toInt % 2 ^ 3 := Jvm.Kit.i32_mask x 7 (k := 3) (by decide) (by decide)
  simp only [← Int32.toInt_inj, e1]
  have l0 : (0 : Int32).toInt = 0 := by decide
  have l1 : (1 : Int32).toInt = 1 := by decide
  have l2 : (2 : Int32).toInt = 2 := by decide
  have l3 : (3 : Int32).toInt = 3 := by decide
  have l4 : (4 : Int32).toInt = 4 := by decide
  have l5 : (5 : Int32).toInt = 5 := by decide
  have l6 : (6 : Int32).toInt = 6 := by decide
  have l7 : (7 : Int32).toInt = 7 := by decide
  rw [l0, l1, l2, l3, l4, l5, l6, l7]
  omega
theorem own_law (l : Launch) (Z : State) (a0 : Array Value) (hw : ∀ d ∈ tables_1, d.before a0 Z = true) (ws : List Jvm.Cond) (w0 : Addr) (w1 : Addr) (w2 : Addr) (w3 : Addr) (w4 : Addr) (w5 : Addr) (w6 : Addr) (w7 : Addr) (w8 : Addr) (w9 : Addr) (w10 : Addr) (w11 : Addr) (h0 : Heap) (n0 : Nat) (Z0 : n0 ≤ h0.size) (K : own_Know Z h0 w0 w1 w2 w3 w4 w5 w6 w7 w8 w9 w10 w11) (p1 : Int32) :
    MetFree l x (head1 (Jvm.Cond.code x code maxLocals ret :: ws) room_1) (fun a U => a = #[(.int p1)] ∧ Z.Warmed39 U.vm ∧ U.heap = h0) (fun _ _ _ _ _ => True) (fun _ U o U' => ∃ v L, o = .returned v ∧ own_QL n0 v L ∧ FrameEnd U o U' L room_1.cells room_1.slots) := by
  rcases own_mod p1 with hi | hi | hi | hi | hi | hi | hi | hi
  · exact own_law_0 l Z a0 hw ws w0 w1 w2 w3 w4 w5 w6 w7 w8 w9 w10 w11 h0 n0 Z0 K p1 hi
  · exact own_law_1 l Z a0 hw ws w0 w1 w2 w3 w4 w5 w6 w7 w8 w9 w10 w11 h0 n0 Z0 K p1 hi
  · exact own_law_2 l Z a0 hw ws w0 w1 w2 w3 w4 w5 w6 w7 w8 w9 w10 w11 h0 n0 Z0 K p1 hi
  · exact own_law_3 l Z a0 hw ws w0 w1 w2 w3 w4 w5 w6 w7 w8 w9 w10 w11 h0 n0 Z0 K p1 hi
  · exact own_law_4 l Z a0 hw ws w0 w1 w2 w3 w4 w5 w6 w7 w8 w9 w10 w11 h0 n0 Z0 K p1 hi
  · exact own_law_5 l Z a0 hw ws w0 w1 w2 w3 w4 w5 w6 w7 w8 w9 w10 w11 h0 n0 Z0 K p1 hi
  · exact own_law_6 l Z a0 hw ws w0 w1 w2 w3 w4 w5 w6 w7 w8 w9 w10 w11 h0 n0 Z0 K p1 hi
  · exact own_law_7 l Z a0 hw ws w0 w1 w2 w3 w4 w5 w6 w7 w8 w9 w10 w11 h0 n0 Z0 K p1 hi
set_option maxRecDepth 65536 in
set_option maxHeartbeats 40000000 in
theorem comes_1 {Post : Tables → Env → Array Value → State → Outcome → State → Prop} (hpost : ∀ tb e args s v u, (limb_1_1.after args s (.returned v) u = true ∧ limb_1_2.after args s (.returned v) u = true ∧ True) → FrameEnd s (.returned v) u (Jvm.fieldLocs frame_1_writes args s ++ Jvm.arrayLocs frame_1_arrays args s ++ Jvm.staticLocs frame_1_statics s) 0 0 → Post tb e args s (.returned v) u) :
    ArmFor flags0 classFile x code maxLocals ret World_1 tables_1 room_1 Calls_1 rest_1 Pre_1 Post := by
  intro l hfl _ _ p e ha hc hk s m args below hf hA hF happ hP
  obtain ⟨hcalls, hrest, hpre⟩ := hP
  obtain ⟨-, -, -, hnamed, -, -, -, hat⟩ := (Spec.applies_iff hf).mp happ
  obtain ⟨hg, hn⟩ := and_e (Cond.before_iff.mp (show (Jvm.Cond.and given_1 narrow_1).before args s = true from hpre))
  obtain ⟨g5, g6⟩ := and_e hg
  obtain ⟨w0_0, rfl⟩ : ∃ w0_0 : Value, args = #[w0_0] := by
    have hs : args.size = 1 := by simpa [Cond.value, given_1] using g5
    obtain ⟨L⟩ := args
    match L, hs with
    | [w0_0], _ => exact ⟨w0_0, rfl⟩
  have hw := fun d (hd : d ∈ tables_1) => atoms_spec (ws := Jvm.Cond.code x code maxLocals ret :: tables_1) hat d (List.mem_cons_of_mem _ hd)
  obtain ⟨i0, ei0⟩ := is_v g6
  obtain rfl : w0_0 = (.int i0) := Option.some.inj ei0
  obtain ⟨c0, r0⟩ := and_e hn
  obtain ⟨c1, r1⟩ := and_e r0
  obtain ⟨c2, r2⟩ := and_e r1
  obtain ⟨c3, r3⟩ := and_e r2
  obtain ⟨c4, r4⟩ := and_e r3
  obtain ⟨c5, r5⟩ := and_e r4
  obtain ⟨c6, r6⟩ := and_e r5
  obtain ⟨c7, r7⟩ := and_e r6
  obtain ⟨c8, r8⟩ := and_e r7
  obtain ⟨c9, r9⟩ := and_e r8
  obtain ⟨c10, r10⟩ := and_e r9
  obtain ⟨c11, r11⟩ := and_e r10
  obtain ⟨c12, r12⟩ := and_e r11
  obtain ⟨c13, r13⟩ := and_e r12
  obtain ⟨c14, r14⟩ := and_e r13
  obtain ⟨c15, r15⟩ := and_e r14
  obtain ⟨c16, r16⟩ := and_e r15
  obtain ⟨c17, r17⟩ := and_e r16
  obtain ⟨c18, r18⟩ := and_e r17
  obtain ⟨c19, r19⟩ := and_e r18
  obtain ⟨c20, r20⟩ := and_e r19
  obtain ⟨c21, r21⟩ := and_e r20
  obtain ⟨c22, r22⟩ := and_e r21
  obtain ⟨c23, r23⟩ := and_e r22
  obtain ⟨c24, r24⟩ := and_e r23
  obtain ⟨c25, r25⟩ := and_e r24
  obtain ⟨c26, r26⟩ := and_e r25
  obtain ⟨c27, r27⟩ := and_e r26
  obtain ⟨c28, r28⟩ := and_e r27
  obtain ⟨c29, r29⟩ := and_e r28
  obtain ⟨c30, r30⟩ := and_e r29
  obtain ⟨w0, ev0⟩ := exa_v c0
  have S0 := Sta.start ev0 (Or.inr ⟨(hw _ (List.mem_of_getElem? (i := 1) rfl)), (hw _ (List.mem_of_getElem? (i := 2) rfl))⟩)
  have E0 := Exa.start ev0 c0
  obtain ⟨w1, ev1⟩ := exa_v c1
  have S1 := Sta.start ev1 (Or.inr ⟨(hw _ (List.mem_of_getElem? (i := 16) rfl)), (hw _ (List.mem_of_getElem? (i := 17) rfl))⟩)
  have E1 := Exa.start ev1 c1
  obtain ⟨w2, ev2⟩ := exa_v c3
  have S2 := Sta.start ev2 (Or.inr ⟨(hw _ (List.mem_of_getElem? (i := 1) rfl)), (hw _ (List.mem_of_getElem? (i := 20) rfl))⟩)
  have E2 := Exa.start ev2 c3
  obtain ⟨w3, ev3⟩ := exa_v c6
  have S3 := Sta.start ev3 (Or.inr ⟨(hw _ (List.mem_of_getElem? (i := 1) rfl)), (hw _ (List.mem_of_getElem? (i := 22) rfl))⟩)
  have E3 := Exa.start ev3 c6
  obtain ⟨w4, ev4⟩ := exa_v c8
  have S4 := Sta.start ev4 (Or.inr ⟨(hw _ (List.mem_of_getElem? (i := 16) rfl)), (hw _ (List.mem_of_getElem? (i := 24) rfl))⟩)
  have E4 := Exa.start ev4 c8
  obtain ⟨w5, ev5⟩ := exa_v c12
  have S5 := Sta.start ev5 (Or.inr ⟨(hw _ (List.mem_of_getElem? (i := 1) rfl)), (hw _ (List.mem_of_getElem? (i := 27) rfl))⟩)
  have E5 := Exa.start ev5 c12
  obtain ⟨w6, ev6⟩ := exa_v c14
  have S6 := Sta.start ev6 (Or.inr ⟨(hw _ (List.mem_of_getElem? (i := 16) rfl)), (hw _ (List.mem_of_getElem? (i := 28) rfl))⟩)
  have E6 := Exa.start ev6 c14
  obtain ⟨w7, ev7⟩ := exa_v c17
  have S7 := Sta.start ev7 (Or.inr ⟨(hw _ (List.mem_of_getElem? (i := 1) rfl)), (hw _ (List.mem_of_getElem? (i := 30) rfl))⟩)
  have E7 := Exa.start ev7 c17
  obtain ⟨w8, ev8⟩ := exa_v c21
  have S8 := Sta.start ev8 (Or.inr ⟨(hw _ (List.mem_of_getElem? (i := 1) rfl)), (hw _ (List.mem_of_getElem? (i := 33) rfl))⟩)
  have E8 := Exa.start ev8 c21
  obtain ⟨w9, ev9⟩ := exa_v c23
  have S9 := Sta.start ev9 (Or.inr ⟨(hw _ (List.mem_of_getElem? (i := 16) rfl)), (hw _ (List.mem_of_getElem? (i := 34) rfl))⟩)
  have E9 := Exa.start ev9 c23
  obtain ⟨w10, ev10⟩ := exa_v c26
  have S10 := Sta.start ev10 (Or.inr ⟨(hw _ (List.mem_of_getElem? (i := 1) rfl)), (hw _ (List.mem_of_getElem? (i := 36) rfl))⟩)
  have E10 := Exa.start ev10 c26
  obtain ⟨w11, ev11⟩ := exa_v c29
  have S11 := Sta.start ev11 (Or.inr ⟨(hw _ (List.mem_of_getElem? (i := 1) rfl)), (hw _ (List.mem_of_getElem? (i := 38) rfl))⟩)
  have E11 := Exa.start ev11 c29
  have F0_shape := Fld.start ((fld_at ev0).symm.trans (Cond.eq_refs (own_h c2) ev1 rfl))
  have O2 := Fld.start ((fld_at ev2).symm.trans (Cond.eq_int (own_h c4) rfl))
  have O0 := Fld.start ((fld_at ev0).symm.trans (Cond.eq_int (own_h c5) rfl))
  have O3 := Fld.start ((fld_at ev3).symm.trans (Cond.eq_int (own_h c7) rfl))
  have F2_shape := Fld.start ((fld_at ev2).symm.trans (Cond.eq_refs (own_h c9) ev4 rfl))
  have O4 := Fld.start ((fld_at ev4).symm.trans (Cond.eq_int (own_h c10) rfl))
  have O1 := Fld.start ((fld_at ev1).symm.trans (Cond.eq_int (own_h c11) rfl))
  have O5 := Fld.start ((fld_at ev5).symm.trans (Cond.eq_int (own_h c13) rfl))
  have F5_shape := Fld.start ((fld_at ev5).symm.trans (Cond.eq_refs (own_h c15) ev6 rfl))
  have O6 := Fld.start ((fld_at ev6).symm.trans (Cond.eq_int (own_h c16) rfl))
  have O7 := Fld.start ((fld_at ev7).symm.trans (Cond.eq_int (own_h c18) rfl))
  have F7_shape := Fld.start ((fld_at ev7).symm.trans (Cond.eq_refs (own_h c19) ev6 rfl))
  have F3_shape := Fld.start ((fld_at ev3).symm.trans (Cond.eq_refs (own_h c20) ev1 rfl))
  have O8 := Fld.start ((fld_at ev8).symm.trans (Cond.eq_int (own_h c22) rfl))
  have F8_shape := Fld.start ((fld_at ev8).symm.trans (Cond.eq_refs (own_h c24) ev9 rfl))
  have O9 := Fld.start ((fld_at ev9).symm.trans (Cond.eq_int (own_h c25) rfl))
  have O10 := Fld.start ((fld_at ev10).symm.trans (Cond.eq_int (own_h c27) rfl))
  have F10_shape := Fld.start ((fld_at ev10).symm.trans (Cond.eq_refs (own_h c28) ev1 rfl))
  have O11 := Fld.start ((fld_at ev11).symm.trans (Cond.eq_int (own_h c30) rfl))
  have F11_shape := Fld.start ((fld_at ev11).symm.trans (Cond.eq_refs (own_h r30) ev6 rfl))
  have K : own_Know s s.heap w0 w1 w2 w3 w4 w5 w6 w7 w8 w9 w10 w11 := ⟨S0, E0, S1, E1, S2, E2, S3, E3, S4, E4, S5, E5, S6, E6, S7, E7, S8, E8, S9, E9, S10, E10, S11, E11, F0_shape, O2, O0, O3, F2_shape, O4, O1, O5, F5_shape, O6, O7, F7_shape, F3_shape, O8, F8_shape, O9, O10, F10_shape, O11, F11_shape⟩
  obtain ⟨n, o, h1, h2, h3, _, L, rfl, ⟨rfl, N⟩, hq⟩ := own_law l s _ hw tables_1 w0 w1 w2 w3 w4 w5 w6 w7 w8 w9 w10 w11 s.heap s.heap.size (Nat.le_refl _) K i0 p e ha hc hk s m _ below hf ((Spec.applies_iff_loose hf).mp happ).1 ⟨rfl, State.Warmed39.refl s, rfl⟩ trivial
  refine ⟨n, _, h1, h2, h3, hpost _ _ _ _ _ _ ⟨Cond.after_iff.mpr rfl, Cond.after_iff.mpr (eq_i res_at (Term.int_eval (1)) rfl), trivial⟩ ⟨hq.1, hq.2.1, (hq.2.2.sift fun y hy => Or.inr (N y hy)).mono (by decide) (by decide)⟩⟩
theorem main_1_1 : Claimed_1_1 := comes_1 fun _ _ _ _ _ _ h hF => ⟨h.1, hF⟩
theorem main_1_2 : Claimed_1_2 := comes_1 fun _ _ _ _ _ _ h hF => ⟨h.2.1, hF⟩
end Jvm.Pilot.@@N@@
namespace Jvm.Pilot.@@N@@
open Jvm Jvm.ClassFile Sem Op Lib Jvm.Free Jvm.Stand Jvm.Pilot.@@N@@.Jvm.D
/-! MADE BY PROGRAM (witnessworld.py) out of the Statement's table words and the real class files: 11 classes; the members and pool entries that the words name. The judged class is class 1, her method 1. -/
namespace start1
open Jvm.ClassFile
def u (s : String) : CpInfo := .utf8 (stringToUtf16 s)
/-- a pool by its gaps: so many unusable entries, then the entry; so many at the end -/
def gap : Nat → List CpInfo → List CpInfo
  | 0, r => r
  | n + 1, r => .unusable :: gap n r
def poolList (es : List (Nat × CpInfo)) (last : Nat) : List CpInfo := es.foldr (fun e r => gap e.1 (e.2 :: r)) (gap last [])
def pool (es : List (Nat × CpInfo)) (last : Nat) : Array CpInfo := ⟨poolList es last⟩
def fileOf (pool : Array CpInfo) (this : Nat) (attrs : Array Attribute := #[]) (ms : Array MethodInfo := #[]) (fl : Nat := 33) (sup : Nat := 0) (ifs : Array Nat := #[]) (fds : Array FieldInfo := #[]) : ClassFile where
  minorVersion := 0
  majorVersion := 65
  constantPool := pool
  accessFlags := fl
  thisClass := this
  superClass := sup
  interfaces := ifs
  fields := fds
  methods := ms
  attributes := attrs
def plain (name : String) (sup : Option ClassId) : Class where
  name := name
  kind := .ordinary
  loader := none
  accessFlags := 33
  super := sup
  interfaces := #[]
  cf := none
  fields := #[]
  methods := #[]
  instanceTypes := #[]
  staticTypes := #[]
  resolved := #[]
  callSites := []
  init := .initialized
  statics := none
  mirror := none

def pool0 : Array CpInfo := pool [(5, u "<init>"), (0, u "()V"), (1, .class_ 10), (1, u "java/lang/Object")] 113

def k0m0 : Method := { name := "<init>", desc := "()V", sig := { parameters := [], returnType := none }, accessFlags := 1, code := none }
/-- java/lang/Object -/
def k0 : Class := { plain "java/lang/Object" none with
  accessFlags := 33
  interfaces := #[]
  cf := some (fileOf pool0 8 #[] #[{ accessFlags := 1, nameIndex := 5, descriptorIndex := 6, attributes := #[] }] 33 0 #[] #[])
  fields := #[]
  methods := #[k0m0]
  instanceTypes := #[]
  staticTypes := #[]
  resolved := Array.replicate 124 none
  statics := none }

def pool1 : Array CpInfo := pool [(2, .class_ 4), (1, u "java/lang/Object"), (0, u "<init>"), (0, u "()V"), (0, .fieldref 8 9), (0, .class_ 10), (0, .nameAndType 11 12), (0, u "com/example/isolatch/isolatch/cli/Operation"), (0, u "READ"), (0, u "Lcom/example/isolatch/isolatch/cli/Operation;"), (0, .fieldref 8 14), (0, .nameAndType 15 12), (0, u "READ_WHERE"), (0, .fieldref 8 17), (0, .nameAndType 18 12), (0, u "READ_FOR_UPDATE"), (0, .fieldref 8 20), (0, .nameAndType 21 12), (0, u "WRITE"), (0, .fieldref 8 23), (0, .nameAndType 24 12), (0, u "DELETE"), (0, .fieldref 8 26), (0, .nameAndType 27 12), (0, u "BEGIN"), (0, .fieldref 8 29), (0, .nameAndType 30 12), (0, u "COMMIT"), (0, .fieldref 8 32), (0, .nameAndType 33 12), (0, u "ABORT"), (0, .methodref 8 35), (0, .nameAndType 36 37), (0, u "givesValue"), (0, u "()Z"), (0, .methodref 8 39), (0, .nameAndType 40 41), (0, u "getShape"), (0, u "()Lcom/example/isolatch/isolatch/cli/Operation$Shape;"), (0, .fieldref 43 44), (0, .class_ 45), (0, .nameAndType 46 47), (0, u "com/example/isolatch/isolatch/cli/Operation$Shape"), (0, u "ITEM"), (0, u "Lcom/example/isolatch/isolatch/cli/Operation$Shape;"), (0, .fieldref 43 49), (0, .nameAndType 50 47), (0, u "ASSIGNMENT"), (0, .class_ 52), (0, u "com/example/isolatch/isolatch/cli/OperationGivesValuePinLaw"), (2, u "law"), (0, u "(I)Z")] 5

def k1m0 : Method := { name := "<init>", desc := "()V", sig := { parameters := [], returnType := none }, accessFlags := 2, code := none }
def k1c1 : Code := { maxStack := 2, maxLocals := 7, code := code, exceptionTable := #[], attributes := #[] }
def k1m1 : Method := { name := "law", desc := "(I)Z", sig := { parameters := [.int], returnType := some .boolean }, accessFlags := 9, code := some k1c1 }
/-- com/example/isolatch/isolatch/cli/OperationGivesValuePinLaw -/
def k1 : Class := { plain "com/example/isolatch/isolatch/cli/OperationGivesValuePinLaw" (some 0) with
  accessFlags := 49
  interfaces := #[]
  cf := some (fileOf pool1 51 #[] #[{ accessFlags := 2, nameIndex := 5, descriptorIndex := 6, attributes := #[] }, { accessFlags := 9, nameIndex := 55, descriptorIndex := 56, attributes := #[] }] 49 2 #[] #[])
  fields := #[]
  methods := #[k1m0, k1m1]
  instanceTypes := #[]
  staticTypes := #[]
  resolved := Array.replicate 62 none
  statics := none }

def pool2 : Array CpInfo := pool [(1, .class_ 2), (0, u "java/lang/constant/Constable"), (0, .class_ 4), (0, u "java/lang/Object")] 6

/-- java/lang/constant/Constable -/
def k2 : Class := { plain "java/lang/constant/Constable" (some 0) with
  accessFlags := 1537
  interfaces := #[]
  cf := some (fileOf pool2 1 #[] #[] 1537 3 #[] #[])
  fields := #[]
  methods := #[]
  instanceTypes := #[]
  staticTypes := #[]
  resolved := Array.replicate 11 none
  statics := none }

def pool3 : Array CpInfo := pool [(1, .class_ 2), (0, u "java/lang/Comparable"), (0, .class_ 4), (0, u "java/lang/Object")] 7

/-- java/lang/Comparable -/
def k3 : Class := { plain "java/lang/Comparable" (some 0) with
  accessFlags := 1537
  interfaces := #[]
  cf := some (fileOf pool3 1 #[] #[] 1537 3 #[] #[])
  fields := #[]
  methods := #[]
  instanceTypes := #[]
  staticTypes := #[]
  resolved := Array.replicate 12 none
  statics := none }

def pool4 : Array CpInfo := pool [(1, .class_ 2), (0, u "java/io/Serializable"), (0, .class_ 4), (0, u "java/lang/Object")] 2

/-- java/io/Serializable -/
def k4 : Class := { plain "java/io/Serializable" (some 0) with
  accessFlags := 1537
  interfaces := #[]
  cf := some (fileOf pool4 1 #[] #[] 1537 3 #[] #[])
  fields := #[]
  methods := #[]
  instanceTypes := #[]
  staticTypes := #[]
  resolved := Array.replicate 7 none
  statics := none }

def pool5 : Array CpInfo := pool [(2, .class_ 4), (1, u "java/lang/Enum"), (0, u "name"), (0, u "Ljava/lang/String;"), (2, u "ordinal"), (0, u "I"), (1, .class_ 14), (1, u "java/lang/Object"), (4, u "hash"), (86, .class_ 108), (1, u "java/lang/Enum$EnumDesc"), (2, .class_ 112), (0, u "java/lang/constant/Constable"), (0, .class_ 114), (0, u "java/lang/Comparable"), (0, .class_ 116), (0, u "java/io/Serializable")] 87

/-- java/lang/Enum -/
def k5 : Class := { plain "java/lang/Enum" (some 0) with
  accessFlags := 1057
  interfaces := #[2, 3, 4]
  cf := some (fileOf pool5 2 #[.nestMembers #[106]] #[] 1057 12 #[111, 113, 115] #[{ accessFlags := 18, nameIndex := 5, descriptorIndex := 6, attributes := #[] }, { accessFlags := 18, nameIndex := 9, descriptorIndex := 10, attributes := #[] }, { accessFlags := 2, nameIndex := 19, descriptorIndex := 10, attributes := #[] }])
  fields := #[{ name := "name", type := (.object "java/lang/String"), accessFlags := 18, slot := 0, constantValue := 0 }, { name := "ordinal", type := .int, accessFlags := 18, slot := 1, constantValue := 0 }, { name := "hash", type := .int, accessFlags := 2, slot := 2, constantValue := 0 }]
  methods := #[]
  instanceTypes := #[(.object "java/lang/String"), .int, .int]
  staticTypes := #[]
  resolved := Array.replicate 204 none
  statics := none }

def pool6 : Array CpInfo := pool [(1, .class_ 2), (0, u "com/example/isolatch/isolatch/cli/Operation"), (0, .fieldref 1 4), (0, .nameAndType 5 6), (0, u "READ"), (0, u "Lcom/example/isolatch/isolatch/cli/Operation;"), (2, u "READ_WHERE"), (0, .fieldref 1 11), (0, .nameAndType 12 6), (0, u "READ_FOR_UPDATE"), (0, .fieldref 1 14), (0, .nameAndType 15 6), (0, u "WRITE"), (2, u "DELETE"), (2, u "BEGIN"), (2, u "COMMIT"), (2, u "ABORT"), (2, u "$VALUES"), (0, u "[Lcom/example/isolatch/isolatch/cli/Operation;"), (6, .class_ 40), (1, u "java/lang/Enum"), (8, u "letter"), (0, u "C"), (0, .fieldref 1 52), (0, .nameAndType 53 54), (0, u "shape"), (0, u "Lcom/example/isolatch/isolatch/cli/Operation$Shape;"), (2, u "noun"), (0, u "Ljava/lang/String;"), (2, u "form"), (5, .class_ 69), (1, u "com/example/isolatch/isolatch/cli/Operation$Shape"), (97, u "getShape"), (0, u "()Lcom/example/isolatch/isolatch/cli/Operation$Shape;"), (0, u "givesValue"), (0, u "()Z")] 22

def k6c0 : Code := { maxStack := 1, maxLocals := 1, code := prog_35_method_6_code, exceptionTable := #[], attributes := #[] }
def k6m0 : Method := { name := "getShape", desc := "()Lcom/example/isolatch/isolatch/cli/Operation$Shape;", sig := { parameters := [], returnType := some (.object "com/example/isolatch/isolatch/cli/Operation$Shape") }, accessFlags := 0, code := some k6c0 }
def k6c1 : Code := { maxStack := 2, maxLocals := 1, code := prog_35_method_7_code, exceptionTable := #[], attributes := #[] }
def k6m1 : Method := { name := "givesValue", desc := "()Z", sig := { parameters := [], returnType := some .boolean }, accessFlags := 0, code := some k6c1 }
/-- com/example/isolatch/isolatch/cli/Operation -/
def k6 : Class := { plain "com/example/isolatch/isolatch/cli/Operation" (some 5) with
  accessFlags := 16432
  interfaces := #[]
  cf := some (fileOf pool6 1 #[.nestMembers #[67]] #[{ accessFlags := 0, nameIndex := 167, descriptorIndex := 168, attributes := #[] }, { accessFlags := 0, nameIndex := 169, descriptorIndex := 170, attributes := #[] }] 16432 38 #[] #[{ accessFlags := 16409, nameIndex := 5, descriptorIndex := 6, attributes := #[] }, { accessFlags := 16409, nameIndex := 9, descriptorIndex := 6, attributes := #[] }, { accessFlags := 16409, nameIndex := 12, descriptorIndex := 6, attributes := #[] }, { accessFlags := 16409, nameIndex := 15, descriptorIndex := 6, attributes := #[] }, { accessFlags := 16409, nameIndex := 18, descriptorIndex := 6, attributes := #[] }, { accessFlags := 16409, nameIndex := 21, descriptorIndex := 6, attributes := #[] }, { accessFlags := 16409, nameIndex := 24, descriptorIndex := 6, attributes := #[] }, { accessFlags := 16409, nameIndex := 27, descriptorIndex := 6, attributes := #[] }, { accessFlags := 18, nameIndex := 49, descriptorIndex := 50, attributes := #[] }, { accessFlags := 18, nameIndex := 53, descriptorIndex := 54, attributes := #[] }, { accessFlags := 18, nameIndex := 57, descriptorIndex := 58, attributes := #[] }, { accessFlags := 18, nameIndex := 61, descriptorIndex := 58, attributes := #[] }, { accessFlags := 4122, nameIndex := 30, descriptorIndex := 31, attributes := #[] }])
  fields := #[{ name := "READ", type := (.object "com/example/isolatch/isolatch/cli/Operation"), accessFlags := 16409, slot := 0, constantValue := 0 }, { name := "READ_WHERE", type := (.object "com/example/isolatch/isolatch/cli/Operation"), accessFlags := 16409, slot := 1, constantValue := 0 }, { name := "READ_FOR_UPDATE", type := (.object "com/example/isolatch/isolatch/cli/Operation"), accessFlags := 16409, slot := 2, constantValue := 0 }, { name := "WRITE", type := (.object "com/example/isolatch/isolatch/cli/Operation"), accessFlags := 16409, slot := 3, constantValue := 0 }, { name := "DELETE", type := (.object "com/example/isolatch/isolatch/cli/Operation"), accessFlags := 16409, slot := 4, constantValue := 0 }, { name := "BEGIN", type := (.object "com/example/isolatch/isolatch/cli/Operation"), accessFlags := 16409, slot := 5, constantValue := 0 }, { name := "COMMIT", type := (.object "com/example/isolatch/isolatch/cli/Operation"), accessFlags := 16409, slot := 6, constantValue := 0 }, { name := "ABORT", type := (.object "com/example/isolatch/isolatch/cli/Operation"), accessFlags := 16409, slot := 7, constantValue := 0 }, { name := "letter", type := .char, accessFlags := 18, slot := 3, constantValue := 0 }, { name := "shape", type := (.object "com/example/isolatch/isolatch/cli/Operation$Shape"), accessFlags := 18, slot := 4, constantValue := 0 }, { name := "noun", type := (.object "java/lang/String"), accessFlags := 18, slot := 5, constantValue := 0 }, { name := "form", type := (.object "java/lang/String"), accessFlags := 18, slot := 6, constantValue := 0 }, { name := "$VALUES", type := (.array (.object "com/example/isolatch/isolatch/cli/Operation")), accessFlags := 4122, slot := 8, constantValue := 0 }]
  methods := #[k6m0, k6m1]
  instanceTypes := #[(.object "java/lang/String"), .int, .int, .char, (.object "com/example/isolatch/isolatch/cli/Operation$Shape"), (.object "java/lang/String"), (.object "java/lang/String")]
  staticTypes := #[(.object "com/example/isolatch/isolatch/cli/Operation"), (.object "com/example/isolatch/isolatch/cli/Operation"), (.object "com/example/isolatch/isolatch/cli/Operation"), (.object "com/example/isolatch/isolatch/cli/Operation"), (.object "com/example/isolatch/isolatch/cli/Operation"), (.object "com/example/isolatch/isolatch/cli/Operation"), (.object "com/example/isolatch/isolatch/cli/Operation"), (.object "com/example/isolatch/isolatch/cli/Operation"), (.array (.object "com/example/isolatch/isolatch/cli/Operation"))]
  resolved := Array.replicate 193 none
  statics := some 0 }

def pool7 : Array CpInfo := pool [(1, .class_ 2), (0, u "com/example/isolatch/isolatch/cli/Operation$Shape"), (2, u "BARE"), (0, u "Lcom/example/isolatch/isolatch/cli/Operation$Shape;"), (2, u "ITEM"), (2, u "ASSIGNMENT"), (2, u "PREDICATE"), (2, u "$VALUES"), (0, u "[Lcom/example/isolatch/isolatch/cli/Operation$Shape;"), (6, .class_ 28), (1, u "java/lang/Enum"), (8, u "brackets"), (0, u "Ljava/lang/String;"), (56, .class_ 96), (0, u "com/example/isolatch/isolatch/cli/Operation")] 2

/-- com/example/isolatch/isolatch/cli/Operation$Shape -/
def k7 : Class := { plain "com/example/isolatch/isolatch/cli/Operation$Shape" (some 5) with
  accessFlags := 16432
  interfaces := #[]
  cf := some (fileOf pool7 1 #[.nestHost 95] #[] 16432 26 #[] #[{ accessFlags := 16409, nameIndex := 5, descriptorIndex := 6, attributes := #[] }, { accessFlags := 16409, nameIndex := 9, descriptorIndex := 6, attributes := #[] }, { accessFlags := 16409, nameIndex := 12, descriptorIndex := 6, attributes := #[] }, { accessFlags := 16409, nameIndex := 15, descriptorIndex := 6, attributes := #[] }, { accessFlags := 18, nameIndex := 37, descriptorIndex := 38, attributes := #[] }, { accessFlags := 4122, nameIndex := 18, descriptorIndex := 19, attributes := #[] }])
  fields := #[{ name := "BARE", type := (.object "com/example/isolatch/isolatch/cli/Operation$Shape"), accessFlags := 16409, slot := 0, constantValue := 0 }, { name := "ITEM", type := (.object "com/example/isolatch/isolatch/cli/Operation$Shape"), accessFlags := 16409, slot := 1, constantValue := 0 }, { name := "ASSIGNMENT", type := (.object "com/example/isolatch/isolatch/cli/Operation$Shape"), accessFlags := 16409, slot := 2, constantValue := 0 }, { name := "PREDICATE", type := (.object "com/example/isolatch/isolatch/cli/Operation$Shape"), accessFlags := 16409, slot := 3, constantValue := 0 }, { name := "brackets", type := (.object "java/lang/String"), accessFlags := 18, slot := 3, constantValue := 0 }, { name := "$VALUES", type := (.array (.object "com/example/isolatch/isolatch/cli/Operation$Shape")), accessFlags := 4122, slot := 4, constantValue := 0 }]
  methods := #[]
  instanceTypes := #[(.object "java/lang/String"), .int, .int, (.object "java/lang/String")]
  staticTypes := #[(.object "com/example/isolatch/isolatch/cli/Operation$Shape"), (.object "com/example/isolatch/isolatch/cli/Operation$Shape"), (.object "com/example/isolatch/isolatch/cli/Operation$Shape"), (.object "com/example/isolatch/isolatch/cli/Operation$Shape"), (.array (.object "com/example/isolatch/isolatch/cli/Operation$Shape"))]
  resolved := Array.replicate 99 none
  statics := some 1 }

def pool8 : Array CpInfo := pool [(1, u "java/lang/Cloneable"), (0, .class_ 1), (0, u "java/lang/Object"), (0, .class_ 3)] 3

/-- java/lang/Cloneable -/
def k8 : Class := { plain "java/lang/Cloneable" (some 0) with
  accessFlags := 1537
  interfaces := #[]
  cf := some (fileOf pool8 2 #[] #[] 1537 4 #[] #[])
  fields := #[]
  methods := #[]
  instanceTypes := #[]
  staticTypes := #[]
  resolved := Array.replicate 8 none
  statics := none }

/-- the primitive byte -/
def k9 : Class := { plain "byte" none with kind := .primitive 'B', accessFlags := 0x411 }
/-- [B -/
def k10 : Class := { plain "[B" (some 0) with kind := .array 9 .byte, interfaces := #[8, 4], accessFlags := 1041 }

def heap : Heap := #[{ cls := 6, slots := #[.ref 2, .ref 10, .ref 5, .ref 4, .ref 12, .ref 13, .ref 7, .ref 9, .null], vm := .statics 6 },
  { cls := 7, slots := #[.ref 8, .ref 3, .ref 6, .ref 11, .null], vm := .statics 7 },
  { cls := 6, slots := #[.null, .int 0, .int 0, .int 0, .ref 3, .null, .null], vm := .none },
  { cls := 7, slots := #[.null, .int 1, .int 0, .null], vm := .none },
  { cls := 6, slots := #[.null, .int 3, .int 0, .int 0, .ref 6, .null, .null], vm := .none },
  { cls := 6, slots := #[.null, .int 2, .int 0, .int 0, .ref 3, .null, .null], vm := .none },
  { cls := 7, slots := #[.null, .int 2, .int 0, .null], vm := .none },
  { cls := 6, slots := #[.null, .int 6, .int 0, .int 0, .ref 8, .null, .null], vm := .none },
  { cls := 7, slots := #[.null, .int 0, .int 0, .null], vm := .none },
  { cls := 6, slots := #[.null, .int 7, .int 0, .int 0, .ref 8, .null, .null], vm := .none },
  { cls := 6, slots := #[.null, .int 1, .int 0, .int 0, .ref 11, .null, .null], vm := .none },
  { cls := 7, slots := #[.null, .int 3, .int 0, .null], vm := .none },
  { cls := 6, slots := #[.null, .int 4, .int 0, .int 0, .ref 3, .null, .null], vm := .none },
  { cls := 6, slots := #[.null, .int 5, .int 0, .int 0, .ref 8, .null, .null], vm := .none }]
def classes : Array Class := #[k0, k1, k2, k3, k4, k5, k6, k7, k8, k9, k10]
def interned : List (Array UInt16 × Addr) := []
def slotsUsed : Nat := 86
def theMethod : MethodId := ⟨1, 1⟩
def args0 : Array Value := #[.int 5]
def aboutOver (below : List Frame) : State where
  vm := { classes := classes, interned := interned.toArray }
  heap := heap
  slotsUsed := slotsUsed
  threads := #[{ frames := .invoking theMethod args0 :: below }]
def below0 : List Frame := [.native { method := ⟨0, 0⟩, args := #[] }]
def about1 : State := aboutOver below0
def p0 : Program := .bare "" "" ""
def e0 : Env := launch0.env 0 0 0
theorem w_frames : about1.frames = Frame.invoking theMethod args0 :: below0 := rfl
set_option maxRecDepth 65536 in
theorem w_args : argsFit about1.vm theMethod args0 = true := by decide +kernel
set_option maxRecDepth 65536 in
theorem w_heap : heapFits about1 = true := by decide +kernel
set_option maxRecDepth 65536 in
theorem w_runnable : about1.curStatus? = some .runnable := by decide +kernel
set_option maxRecDepth 65536 in
theorem w_alone : about1.alone = true := by decide +kernel
set_option maxRecDepth 65536 in
theorem w_named : about1.methodNamed? x = some theMethod := by decide +kernel
set_option maxRecDepth 65536 in
theorem w_hears : about1.hears theMethod below0 = true := by decide +kernel
set_option maxRecDepth 65536 in
theorem w_ripe : about1.ripe theMethod args0 below0 = true := by decide +kernel
theorem w_running : about1.status = .running := rfl
set_option maxRecDepth 65536 in
theorem w_room : about1.hasRoom e0.platform room_1 = true :=
  launch0.hasRoom_least _ room_1 (by decide +kernel) (by decide +kernel) (by decide +kernel) (by decide +kernel) (by decide +kernel) (by decide +kernel)
theorem allAtoms_all (ts : List Jvm.Cond) (a : Array Jvm.Value) (st : Jvm.State) : (allAtoms ts).before a st = ts.all (fun c => c.before a st) := by
  induction ts with
  | nil => rfl
  | cons c t ih =>
    show (Jvm.Cond.and c (allAtoms t)).before a st = _
    rw [Jvm.Cond.before_and, ih, List.all_cons]
def words1 : List Jvm.Cond := Jvm.Cond.code x code maxLocals ret :: tables_1
/-- a 'code' word, met by the world's own term for the bytes: nothing is compared byte by byte -/
theorem code_word {y : MethodName} {bytes : ByteArray} {mx : Nat} {rt : Option FieldType} {a : Array Value} {s : State} {m : MethodId} {meth : Method} {c : Code} (h1 : s.methodNamed? y = some m) (h2 : s.vm.method? m = some meth) (h3 : meth.code = some c) (h4 : c.code = bytes)
    (h5 : (c.maxLocals == mx && c.exceptionTable.isEmpty && decide (c.maxStack ≤ mostOperands) && decide (meth.sig.returnType = rt) && !meth.locks && decide (parseMethodDescriptor y.desc = some meth.sig)) = true) : (Jvm.Cond.code y bytes mx rt).before a s = true := by
  simp only [Bool.and_eq_true, beq_iff_eq, Bool.not_eq_true', decide_eq_true_eq] at h5
  obtain ⟨⟨⟨⟨⟨g1, g2⟩, g3⟩, g4⟩, g5⟩, g6⟩ := h5
  simp [Cond.before, Cond.holds, Cond.value, h1, h2, h3, h4, g1, g2, g3, g4, g5, g6]
def isCode : Jvm.Cond → Bool
  | .code _ _ _ _ => true
  | _ => false
theorem all_split {L : List Jvm.Cond} {P : Jvm.Cond → Bool} (h1 : L.all (fun c => isCode c || P c) = true) (h2 : ∀ c ∈ L.filter isCode, P c = true) : L.all P = true := by
  refine List.all_eq_true.mpr fun c hc => ?_
  have h := List.all_eq_true.mp h1 c hc
  rcases Bool.eq_false_or_eq_true (isCode c) with hi | hi
  · exact h2 c (List.mem_filter.mpr ⟨hc, hi⟩)
  · simpa [hi] using h
set_option maxRecDepth 65536 in
theorem w_c0 : (Jvm.Cond.code x code maxLocals ret).before args0 about1 = true := code_word (m := ⟨1, 1⟩) (meth := k1m1) (c := k1c1) (by decide +kernel) rfl rfl rfl (by decide +kernel)
set_option maxRecDepth 65536 in
theorem w_c1 : (Jvm.Cond.code ({ cls := "com/example/isolatch/isolatch/cli/Operation", name := "givesValue", desc := "()Z" } : Jvm.MethodName) prog_35_method_7_code (1 : Nat) (Option.some Jvm.ClassFile.FieldType.boolean)).before args0 about1 = true := code_word (m := ⟨6, 1⟩) (meth := k6m1) (c := k6c1) (by decide +kernel) rfl rfl rfl (by decide +kernel)
set_option maxRecDepth 65536 in
theorem w_c2 : (Jvm.Cond.code ({ cls := "com/example/isolatch/isolatch/cli/Operation", name := "getShape", desc := "()Lcom/example/isolatch/isolatch/cli/Operation$Shape;" } : Jvm.MethodName) prog_35_method_6_code (1 : Nat) (Option.some (Jvm.ClassFile.FieldType.object "com/example/isolatch/isolatch/cli/Operation$Shape"))).before args0 about1 = true := code_word (m := ⟨6, 0⟩) (meth := k6m0) (c := k6c0) (by decide +kernel) rfl rfl rfl (by decide +kernel)
def codes1 : List Jvm.Cond := [Jvm.Cond.code x code maxLocals ret, Jvm.Cond.code ({ cls := "com/example/isolatch/isolatch/cli/Operation", name := "givesValue", desc := "()Z" } : Jvm.MethodName) prog_35_method_7_code (1 : Nat) (Option.some Jvm.ClassFile.FieldType.boolean), Jvm.Cond.code ({ cls := "com/example/isolatch/isolatch/cli/Operation", name := "getShape", desc := "()Lcom/example/isolatch/isolatch/cli/Operation$Shape;" } : Jvm.MethodName) prog_35_method_6_code (1 : Nat) (Option.some (Jvm.ClassFile.FieldType.object "com/example/isolatch/isolatch/cli/Operation$Shape"))]
set_option maxRecDepth 65536 in
theorem codes_eq : words1.filter isCode = codes1 := rfl
theorem w_codes : ∀ c ∈ words1.filter isCode, c.before args0 about1 = true := by
  rw [codes_eq]
  intro c hc
  simp only [codes1, List.mem_cons, List.not_mem_nil, or_false] at hc
  rcases hc with rfl | rfl | rfl
  · exact w_c0
  · exact w_c1
  · exact w_c2
set_option maxRecDepth 65536 in
theorem w_t1 : (words1.take 24).all (fun c => isCode c || c.before args0 about1) = true := by decide +kernel
set_option maxRecDepth 65536 in
theorem w_t2 : (words1.drop 24).all (fun c => isCode c || c.before args0 about1) = true := by decide +kernel
theorem w_tables : (allAtoms (Jvm.Cond.code x code maxLocals ret :: tables_1)).before args0 about1 = true := by
  rw [allAtoms_all]
  show words1.all (fun c => c.before args0 about1) = true
  refine all_split ?_ w_codes
  rw [← List.take_append_drop 24 words1, List.all_append, w_t1, w_t2]
  rfl
set_option maxRecDepth 65536 in
theorem w_case : (Jvm.Cond.and given_1 narrow_1).before args0 about1 = true := by decide +kernel
theorem w_applies : (headSpec (Jvm.Cond.code x code maxLocals ret :: tables_1) room_1).applies x e0.platform about1 = true :=
  (Spec.applies_iff w_frames).mpr ⟨w_running, w_runnable, w_alone, w_named, w_hears, w_ripe, w_room, w_tables⟩
theorem atStart : AtStart classFile x code maxLocals ret World_1 tables_1 room_1 Calls_1 rest_1 Pre_1 launch0 p0 e0 about1 theMethod args0 below0 :=
  ⟨lists_1, trivial, launch0.admits_env _ _ _, launch0.least_env, fairChoices_fair.cas, fairChoices_fair.clock, w_frames, w_args, w_heap, w_applies, trivial, trivial, w_case⟩
end start1
theorem witness_1 : WitnessClaimed_1 := ⟨start1.p0, start1.e0, start1.about1, start1.theMethod, start1.args0, start1.below0, start1.atStart⟩
end Jvm.Pilot.@@N@@
