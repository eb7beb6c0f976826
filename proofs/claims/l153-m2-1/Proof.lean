import JvmDerived
import JvmDerived.Pilot.@@N@@Statement
import JvmDerived.Pilot.@@N@@Code
set_option linter.unusedVariables false
set_option linter.unusedSimpArgs false
namespace Jvm.Pilot.@@N@@
open Jvm Jvm.ClassFile Sem Op Lib Jvm.Free Jvm.Stand Jvm.LawKit Jvm.RoadKit Bundle Jvm.Pilot.@@N@@.Jvm.D
theorem own_ofNat {y : Int32} {n : Nat} (h : y.toBitVec.toNat = n) : y = Int32.ofNat n := by
  subst h
  apply Int32.toBitVec_inj.mp
  apply BitVec.eq_of_toNat_eq
  simp
theorem own_and_le (x m : Int32) : (x &&& m).toBitVec.toNat ≤ m.toBitVec.toNat := by
  rw [Int32.toBitVec_and, BitVec.toNat_and]; exact Nat.and_le_right
theorem own_and_3 (x : Int32) : (x &&& (3 : Int32)) = (0 : Int32) ∨ (x &&& (3 : Int32)) = (1 : Int32) ∨ (x &&& (3 : Int32)) = (2 : Int32) ∨ (x &&& (3 : Int32)) = (3 : Int32) := by
  have h := own_and_le x (3 : Int32)
  have e : (3 : Int32).toBitVec.toNat = 3 := by decide
  rw [e] at h
  generalize x &&& (3 : Int32) = y at h ⊢
  have q : y.toBitVec.toNat = 0 ∨ y.toBitVec.toNat = 1 ∨ y.toBitVec.toNat = 2 ∨ y.toBitVec.toNat = 3 := by omega
  rcases q with q | q | q | q <;> simp [own_ofNat q]
theorem own_sign (x : Int32) : (x < (0 : Int32) ∧ ¬ ((0 : Int32) < x) ∧ ¬ (x = (0 : Int32))) ∨ (¬ (x < (0 : Int32)) ∧ ¬ ((0 : Int32) < x) ∧ x = (0 : Int32)) ∨ (¬ (x < (0 : Int32)) ∧ (0 : Int32) < x ∧ ¬ (x = (0 : Int32))) := by
  have e0 : (0 : Int32).toInt = 0 := by decide
  simp only [Int32.lt_iff_toInt_lt, ← Int32.toInt_inj, e0]
  omega
def Wd (Z : State) (w0 w1 w2 w3 : Addr) : Prop := Sta Z Z.heap "com/example/seneschal/seneschal/model/Comparison" "LT" "Lcom/example/seneschal/seneschal/model/Comparison;" (.ref w0) ∧ Exa Z Z.heap w0 "com/example/seneschal/seneschal/model/Comparison" ∧ Sta Z Z.heap "com/example/seneschal/seneschal/model/Comparison" "LE" "Lcom/example/seneschal/seneschal/model/Comparison;" (.ref w1) ∧ Exa Z Z.heap w1 "com/example/seneschal/seneschal/model/Comparison" ∧ Sta Z Z.heap "com/example/seneschal/seneschal/model/Comparison" "GT" "Lcom/example/seneschal/seneschal/model/Comparison;" (.ref w2) ∧ Exa Z Z.heap w2 "com/example/seneschal/seneschal/model/Comparison" ∧ Sta Z Z.heap "com/example/seneschal/seneschal/model/Comparison" "GE" "Lcom/example/seneschal/seneschal/model/Comparison;" (.ref w3) ∧ Exa Z Z.heap w3 "com/example/seneschal/seneschal/model/Comparison" ∧ Fld Z Z.heap w0 "java/lang/Enum" "ordinal" "I" (.int (0 : Int32)) ∧ Fld Z Z.heap w2 "java/lang/Enum" "ordinal" "I" (.int (2 : Int32)) ∧ Fld Z Z.heap w1 "java/lang/Enum" "ordinal" "I" (.int (1 : Int32)) ∧ Fld Z Z.heap w3 "java/lang/Enum" "ordinal" "I" (.int (3 : Int32)) ∧ True
def Qp (r : Option Value) (h0 : Heap) (n0 : Nat) (v : Option Value) (h : Heap) (L : List Loc) : Prop := v = r ∧ Fr n0 L ∧ h = h0
def Ql (n0 : Nat) (v : Option Value) (h : Heap) (L : List Loc) : Prop := v = some (.int (1 : Int32)) ∧ Fr n0 L
theorem d_prog_21_method_4_code_0 : decode prog_21_method_4_code 0 = .ok (.aload_n 0, 1) := by decide +kernel
theorem d_prog_21_method_4_code_1 : decode prog_21_method_4_code 1 = .ok (.invokevirtual 35, 3) := by decide +kernel
theorem d_jdk_37_method_2_code_0 : decode jdk_37_method_2_code 0 = .ok (.aload_n 0, 1) := by decide +kernel
theorem d_jdk_37_method_2_code_1 : decode jdk_37_method_2_code 1 = .ok (.getfield 7, 3) := by decide +kernel
theorem d_jdk_37_method_2_code_4 : decode jdk_37_method_2_code 4 = .ok (.ireturn, 1) := by decide +kernel
theorem pn0 : plainName "java/lang/Enum" = true := by first | (simp [plainName, overriddenIn]; done) | decide +kernel
theorem ef0 (m : MethodId)   (w0 : Addr) : entryFrame m #[(.ref w0)] 1 = mkF m 0 #[.val (.ref w0)] [] := by first | (simp [entryFrame, mkF, argsToLocals, Value.category]; done) | rfl
set_option maxRecDepth 65536 in
set_option maxHeartbeats 40000000 in
theorem rm2 (l : Launch) (Z : State) (a0 : Array Value) (hw : ∀ d ∈ tables_1, d.before a0 Z = true) (ws : List Jvm.Cond) (w0 w1 w2 w3 : Addr) (h0 : Heap) (n0 : Nat) (hWd : Wd Z w0 w1 w2 w3) (O0 : Old Z n0 h0) :
    MetFree l (⟨"java/lang/Enum", "ordinal", "()I"⟩ : MethodName) (head1 (Jvm.Cond.code (⟨"java/lang/Enum", "ordinal", "()I"⟩ : MethodName) jdk_37_method_2_code 1 (some .int) :: ws) ({ frames := 0, cells := 0, slots := 0, locals := 0 } : Room)) (fun a U => a = #[(.ref w0)] ∧ Z.Warmed39 U.vm ∧ U.heap = h0) (fun _ _ _ _ _ => True) (fun _ U o U' => ∃ v L, o = .returned v ∧ Qp (some (.int (0 : Int32))) h0 n0 v U'.heap L ∧ FrameEnd U o U' L ({ frames := 0, cells := 0, slots := 0, locals := 0 } : Room).cells ({ frames := 0, cells := 0, slots := 0, locals := 0 } : Room).slots) := by
  refine MetFree.of_bodySF (plainFor_of_name pn0) hisR ?_
  intro p e s m args below meth c s₁ Bd hml0 hP hK
  obtain ⟨rfl, hZ, hh⟩ := hP
  have hx := Bd.exec
  have hby := Bd.bytes
  have hml : c.maxLocals = 1 := hml0
  have hown : s.vm.findClass "java/lang/Enum" = some m.cls := findClass_of_methodNamed Bd.named
  have hnm := (name_of_methodNamed Bd.named Bd.method).1
  have X0 : Stand p l e ({ frames := 0, cells := 0, slots := 0, locals := 0 } : Room) s m #[(.ref w0)] below meth c s₁ [] 0 0 := Stand.of_body Bd
  have e0 : s₁.heap = h0 := by rw [← hh, Bd.state]; rfl
  have N0 := Fr.nil n0
  obtain ⟨wS0, wE0, wS1, wE1, wS2, wE2, wS3, wE3, wF0_ordinal, wF2_ordinal, wF1_ordinal, wF3_ordinal, -⟩ := id hWd
  have pre0 : ∀ t, Steps p.tables e below (s₁.setTop (mkF m 0 #[.val (.ref w0)] [])) t → Steps p.tables e below (s₁.setTop (entryFrame m #[(.ref w0)] 1)) t := fun t k => castTop (ef0 m w0) k
  obtain ⟨T20, X20, e20, st20⟩ := getF X0 hx hZ hown (host := "") (Or.inl (hw _ (List.mem_of_getElem? (i := 24) rfl))) Via.refl e0 (wF0_ordinal.ext O0.2) (g := (mkF m 1 #[.val (.ref w0)] [(.ref w0)])) rfl rfl (hb hby d_jdk_37_method_2_code_1)
  obtain ⟨fs, hr, hrun, hended, hWr, hsame⟩ := X20.leave (v := some (.int (0 : Int32))) (fun h => by rw [Bd.returns] at h; cases h)
  refine ⟨_, _, pre0 _ ?_, hrun, hended, _, _, rfl, ?_, ⟨_, rfl⟩, hWr, hsame.mono (Nat.le_of_ble_eq_true rfl) (Nat.le_of_ble_eq_true rfl)⟩
  · show Steps p.tables e below (s₁.setTop (mkF m 0 #[.val (.ref w0)] [])) _
    refine XS.aloadN X0.here hx rfl (hb hby d_jdk_37_method_2_code_0) rfl rfl ?_
    show Steps p.tables e below (s₁.setTop (mkF m 1 #[.val (.ref w0)] [(.ref w0)])) _
    refine st20 _ ?_
    show Steps p.tables e below (T20.setTop (mkF m 4 #[.val (.ref w0)] [(.int (0 : Int32))])) _
    exact retOut X20 hx (t := .int) (i := .ireturn) Bd.returns rfl (Or.inl ⟨rfl, Or.inl rfl, _, rfl⟩) (hb hby d_jdk_37_method_2_code_4) hr
  · show Qp (some (.int (0 : Int32))) h0 n0 _ T20.heap _
    rw [e20]
    exact ⟨rfl, N0, rfl⟩
theorem pd0 : parseMethodDescriptor "()I" = some ⟨[], some .int⟩ := by decide +kernel
theorem d_prog_21_method_4_code_4 : decode prog_21_method_4_code 4 = .ok (.tableswitch 32 0 3 #[42, 54, 66, 78], 32) := by decide +kernel
theorem d_prog_21_method_4_code_46 : decode prog_21_method_4_code 46 = .ok (.iload_n 1, 1) := by decide +kernel
theorem d_prog_21_method_4_code_47 : decode prog_21_method_4_code 47 = .ok (.ifCond .ge 7, 3) := by decide +kernel
theorem d_prog_21_method_4_code_50 : decode prog_21_method_4_code 50 = .ok (.iconst 1, 1) := by decide +kernel
theorem d_prog_21_method_4_code_51 : decode prog_21_method_4_code 51 = .ok (.goto 40, 3) := by decide +kernel
theorem d_prog_21_method_4_code_91 : decode prog_21_method_4_code 91 = .ok (.ireturn, 1) := by decide +kernel
theorem pn1 : plainName "com/example/seneschal/seneschal/model/Comparison" = true := by first | (simp [plainName, overriddenIn]; done) | decide +kernel
theorem ef1 (m : MethodId) (p1 : Int32)  (w0 : Addr) : entryFrame m #[(.ref w0), (.int p1)] 2 = mkF m 0 #[.val (.ref w0), .val (.int p1)] [] := by first | (simp [entryFrame, mkF, argsToLocals, Value.category]; done) | rfl
set_option maxRecDepth 65536 in
set_option maxHeartbeats 40000000 in
theorem rm1 (l : Launch) (Z : State) (a0 : Array Value) (hw : ∀ d ∈ tables_1, d.before a0 Z = true) (ws : List Jvm.Cond) (w0 w1 w2 w3 : Addr) (p1 : Int32) (h0 : Heap) (n0 : Nat) (hWd : Wd Z w0 w1 w2 w3) (O0 : Old Z n0 h0) (rl0 : p1 < (0 : Int32)) (rl1 : ¬ ((0 : Int32) < p1)) (rl2 : ¬ (p1 = (0 : Int32))) :
    MetFree l (⟨"com/example/seneschal/seneschal/model/Comparison", "holds", "(I)Z"⟩ : MethodName) (head1 (Jvm.Cond.code (⟨"com/example/seneschal/seneschal/model/Comparison", "holds", "(I)Z"⟩ : MethodName) prog_21_method_4_code 2 (some .boolean) :: ws) ({ frames := 1, cells := 0, slots := 0, locals := 12 } : Room)) (fun a U => a = #[(.ref w0), (.int p1)] ∧ Z.Warmed39 U.vm ∧ U.heap = h0) (fun _ _ _ _ _ => True) (fun _ U o U' => ∃ v L, o = .returned v ∧ Qp (some (.int (1 : Int32))) h0 n0 v U'.heap L ∧ FrameEnd U o U' L ({ frames := 1, cells := 0, slots := 0, locals := 12 } : Room).cells ({ frames := 1, cells := 0, slots := 0, locals := 12 } : Room).slots) := by
  refine MetFree.of_bodySF (plainFor_of_name pn1) hisR ?_
  intro p e s m args below meth c s₁ Bd hml0 hP hK
  obtain ⟨rfl, hZ, hh⟩ := hP
  have hx := Bd.exec
  have hby := Bd.bytes
  have hml : c.maxLocals = 2 := hml0
  have hown : s.vm.findClass "com/example/seneschal/seneschal/model/Comparison" = some m.cls := findClass_of_methodNamed Bd.named
  have hnm := (name_of_methodNamed Bd.named Bd.method).1
  have X0 : Stand p l e ({ frames := 1, cells := 0, slots := 0, locals := 12 } : Room) s m #[(.ref w0), (.int p1)] below meth c s₁ [] 0 0 := Stand.of_body Bd
  have e0 : s₁.heap = h0 := by rw [← hh, Bd.state]; rfl
  have N0 := Fr.nil n0
  obtain ⟨wS0, wE0, wS1, wE1, wS2, wE2, wS3, wE3, wF0_ordinal, wF2_ordinal, wF1_ordinal, wF3_ordinal, -⟩ := id hWd
  have pre0 : ∀ t, Steps p.tables e below (s₁.setTop (mkF m 0 #[.val (.ref w0), .val (.int p1)] [])) t → Steps p.tables e below (s₁.setTop (entryFrame m #[(.ref w0), (.int p1)] 2)) t := fun t k => castTop (ef1 m p1 w0) k
  obtain ⟨cq21, kq21, q21a, q21b, q21c⟩ := isOf hZ e0 (wE0.ext O0.2)
  obtain ⟨_, _, ⟨T21, L21, k21, n21⟩, -, X21, ⟨Lc21, hQ21, l21, y21, z21⟩, st21⟩ := X0.virtualBackUp hx (owner := "java/lang/Enum") (x := (⟨"com/example/seneschal/seneschal/model/Comparison", "ordinal", "()I"⟩ : MethodName)) (y := (⟨"java/lang/Enum", "ordinal", "()I"⟩ : MethodName)) hown (mvT hZ (hw _ (List.mem_of_getElem? (i := 17) rfl))) (mvT hZ (hw _ (List.mem_of_getElem? (i := 18) rfl))) (mvT hZ (hw _ (List.mem_of_getElem? (i := 19) rfl))) (by decide) (mvT hZ (hw _ (List.mem_of_getElem? (i := 21) rfl))) (mvT hZ (hw _ (List.mem_of_getElem? (i := 20) rfl))) (backOf (W := 0) (rm2 l Z a0 hw [] w0 w1 w2 w3 h0 n0 hWd O0) hZ (hw _ (List.mem_of_getElem? (i := 23) rfl)) (hw _ (List.mem_of_getElem? (i := 22) rfl)) (by decide) (by decide)) q21a q21c (g := (mkF m 1 #[.val (.ref w0), .val (.int p1)] [(.ref w0)])) rfl (by rw [hml]; rfl) (Steps.refl _) (argsL := []) (rest := []) (lenOf pd0 rfl) rfl (by show 2 * 0 + _ ≤ _; exact Nat.le_of_eq rfl) (hb hby d_prog_21_method_4_code_1) (fun _ _ => ⟨rfl, e0, (by decide : 0 + 0 ≤ _), (by decide : 0 + 0 ≤ _)⟩)
  dsimp only [Pt.U, Pt.locs, Pt.cells, Pt.slots] at X21 l21 y21 z21 st21 hQ21
  subst l21 y21 z21
  obtain ⟨rfl, N21q, e21⟩ := hQ21
  have N21 := Fr.app N0 N21q
  obtain ⟨fs, hr, hrun, hended, hWr, hsame⟩ := X21.leave (v := some (.int (1 : Int32))) (fun h => by rw [Bd.returns] at h; cases h)
  refine ⟨_, _, pre0 _ ?_, hrun, hended, _, _, rfl, ?_, ⟨_, rfl⟩, hWr, hsame.mono (Nat.le_of_ble_eq_true rfl) (Nat.le_of_ble_eq_true rfl)⟩
  · show Steps p.tables e below (s₁.setTop (mkF m 0 #[.val (.ref w0), .val (.int p1)] [])) _
    refine XS.aloadN X0.here hx rfl (hb hby d_prog_21_method_4_code_0) rfl rfl ?_
    show Steps p.tables e below (s₁.setTop (mkF m 1 #[.val (.ref w0), .val (.int p1)] [(.ref w0)])) _
    refine st21.trans ?_
    show Steps p.tables e below (T21.setTop (mkF m 4 #[.val (.ref w0), .val (.int p1)] [(.int (0 : Int32))])) _
    refine XS.tswIn X21.here hx rfl (pc0 := 4) (pc' := 46) (o := 42) rfl (hb hby d_prog_21_method_4_code_4) rfl (by decide) (by first | rfl | decide) (by decide) (by decide) ?_
    show Steps p.tables e below (T21.setTop (mkF m 46 #[.val (.ref w0), .val (.int p1)] [])) _
    refine XS.iloadN X21.here hx rfl (hb hby d_prog_21_method_4_code_46) rfl ?_
    show Steps p.tables e below (T21.setTop (mkF m 47 #[.val (.ref w0), .val (.int p1)] [(.int p1)])) _
    refine XS.ifNo X21.here hx rfl (hb hby d_prog_21_method_4_code_47) rfl ((if0 _ _).trans (tlt rl0).2.1) ?_
    show Steps p.tables e below (T21.setTop (mkF m 50 #[.val (.ref w0), .val (.int p1)] [])) _
    refine XS.iconst X21.here hx rfl (hb hby d_prog_21_method_4_code_50) ?_
    show Steps p.tables e below (T21.setTop (mkF m 51 #[.val (.ref w0), .val (.int p1)] [(.int (1 : Int32))])) _
    refine XS.goto X21.here hx rfl (pc0 := 51) (pc' := 91) rfl (hb hby d_prog_21_method_4_code_51) (by decide) (by decide) ?_
    show Steps p.tables e below (T21.setTop (mkF m 91 #[.val (.ref w0), .val (.int p1)] [(.int (1 : Int32))])) _
    exact retN X21 hx (t := .boolean) Bd.returns (by simp) (hb hby d_prog_21_method_4_code_91) hr
  · show Qp (some (.int (1 : Int32))) h0 n0 _ T21.heap _
    rw [e21]
    exact ⟨rfl, N21, rfl⟩
theorem pd1 : parseMethodDescriptor "(I)Z" = some ⟨[.int], some .boolean⟩ := by decide +kernel
theorem d_prog_21_method_4_code_54 : decode prog_21_method_4_code 54 = .ok (.iconst 0, 1) := by decide +kernel
theorem d_prog_21_method_4_code_55 : decode prog_21_method_4_code 55 = .ok (.goto 36, 3) := by decide +kernel
set_option maxRecDepth 65536 in
set_option maxHeartbeats 40000000 in
theorem rm3 (l : Launch) (Z : State) (a0 : Array Value) (hw : ∀ d ∈ tables_1, d.before a0 Z = true) (ws : List Jvm.Cond) (w0 w1 w2 w3 : Addr) (p1 : Int32) (h0 : Heap) (n0 : Nat) (hWd : Wd Z w0 w1 w2 w3) (O0 : Old Z n0 h0) (rl0 : ¬ (p1 < (0 : Int32))) (rl1 : ¬ ((0 : Int32) < p1)) (rl2 : p1 = (0 : Int32)) :
    MetFree l (⟨"com/example/seneschal/seneschal/model/Comparison", "holds", "(I)Z"⟩ : MethodName) (head1 (Jvm.Cond.code (⟨"com/example/seneschal/seneschal/model/Comparison", "holds", "(I)Z"⟩ : MethodName) prog_21_method_4_code 2 (some .boolean) :: ws) ({ frames := 1, cells := 0, slots := 0, locals := 12 } : Room)) (fun a U => a = #[(.ref w0), (.int p1)] ∧ Z.Warmed39 U.vm ∧ U.heap = h0) (fun _ _ _ _ _ => True) (fun _ U o U' => ∃ v L, o = .returned v ∧ Qp (some (.int (0 : Int32))) h0 n0 v U'.heap L ∧ FrameEnd U o U' L ({ frames := 1, cells := 0, slots := 0, locals := 12 } : Room).cells ({ frames := 1, cells := 0, slots := 0, locals := 12 } : Room).slots) := by
  refine MetFree.of_bodySF (plainFor_of_name pn1) hisR ?_
  intro p e s m args below meth c s₁ Bd hml0 hP hK
  obtain ⟨rfl, hZ, hh⟩ := hP
  have hx := Bd.exec
  have hby := Bd.bytes
  have hml : c.maxLocals = 2 := hml0
  have hown : s.vm.findClass "com/example/seneschal/seneschal/model/Comparison" = some m.cls := findClass_of_methodNamed Bd.named
  have hnm := (name_of_methodNamed Bd.named Bd.method).1
  have X0 : Stand p l e ({ frames := 1, cells := 0, slots := 0, locals := 12 } : Room) s m #[(.ref w0), (.int p1)] below meth c s₁ [] 0 0 := Stand.of_body Bd
  have e0 : s₁.heap = h0 := by rw [← hh, Bd.state]; rfl
  have N0 := Fr.nil n0
  obtain ⟨wS0, wE0, wS1, wE1, wS2, wE2, wS3, wE3, wF0_ordinal, wF2_ordinal, wF1_ordinal, wF3_ordinal, -⟩ := id hWd
  have pre0 : ∀ t, Steps p.tables e below (s₁.setTop (mkF m 0 #[.val (.ref w0), .val (.int p1)] [])) t → Steps p.tables e below (s₁.setTop (entryFrame m #[(.ref w0), (.int p1)] 2)) t := fun t k => castTop (ef1 m p1 w0) k
  obtain ⟨cq23, kq23, q23a, q23b, q23c⟩ := isOf hZ e0 (wE0.ext O0.2)
  obtain ⟨_, _, ⟨T23, L23, k23, n23⟩, -, X23, ⟨Lc23, hQ23, l23, y23, z23⟩, st23⟩ := X0.virtualBackUp hx (owner := "java/lang/Enum") (x := (⟨"com/example/seneschal/seneschal/model/Comparison", "ordinal", "()I"⟩ : MethodName)) (y := (⟨"java/lang/Enum", "ordinal", "()I"⟩ : MethodName)) hown (mvT hZ (hw _ (List.mem_of_getElem? (i := 17) rfl))) (mvT hZ (hw _ (List.mem_of_getElem? (i := 18) rfl))) (mvT hZ (hw _ (List.mem_of_getElem? (i := 19) rfl))) (by decide) (mvT hZ (hw _ (List.mem_of_getElem? (i := 21) rfl))) (mvT hZ (hw _ (List.mem_of_getElem? (i := 20) rfl))) (backOf (W := 0) (rm2 l Z a0 hw [] w0 w1 w2 w3 h0 n0 hWd O0) hZ (hw _ (List.mem_of_getElem? (i := 23) rfl)) (hw _ (List.mem_of_getElem? (i := 22) rfl)) (by decide) (by decide)) q23a q23c (g := (mkF m 1 #[.val (.ref w0), .val (.int p1)] [(.ref w0)])) rfl (by rw [hml]; rfl) (Steps.refl _) (argsL := []) (rest := []) (lenOf pd0 rfl) rfl (by show 2 * 0 + _ ≤ _; exact Nat.le_of_eq rfl) (hb hby d_prog_21_method_4_code_1) (fun _ _ => ⟨rfl, e0, (by decide : 0 + 0 ≤ _), (by decide : 0 + 0 ≤ _)⟩)
  dsimp only [Pt.U, Pt.locs, Pt.cells, Pt.slots] at X23 l23 y23 z23 st23 hQ23
  subst l23 y23 z23
  obtain ⟨rfl, N23q, e23⟩ := hQ23
  have N23 := Fr.app N0 N23q
  obtain ⟨fs, hr, hrun, hended, hWr, hsame⟩ := X23.leave (v := some (.int (0 : Int32))) (fun h => by rw [Bd.returns] at h; cases h)
  refine ⟨_, _, pre0 _ ?_, hrun, hended, _, _, rfl, ?_, ⟨_, rfl⟩, hWr, hsame.mono (Nat.le_of_ble_eq_true rfl) (Nat.le_of_ble_eq_true rfl)⟩
  · show Steps p.tables e below (s₁.setTop (mkF m 0 #[.val (.ref w0), .val (.int p1)] [])) _
    refine XS.aloadN X0.here hx rfl (hb hby d_prog_21_method_4_code_0) rfl rfl ?_
    show Steps p.tables e below (s₁.setTop (mkF m 1 #[.val (.ref w0), .val (.int p1)] [(.ref w0)])) _
    refine st23.trans ?_
    show Steps p.tables e below (T23.setTop (mkF m 4 #[.val (.ref w0), .val (.int p1)] [(.int (0 : Int32))])) _
    refine XS.tswIn X23.here hx rfl (pc0 := 4) (pc' := 46) (o := 42) rfl (hb hby d_prog_21_method_4_code_4) rfl (by decide) (by first | rfl | decide) (by decide) (by decide) ?_
    show Steps p.tables e below (T23.setTop (mkF m 46 #[.val (.ref w0), .val (.int p1)] [])) _
    refine XS.iloadN X23.here hx rfl (hb hby d_prog_21_method_4_code_46) rfl ?_
    show Steps p.tables e below (T23.setTop (mkF m 47 #[.val (.ref w0), .val (.int p1)] [(.int p1)])) _
    refine XS.ifYes X23.here hx rfl (pc0 := 47) (pc' := 54) rfl (hb hby d_prog_21_method_4_code_47) rfl ((if0 _ _).trans (flt rl0).2.1) (by decide) (by decide) ?_
    show Steps p.tables e below (T23.setTop (mkF m 54 #[.val (.ref w0), .val (.int p1)] [])) _
    refine XS.iconst X23.here hx rfl (hb hby d_prog_21_method_4_code_54) ?_
    show Steps p.tables e below (T23.setTop (mkF m 55 #[.val (.ref w0), .val (.int p1)] [(.int (0 : Int32))])) _
    refine XS.goto X23.here hx rfl (pc0 := 55) (pc' := 91) rfl (hb hby d_prog_21_method_4_code_55) (by decide) (by decide) ?_
    show Steps p.tables e below (T23.setTop (mkF m 91 #[.val (.ref w0), .val (.int p1)] [(.int (0 : Int32))])) _
    exact retN X23 hx (t := .boolean) Bd.returns (by simp) (hb hby d_prog_21_method_4_code_91) hr
  · show Qp (some (.int (0 : Int32))) h0 n0 _ T23.heap _
    rw [e23]
    exact ⟨rfl, N23, rfl⟩
set_option maxRecDepth 65536 in
set_option maxHeartbeats 40000000 in
theorem rm4 (l : Launch) (Z : State) (a0 : Array Value) (hw : ∀ d ∈ tables_1, d.before a0 Z = true) (ws : List Jvm.Cond) (w0 w1 w2 w3 : Addr) (p1 : Int32) (h0 : Heap) (n0 : Nat) (hWd : Wd Z w0 w1 w2 w3) (O0 : Old Z n0 h0) (rl0 : ¬ (p1 < (0 : Int32))) (rl1 : (0 : Int32) < p1) (rl2 : ¬ (p1 = (0 : Int32))) :
    MetFree l (⟨"com/example/seneschal/seneschal/model/Comparison", "holds", "(I)Z"⟩ : MethodName) (head1 (Jvm.Cond.code (⟨"com/example/seneschal/seneschal/model/Comparison", "holds", "(I)Z"⟩ : MethodName) prog_21_method_4_code 2 (some .boolean) :: ws) ({ frames := 1, cells := 0, slots := 0, locals := 12 } : Room)) (fun a U => a = #[(.ref w0), (.int p1)] ∧ Z.Warmed39 U.vm ∧ U.heap = h0) (fun _ _ _ _ _ => True) (fun _ U o U' => ∃ v L, o = .returned v ∧ Qp (some (.int (0 : Int32))) h0 n0 v U'.heap L ∧ FrameEnd U o U' L ({ frames := 1, cells := 0, slots := 0, locals := 12 } : Room).cells ({ frames := 1, cells := 0, slots := 0, locals := 12 } : Room).slots) := by
  refine MetFree.of_bodySF (plainFor_of_name pn1) hisR ?_
  intro p e s m args below meth c s₁ Bd hml0 hP hK
  obtain ⟨rfl, hZ, hh⟩ := hP
  have hx := Bd.exec
  have hby := Bd.bytes
  have hml : c.maxLocals = 2 := hml0
  have hown : s.vm.findClass "com/example/seneschal/seneschal/model/Comparison" = some m.cls := findClass_of_methodNamed Bd.named
  have hnm := (name_of_methodNamed Bd.named Bd.method).1
  have X0 : Stand p l e ({ frames := 1, cells := 0, slots := 0, locals := 12 } : Room) s m #[(.ref w0), (.int p1)] below meth c s₁ [] 0 0 := Stand.of_body Bd
  have e0 : s₁.heap = h0 := by rw [← hh, Bd.state]; rfl
  have N0 := Fr.nil n0
  obtain ⟨wS0, wE0, wS1, wE1, wS2, wE2, wS3, wE3, wF0_ordinal, wF2_ordinal, wF1_ordinal, wF3_ordinal, -⟩ := id hWd
  have pre0 : ∀ t, Steps p.tables e below (s₁.setTop (mkF m 0 #[.val (.ref w0), .val (.int p1)] [])) t → Steps p.tables e below (s₁.setTop (entryFrame m #[(.ref w0), (.int p1)] 2)) t := fun t k => castTop (ef1 m p1 w0) k
  obtain ⟨cq25, kq25, q25a, q25b, q25c⟩ := isOf hZ e0 (wE0.ext O0.2)
  obtain ⟨_, _, ⟨T25, L25, k25, n25⟩, -, X25, ⟨Lc25, hQ25, l25, y25, z25⟩, st25⟩ := X0.virtualBackUp hx (owner := "java/lang/Enum") (x := (⟨"com/example/seneschal/seneschal/model/Comparison", "ordinal", "()I"⟩ : MethodName)) (y := (⟨"java/lang/Enum", "ordinal", "()I"⟩ : MethodName)) hown (mvT hZ (hw _ (List.mem_of_getElem? (i := 17) rfl))) (mvT hZ (hw _ (List.mem_of_getElem? (i := 18) rfl))) (mvT hZ (hw _ (List.mem_of_getElem? (i := 19) rfl))) (by decide) (mvT hZ (hw _ (List.mem_of_getElem? (i := 21) rfl))) (mvT hZ (hw _ (List.mem_of_getElem? (i := 20) rfl))) (backOf (W := 0) (rm2 l Z a0 hw [] w0 w1 w2 w3 h0 n0 hWd O0) hZ (hw _ (List.mem_of_getElem? (i := 23) rfl)) (hw _ (List.mem_of_getElem? (i := 22) rfl)) (by decide) (by decide)) q25a q25c (g := (mkF m 1 #[.val (.ref w0), .val (.int p1)] [(.ref w0)])) rfl (by rw [hml]; rfl) (Steps.refl _) (argsL := []) (rest := []) (lenOf pd0 rfl) rfl (by show 2 * 0 + _ ≤ _; exact Nat.le_of_eq rfl) (hb hby d_prog_21_method_4_code_1) (fun _ _ => ⟨rfl, e0, (by decide : 0 + 0 ≤ _), (by decide : 0 + 0 ≤ _)⟩)
  dsimp only [Pt.U, Pt.locs, Pt.cells, Pt.slots] at X25 l25 y25 z25 st25 hQ25
  subst l25 y25 z25
  obtain ⟨rfl, N25q, e25⟩ := hQ25
  have N25 := Fr.app N0 N25q
  obtain ⟨fs, hr, hrun, hended, hWr, hsame⟩ := X25.leave (v := some (.int (0 : Int32))) (fun h => by rw [Bd.returns] at h; cases h)
  refine ⟨_, _, pre0 _ ?_, hrun, hended, _, _, rfl, ?_, ⟨_, rfl⟩, hWr, hsame.mono (Nat.le_of_ble_eq_true rfl) (Nat.le_of_ble_eq_true rfl)⟩
  · show Steps p.tables e below (s₁.setTop (mkF m 0 #[.val (.ref w0), .val (.int p1)] [])) _
    refine XS.aloadN X0.here hx rfl (hb hby d_prog_21_method_4_code_0) rfl rfl ?_
    show Steps p.tables e below (s₁.setTop (mkF m 1 #[.val (.ref w0), .val (.int p1)] [(.ref w0)])) _
    refine st25.trans ?_
    show Steps p.tables e below (T25.setTop (mkF m 4 #[.val (.ref w0), .val (.int p1)] [(.int (0 : Int32))])) _
    refine XS.tswIn X25.here hx rfl (pc0 := 4) (pc' := 46) (o := 42) rfl (hb hby d_prog_21_method_4_code_4) rfl (by decide) (by first | rfl | decide) (by decide) (by decide) ?_
    show Steps p.tables e below (T25.setTop (mkF m 46 #[.val (.ref w0), .val (.int p1)] [])) _
    refine XS.iloadN X25.here hx rfl (hb hby d_prog_21_method_4_code_46) rfl ?_
    show Steps p.tables e below (T25.setTop (mkF m 47 #[.val (.ref w0), .val (.int p1)] [(.int p1)])) _
    refine XS.ifYes X25.here hx rfl (pc0 := 47) (pc' := 54) rfl (hb hby d_prog_21_method_4_code_47) rfl ((if0 _ _).trans (flt rl0).2.1) (by decide) (by decide) ?_
    show Steps p.tables e below (T25.setTop (mkF m 54 #[.val (.ref w0), .val (.int p1)] [])) _
    refine XS.iconst X25.here hx rfl (hb hby d_prog_21_method_4_code_54) ?_
    show Steps p.tables e below (T25.setTop (mkF m 55 #[.val (.ref w0), .val (.int p1)] [(.int (0 : Int32))])) _
    refine XS.goto X25.here hx rfl (pc0 := 55) (pc' := 91) rfl (hb hby d_prog_21_method_4_code_55) (by decide) (by decide) ?_
    show Steps p.tables e below (T25.setTop (mkF m 91 #[.val (.ref w0), .val (.int p1)] [(.int (0 : Int32))])) _
    exact retN X25 hx (t := .boolean) Bd.returns (by simp) (hb hby d_prog_21_method_4_code_91) hr
  · show Qp (some (.int (0 : Int32))) h0 n0 _ T25.heap _
    rw [e25]
    exact ⟨rfl, N25, rfl⟩
theorem ef2 (m : MethodId)   (w1 : Addr) : entryFrame m #[(.ref w1)] 1 = mkF m 0 #[.val (.ref w1)] [] := by first | (simp [entryFrame, mkF, argsToLocals, Value.category]; done) | rfl
set_option maxRecDepth 65536 in
set_option maxHeartbeats 40000000 in
theorem rm6 (l : Launch) (Z : State) (a0 : Array Value) (hw : ∀ d ∈ tables_1, d.before a0 Z = true) (ws : List Jvm.Cond) (w0 w1 w2 w3 : Addr) (h0 : Heap) (n0 : Nat) (hWd : Wd Z w0 w1 w2 w3) (O0 : Old Z n0 h0) :
    MetFree l (⟨"java/lang/Enum", "ordinal", "()I"⟩ : MethodName) (head1 (Jvm.Cond.code (⟨"java/lang/Enum", "ordinal", "()I"⟩ : MethodName) jdk_37_method_2_code 1 (some .int) :: ws) ({ frames := 0, cells := 0, slots := 0, locals := 0 } : Room)) (fun a U => a = #[(.ref w1)] ∧ Z.Warmed39 U.vm ∧ U.heap = h0) (fun _ _ _ _ _ => True) (fun _ U o U' => ∃ v L, o = .returned v ∧ Qp (some (.int (1 : Int32))) h0 n0 v U'.heap L ∧ FrameEnd U o U' L ({ frames := 0, cells := 0, slots := 0, locals := 0 } : Room).cells ({ frames := 0, cells := 0, slots := 0, locals := 0 } : Room).slots) := by
  refine MetFree.of_bodySF (plainFor_of_name pn0) hisR ?_
  intro p e s m args below meth c s₁ Bd hml0 hP hK
  obtain ⟨rfl, hZ, hh⟩ := hP
  have hx := Bd.exec
  have hby := Bd.bytes
  have hml : c.maxLocals = 1 := hml0
  have hown : s.vm.findClass "java/lang/Enum" = some m.cls := findClass_of_methodNamed Bd.named
  have hnm := (name_of_methodNamed Bd.named Bd.method).1
  have X0 : Stand p l e ({ frames := 0, cells := 0, slots := 0, locals := 0 } : Room) s m #[(.ref w1)] below meth c s₁ [] 0 0 := Stand.of_body Bd
  have e0 : s₁.heap = h0 := by rw [← hh, Bd.state]; rfl
  have N0 := Fr.nil n0
  obtain ⟨wS0, wE0, wS1, wE1, wS2, wE2, wS3, wE3, wF0_ordinal, wF2_ordinal, wF1_ordinal, wF3_ordinal, -⟩ := id hWd
  have pre0 : ∀ t, Steps p.tables e below (s₁.setTop (mkF m 0 #[.val (.ref w1)] [])) t → Steps p.tables e below (s₁.setTop (entryFrame m #[(.ref w1)] 1)) t := fun t k => castTop (ef2 m w1) k
  obtain ⟨T32, X32, e32, st32⟩ := getF X0 hx hZ hown (host := "") (Or.inl (hw _ (List.mem_of_getElem? (i := 24) rfl))) Via.refl e0 (wF1_ordinal.ext O0.2) (g := (mkF m 1 #[.val (.ref w1)] [(.ref w1)])) rfl rfl (hb hby d_jdk_37_method_2_code_1)
  obtain ⟨fs, hr, hrun, hended, hWr, hsame⟩ := X32.leave (v := some (.int (1 : Int32))) (fun h => by rw [Bd.returns] at h; cases h)
  refine ⟨_, _, pre0 _ ?_, hrun, hended, _, _, rfl, ?_, ⟨_, rfl⟩, hWr, hsame.mono (Nat.le_of_ble_eq_true rfl) (Nat.le_of_ble_eq_true rfl)⟩
  · show Steps p.tables e below (s₁.setTop (mkF m 0 #[.val (.ref w1)] [])) _
    refine XS.aloadN X0.here hx rfl (hb hby d_jdk_37_method_2_code_0) rfl rfl ?_
    show Steps p.tables e below (s₁.setTop (mkF m 1 #[.val (.ref w1)] [(.ref w1)])) _
    refine st32 _ ?_
    show Steps p.tables e below (T32.setTop (mkF m 4 #[.val (.ref w1)] [(.int (1 : Int32))])) _
    exact retOut X32 hx (t := .int) (i := .ireturn) Bd.returns rfl (Or.inl ⟨rfl, Or.inl rfl, _, rfl⟩) (hb hby d_jdk_37_method_2_code_4) hr
  · show Qp (some (.int (1 : Int32))) h0 n0 _ T32.heap _
    rw [e32]
    exact ⟨rfl, N0, rfl⟩
theorem d_prog_21_method_4_code_58 : decode prog_21_method_4_code 58 = .ok (.iload_n 1, 1) := by decide +kernel
theorem d_prog_21_method_4_code_59 : decode prog_21_method_4_code 59 = .ok (.ifCond .gt 7, 3) := by decide +kernel
theorem d_prog_21_method_4_code_62 : decode prog_21_method_4_code 62 = .ok (.iconst 1, 1) := by decide +kernel
theorem d_prog_21_method_4_code_63 : decode prog_21_method_4_code 63 = .ok (.goto 28, 3) := by decide +kernel
theorem ef3 (m : MethodId) (p1 : Int32)  (w1 : Addr) : entryFrame m #[(.ref w1), (.int p1)] 2 = mkF m 0 #[.val (.ref w1), .val (.int p1)] [] := by first | (simp [entryFrame, mkF, argsToLocals, Value.category]; done) | rfl
set_option maxRecDepth 65536 in
set_option maxHeartbeats 40000000 in
theorem rm5 (l : Launch) (Z : State) (a0 : Array Value) (hw : ∀ d ∈ tables_1, d.before a0 Z = true) (ws : List Jvm.Cond) (w0 w1 w2 w3 : Addr) (p1 : Int32) (h0 : Heap) (n0 : Nat) (hWd : Wd Z w0 w1 w2 w3) (O0 : Old Z n0 h0) (rl0 : p1 < (0 : Int32)) (rl1 : ¬ ((0 : Int32) < p1)) (rl2 : ¬ (p1 = (0 : Int32))) :
    MetFree l (⟨"com/example/seneschal/seneschal/model/Comparison", "holds", "(I)Z"⟩ : MethodName) (head1 (Jvm.Cond.code (⟨"com/example/seneschal/seneschal/model/Comparison", "holds", "(I)Z"⟩ : MethodName) prog_21_method_4_code 2 (some .boolean) :: ws) ({ frames := 1, cells := 0, slots := 0, locals := 12 } : Room)) (fun a U => a = #[(.ref w1), (.int p1)] ∧ Z.Warmed39 U.vm ∧ U.heap = h0) (fun _ _ _ _ _ => True) (fun _ U o U' => ∃ v L, o = .returned v ∧ Qp (some (.int (1 : Int32))) h0 n0 v U'.heap L ∧ FrameEnd U o U' L ({ frames := 1, cells := 0, slots := 0, locals := 12 } : Room).cells ({ frames := 1, cells := 0, slots := 0, locals := 12 } : Room).slots) := by
  refine MetFree.of_bodySF (plainFor_of_name pn1) hisR ?_
  intro p e s m args below meth c s₁ Bd hml0 hP hK
  obtain ⟨rfl, hZ, hh⟩ := hP
  have hx := Bd.exec
  have hby := Bd.bytes
  have hml : c.maxLocals = 2 := hml0
  have hown : s.vm.findClass "com/example/seneschal/seneschal/model/Comparison" = some m.cls := findClass_of_methodNamed Bd.named
  have hnm := (name_of_methodNamed Bd.named Bd.method).1
  have X0 : Stand p l e ({ frames := 1, cells := 0, slots := 0, locals := 12 } : Room) s m #[(.ref w1), (.int p1)] below meth c s₁ [] 0 0 := Stand.of_body Bd
  have e0 : s₁.heap = h0 := by rw [← hh, Bd.state]; rfl
  have N0 := Fr.nil n0
  obtain ⟨wS0, wE0, wS1, wE1, wS2, wE2, wS3, wE3, wF0_ordinal, wF2_ordinal, wF1_ordinal, wF3_ordinal, -⟩ := id hWd
  have pre0 : ∀ t, Steps p.tables e below (s₁.setTop (mkF m 0 #[.val (.ref w1), .val (.int p1)] [])) t → Steps p.tables e below (s₁.setTop (entryFrame m #[(.ref w1), (.int p1)] 2)) t := fun t k => castTop (ef3 m p1 w1) k
  obtain ⟨cq33, kq33, q33a, q33b, q33c⟩ := isOf hZ e0 (wE1.ext O0.2)
  obtain ⟨_, _, ⟨T33, L33, k33, n33⟩, -, X33, ⟨Lc33, hQ33, l33, y33, z33⟩, st33⟩ := X0.virtualBackUp hx (owner := "java/lang/Enum") (x := (⟨"com/example/seneschal/seneschal/model/Comparison", "ordinal", "()I"⟩ : MethodName)) (y := (⟨"java/lang/Enum", "ordinal", "()I"⟩ : MethodName)) hown (mvT hZ (hw _ (List.mem_of_getElem? (i := 17) rfl))) (mvT hZ (hw _ (List.mem_of_getElem? (i := 18) rfl))) (mvT hZ (hw _ (List.mem_of_getElem? (i := 19) rfl))) (by decide) (mvT hZ (hw _ (List.mem_of_getElem? (i := 21) rfl))) (mvT hZ (hw _ (List.mem_of_getElem? (i := 20) rfl))) (backOf (W := 0) (rm6 l Z a0 hw [] w0 w1 w2 w3 h0 n0 hWd O0) hZ (hw _ (List.mem_of_getElem? (i := 23) rfl)) (hw _ (List.mem_of_getElem? (i := 22) rfl)) (by decide) (by decide)) q33a q33c (g := (mkF m 1 #[.val (.ref w1), .val (.int p1)] [(.ref w1)])) rfl (by rw [hml]; rfl) (Steps.refl _) (argsL := []) (rest := []) (lenOf pd0 rfl) rfl (by show 2 * 0 + _ ≤ _; exact Nat.le_of_eq rfl) (hb hby d_prog_21_method_4_code_1) (fun _ _ => ⟨rfl, e0, (by decide : 0 + 0 ≤ _), (by decide : 0 + 0 ≤ _)⟩)
  dsimp only [Pt.U, Pt.locs, Pt.cells, Pt.slots] at X33 l33 y33 z33 st33 hQ33
  subst l33 y33 z33
  obtain ⟨rfl, N33q, e33⟩ := hQ33
  have N33 := Fr.app N0 N33q
  obtain ⟨fs, hr, hrun, hended, hWr, hsame⟩ := X33.leave (v := some (.int (1 : Int32))) (fun h => by rw [Bd.returns] at h; cases h)
  refine ⟨_, _, pre0 _ ?_, hrun, hended, _, _, rfl, ?_, ⟨_, rfl⟩, hWr, hsame.mono (Nat.le_of_ble_eq_true rfl) (Nat.le_of_ble_eq_true rfl)⟩
  · show Steps p.tables e below (s₁.setTop (mkF m 0 #[.val (.ref w1), .val (.int p1)] [])) _
    refine XS.aloadN X0.here hx rfl (hb hby d_prog_21_method_4_code_0) rfl rfl ?_
    show Steps p.tables e below (s₁.setTop (mkF m 1 #[.val (.ref w1), .val (.int p1)] [(.ref w1)])) _
    refine st33.trans ?_
    show Steps p.tables e below (T33.setTop (mkF m 4 #[.val (.ref w1), .val (.int p1)] [(.int (1 : Int32))])) _
    refine XS.tswIn X33.here hx rfl (pc0 := 4) (pc' := 58) (o := 54) rfl (hb hby d_prog_21_method_4_code_4) rfl (by decide) (by first | rfl | decide) (by decide) (by decide) ?_
    show Steps p.tables e below (T33.setTop (mkF m 58 #[.val (.ref w1), .val (.int p1)] [])) _
    refine XS.iloadN X33.here hx rfl (hb hby d_prog_21_method_4_code_58) rfl ?_
    show Steps p.tables e below (T33.setTop (mkF m 59 #[.val (.ref w1), .val (.int p1)] [(.int p1)])) _
    refine XS.ifNo X33.here hx rfl (hb hby d_prog_21_method_4_code_59) rfl ((if0 _ _).trans (flt rl1).2.2.1) ?_
    show Steps p.tables e below (T33.setTop (mkF m 62 #[.val (.ref w1), .val (.int p1)] [])) _
    refine XS.iconst X33.here hx rfl (hb hby d_prog_21_method_4_code_62) ?_
    show Steps p.tables e below (T33.setTop (mkF m 63 #[.val (.ref w1), .val (.int p1)] [(.int (1 : Int32))])) _
    refine XS.goto X33.here hx rfl (pc0 := 63) (pc' := 91) rfl (hb hby d_prog_21_method_4_code_63) (by decide) (by decide) ?_
    show Steps p.tables e below (T33.setTop (mkF m 91 #[.val (.ref w1), .val (.int p1)] [(.int (1 : Int32))])) _
    exact retN X33 hx (t := .boolean) Bd.returns (by simp) (hb hby d_prog_21_method_4_code_91) hr
  · show Qp (some (.int (1 : Int32))) h0 n0 _ T33.heap _
    rw [e33]
    exact ⟨rfl, N33, rfl⟩
set_option maxRecDepth 65536 in
set_option maxHeartbeats 40000000 in
theorem rm7 (l : Launch) (Z : State) (a0 : Array Value) (hw : ∀ d ∈ tables_1, d.before a0 Z = true) (ws : List Jvm.Cond) (w0 w1 w2 w3 : Addr) (p1 : Int32) (h0 : Heap) (n0 : Nat) (hWd : Wd Z w0 w1 w2 w3) (O0 : Old Z n0 h0) (rl0 : ¬ (p1 < (0 : Int32))) (rl1 : ¬ ((0 : Int32) < p1)) (rl2 : p1 = (0 : Int32)) :
    MetFree l (⟨"com/example/seneschal/seneschal/model/Comparison", "holds", "(I)Z"⟩ : MethodName) (head1 (Jvm.Cond.code (⟨"com/example/seneschal/seneschal/model/Comparison", "holds", "(I)Z"⟩ : MethodName) prog_21_method_4_code 2 (some .boolean) :: ws) ({ frames := 1, cells := 0, slots := 0, locals := 12 } : Room)) (fun a U => a = #[(.ref w1), (.int p1)] ∧ Z.Warmed39 U.vm ∧ U.heap = h0) (fun _ _ _ _ _ => True) (fun _ U o U' => ∃ v L, o = .returned v ∧ Qp (some (.int (1 : Int32))) h0 n0 v U'.heap L ∧ FrameEnd U o U' L ({ frames := 1, cells := 0, slots := 0, locals := 12 } : Room).cells ({ frames := 1, cells := 0, slots := 0, locals := 12 } : Room).slots) := by
  refine MetFree.of_bodySF (plainFor_of_name pn1) hisR ?_
  intro p e s m args below meth c s₁ Bd hml0 hP hK
  obtain ⟨rfl, hZ, hh⟩ := hP
  have hx := Bd.exec
  have hby := Bd.bytes
  have hml : c.maxLocals = 2 := hml0
  have hown : s.vm.findClass "com/example/seneschal/seneschal/model/Comparison" = some m.cls := findClass_of_methodNamed Bd.named
  have hnm := (name_of_methodNamed Bd.named Bd.method).1
  have X0 : Stand p l e ({ frames := 1, cells := 0, slots := 0, locals := 12 } : Room) s m #[(.ref w1), (.int p1)] below meth c s₁ [] 0 0 := Stand.of_body Bd
  have e0 : s₁.heap = h0 := by rw [← hh, Bd.state]; rfl
  have N0 := Fr.nil n0
  obtain ⟨wS0, wE0, wS1, wE1, wS2, wE2, wS3, wE3, wF0_ordinal, wF2_ordinal, wF1_ordinal, wF3_ordinal, -⟩ := id hWd
  have pre0 : ∀ t, Steps p.tables e below (s₁.setTop (mkF m 0 #[.val (.ref w1), .val (.int p1)] [])) t → Steps p.tables e below (s₁.setTop (entryFrame m #[(.ref w1), (.int p1)] 2)) t := fun t k => castTop (ef3 m p1 w1) k
  obtain ⟨cq35, kq35, q35a, q35b, q35c⟩ := isOf hZ e0 (wE1.ext O0.2)
  obtain ⟨_, _, ⟨T35, L35, k35, n35⟩, -, X35, ⟨Lc35, hQ35, l35, y35, z35⟩, st35⟩ := X0.virtualBackUp hx (owner := "java/lang/Enum") (x := (⟨"com/example/seneschal/seneschal/model/Comparison", "ordinal", "()I"⟩ : MethodName)) (y := (⟨"java/lang/Enum", "ordinal", "()I"⟩ : MethodName)) hown (mvT hZ (hw _ (List.mem_of_getElem? (i := 17) rfl))) (mvT hZ (hw _ (List.mem_of_getElem? (i := 18) rfl))) (mvT hZ (hw _ (List.mem_of_getElem? (i := 19) rfl))) (by decide) (mvT hZ (hw _ (List.mem_of_getElem? (i := 21) rfl))) (mvT hZ (hw _ (List.mem_of_getElem? (i := 20) rfl))) (backOf (W := 0) (rm6 l Z a0 hw [] w0 w1 w2 w3 h0 n0 hWd O0) hZ (hw _ (List.mem_of_getElem? (i := 23) rfl)) (hw _ (List.mem_of_getElem? (i := 22) rfl)) (by decide) (by decide)) q35a q35c (g := (mkF m 1 #[.val (.ref w1), .val (.int p1)] [(.ref w1)])) rfl (by rw [hml]; rfl) (Steps.refl _) (argsL := []) (rest := []) (lenOf pd0 rfl) rfl (by show 2 * 0 + _ ≤ _; exact Nat.le_of_eq rfl) (hb hby d_prog_21_method_4_code_1) (fun _ _ => ⟨rfl, e0, (by decide : 0 + 0 ≤ _), (by decide : 0 + 0 ≤ _)⟩)
  dsimp only [Pt.U, Pt.locs, Pt.cells, Pt.slots] at X35 l35 y35 z35 st35 hQ35
  subst l35 y35 z35
  obtain ⟨rfl, N35q, e35⟩ := hQ35
  have N35 := Fr.app N0 N35q
  obtain ⟨fs, hr, hrun, hended, hWr, hsame⟩ := X35.leave (v := some (.int (1 : Int32))) (fun h => by rw [Bd.returns] at h; cases h)
  refine ⟨_, _, pre0 _ ?_, hrun, hended, _, _, rfl, ?_, ⟨_, rfl⟩, hWr, hsame.mono (Nat.le_of_ble_eq_true rfl) (Nat.le_of_ble_eq_true rfl)⟩
  · show Steps p.tables e below (s₁.setTop (mkF m 0 #[.val (.ref w1), .val (.int p1)] [])) _
    refine XS.aloadN X0.here hx rfl (hb hby d_prog_21_method_4_code_0) rfl rfl ?_
    show Steps p.tables e below (s₁.setTop (mkF m 1 #[.val (.ref w1), .val (.int p1)] [(.ref w1)])) _
    refine st35.trans ?_
    show Steps p.tables e below (T35.setTop (mkF m 4 #[.val (.ref w1), .val (.int p1)] [(.int (1 : Int32))])) _
    refine XS.tswIn X35.here hx rfl (pc0 := 4) (pc' := 58) (o := 54) rfl (hb hby d_prog_21_method_4_code_4) rfl (by decide) (by first | rfl | decide) (by decide) (by decide) ?_
    show Steps p.tables e below (T35.setTop (mkF m 58 #[.val (.ref w1), .val (.int p1)] [])) _
    refine XS.iloadN X35.here hx rfl (hb hby d_prog_21_method_4_code_58) rfl ?_
    show Steps p.tables e below (T35.setTop (mkF m 59 #[.val (.ref w1), .val (.int p1)] [(.int p1)])) _
    refine XS.ifNo X35.here hx rfl (hb hby d_prog_21_method_4_code_59) rfl ((if0 _ _).trans (flt rl1).2.2.1) ?_
    show Steps p.tables e below (T35.setTop (mkF m 62 #[.val (.ref w1), .val (.int p1)] [])) _
    refine XS.iconst X35.here hx rfl (hb hby d_prog_21_method_4_code_62) ?_
    show Steps p.tables e below (T35.setTop (mkF m 63 #[.val (.ref w1), .val (.int p1)] [(.int (1 : Int32))])) _
    refine XS.goto X35.here hx rfl (pc0 := 63) (pc' := 91) rfl (hb hby d_prog_21_method_4_code_63) (by decide) (by decide) ?_
    show Steps p.tables e below (T35.setTop (mkF m 91 #[.val (.ref w1), .val (.int p1)] [(.int (1 : Int32))])) _
    exact retN X35 hx (t := .boolean) Bd.returns (by simp) (hb hby d_prog_21_method_4_code_91) hr
  · show Qp (some (.int (1 : Int32))) h0 n0 _ T35.heap _
    rw [e35]
    exact ⟨rfl, N35, rfl⟩
theorem d_prog_21_method_4_code_66 : decode prog_21_method_4_code 66 = .ok (.iconst 0, 1) := by decide +kernel
theorem d_prog_21_method_4_code_67 : decode prog_21_method_4_code 67 = .ok (.goto 24, 3) := by decide +kernel
set_option maxRecDepth 65536 in
set_option maxHeartbeats 40000000 in
theorem rm8 (l : Launch) (Z : State) (a0 : Array Value) (hw : ∀ d ∈ tables_1, d.before a0 Z = true) (ws : List Jvm.Cond) (w0 w1 w2 w3 : Addr) (p1 : Int32) (h0 : Heap) (n0 : Nat) (hWd : Wd Z w0 w1 w2 w3) (O0 : Old Z n0 h0) (rl0 : ¬ (p1 < (0 : Int32))) (rl1 : (0 : Int32) < p1) (rl2 : ¬ (p1 = (0 : Int32))) :
    MetFree l (⟨"com/example/seneschal/seneschal/model/Comparison", "holds", "(I)Z"⟩ : MethodName) (head1 (Jvm.Cond.code (⟨"com/example/seneschal/seneschal/model/Comparison", "holds", "(I)Z"⟩ : MethodName) prog_21_method_4_code 2 (some .boolean) :: ws) ({ frames := 1, cells := 0, slots := 0, locals := 12 } : Room)) (fun a U => a = #[(.ref w1), (.int p1)] ∧ Z.Warmed39 U.vm ∧ U.heap = h0) (fun _ _ _ _ _ => True) (fun _ U o U' => ∃ v L, o = .returned v ∧ Qp (some (.int (0 : Int32))) h0 n0 v U'.heap L ∧ FrameEnd U o U' L ({ frames := 1, cells := 0, slots := 0, locals := 12 } : Room).cells ({ frames := 1, cells := 0, slots := 0, locals := 12 } : Room).slots) := by
  refine MetFree.of_bodySF (plainFor_of_name pn1) hisR ?_
  intro p e s m args below meth c s₁ Bd hml0 hP hK
  obtain ⟨rfl, hZ, hh⟩ := hP
  have hx := Bd.exec
  have hby := Bd.bytes
  have hml : c.maxLocals = 2 := hml0
  have hown : s.vm.findClass "com/example/seneschal/seneschal/model/Comparison" = some m.cls := findClass_of_methodNamed Bd.named
  have hnm := (name_of_methodNamed Bd.named Bd.method).1
  have X0 : Stand p l e ({ frames := 1, cells := 0, slots := 0, locals := 12 } : Room) s m #[(.ref w1), (.int p1)] below meth c s₁ [] 0 0 := Stand.of_body Bd
  have e0 : s₁.heap = h0 := by rw [← hh, Bd.state]; rfl
  have N0 := Fr.nil n0
  obtain ⟨wS0, wE0, wS1, wE1, wS2, wE2, wS3, wE3, wF0_ordinal, wF2_ordinal, wF1_ordinal, wF3_ordinal, -⟩ := id hWd
  have pre0 : ∀ t, Steps p.tables e below (s₁.setTop (mkF m 0 #[.val (.ref w1), .val (.int p1)] [])) t → Steps p.tables e below (s₁.setTop (entryFrame m #[(.ref w1), (.int p1)] 2)) t := fun t k => castTop (ef3 m p1 w1) k
  obtain ⟨cq37, kq37, q37a, q37b, q37c⟩ := isOf hZ e0 (wE1.ext O0.2)
  obtain ⟨_, _, ⟨T37, L37, k37, n37⟩, -, X37, ⟨Lc37, hQ37, l37, y37, z37⟩, st37⟩ := X0.virtualBackUp hx (owner := "java/lang/Enum") (x := (⟨"com/example/seneschal/seneschal/model/Comparison", "ordinal", "()I"⟩ : MethodName)) (y := (⟨"java/lang/Enum", "ordinal", "()I"⟩ : MethodName)) hown (mvT hZ (hw _ (List.mem_of_getElem? (i := 17) rfl))) (mvT hZ (hw _ (List.mem_of_getElem? (i := 18) rfl))) (mvT hZ (hw _ (List.mem_of_getElem? (i := 19) rfl))) (by decide) (mvT hZ (hw _ (List.mem_of_getElem? (i := 21) rfl))) (mvT hZ (hw _ (List.mem_of_getElem? (i := 20) rfl))) (backOf (W := 0) (rm6 l Z a0 hw [] w0 w1 w2 w3 h0 n0 hWd O0) hZ (hw _ (List.mem_of_getElem? (i := 23) rfl)) (hw _ (List.mem_of_getElem? (i := 22) rfl)) (by decide) (by decide)) q37a q37c (g := (mkF m 1 #[.val (.ref w1), .val (.int p1)] [(.ref w1)])) rfl (by rw [hml]; rfl) (Steps.refl _) (argsL := []) (rest := []) (lenOf pd0 rfl) rfl (by show 2 * 0 + _ ≤ _; exact Nat.le_of_eq rfl) (hb hby d_prog_21_method_4_code_1) (fun _ _ => ⟨rfl, e0, (by decide : 0 + 0 ≤ _), (by decide : 0 + 0 ≤ _)⟩)
  dsimp only [Pt.U, Pt.locs, Pt.cells, Pt.slots] at X37 l37 y37 z37 st37 hQ37
  subst l37 y37 z37
  obtain ⟨rfl, N37q, e37⟩ := hQ37
  have N37 := Fr.app N0 N37q
  obtain ⟨fs, hr, hrun, hended, hWr, hsame⟩ := X37.leave (v := some (.int (0 : Int32))) (fun h => by rw [Bd.returns] at h; cases h)
  refine ⟨_, _, pre0 _ ?_, hrun, hended, _, _, rfl, ?_, ⟨_, rfl⟩, hWr, hsame.mono (Nat.le_of_ble_eq_true rfl) (Nat.le_of_ble_eq_true rfl)⟩
  · show Steps p.tables e below (s₁.setTop (mkF m 0 #[.val (.ref w1), .val (.int p1)] [])) _
    refine XS.aloadN X0.here hx rfl (hb hby d_prog_21_method_4_code_0) rfl rfl ?_
    show Steps p.tables e below (s₁.setTop (mkF m 1 #[.val (.ref w1), .val (.int p1)] [(.ref w1)])) _
    refine st37.trans ?_
    show Steps p.tables e below (T37.setTop (mkF m 4 #[.val (.ref w1), .val (.int p1)] [(.int (1 : Int32))])) _
    refine XS.tswIn X37.here hx rfl (pc0 := 4) (pc' := 58) (o := 54) rfl (hb hby d_prog_21_method_4_code_4) rfl (by decide) (by first | rfl | decide) (by decide) (by decide) ?_
    show Steps p.tables e below (T37.setTop (mkF m 58 #[.val (.ref w1), .val (.int p1)] [])) _
    refine XS.iloadN X37.here hx rfl (hb hby d_prog_21_method_4_code_58) rfl ?_
    show Steps p.tables e below (T37.setTop (mkF m 59 #[.val (.ref w1), .val (.int p1)] [(.int p1)])) _
    refine XS.ifYes X37.here hx rfl (pc0 := 59) (pc' := 66) rfl (hb hby d_prog_21_method_4_code_59) rfl ((if0 _ _).trans (tlt rl1).2.2.1) (by decide) (by decide) ?_
    show Steps p.tables e below (T37.setTop (mkF m 66 #[.val (.ref w1), .val (.int p1)] [])) _
    refine XS.iconst X37.here hx rfl (hb hby d_prog_21_method_4_code_66) ?_
    show Steps p.tables e below (T37.setTop (mkF m 67 #[.val (.ref w1), .val (.int p1)] [(.int (0 : Int32))])) _
    refine XS.goto X37.here hx rfl (pc0 := 67) (pc' := 91) rfl (hb hby d_prog_21_method_4_code_67) (by decide) (by decide) ?_
    show Steps p.tables e below (T37.setTop (mkF m 91 #[.val (.ref w1), .val (.int p1)] [(.int (0 : Int32))])) _
    exact retN X37 hx (t := .boolean) Bd.returns (by simp) (hb hby d_prog_21_method_4_code_91) hr
  · show Qp (some (.int (0 : Int32))) h0 n0 _ T37.heap _
    rw [e37]
    exact ⟨rfl, N37, rfl⟩
theorem ef4 (m : MethodId)   (w2 : Addr) : entryFrame m #[(.ref w2)] 1 = mkF m 0 #[.val (.ref w2)] [] := by first | (simp [entryFrame, mkF, argsToLocals, Value.category]; done) | rfl
set_option maxRecDepth 65536 in
set_option maxHeartbeats 40000000 in
theorem rm10 (l : Launch) (Z : State) (a0 : Array Value) (hw : ∀ d ∈ tables_1, d.before a0 Z = true) (ws : List Jvm.Cond) (w0 w1 w2 w3 : Addr) (h0 : Heap) (n0 : Nat) (hWd : Wd Z w0 w1 w2 w3) (O0 : Old Z n0 h0) :
    MetFree l (⟨"java/lang/Enum", "ordinal", "()I"⟩ : MethodName) (head1 (Jvm.Cond.code (⟨"java/lang/Enum", "ordinal", "()I"⟩ : MethodName) jdk_37_method_2_code 1 (some .int) :: ws) ({ frames := 0, cells := 0, slots := 0, locals := 0 } : Room)) (fun a U => a = #[(.ref w2)] ∧ Z.Warmed39 U.vm ∧ U.heap = h0) (fun _ _ _ _ _ => True) (fun _ U o U' => ∃ v L, o = .returned v ∧ Qp (some (.int (2 : Int32))) h0 n0 v U'.heap L ∧ FrameEnd U o U' L ({ frames := 0, cells := 0, slots := 0, locals := 0 } : Room).cells ({ frames := 0, cells := 0, slots := 0, locals := 0 } : Room).slots) := by
  refine MetFree.of_bodySF (plainFor_of_name pn0) hisR ?_
  intro p e s m args below meth c s₁ Bd hml0 hP hK
  obtain ⟨rfl, hZ, hh⟩ := hP
  have hx := Bd.exec
  have hby := Bd.bytes
  have hml : c.maxLocals = 1 := hml0
  have hown : s.vm.findClass "java/lang/Enum" = some m.cls := findClass_of_methodNamed Bd.named
  have hnm := (name_of_methodNamed Bd.named Bd.method).1
  have X0 : Stand p l e ({ frames := 0, cells := 0, slots := 0, locals := 0 } : Room) s m #[(.ref w2)] below meth c s₁ [] 0 0 := Stand.of_body Bd
  have e0 : s₁.heap = h0 := by rw [← hh, Bd.state]; rfl
  have N0 := Fr.nil n0
  obtain ⟨wS0, wE0, wS1, wE1, wS2, wE2, wS3, wE3, wF0_ordinal, wF2_ordinal, wF1_ordinal, wF3_ordinal, -⟩ := id hWd
  have pre0 : ∀ t, Steps p.tables e below (s₁.setTop (mkF m 0 #[.val (.ref w2)] [])) t → Steps p.tables e below (s₁.setTop (entryFrame m #[(.ref w2)] 1)) t := fun t k => castTop (ef4 m w2) k
  obtain ⟨T44, X44, e44, st44⟩ := getF X0 hx hZ hown (host := "") (Or.inl (hw _ (List.mem_of_getElem? (i := 24) rfl))) Via.refl e0 (wF2_ordinal.ext O0.2) (g := (mkF m 1 #[.val (.ref w2)] [(.ref w2)])) rfl rfl (hb hby d_jdk_37_method_2_code_1)
  obtain ⟨fs, hr, hrun, hended, hWr, hsame⟩ := X44.leave (v := some (.int (2 : Int32))) (fun h => by rw [Bd.returns] at h; cases h)
  refine ⟨_, _, pre0 _ ?_, hrun, hended, _, _, rfl, ?_, ⟨_, rfl⟩, hWr, hsame.mono (Nat.le_of_ble_eq_true rfl) (Nat.le_of_ble_eq_true rfl)⟩
  · show Steps p.tables e below (s₁.setTop (mkF m 0 #[.val (.ref w2)] [])) _
    refine XS.aloadN X0.here hx rfl (hb hby d_jdk_37_method_2_code_0) rfl rfl ?_
    show Steps p.tables e below (s₁.setTop (mkF m 1 #[.val (.ref w2)] [(.ref w2)])) _
    refine st44 _ ?_
    show Steps p.tables e below (T44.setTop (mkF m 4 #[.val (.ref w2)] [(.int (2 : Int32))])) _
    exact retOut X44 hx (t := .int) (i := .ireturn) Bd.returns rfl (Or.inl ⟨rfl, Or.inl rfl, _, rfl⟩) (hb hby d_jdk_37_method_2_code_4) hr
  · show Qp (some (.int (2 : Int32))) h0 n0 _ T44.heap _
    rw [e44]
    exact ⟨rfl, N0, rfl⟩
theorem d_prog_21_method_4_code_70 : decode prog_21_method_4_code 70 = .ok (.iload_n 1, 1) := by decide +kernel
theorem d_prog_21_method_4_code_71 : decode prog_21_method_4_code 71 = .ok (.ifCond .le 7, 3) := by decide +kernel
theorem d_prog_21_method_4_code_78 : decode prog_21_method_4_code 78 = .ok (.iconst 0, 1) := by decide +kernel
theorem d_prog_21_method_4_code_79 : decode prog_21_method_4_code 79 = .ok (.goto 12, 3) := by decide +kernel
theorem ef5 (m : MethodId) (p1 : Int32)  (w2 : Addr) : entryFrame m #[(.ref w2), (.int p1)] 2 = mkF m 0 #[.val (.ref w2), .val (.int p1)] [] := by first | (simp [entryFrame, mkF, argsToLocals, Value.category]; done) | rfl
set_option maxRecDepth 65536 in
set_option maxHeartbeats 40000000 in
theorem rm9 (l : Launch) (Z : State) (a0 : Array Value) (hw : ∀ d ∈ tables_1, d.before a0 Z = true) (ws : List Jvm.Cond) (w0 w1 w2 w3 : Addr) (p1 : Int32) (h0 : Heap) (n0 : Nat) (hWd : Wd Z w0 w1 w2 w3) (O0 : Old Z n0 h0) (rl0 : p1 < (0 : Int32)) (rl1 : ¬ ((0 : Int32) < p1)) (rl2 : ¬ (p1 = (0 : Int32))) :
    MetFree l (⟨"com/example/seneschal/seneschal/model/Comparison", "holds", "(I)Z"⟩ : MethodName) (head1 (Jvm.Cond.code (⟨"com/example/seneschal/seneschal/model/Comparison", "holds", "(I)Z"⟩ : MethodName) prog_21_method_4_code 2 (some .boolean) :: ws) ({ frames := 1, cells := 0, slots := 0, locals := 12 } : Room)) (fun a U => a = #[(.ref w2), (.int p1)] ∧ Z.Warmed39 U.vm ∧ U.heap = h0) (fun _ _ _ _ _ => True) (fun _ U o U' => ∃ v L, o = .returned v ∧ Qp (some (.int (0 : Int32))) h0 n0 v U'.heap L ∧ FrameEnd U o U' L ({ frames := 1, cells := 0, slots := 0, locals := 12 } : Room).cells ({ frames := 1, cells := 0, slots := 0, locals := 12 } : Room).slots) := by
  refine MetFree.of_bodySF (plainFor_of_name pn1) hisR ?_
  intro p e s m args below meth c s₁ Bd hml0 hP hK
  obtain ⟨rfl, hZ, hh⟩ := hP
  have hx := Bd.exec
  have hby := Bd.bytes
  have hml : c.maxLocals = 2 := hml0
  have hown : s.vm.findClass "com/example/seneschal/seneschal/model/Comparison" = some m.cls := findClass_of_methodNamed Bd.named
  have hnm := (name_of_methodNamed Bd.named Bd.method).1
  have X0 : Stand p l e ({ frames := 1, cells := 0, slots := 0, locals := 12 } : Room) s m #[(.ref w2), (.int p1)] below meth c s₁ [] 0 0 := Stand.of_body Bd
  have e0 : s₁.heap = h0 := by rw [← hh, Bd.state]; rfl
  have N0 := Fr.nil n0
  obtain ⟨wS0, wE0, wS1, wE1, wS2, wE2, wS3, wE3, wF0_ordinal, wF2_ordinal, wF1_ordinal, wF3_ordinal, -⟩ := id hWd
  have pre0 : ∀ t, Steps p.tables e below (s₁.setTop (mkF m 0 #[.val (.ref w2), .val (.int p1)] [])) t → Steps p.tables e below (s₁.setTop (entryFrame m #[(.ref w2), (.int p1)] 2)) t := fun t k => castTop (ef5 m p1 w2) k
  obtain ⟨cq45, kq45, q45a, q45b, q45c⟩ := isOf hZ e0 (wE2.ext O0.2)
  obtain ⟨_, _, ⟨T45, L45, k45, n45⟩, -, X45, ⟨Lc45, hQ45, l45, y45, z45⟩, st45⟩ := X0.virtualBackUp hx (owner := "java/lang/Enum") (x := (⟨"com/example/seneschal/seneschal/model/Comparison", "ordinal", "()I"⟩ : MethodName)) (y := (⟨"java/lang/Enum", "ordinal", "()I"⟩ : MethodName)) hown (mvT hZ (hw _ (List.mem_of_getElem? (i := 17) rfl))) (mvT hZ (hw _ (List.mem_of_getElem? (i := 18) rfl))) (mvT hZ (hw _ (List.mem_of_getElem? (i := 19) rfl))) (by decide) (mvT hZ (hw _ (List.mem_of_getElem? (i := 21) rfl))) (mvT hZ (hw _ (List.mem_of_getElem? (i := 20) rfl))) (backOf (W := 0) (rm10 l Z a0 hw [] w0 w1 w2 w3 h0 n0 hWd O0) hZ (hw _ (List.mem_of_getElem? (i := 23) rfl)) (hw _ (List.mem_of_getElem? (i := 22) rfl)) (by decide) (by decide)) q45a q45c (g := (mkF m 1 #[.val (.ref w2), .val (.int p1)] [(.ref w2)])) rfl (by rw [hml]; rfl) (Steps.refl _) (argsL := []) (rest := []) (lenOf pd0 rfl) rfl (by show 2 * 0 + _ ≤ _; exact Nat.le_of_eq rfl) (hb hby d_prog_21_method_4_code_1) (fun _ _ => ⟨rfl, e0, (by decide : 0 + 0 ≤ _), (by decide : 0 + 0 ≤ _)⟩)
  dsimp only [Pt.U, Pt.locs, Pt.cells, Pt.slots] at X45 l45 y45 z45 st45 hQ45
  subst l45 y45 z45
  obtain ⟨rfl, N45q, e45⟩ := hQ45
  have N45 := Fr.app N0 N45q
  obtain ⟨fs, hr, hrun, hended, hWr, hsame⟩ := X45.leave (v := some (.int (0 : Int32))) (fun h => by rw [Bd.returns] at h; cases h)
  refine ⟨_, _, pre0 _ ?_, hrun, hended, _, _, rfl, ?_, ⟨_, rfl⟩, hWr, hsame.mono (Nat.le_of_ble_eq_true rfl) (Nat.le_of_ble_eq_true rfl)⟩
  · show Steps p.tables e below (s₁.setTop (mkF m 0 #[.val (.ref w2), .val (.int p1)] [])) _
    refine XS.aloadN X0.here hx rfl (hb hby d_prog_21_method_4_code_0) rfl rfl ?_
    show Steps p.tables e below (s₁.setTop (mkF m 1 #[.val (.ref w2), .val (.int p1)] [(.ref w2)])) _
    refine st45.trans ?_
    show Steps p.tables e below (T45.setTop (mkF m 4 #[.val (.ref w2), .val (.int p1)] [(.int (2 : Int32))])) _
    refine XS.tswIn X45.here hx rfl (pc0 := 4) (pc' := 70) (o := 66) rfl (hb hby d_prog_21_method_4_code_4) rfl (by decide) (by first | rfl | decide) (by decide) (by decide) ?_
    show Steps p.tables e below (T45.setTop (mkF m 70 #[.val (.ref w2), .val (.int p1)] [])) _
    refine XS.iloadN X45.here hx rfl (hb hby d_prog_21_method_4_code_70) rfl ?_
    show Steps p.tables e below (T45.setTop (mkF m 71 #[.val (.ref w2), .val (.int p1)] [(.int p1)])) _
    refine XS.ifYes X45.here hx rfl (pc0 := 71) (pc' := 78) rfl (hb hby d_prog_21_method_4_code_71) rfl ((if0 _ _).trans (flt rl1).2.2.2) (by decide) (by decide) ?_
    show Steps p.tables e below (T45.setTop (mkF m 78 #[.val (.ref w2), .val (.int p1)] [])) _
    refine XS.iconst X45.here hx rfl (hb hby d_prog_21_method_4_code_78) ?_
    show Steps p.tables e below (T45.setTop (mkF m 79 #[.val (.ref w2), .val (.int p1)] [(.int (0 : Int32))])) _
    refine XS.goto X45.here hx rfl (pc0 := 79) (pc' := 91) rfl (hb hby d_prog_21_method_4_code_79) (by decide) (by decide) ?_
    show Steps p.tables e below (T45.setTop (mkF m 91 #[.val (.ref w2), .val (.int p1)] [(.int (0 : Int32))])) _
    exact retN X45 hx (t := .boolean) Bd.returns (by simp) (hb hby d_prog_21_method_4_code_91) hr
  · show Qp (some (.int (0 : Int32))) h0 n0 _ T45.heap _
    rw [e45]
    exact ⟨rfl, N45, rfl⟩
set_option maxRecDepth 65536 in
set_option maxHeartbeats 40000000 in
theorem rm11 (l : Launch) (Z : State) (a0 : Array Value) (hw : ∀ d ∈ tables_1, d.before a0 Z = true) (ws : List Jvm.Cond) (w0 w1 w2 w3 : Addr) (p1 : Int32) (h0 : Heap) (n0 : Nat) (hWd : Wd Z w0 w1 w2 w3) (O0 : Old Z n0 h0) (rl0 : ¬ (p1 < (0 : Int32))) (rl1 : ¬ ((0 : Int32) < p1)) (rl2 : p1 = (0 : Int32)) :
    MetFree l (⟨"com/example/seneschal/seneschal/model/Comparison", "holds", "(I)Z"⟩ : MethodName) (head1 (Jvm.Cond.code (⟨"com/example/seneschal/seneschal/model/Comparison", "holds", "(I)Z"⟩ : MethodName) prog_21_method_4_code 2 (some .boolean) :: ws) ({ frames := 1, cells := 0, slots := 0, locals := 12 } : Room)) (fun a U => a = #[(.ref w2), (.int p1)] ∧ Z.Warmed39 U.vm ∧ U.heap = h0) (fun _ _ _ _ _ => True) (fun _ U o U' => ∃ v L, o = .returned v ∧ Qp (some (.int (0 : Int32))) h0 n0 v U'.heap L ∧ FrameEnd U o U' L ({ frames := 1, cells := 0, slots := 0, locals := 12 } : Room).cells ({ frames := 1, cells := 0, slots := 0, locals := 12 } : Room).slots) := by
  refine MetFree.of_bodySF (plainFor_of_name pn1) hisR ?_
  intro p e s m args below meth c s₁ Bd hml0 hP hK
  obtain ⟨rfl, hZ, hh⟩ := hP
  have hx := Bd.exec
  have hby := Bd.bytes
  have hml : c.maxLocals = 2 := hml0
  have hown : s.vm.findClass "com/example/seneschal/seneschal/model/Comparison" = some m.cls := findClass_of_methodNamed Bd.named
  have hnm := (name_of_methodNamed Bd.named Bd.method).1
  have X0 : Stand p l e ({ frames := 1, cells := 0, slots := 0, locals := 12 } : Room) s m #[(.ref w2), (.int p1)] below meth c s₁ [] 0 0 := Stand.of_body Bd
  have e0 : s₁.heap = h0 := by rw [← hh, Bd.state]; rfl
  have N0 := Fr.nil n0
  obtain ⟨wS0, wE0, wS1, wE1, wS2, wE2, wS3, wE3, wF0_ordinal, wF2_ordinal, wF1_ordinal, wF3_ordinal, -⟩ := id hWd
  have pre0 : ∀ t, Steps p.tables e below (s₁.setTop (mkF m 0 #[.val (.ref w2), .val (.int p1)] [])) t → Steps p.tables e below (s₁.setTop (entryFrame m #[(.ref w2), (.int p1)] 2)) t := fun t k => castTop (ef5 m p1 w2) k
  obtain ⟨cq47, kq47, q47a, q47b, q47c⟩ := isOf hZ e0 (wE2.ext O0.2)
  obtain ⟨_, _, ⟨T47, L47, k47, n47⟩, -, X47, ⟨Lc47, hQ47, l47, y47, z47⟩, st47⟩ := X0.virtualBackUp hx (owner := "java/lang/Enum") (x := (⟨"com/example/seneschal/seneschal/model/Comparison", "ordinal", "()I"⟩ : MethodName)) (y := (⟨"java/lang/Enum", "ordinal", "()I"⟩ : MethodName)) hown (mvT hZ (hw _ (List.mem_of_getElem? (i := 17) rfl))) (mvT hZ (hw _ (List.mem_of_getElem? (i := 18) rfl))) (mvT hZ (hw _ (List.mem_of_getElem? (i := 19) rfl))) (by decide) (mvT hZ (hw _ (List.mem_of_getElem? (i := 21) rfl))) (mvT hZ (hw _ (List.mem_of_getElem? (i := 20) rfl))) (backOf (W := 0) (rm10 l Z a0 hw [] w0 w1 w2 w3 h0 n0 hWd O0) hZ (hw _ (List.mem_of_getElem? (i := 23) rfl)) (hw _ (List.mem_of_getElem? (i := 22) rfl)) (by decide) (by decide)) q47a q47c (g := (mkF m 1 #[.val (.ref w2), .val (.int p1)] [(.ref w2)])) rfl (by rw [hml]; rfl) (Steps.refl _) (argsL := []) (rest := []) (lenOf pd0 rfl) rfl (by show 2 * 0 + _ ≤ _; exact Nat.le_of_eq rfl) (hb hby d_prog_21_method_4_code_1) (fun _ _ => ⟨rfl, e0, (by decide : 0 + 0 ≤ _), (by decide : 0 + 0 ≤ _)⟩)
  dsimp only [Pt.U, Pt.locs, Pt.cells, Pt.slots] at X47 l47 y47 z47 st47 hQ47
  subst l47 y47 z47
  obtain ⟨rfl, N47q, e47⟩ := hQ47
  have N47 := Fr.app N0 N47q
  obtain ⟨fs, hr, hrun, hended, hWr, hsame⟩ := X47.leave (v := some (.int (0 : Int32))) (fun h => by rw [Bd.returns] at h; cases h)
  refine ⟨_, _, pre0 _ ?_, hrun, hended, _, _, rfl, ?_, ⟨_, rfl⟩, hWr, hsame.mono (Nat.le_of_ble_eq_true rfl) (Nat.le_of_ble_eq_true rfl)⟩
  · show Steps p.tables e below (s₁.setTop (mkF m 0 #[.val (.ref w2), .val (.int p1)] [])) _
    refine XS.aloadN X0.here hx rfl (hb hby d_prog_21_method_4_code_0) rfl rfl ?_
    show Steps p.tables e below (s₁.setTop (mkF m 1 #[.val (.ref w2), .val (.int p1)] [(.ref w2)])) _
    refine st47.trans ?_
    show Steps p.tables e below (T47.setTop (mkF m 4 #[.val (.ref w2), .val (.int p1)] [(.int (2 : Int32))])) _
    refine XS.tswIn X47.here hx rfl (pc0 := 4) (pc' := 70) (o := 66) rfl (hb hby d_prog_21_method_4_code_4) rfl (by decide) (by first | rfl | decide) (by decide) (by decide) ?_
    show Steps p.tables e below (T47.setTop (mkF m 70 #[.val (.ref w2), .val (.int p1)] [])) _
    refine XS.iloadN X47.here hx rfl (hb hby d_prog_21_method_4_code_70) rfl ?_
    show Steps p.tables e below (T47.setTop (mkF m 71 #[.val (.ref w2), .val (.int p1)] [(.int p1)])) _
    refine XS.ifYes X47.here hx rfl (pc0 := 71) (pc' := 78) rfl (hb hby d_prog_21_method_4_code_71) rfl ((if0 _ _).trans (flt rl1).2.2.2) (by decide) (by decide) ?_
    show Steps p.tables e below (T47.setTop (mkF m 78 #[.val (.ref w2), .val (.int p1)] [])) _
    refine XS.iconst X47.here hx rfl (hb hby d_prog_21_method_4_code_78) ?_
    show Steps p.tables e below (T47.setTop (mkF m 79 #[.val (.ref w2), .val (.int p1)] [(.int (0 : Int32))])) _
    refine XS.goto X47.here hx rfl (pc0 := 79) (pc' := 91) rfl (hb hby d_prog_21_method_4_code_79) (by decide) (by decide) ?_
    show Steps p.tables e below (T47.setTop (mkF m 91 #[.val (.ref w2), .val (.int p1)] [(.int (0 : Int32))])) _
    exact retN X47 hx (t := .boolean) Bd.returns (by simp) (hb hby d_prog_21_method_4_code_91) hr
  · show Qp (some (.int (0 : Int32))) h0 n0 _ T47.heap _
    rw [e47]
    exact ⟨rfl, N47, rfl⟩
theorem d_prog_21_method_4_code_74 : decode prog_21_method_4_code 74 = .ok (.iconst 1, 1) := by decide +kernel
theorem d_prog_21_method_4_code_75 : decode prog_21_method_4_code 75 = .ok (.goto 16, 3) := by decide +kernel
set_option maxRecDepth 65536 in
set_option maxHeartbeats 40000000 in
theorem rm12 (l : Launch) (Z : State) (a0 : Array Value) (hw : ∀ d ∈ tables_1, d.before a0 Z = true) (ws : List Jvm.Cond) (w0 w1 w2 w3 : Addr) (p1 : Int32) (h0 : Heap) (n0 : Nat) (hWd : Wd Z w0 w1 w2 w3) (O0 : Old Z n0 h0) (rl0 : ¬ (p1 < (0 : Int32))) (rl1 : (0 : Int32) < p1) (rl2 : ¬ (p1 = (0 : Int32))) :
    MetFree l (⟨"com/example/seneschal/seneschal/model/Comparison", "holds", "(I)Z"⟩ : MethodName) (head1 (Jvm.Cond.code (⟨"com/example/seneschal/seneschal/model/Comparison", "holds", "(I)Z"⟩ : MethodName) prog_21_method_4_code 2 (some .boolean) :: ws) ({ frames := 1, cells := 0, slots := 0, locals := 12 } : Room)) (fun a U => a = #[(.ref w2), (.int p1)] ∧ Z.Warmed39 U.vm ∧ U.heap = h0) (fun _ _ _ _ _ => True) (fun _ U o U' => ∃ v L, o = .returned v ∧ Qp (some (.int (1 : Int32))) h0 n0 v U'.heap L ∧ FrameEnd U o U' L ({ frames := 1, cells := 0, slots := 0, locals := 12 } : Room).cells ({ frames := 1, cells := 0, slots := 0, locals := 12 } : Room).slots) := by
  refine MetFree.of_bodySF (plainFor_of_name pn1) hisR ?_
  intro p e s m args below meth c s₁ Bd hml0 hP hK
  obtain ⟨rfl, hZ, hh⟩ := hP
  have hx := Bd.exec
  have hby := Bd.bytes
  have hml : c.maxLocals = 2 := hml0
  have hown : s.vm.findClass "com/example/seneschal/seneschal/model/Comparison" = some m.cls := findClass_of_methodNamed Bd.named
  have hnm := (name_of_methodNamed Bd.named Bd.method).1
  have X0 : Stand p l e ({ frames := 1, cells := 0, slots := 0, locals := 12 } : Room) s m #[(.ref w2), (.int p1)] below meth c s₁ [] 0 0 := Stand.of_body Bd
  have e0 : s₁.heap = h0 := by rw [← hh, Bd.state]; rfl
  have N0 := Fr.nil n0
  obtain ⟨wS0, wE0, wS1, wE1, wS2, wE2, wS3, wE3, wF0_ordinal, wF2_ordinal, wF1_ordinal, wF3_ordinal, -⟩ := id hWd
  have pre0 : ∀ t, Steps p.tables e below (s₁.setTop (mkF m 0 #[.val (.ref w2), .val (.int p1)] [])) t → Steps p.tables e below (s₁.setTop (entryFrame m #[(.ref w2), (.int p1)] 2)) t := fun t k => castTop (ef5 m p1 w2) k
  obtain ⟨cq49, kq49, q49a, q49b, q49c⟩ := isOf hZ e0 (wE2.ext O0.2)
  obtain ⟨_, _, ⟨T49, L49, k49, n49⟩, -, X49, ⟨Lc49, hQ49, l49, y49, z49⟩, st49⟩ := X0.virtualBackUp hx (owner := "java/lang/Enum") (x := (⟨"com/example/seneschal/seneschal/model/Comparison", "ordinal", "()I"⟩ : MethodName)) (y := (⟨"java/lang/Enum", "ordinal", "()I"⟩ : MethodName)) hown (mvT hZ (hw _ (List.mem_of_getElem? (i := 17) rfl))) (mvT hZ (hw _ (List.mem_of_getElem? (i := 18) rfl))) (mvT hZ (hw _ (List.mem_of_getElem? (i := 19) rfl))) (by decide) (mvT hZ (hw _ (List.mem_of_getElem? (i := 21) rfl))) (mvT hZ (hw _ (List.mem_of_getElem? (i := 20) rfl))) (backOf (W := 0) (rm10 l Z a0 hw [] w0 w1 w2 w3 h0 n0 hWd O0) hZ (hw _ (List.mem_of_getElem? (i := 23) rfl)) (hw _ (List.mem_of_getElem? (i := 22) rfl)) (by decide) (by decide)) q49a q49c (g := (mkF m 1 #[.val (.ref w2), .val (.int p1)] [(.ref w2)])) rfl (by rw [hml]; rfl) (Steps.refl _) (argsL := []) (rest := []) (lenOf pd0 rfl) rfl (by show 2 * 0 + _ ≤ _; exact Nat.le_of_eq rfl) (hb hby d_prog_21_method_4_code_1) (fun _ _ => ⟨rfl, e0, (by decide : 0 + 0 ≤ _), (by decide : 0 + 0 ≤ _)⟩)
  dsimp only [Pt.U, Pt.locs, Pt.cells, Pt.slots] at X49 l49 y49 z49 st49 hQ49
  subst l49 y49 z49
  obtain ⟨rfl, N49q, e49⟩ := hQ49
  have N49 := Fr.app N0 N49q
  obtain ⟨fs, hr, hrun, hended, hWr, hsame⟩ := X49.leave (v := some (.int (1 : Int32))) (fun h => by rw [Bd.returns] at h; cases h)
  refine ⟨_, _, pre0 _ ?_, hrun, hended, _, _, rfl, ?_, ⟨_, rfl⟩, hWr, hsame.mono (Nat.le_of_ble_eq_true rfl) (Nat.le_of_ble_eq_true rfl)⟩
  · show Steps p.tables e below (s₁.setTop (mkF m 0 #[.val (.ref w2), .val (.int p1)] [])) _
    refine XS.aloadN X0.here hx rfl (hb hby d_prog_21_method_4_code_0) rfl rfl ?_
    show Steps p.tables e below (s₁.setTop (mkF m 1 #[.val (.ref w2), .val (.int p1)] [(.ref w2)])) _
    refine st49.trans ?_
    show Steps p.tables e below (T49.setTop (mkF m 4 #[.val (.ref w2), .val (.int p1)] [(.int (2 : Int32))])) _
    refine XS.tswIn X49.here hx rfl (pc0 := 4) (pc' := 70) (o := 66) rfl (hb hby d_prog_21_method_4_code_4) rfl (by decide) (by first | rfl | decide) (by decide) (by decide) ?_
    show Steps p.tables e below (T49.setTop (mkF m 70 #[.val (.ref w2), .val (.int p1)] [])) _
    refine XS.iloadN X49.here hx rfl (hb hby d_prog_21_method_4_code_70) rfl ?_
    show Steps p.tables e below (T49.setTop (mkF m 71 #[.val (.ref w2), .val (.int p1)] [(.int p1)])) _
    refine XS.ifNo X49.here hx rfl (hb hby d_prog_21_method_4_code_71) rfl ((if0 _ _).trans (tlt rl1).2.2.2) ?_
    show Steps p.tables e below (T49.setTop (mkF m 74 #[.val (.ref w2), .val (.int p1)] [])) _
    refine XS.iconst X49.here hx rfl (hb hby d_prog_21_method_4_code_74) ?_
    show Steps p.tables e below (T49.setTop (mkF m 75 #[.val (.ref w2), .val (.int p1)] [(.int (1 : Int32))])) _
    refine XS.goto X49.here hx rfl (pc0 := 75) (pc' := 91) rfl (hb hby d_prog_21_method_4_code_75) (by decide) (by decide) ?_
    show Steps p.tables e below (T49.setTop (mkF m 91 #[.val (.ref w2), .val (.int p1)] [(.int (1 : Int32))])) _
    exact retN X49 hx (t := .boolean) Bd.returns (by simp) (hb hby d_prog_21_method_4_code_91) hr
  · show Qp (some (.int (1 : Int32))) h0 n0 _ T49.heap _
    rw [e49]
    exact ⟨rfl, N49, rfl⟩
theorem ef6 (m : MethodId)   (w3 : Addr) : entryFrame m #[(.ref w3)] 1 = mkF m 0 #[.val (.ref w3)] [] := by first | (simp [entryFrame, mkF, argsToLocals, Value.category]; done) | rfl
set_option maxRecDepth 65536 in
set_option maxHeartbeats 40000000 in
theorem rm14 (l : Launch) (Z : State) (a0 : Array Value) (hw : ∀ d ∈ tables_1, d.before a0 Z = true) (ws : List Jvm.Cond) (w0 w1 w2 w3 : Addr) (h0 : Heap) (n0 : Nat) (hWd : Wd Z w0 w1 w2 w3) (O0 : Old Z n0 h0) :
    MetFree l (⟨"java/lang/Enum", "ordinal", "()I"⟩ : MethodName) (head1 (Jvm.Cond.code (⟨"java/lang/Enum", "ordinal", "()I"⟩ : MethodName) jdk_37_method_2_code 1 (some .int) :: ws) ({ frames := 0, cells := 0, slots := 0, locals := 0 } : Room)) (fun a U => a = #[(.ref w3)] ∧ Z.Warmed39 U.vm ∧ U.heap = h0) (fun _ _ _ _ _ => True) (fun _ U o U' => ∃ v L, o = .returned v ∧ Qp (some (.int (3 : Int32))) h0 n0 v U'.heap L ∧ FrameEnd U o U' L ({ frames := 0, cells := 0, slots := 0, locals := 0 } : Room).cells ({ frames := 0, cells := 0, slots := 0, locals := 0 } : Room).slots) := by
  refine MetFree.of_bodySF (plainFor_of_name pn0) hisR ?_
  intro p e s m args below meth c s₁ Bd hml0 hP hK
  obtain ⟨rfl, hZ, hh⟩ := hP
  have hx := Bd.exec
  have hby := Bd.bytes
  have hml : c.maxLocals = 1 := hml0
  have hown : s.vm.findClass "java/lang/Enum" = some m.cls := findClass_of_methodNamed Bd.named
  have hnm := (name_of_methodNamed Bd.named Bd.method).1
  have X0 : Stand p l e ({ frames := 0, cells := 0, slots := 0, locals := 0 } : Room) s m #[(.ref w3)] below meth c s₁ [] 0 0 := Stand.of_body Bd
  have e0 : s₁.heap = h0 := by rw [← hh, Bd.state]; rfl
  have N0 := Fr.nil n0
  obtain ⟨wS0, wE0, wS1, wE1, wS2, wE2, wS3, wE3, wF0_ordinal, wF2_ordinal, wF1_ordinal, wF3_ordinal, -⟩ := id hWd
  have pre0 : ∀ t, Steps p.tables e below (s₁.setTop (mkF m 0 #[.val (.ref w3)] [])) t → Steps p.tables e below (s₁.setTop (entryFrame m #[(.ref w3)] 1)) t := fun t k => castTop (ef6 m w3) k
  obtain ⟨T56, X56, e56, st56⟩ := getF X0 hx hZ hown (host := "") (Or.inl (hw _ (List.mem_of_getElem? (i := 24) rfl))) Via.refl e0 (wF3_ordinal.ext O0.2) (g := (mkF m 1 #[.val (.ref w3)] [(.ref w3)])) rfl rfl (hb hby d_jdk_37_method_2_code_1)
  obtain ⟨fs, hr, hrun, hended, hWr, hsame⟩ := X56.leave (v := some (.int (3 : Int32))) (fun h => by rw [Bd.returns] at h; cases h)
  refine ⟨_, _, pre0 _ ?_, hrun, hended, _, _, rfl, ?_, ⟨_, rfl⟩, hWr, hsame.mono (Nat.le_of_ble_eq_true rfl) (Nat.le_of_ble_eq_true rfl)⟩
  · show Steps p.tables e below (s₁.setTop (mkF m 0 #[.val (.ref w3)] [])) _
    refine XS.aloadN X0.here hx rfl (hb hby d_jdk_37_method_2_code_0) rfl rfl ?_
    show Steps p.tables e below (s₁.setTop (mkF m 1 #[.val (.ref w3)] [(.ref w3)])) _
    refine st56 _ ?_
    show Steps p.tables e below (T56.setTop (mkF m 4 #[.val (.ref w3)] [(.int (3 : Int32))])) _
    exact retOut X56 hx (t := .int) (i := .ireturn) Bd.returns rfl (Or.inl ⟨rfl, Or.inl rfl, _, rfl⟩) (hb hby d_jdk_37_method_2_code_4) hr
  · show Qp (some (.int (3 : Int32))) h0 n0 _ T56.heap _
    rw [e56]
    exact ⟨rfl, N0, rfl⟩
theorem d_prog_21_method_4_code_82 : decode prog_21_method_4_code 82 = .ok (.iload_n 1, 1) := by decide +kernel
theorem d_prog_21_method_4_code_83 : decode prog_21_method_4_code 83 = .ok (.ifCond .lt 7, 3) := by decide +kernel
theorem d_prog_21_method_4_code_90 : decode prog_21_method_4_code 90 = .ok (.iconst 0, 1) := by decide +kernel
theorem ef7 (m : MethodId) (p1 : Int32)  (w3 : Addr) : entryFrame m #[(.ref w3), (.int p1)] 2 = mkF m 0 #[.val (.ref w3), .val (.int p1)] [] := by first | (simp [entryFrame, mkF, argsToLocals, Value.category]; done) | rfl
set_option maxRecDepth 65536 in
set_option maxHeartbeats 40000000 in
theorem rm13 (l : Launch) (Z : State) (a0 : Array Value) (hw : ∀ d ∈ tables_1, d.before a0 Z = true) (ws : List Jvm.Cond) (w0 w1 w2 w3 : Addr) (p1 : Int32) (h0 : Heap) (n0 : Nat) (hWd : Wd Z w0 w1 w2 w3) (O0 : Old Z n0 h0) (rl0 : p1 < (0 : Int32)) (rl1 : ¬ ((0 : Int32) < p1)) (rl2 : ¬ (p1 = (0 : Int32))) :
    MetFree l (⟨"com/example/seneschal/seneschal/model/Comparison", "holds", "(I)Z"⟩ : MethodName) (head1 (Jvm.Cond.code (⟨"com/example/seneschal/seneschal/model/Comparison", "holds", "(I)Z"⟩ : MethodName) prog_21_method_4_code 2 (some .boolean) :: ws) ({ frames := 1, cells := 0, slots := 0, locals := 12 } : Room)) (fun a U => a = #[(.ref w3), (.int p1)] ∧ Z.Warmed39 U.vm ∧ U.heap = h0) (fun _ _ _ _ _ => True) (fun _ U o U' => ∃ v L, o = .returned v ∧ Qp (some (.int (0 : Int32))) h0 n0 v U'.heap L ∧ FrameEnd U o U' L ({ frames := 1, cells := 0, slots := 0, locals := 12 } : Room).cells ({ frames := 1, cells := 0, slots := 0, locals := 12 } : Room).slots) := by
  refine MetFree.of_bodySF (plainFor_of_name pn1) hisR ?_
  intro p e s m args below meth c s₁ Bd hml0 hP hK
  obtain ⟨rfl, hZ, hh⟩ := hP
  have hx := Bd.exec
  have hby := Bd.bytes
  have hml : c.maxLocals = 2 := hml0
  have hown : s.vm.findClass "com/example/seneschal/seneschal/model/Comparison" = some m.cls := findClass_of_methodNamed Bd.named
  have hnm := (name_of_methodNamed Bd.named Bd.method).1
  have X0 : Stand p l e ({ frames := 1, cells := 0, slots := 0, locals := 12 } : Room) s m #[(.ref w3), (.int p1)] below meth c s₁ [] 0 0 := Stand.of_body Bd
  have e0 : s₁.heap = h0 := by rw [← hh, Bd.state]; rfl
  have N0 := Fr.nil n0
  obtain ⟨wS0, wE0, wS1, wE1, wS2, wE2, wS3, wE3, wF0_ordinal, wF2_ordinal, wF1_ordinal, wF3_ordinal, -⟩ := id hWd
  have pre0 : ∀ t, Steps p.tables e below (s₁.setTop (mkF m 0 #[.val (.ref w3), .val (.int p1)] [])) t → Steps p.tables e below (s₁.setTop (entryFrame m #[(.ref w3), (.int p1)] 2)) t := fun t k => castTop (ef7 m p1 w3) k
  obtain ⟨cq57, kq57, q57a, q57b, q57c⟩ := isOf hZ e0 (wE3.ext O0.2)
  obtain ⟨_, _, ⟨T57, L57, k57, n57⟩, -, X57, ⟨Lc57, hQ57, l57, y57, z57⟩, st57⟩ := X0.virtualBackUp hx (owner := "java/lang/Enum") (x := (⟨"com/example/seneschal/seneschal/model/Comparison", "ordinal", "()I"⟩ : MethodName)) (y := (⟨"java/lang/Enum", "ordinal", "()I"⟩ : MethodName)) hown (mvT hZ (hw _ (List.mem_of_getElem? (i := 17) rfl))) (mvT hZ (hw _ (List.mem_of_getElem? (i := 18) rfl))) (mvT hZ (hw _ (List.mem_of_getElem? (i := 19) rfl))) (by decide) (mvT hZ (hw _ (List.mem_of_getElem? (i := 21) rfl))) (mvT hZ (hw _ (List.mem_of_getElem? (i := 20) rfl))) (backOf (W := 0) (rm14 l Z a0 hw [] w0 w1 w2 w3 h0 n0 hWd O0) hZ (hw _ (List.mem_of_getElem? (i := 23) rfl)) (hw _ (List.mem_of_getElem? (i := 22) rfl)) (by decide) (by decide)) q57a q57c (g := (mkF m 1 #[.val (.ref w3), .val (.int p1)] [(.ref w3)])) rfl (by rw [hml]; rfl) (Steps.refl _) (argsL := []) (rest := []) (lenOf pd0 rfl) rfl (by show 2 * 0 + _ ≤ _; exact Nat.le_of_eq rfl) (hb hby d_prog_21_method_4_code_1) (fun _ _ => ⟨rfl, e0, (by decide : 0 + 0 ≤ _), (by decide : 0 + 0 ≤ _)⟩)
  dsimp only [Pt.U, Pt.locs, Pt.cells, Pt.slots] at X57 l57 y57 z57 st57 hQ57
  subst l57 y57 z57
  obtain ⟨rfl, N57q, e57⟩ := hQ57
  have N57 := Fr.app N0 N57q
  obtain ⟨fs, hr, hrun, hended, hWr, hsame⟩ := X57.leave (v := some (.int (0 : Int32))) (fun h => by rw [Bd.returns] at h; cases h)
  refine ⟨_, _, pre0 _ ?_, hrun, hended, _, _, rfl, ?_, ⟨_, rfl⟩, hWr, hsame.mono (Nat.le_of_ble_eq_true rfl) (Nat.le_of_ble_eq_true rfl)⟩
  · show Steps p.tables e below (s₁.setTop (mkF m 0 #[.val (.ref w3), .val (.int p1)] [])) _
    refine XS.aloadN X0.here hx rfl (hb hby d_prog_21_method_4_code_0) rfl rfl ?_
    show Steps p.tables e below (s₁.setTop (mkF m 1 #[.val (.ref w3), .val (.int p1)] [(.ref w3)])) _
    refine st57.trans ?_
    show Steps p.tables e below (T57.setTop (mkF m 4 #[.val (.ref w3), .val (.int p1)] [(.int (3 : Int32))])) _
    refine XS.tswIn X57.here hx rfl (pc0 := 4) (pc' := 82) (o := 78) rfl (hb hby d_prog_21_method_4_code_4) rfl (by decide) (by first | rfl | decide) (by decide) (by decide) ?_
    show Steps p.tables e below (T57.setTop (mkF m 82 #[.val (.ref w3), .val (.int p1)] [])) _
    refine XS.iloadN X57.here hx rfl (hb hby d_prog_21_method_4_code_82) rfl ?_
    show Steps p.tables e below (T57.setTop (mkF m 83 #[.val (.ref w3), .val (.int p1)] [(.int p1)])) _
    refine XS.ifYes X57.here hx rfl (pc0 := 83) (pc' := 90) rfl (hb hby d_prog_21_method_4_code_83) rfl ((if0 _ _).trans (tlt rl0).1) (by decide) (by decide) ?_
    show Steps p.tables e below (T57.setTop (mkF m 90 #[.val (.ref w3), .val (.int p1)] [])) _
    refine XS.iconst X57.here hx rfl (hb hby d_prog_21_method_4_code_90) ?_
    show Steps p.tables e below (T57.setTop (mkF m 91 #[.val (.ref w3), .val (.int p1)] [(.int (0 : Int32))])) _
    exact retN X57 hx (t := .boolean) Bd.returns (by simp) (hb hby d_prog_21_method_4_code_91) hr
  · show Qp (some (.int (0 : Int32))) h0 n0 _ T57.heap _
    rw [e57]
    exact ⟨rfl, N57, rfl⟩
theorem d_prog_21_method_4_code_86 : decode prog_21_method_4_code 86 = .ok (.iconst 1, 1) := by decide +kernel
theorem d_prog_21_method_4_code_87 : decode prog_21_method_4_code 87 = .ok (.goto 4, 3) := by decide +kernel
set_option maxRecDepth 65536 in
set_option maxHeartbeats 40000000 in
theorem rm15 (l : Launch) (Z : State) (a0 : Array Value) (hw : ∀ d ∈ tables_1, d.before a0 Z = true) (ws : List Jvm.Cond) (w0 w1 w2 w3 : Addr) (p1 : Int32) (h0 : Heap) (n0 : Nat) (hWd : Wd Z w0 w1 w2 w3) (O0 : Old Z n0 h0) (rl0 : ¬ (p1 < (0 : Int32))) (rl1 : ¬ ((0 : Int32) < p1)) (rl2 : p1 = (0 : Int32)) :
    MetFree l (⟨"com/example/seneschal/seneschal/model/Comparison", "holds", "(I)Z"⟩ : MethodName) (head1 (Jvm.Cond.code (⟨"com/example/seneschal/seneschal/model/Comparison", "holds", "(I)Z"⟩ : MethodName) prog_21_method_4_code 2 (some .boolean) :: ws) ({ frames := 1, cells := 0, slots := 0, locals := 12 } : Room)) (fun a U => a = #[(.ref w3), (.int p1)] ∧ Z.Warmed39 U.vm ∧ U.heap = h0) (fun _ _ _ _ _ => True) (fun _ U o U' => ∃ v L, o = .returned v ∧ Qp (some (.int (1 : Int32))) h0 n0 v U'.heap L ∧ FrameEnd U o U' L ({ frames := 1, cells := 0, slots := 0, locals := 12 } : Room).cells ({ frames := 1, cells := 0, slots := 0, locals := 12 } : Room).slots) := by
  refine MetFree.of_bodySF (plainFor_of_name pn1) hisR ?_
  intro p e s m args below meth c s₁ Bd hml0 hP hK
  obtain ⟨rfl, hZ, hh⟩ := hP
  have hx := Bd.exec
  have hby := Bd.bytes
  have hml : c.maxLocals = 2 := hml0
  have hown : s.vm.findClass "com/example/seneschal/seneschal/model/Comparison" = some m.cls := findClass_of_methodNamed Bd.named
  have hnm := (name_of_methodNamed Bd.named Bd.method).1
  have X0 : Stand p l e ({ frames := 1, cells := 0, slots := 0, locals := 12 } : Room) s m #[(.ref w3), (.int p1)] below meth c s₁ [] 0 0 := Stand.of_body Bd
  have e0 : s₁.heap = h0 := by rw [← hh, Bd.state]; rfl
  have N0 := Fr.nil n0
  obtain ⟨wS0, wE0, wS1, wE1, wS2, wE2, wS3, wE3, wF0_ordinal, wF2_ordinal, wF1_ordinal, wF3_ordinal, -⟩ := id hWd
  have pre0 : ∀ t, Steps p.tables e below (s₁.setTop (mkF m 0 #[.val (.ref w3), .val (.int p1)] [])) t → Steps p.tables e below (s₁.setTop (entryFrame m #[(.ref w3), (.int p1)] 2)) t := fun t k => castTop (ef7 m p1 w3) k
  obtain ⟨cq59, kq59, q59a, q59b, q59c⟩ := isOf hZ e0 (wE3.ext O0.2)
  obtain ⟨_, _, ⟨T59, L59, k59, n59⟩, -, X59, ⟨Lc59, hQ59, l59, y59, z59⟩, st59⟩ := X0.virtualBackUp hx (owner := "java/lang/Enum") (x := (⟨"com/example/seneschal/seneschal/model/Comparison", "ordinal", "()I"⟩ : MethodName)) (y := (⟨"java/lang/Enum", "ordinal", "()I"⟩ : MethodName)) hown (mvT hZ (hw _ (List.mem_of_getElem? (i := 17) rfl))) (mvT hZ (hw _ (List.mem_of_getElem? (i := 18) rfl))) (mvT hZ (hw _ (List.mem_of_getElem? (i := 19) rfl))) (by decide) (mvT hZ (hw _ (List.mem_of_getElem? (i := 21) rfl))) (mvT hZ (hw _ (List.mem_of_getElem? (i := 20) rfl))) (backOf (W := 0) (rm14 l Z a0 hw [] w0 w1 w2 w3 h0 n0 hWd O0) hZ (hw _ (List.mem_of_getElem? (i := 23) rfl)) (hw _ (List.mem_of_getElem? (i := 22) rfl)) (by decide) (by decide)) q59a q59c (g := (mkF m 1 #[.val (.ref w3), .val (.int p1)] [(.ref w3)])) rfl (by rw [hml]; rfl) (Steps.refl _) (argsL := []) (rest := []) (lenOf pd0 rfl) rfl (by show 2 * 0 + _ ≤ _; exact Nat.le_of_eq rfl) (hb hby d_prog_21_method_4_code_1) (fun _ _ => ⟨rfl, e0, (by decide : 0 + 0 ≤ _), (by decide : 0 + 0 ≤ _)⟩)
  dsimp only [Pt.U, Pt.locs, Pt.cells, Pt.slots] at X59 l59 y59 z59 st59 hQ59
  subst l59 y59 z59
  obtain ⟨rfl, N59q, e59⟩ := hQ59
  have N59 := Fr.app N0 N59q
  obtain ⟨fs, hr, hrun, hended, hWr, hsame⟩ := X59.leave (v := some (.int (1 : Int32))) (fun h => by rw [Bd.returns] at h; cases h)
  refine ⟨_, _, pre0 _ ?_, hrun, hended, _, _, rfl, ?_, ⟨_, rfl⟩, hWr, hsame.mono (Nat.le_of_ble_eq_true rfl) (Nat.le_of_ble_eq_true rfl)⟩
  · show Steps p.tables e below (s₁.setTop (mkF m 0 #[.val (.ref w3), .val (.int p1)] [])) _
    refine XS.aloadN X0.here hx rfl (hb hby d_prog_21_method_4_code_0) rfl rfl ?_
    show Steps p.tables e below (s₁.setTop (mkF m 1 #[.val (.ref w3), .val (.int p1)] [(.ref w3)])) _
    refine st59.trans ?_
    show Steps p.tables e below (T59.setTop (mkF m 4 #[.val (.ref w3), .val (.int p1)] [(.int (3 : Int32))])) _
    refine XS.tswIn X59.here hx rfl (pc0 := 4) (pc' := 82) (o := 78) rfl (hb hby d_prog_21_method_4_code_4) rfl (by decide) (by first | rfl | decide) (by decide) (by decide) ?_
    show Steps p.tables e below (T59.setTop (mkF m 82 #[.val (.ref w3), .val (.int p1)] [])) _
    refine XS.iloadN X59.here hx rfl (hb hby d_prog_21_method_4_code_82) rfl ?_
    show Steps p.tables e below (T59.setTop (mkF m 83 #[.val (.ref w3), .val (.int p1)] [(.int p1)])) _
    refine XS.ifNo X59.here hx rfl (hb hby d_prog_21_method_4_code_83) rfl ((if0 _ _).trans (flt rl0).1) ?_
    show Steps p.tables e below (T59.setTop (mkF m 86 #[.val (.ref w3), .val (.int p1)] [])) _
    refine XS.iconst X59.here hx rfl (hb hby d_prog_21_method_4_code_86) ?_
    show Steps p.tables e below (T59.setTop (mkF m 87 #[.val (.ref w3), .val (.int p1)] [(.int (1 : Int32))])) _
    refine XS.goto X59.here hx rfl (pc0 := 87) (pc' := 91) rfl (hb hby d_prog_21_method_4_code_87) (by decide) (by decide) ?_
    show Steps p.tables e below (T59.setTop (mkF m 91 #[.val (.ref w3), .val (.int p1)] [(.int (1 : Int32))])) _
    exact retN X59 hx (t := .boolean) Bd.returns (by simp) (hb hby d_prog_21_method_4_code_91) hr
  · show Qp (some (.int (1 : Int32))) h0 n0 _ T59.heap _
    rw [e59]
    exact ⟨rfl, N59, rfl⟩
set_option maxRecDepth 65536 in
set_option maxHeartbeats 40000000 in
theorem rm16 (l : Launch) (Z : State) (a0 : Array Value) (hw : ∀ d ∈ tables_1, d.before a0 Z = true) (ws : List Jvm.Cond) (w0 w1 w2 w3 : Addr) (p1 : Int32) (h0 : Heap) (n0 : Nat) (hWd : Wd Z w0 w1 w2 w3) (O0 : Old Z n0 h0) (rl0 : ¬ (p1 < (0 : Int32))) (rl1 : (0 : Int32) < p1) (rl2 : ¬ (p1 = (0 : Int32))) :
    MetFree l (⟨"com/example/seneschal/seneschal/model/Comparison", "holds", "(I)Z"⟩ : MethodName) (head1 (Jvm.Cond.code (⟨"com/example/seneschal/seneschal/model/Comparison", "holds", "(I)Z"⟩ : MethodName) prog_21_method_4_code 2 (some .boolean) :: ws) ({ frames := 1, cells := 0, slots := 0, locals := 12 } : Room)) (fun a U => a = #[(.ref w3), (.int p1)] ∧ Z.Warmed39 U.vm ∧ U.heap = h0) (fun _ _ _ _ _ => True) (fun _ U o U' => ∃ v L, o = .returned v ∧ Qp (some (.int (1 : Int32))) h0 n0 v U'.heap L ∧ FrameEnd U o U' L ({ frames := 1, cells := 0, slots := 0, locals := 12 } : Room).cells ({ frames := 1, cells := 0, slots := 0, locals := 12 } : Room).slots) := by
  refine MetFree.of_bodySF (plainFor_of_name pn1) hisR ?_
  intro p e s m args below meth c s₁ Bd hml0 hP hK
  obtain ⟨rfl, hZ, hh⟩ := hP
  have hx := Bd.exec
  have hby := Bd.bytes
  have hml : c.maxLocals = 2 := hml0
  have hown : s.vm.findClass "com/example/seneschal/seneschal/model/Comparison" = some m.cls := findClass_of_methodNamed Bd.named
  have hnm := (name_of_methodNamed Bd.named Bd.method).1
  have X0 : Stand p l e ({ frames := 1, cells := 0, slots := 0, locals := 12 } : Room) s m #[(.ref w3), (.int p1)] below meth c s₁ [] 0 0 := Stand.of_body Bd
  have e0 : s₁.heap = h0 := by rw [← hh, Bd.state]; rfl
  have N0 := Fr.nil n0
  obtain ⟨wS0, wE0, wS1, wE1, wS2, wE2, wS3, wE3, wF0_ordinal, wF2_ordinal, wF1_ordinal, wF3_ordinal, -⟩ := id hWd
  have pre0 : ∀ t, Steps p.tables e below (s₁.setTop (mkF m 0 #[.val (.ref w3), .val (.int p1)] [])) t → Steps p.tables e below (s₁.setTop (entryFrame m #[(.ref w3), (.int p1)] 2)) t := fun t k => castTop (ef7 m p1 w3) k
  obtain ⟨cq61, kq61, q61a, q61b, q61c⟩ := isOf hZ e0 (wE3.ext O0.2)
  obtain ⟨_, _, ⟨T61, L61, k61, n61⟩, -, X61, ⟨Lc61, hQ61, l61, y61, z61⟩, st61⟩ := X0.virtualBackUp hx (owner := "java/lang/Enum") (x := (⟨"com/example/seneschal/seneschal/model/Comparison", "ordinal", "()I"⟩ : MethodName)) (y := (⟨"java/lang/Enum", "ordinal", "()I"⟩ : MethodName)) hown (mvT hZ (hw _ (List.mem_of_getElem? (i := 17) rfl))) (mvT hZ (hw _ (List.mem_of_getElem? (i := 18) rfl))) (mvT hZ (hw _ (List.mem_of_getElem? (i := 19) rfl))) (by decide) (mvT hZ (hw _ (List.mem_of_getElem? (i := 21) rfl))) (mvT hZ (hw _ (List.mem_of_getElem? (i := 20) rfl))) (backOf (W := 0) (rm14 l Z a0 hw [] w0 w1 w2 w3 h0 n0 hWd O0) hZ (hw _ (List.mem_of_getElem? (i := 23) rfl)) (hw _ (List.mem_of_getElem? (i := 22) rfl)) (by decide) (by decide)) q61a q61c (g := (mkF m 1 #[.val (.ref w3), .val (.int p1)] [(.ref w3)])) rfl (by rw [hml]; rfl) (Steps.refl _) (argsL := []) (rest := []) (lenOf pd0 rfl) rfl (by show 2 * 0 + _ ≤ _; exact Nat.le_of_eq rfl) (hb hby d_prog_21_method_4_code_1) (fun _ _ => ⟨rfl, e0, (by decide : 0 + 0 ≤ _), (by decide : 0 + 0 ≤ _)⟩)
  dsimp only [Pt.U, Pt.locs, Pt.cells, Pt.slots] at X61 l61 y61 z61 st61 hQ61
  subst l61 y61 z61
  obtain ⟨rfl, N61q, e61⟩ := hQ61
  have N61 := Fr.app N0 N61q
  obtain ⟨fs, hr, hrun, hended, hWr, hsame⟩ := X61.leave (v := some (.int (1 : Int32))) (fun h => by rw [Bd.returns] at h; cases h)
  refine ⟨_, _, pre0 _ ?_, hrun, hended, _, _, rfl, ?_, ⟨_, rfl⟩, hWr, hsame.mono (Nat.le_of_ble_eq_true rfl) (Nat.le_of_ble_eq_true rfl)⟩
  · show Steps p.tables e below (s₁.setTop (mkF m 0 #[.val (.ref w3), .val (.int p1)] [])) _
    refine XS.aloadN X0.here hx rfl (hb hby d_prog_21_method_4_code_0) rfl rfl ?_
    show Steps p.tables e below (s₁.setTop (mkF m 1 #[.val (.ref w3), .val (.int p1)] [(.ref w3)])) _
    refine st61.trans ?_
    show Steps p.tables e below (T61.setTop (mkF m 4 #[.val (.ref w3), .val (.int p1)] [(.int (3 : Int32))])) _
    refine XS.tswIn X61.here hx rfl (pc0 := 4) (pc' := 82) (o := 78) rfl (hb hby d_prog_21_method_4_code_4) rfl (by decide) (by first | rfl | decide) (by decide) (by decide) ?_
    show Steps p.tables e below (T61.setTop (mkF m 82 #[.val (.ref w3), .val (.int p1)] [])) _
    refine XS.iloadN X61.here hx rfl (hb hby d_prog_21_method_4_code_82) rfl ?_
    show Steps p.tables e below (T61.setTop (mkF m 83 #[.val (.ref w3), .val (.int p1)] [(.int p1)])) _
    refine XS.ifNo X61.here hx rfl (hb hby d_prog_21_method_4_code_83) rfl ((if0 _ _).trans (flt rl0).1) ?_
    show Steps p.tables e below (T61.setTop (mkF m 86 #[.val (.ref w3), .val (.int p1)] [])) _
    refine XS.iconst X61.here hx rfl (hb hby d_prog_21_method_4_code_86) ?_
    show Steps p.tables e below (T61.setTop (mkF m 87 #[.val (.ref w3), .val (.int p1)] [(.int (1 : Int32))])) _
    refine XS.goto X61.here hx rfl (pc0 := 87) (pc' := 91) rfl (hb hby d_prog_21_method_4_code_87) (by decide) (by decide) ?_
    show Steps p.tables e below (T61.setTop (mkF m 91 #[.val (.ref w3), .val (.int p1)] [(.int (1 : Int32))])) _
    exact retN X61 hx (t := .boolean) Bd.returns (by simp) (hb hby d_prog_21_method_4_code_91) hr
  · show Qp (some (.int (1 : Int32))) h0 n0 _ T61.heap _
    rw [e61]
    exact ⟨rfl, N61, rfl⟩
theorem pn2 : plainName "com/example/seneschal/seneschal/model/ComparisonHoldsPinLaw" = true := by first | (simp [plainName, overriddenIn]; done) | decide +kernel
theorem ef8 (m : MethodId) (i0 : Int32) (i1 : Int32)   : entryFrame m #[(.int i0), (.int i1)] maxLocals = mkF m 0 #[.val (.int i0), .val (.int i1), .unset, .unset, .unset, .unset, .unset, .unset, .unset] [] := by first | (simp [entryFrame, mkF, argsToLocals, Value.category, maxLocals]; done) | rfl
set_option maxRecDepth 65536 in
set_option maxHeartbeats 40000000 in
theorem rm0 (l : Launch) (Z : State) (a0 : Array Value) (hw : ∀ d ∈ tables_1, d.before a0 Z = true) (ws : List Jvm.Cond) (w0 w1 w2 w3 : Addr) (i0 i1 : Int32) (h0 : Heap) (n0 : Nat) (hWd : Wd Z w0 w1 w2 w3) (O0 : Old Z n0 h0) :
    MetFree l x (head1 (Jvm.Cond.code x code maxLocals ret :: ws) room_1) (fun a U => a = #[(.int i0), (.int i1)] ∧ Z.Warmed39 U.vm ∧ U.heap = h0) (fun _ _ _ _ _ => True) (fun _ U o U' => ∃ v L, o = .returned v ∧ Ql n0 v U'.heap L ∧ FrameEnd U o U' L room_1.cells room_1.slots) := by
  refine MetFree.of_bodySF (plainFor_of_name pn2) hisR ?_
  intro p e s m args below meth c s₁ Bd hml0 hP hK
  obtain ⟨rfl, hZ, hh⟩ := hP
  have hx := Bd.exec
  have hby := Bd.bytes
  have hml : c.maxLocals = 9 := hml0
  have hown : s.vm.findClass "com/example/seneschal/seneschal/model/ComparisonHoldsPinLaw" = some m.cls := findClass_of_methodNamed Bd.named
  have hnm := (name_of_methodNamed Bd.named Bd.method).1
  have X0 : Stand p l e room_1 s m #[(.int i0), (.int i1)] below meth c s₁ [] 0 0 := Stand.of_body Bd
  have e0 : s₁.heap = h0 := by rw [← hh, Bd.state]; rfl
  have N0 := Fr.nil n0
  obtain ⟨wS0, wE0, wS1, wE1, wS2, wE2, wS3, wE3, wF0_ordinal, wF2_ordinal, wF1_ordinal, wF3_ordinal, -⟩ := id hWd
  have pre0 : ∀ t, Steps p.tables e below (s₁.setTop (mkF m 0 #[.val (.int i0), .val (.int i1), .unset, .unset, .unset, .unset, .unset, .unset, .unset] [])) t → Steps p.tables e below (s₁.setTop (entryFrame m #[(.int i0), (.int i1)] maxLocals)) t := fun t k => castTop (ef8 m i0 i1) k
  obtain ⟨T1, h1, k1, X1, e1, E1, A1, O1, st1⟩ := newR X0 hx hZ hown (hw _ (List.mem_of_getElem? (i := 0) rfl)) (hw _ (List.mem_of_getElem? (i := 1) rfl)) e0 (g := (mkF m 1 #[.val (.int i0), .val (.int i1), .unset, .unset, .unset, .unset, .unset, .unset, .unset] [(.int (4 : Int32))])) rfl (hb hby at_1) rfl (by decide) (cap := 4) (by decide) (by decide) (by decide) (by decide)
  obtain ⟨b1, g1⟩ : ∃ z, z = h0.size := ⟨_, rfl⟩
  rw [← g1] at A1 st1
  have V1 : Arv Z h1 b1 k1 (.object "com/example/seneschal/seneschal/model/Comparison") (4 : Int32) [.null, .null, .null, .null] .null := (Arv.new A1 (by decide)).pad (pad_rep [] .null 4)
  have g_b1 : n0 ≤ b1 := Nat.le_trans (Nat.le_trans (Nat.le_of_eq O0.1.symm) O0.2.1) (Nat.le_of_eq g1.symm)
  have O_1 : Old Z n0 h1 := O0.ext E1
  obtain ⟨T2, X2, e2, st2⟩ := getS2 X1 hx hZ hown (host := "") (Or.inl (hw _ (List.mem_of_getElem? (i := 2) rfl))) Via.refl e1 (wS0.ext O_1.2) (g := (mkF m 6 #[.val (.int i0), .val (.int i1), .unset, .unset, .unset, .unset, .unset, .unset, .unset] [(.int (0 : Int32)), (.ref b1), (.ref b1)])) rfl (hb hby at_6)
  obtain ⟨cl3, Ar3, q3, S3, M3, H3, G3⟩ := V1
  have hin3 : ¬ ((0 : Int32) < 0 ∨ cl3.slots.size ≤ ((0 : Int32)).toNatClampNeg) := inb_of S3 ⟨by decide, by decide⟩
  obtain ⟨T3, h3, X3, e3, W3, st3⟩ := stR X2 hx hZ e2 Ar3 (j := (0 : Int32)) hin3 rfl (Sto.ofV Ar3 q3 O1 (Ins.self (wE0.ext O_1.2))) (g := (mkF m 9 #[.val (.int i0), .val (.int i1), .unset, .unset, .unset, .unset, .unset, .unset, .unset] [(.ref w0), (.int (0 : Int32)), (.ref b1), (.ref b1)])) rfl rfl (hb hby at_9)
  have V3 : Arv Z h3 b1 k1 (.object "com/example/seneschal/seneschal/model/Comparison") (4 : Int32) [(.ref w0), .null, .null, .null] .null := Arv.set Ar3 q3 S3 M3 H3 G3 rfl W3 0 rfl (Nat.le_of_ble_eq_true rfl)
  have N3 := Fr.snoc X3 N0 g_b1
  have O_3 : Old Z n0 h3 := O_1.wr W3 g_b1
  obtain ⟨T4, X4, e4, st4⟩ := getS2 X3 hx hZ hown (host := "") (Or.inl (hw _ (List.mem_of_getElem? (i := 6) rfl))) Via.refl e3 (wS1.ext O_3.2) (g := (mkF m 12 #[.val (.int i0), .val (.int i1), .unset, .unset, .unset, .unset, .unset, .unset, .unset] [(.int (1 : Int32)), (.ref b1), (.ref b1)])) rfl (hb hby at_12)
  obtain ⟨cl5, Ar5, q5, S5, M5, H5, G5⟩ := V3
  have hin5 : ¬ ((1 : Int32) < 0 ∨ cl5.slots.size ≤ ((1 : Int32)).toNatClampNeg) := inb_of S5 ⟨by decide, by decide⟩
  obtain ⟨T5, h5, X5, e5, W5, st5⟩ := stR X4 hx hZ e4 Ar5 (j := (1 : Int32)) hin5 rfl (Sto.ofV Ar5 q5 O1 (Ins.self (wE1.ext O_3.2))) (g := (mkF m 15 #[.val (.int i0), .val (.int i1), .unset, .unset, .unset, .unset, .unset, .unset, .unset] [(.ref w1), (.int (1 : Int32)), (.ref b1), (.ref b1)])) rfl rfl (hb hby at_15)
  have V5 : Arv Z h5 b1 k1 (.object "com/example/seneschal/seneschal/model/Comparison") (4 : Int32) [(.ref w0), (.ref w1), .null, .null] .null := Arv.set Ar5 q5 S5 M5 H5 G5 rfl W5 1 rfl (Nat.le_of_ble_eq_true rfl)
  have N5 := Fr.snoc X5 N3 g_b1
  have O_5 : Old Z n0 h5 := O_3.wr W5 g_b1
  obtain ⟨T6, X6, e6, st6⟩ := getS2 X5 hx hZ hown (host := "") (Or.inl (hw _ (List.mem_of_getElem? (i := 8) rfl))) Via.refl e5 (wS2.ext O_5.2) (g := (mkF m 18 #[.val (.int i0), .val (.int i1), .unset, .unset, .unset, .unset, .unset, .unset, .unset] [(.int (2 : Int32)), (.ref b1), (.ref b1)])) rfl (hb hby at_18)
  obtain ⟨cl7, Ar7, q7, S7, M7, H7, G7⟩ := V5
  have hin7 : ¬ ((2 : Int32) < 0 ∨ cl7.slots.size ≤ ((2 : Int32)).toNatClampNeg) := inb_of S7 ⟨by decide, by decide⟩
  obtain ⟨T7, h7, X7, e7, W7, st7⟩ := stR X6 hx hZ e6 Ar7 (j := (2 : Int32)) hin7 rfl (Sto.ofV Ar7 q7 O1 (Ins.self (wE2.ext O_5.2))) (g := (mkF m 21 #[.val (.int i0), .val (.int i1), .unset, .unset, .unset, .unset, .unset, .unset, .unset] [(.ref w2), (.int (2 : Int32)), (.ref b1), (.ref b1)])) rfl rfl (hb hby at_21)
  have V7 : Arv Z h7 b1 k1 (.object "com/example/seneschal/seneschal/model/Comparison") (4 : Int32) [(.ref w0), (.ref w1), (.ref w2), .null] .null := Arv.set Ar7 q7 S7 M7 H7 G7 rfl W7 2 rfl (Nat.le_of_ble_eq_true rfl)
  have N7 := Fr.snoc X7 N5 g_b1
  have O_7 : Old Z n0 h7 := O_5.wr W7 g_b1
  obtain ⟨T8, X8, e8, st8⟩ := getS2 X7 hx hZ hown (host := "") (Or.inl (hw _ (List.mem_of_getElem? (i := 10) rfl))) Via.refl e7 (wS3.ext O_7.2) (g := (mkF m 24 #[.val (.int i0), .val (.int i1), .unset, .unset, .unset, .unset, .unset, .unset, .unset] [(.int (3 : Int32)), (.ref b1), (.ref b1)])) rfl (hb hby at_24)
  obtain ⟨cl9, Ar9, q9, S9, M9, H9, G9⟩ := V7
  have hin9 : ¬ ((3 : Int32) < 0 ∨ cl9.slots.size ≤ ((3 : Int32)).toNatClampNeg) := inb_of S9 ⟨by decide, by decide⟩
  obtain ⟨T9, h9, X9, e9, W9, st9⟩ := stR X8 hx hZ e8 Ar9 (j := (3 : Int32)) hin9 rfl (Sto.ofV Ar9 q9 O1 (Ins.self (wE3.ext O_7.2))) (g := (mkF m 27 #[.val (.int i0), .val (.int i1), .unset, .unset, .unset, .unset, .unset, .unset, .unset] [(.ref w3), (.int (3 : Int32)), (.ref b1), (.ref b1)])) rfl rfl (hb hby at_27)
  have V9 : Arv Z h9 b1 k1 (.object "com/example/seneschal/seneschal/model/Comparison") (4 : Int32) [(.ref w0), (.ref w1), (.ref w2), (.ref w3)] .null := Arv.set Ar9 q9 S9 M9 H9 G9 rfl W9 3 rfl (Nat.le_of_ble_eq_true rfl)
  have N9 := Fr.snoc X9 N7 g_b1
  have O_9 : Old Z n0 h9 := O_7.wr W9 g_b1
  have pre10 : ∀ t, Steps p.tables e below (T9.setTop (mkF m 31 #[.val (.int i0), .val (.int i1), .val (.ref b1), .unset, .unset, .unset, .unset, .unset, .unset] [(.int (3 : Int32)), (.int i0)])) t → Steps p.tables e below (s₁.setTop (entryFrame m #[(.int i0), (.int i1)] maxLocals)) t := by
    intro t k
    refine pre0 _ ?_
    show Steps p.tables e below (s₁.setTop (mkF m 0 #[.val (.int i0), .val (.int i1), .unset, .unset, .unset, .unset, .unset, .unset, .unset] [])) _
    refine XS.iconst X0.here hx rfl (hb hby at_0) ?_
    show Steps p.tables e below (s₁.setTop (mkF m 1 #[.val (.int i0), .val (.int i1), .unset, .unset, .unset, .unset, .unset, .unset, .unset] [(.int (4 : Int32))])) _
    refine st1 _ ?_
    show Steps p.tables e below (T1.setTop (mkF m 4 #[.val (.int i0), .val (.int i1), .unset, .unset, .unset, .unset, .unset, .unset, .unset] [(.ref b1)])) _
    refine XS.dup X1.here hx rfl (hb hby at_4) rfl rfl ?_
    show Steps p.tables e below (T1.setTop (mkF m 5 #[.val (.int i0), .val (.int i1), .unset, .unset, .unset, .unset, .unset, .unset, .unset] [(.ref b1), (.ref b1)])) _
    refine XS.iconst X1.here hx rfl (hb hby at_5) ?_
    show Steps p.tables e below (T1.setTop (mkF m 6 #[.val (.int i0), .val (.int i1), .unset, .unset, .unset, .unset, .unset, .unset, .unset] [(.int (0 : Int32)), (.ref b1), (.ref b1)])) _
    refine st2 _ ?_
    show Steps p.tables e below (T2.setTop (mkF m 9 #[.val (.int i0), .val (.int i1), .unset, .unset, .unset, .unset, .unset, .unset, .unset] [(.ref w0), (.int (0 : Int32)), (.ref b1), (.ref b1)])) _
    refine st3 _ ?_
    show Steps p.tables e below (T3.setTop (mkF m 10 #[.val (.int i0), .val (.int i1), .unset, .unset, .unset, .unset, .unset, .unset, .unset] [(.ref b1)])) _
    refine XS.dup X3.here hx rfl (hb hby at_10) rfl rfl ?_
    show Steps p.tables e below (T3.setTop (mkF m 11 #[.val (.int i0), .val (.int i1), .unset, .unset, .unset, .unset, .unset, .unset, .unset] [(.ref b1), (.ref b1)])) _
    refine XS.iconst X3.here hx rfl (hb hby at_11) ?_
    show Steps p.tables e below (T3.setTop (mkF m 12 #[.val (.int i0), .val (.int i1), .unset, .unset, .unset, .unset, .unset, .unset, .unset] [(.int (1 : Int32)), (.ref b1), (.ref b1)])) _
    refine st4 _ ?_
    show Steps p.tables e below (T4.setTop (mkF m 15 #[.val (.int i0), .val (.int i1), .unset, .unset, .unset, .unset, .unset, .unset, .unset] [(.ref w1), (.int (1 : Int32)), (.ref b1), (.ref b1)])) _
    refine st5 _ ?_
    show Steps p.tables e below (T5.setTop (mkF m 16 #[.val (.int i0), .val (.int i1), .unset, .unset, .unset, .unset, .unset, .unset, .unset] [(.ref b1)])) _
    refine XS.dup X5.here hx rfl (hb hby at_16) rfl rfl ?_
    show Steps p.tables e below (T5.setTop (mkF m 17 #[.val (.int i0), .val (.int i1), .unset, .unset, .unset, .unset, .unset, .unset, .unset] [(.ref b1), (.ref b1)])) _
    refine XS.iconst X5.here hx rfl (hb hby at_17) ?_
    show Steps p.tables e below (T5.setTop (mkF m 18 #[.val (.int i0), .val (.int i1), .unset, .unset, .unset, .unset, .unset, .unset, .unset] [(.int (2 : Int32)), (.ref b1), (.ref b1)])) _
    refine st6 _ ?_
    show Steps p.tables e below (T6.setTop (mkF m 21 #[.val (.int i0), .val (.int i1), .unset, .unset, .unset, .unset, .unset, .unset, .unset] [(.ref w2), (.int (2 : Int32)), (.ref b1), (.ref b1)])) _
    refine st7 _ ?_
    show Steps p.tables e below (T7.setTop (mkF m 22 #[.val (.int i0), .val (.int i1), .unset, .unset, .unset, .unset, .unset, .unset, .unset] [(.ref b1)])) _
    refine XS.dup X7.here hx rfl (hb hby at_22) rfl rfl ?_
    show Steps p.tables e below (T7.setTop (mkF m 23 #[.val (.int i0), .val (.int i1), .unset, .unset, .unset, .unset, .unset, .unset, .unset] [(.ref b1), (.ref b1)])) _
    refine XS.iconst X7.here hx rfl (hb hby at_23) ?_
    show Steps p.tables e below (T7.setTop (mkF m 24 #[.val (.int i0), .val (.int i1), .unset, .unset, .unset, .unset, .unset, .unset, .unset] [(.int (3 : Int32)), (.ref b1), (.ref b1)])) _
    refine st8 _ ?_
    show Steps p.tables e below (T8.setTop (mkF m 27 #[.val (.int i0), .val (.int i1), .unset, .unset, .unset, .unset, .unset, .unset, .unset] [(.ref w3), (.int (3 : Int32)), (.ref b1), (.ref b1)])) _
    refine st9 _ ?_
    show Steps p.tables e below (T9.setTop (mkF m 28 #[.val (.int i0), .val (.int i1), .unset, .unset, .unset, .unset, .unset, .unset, .unset] [(.ref b1)])) _
    refine XS.astoreN X9.here hx rfl (hb hby at_28) rfl rfl (l' := #[.val (.int i0), .val (.int i1), .val (.ref b1), .unset, .unset, .unset, .unset, .unset, .unset]) rfl ?_
    show Steps p.tables e below (T9.setTop (mkF m 29 #[.val (.int i0), .val (.int i1), .val (.ref b1), .unset, .unset, .unset, .unset, .unset, .unset] [])) _
    refine XS.iloadN X9.here hx rfl (hb hby at_29) rfl ?_
    show Steps p.tables e below (T9.setTop (mkF m 30 #[.val (.int i0), .val (.int i1), .val (.ref b1), .unset, .unset, .unset, .unset, .unset, .unset] [(.int i0)])) _
    refine XS.iconst X9.here hx rfl (hb hby at_30) ?_
    show Steps p.tables e below (T9.setTop (mkF m 31 #[.val (.int i0), .val (.int i1), .val (.ref b1), .unset, .unset, .unset, .unset, .unset, .unset] [(.int (3 : Int32)), (.int i0)])) _
    exact k
  rcases own_and_3 i0 with hk11 | hk12 | hk13 | hk14
  · obtain ⟨cl15, Ar15, q15, S15, M15, H15, G15⟩ := V9
    have hin15 : ¬ ((0 : Int32) < 0 ∨ cl15.slots.size ≤ ((0 : Int32)).toNatClampNeg) := inb_of S15 ⟨by decide, by decide⟩
    have hat15 : cl15.slots[((0 : Int32)).toNatClampNeg]? = some (.ref w0) := Has.at H15 hin15 rfl
    have pre16 : ∀ t, Steps p.tables e below (T9.setTop (mkF m 39 #[.val (.int i0), .val (.int i1), .val (.ref b1), .val (.int (0 : Int32)), .val (.ref w0), .unset, .unset, .unset, .unset] [(.int i1)])) t → Steps p.tables e below (s₁.setTop (entryFrame m #[(.int i0), (.int i1)] maxLocals)) t := by
      intro t k
      refine pre10 _ ?_
      show Steps p.tables e below (T9.setTop (mkF m 31 #[.val (.int i0), .val (.int i1), .val (.ref b1), .unset, .unset, .unset, .unset, .unset, .unset] [(.int (3 : Int32)), (.int i0)])) _
      refine XS.iand X9.here hx rfl (hb hby at_31) rfl ?_
      show Steps p.tables e below (T9.setTop (mkF m 32 #[.val (.int i0), .val (.int i1), .val (.ref b1), .unset, .unset, .unset, .unset, .unset, .unset] [(.int (i0 &&& (3 : Int32)))])) _
      rw [hk11]
      show Steps p.tables e below (T9.setTop (mkF m 32 #[.val (.int i0), .val (.int i1), .val (.ref b1), .unset, .unset, .unset, .unset, .unset, .unset] [(.int (0 : Int32))])) _
      refine XS.istoreN X9.here hx rfl (hb hby at_32) rfl (l' := #[.val (.int i0), .val (.int i1), .val (.ref b1), .val (.int (0 : Int32)), .unset, .unset, .unset, .unset, .unset]) rfl ?_
      show Steps p.tables e below (T9.setTop (mkF m 33 #[.val (.int i0), .val (.int i1), .val (.ref b1), .val (.int (0 : Int32)), .unset, .unset, .unset, .unset, .unset] [])) _
      refine XS.aloadN X9.here hx rfl (hb hby at_33) rfl rfl ?_
      show Steps p.tables e below (T9.setTop (mkF m 34 #[.val (.int i0), .val (.int i1), .val (.ref b1), .val (.int (0 : Int32)), .unset, .unset, .unset, .unset, .unset] [(.ref b1)])) _
      refine XS.iloadN X9.here hx rfl (hb hby at_34) rfl ?_
      show Steps p.tables e below (T9.setTop (mkF m 35 #[.val (.int i0), .val (.int i1), .val (.ref b1), .val (.int (0 : Int32)), .unset, .unset, .unset, .unset, .unset] [(.int (0 : Int32)), (.ref b1)])) _
      refine X9.aaload hx (j := (0 : Int32)) (v := (.ref w0)) (by rw [e9]; exact Ar15.1) (State.isArrayOf_alike hZ.alike Ar15.2.1) rfl Ar15.2.2 hin15 hat15 (g := (mkF m 35 #[.val (.int i0), .val (.int i1), .val (.ref b1), .val (.int (0 : Int32)), .unset, .unset, .unset, .unset, .unset] [(.int (0 : Int32)), (.ref b1)])) rfl rfl (hb hby at_35) _ ?_
      show Steps p.tables e below (T9.setTop (mkF m 36 #[.val (.int i0), .val (.int i1), .val (.ref b1), .val (.int (0 : Int32)), .unset, .unset, .unset, .unset, .unset] [(.ref w0)])) _
      refine XS.astore X9.here hx rfl (hb hby at_36) rfl rfl (l' := #[.val (.int i0), .val (.int i1), .val (.ref b1), .val (.int (0 : Int32)), .val (.ref w0), .unset, .unset, .unset, .unset]) rfl ?_
      show Steps p.tables e below (T9.setTop (mkF m 38 #[.val (.int i0), .val (.int i1), .val (.ref b1), .val (.int (0 : Int32)), .val (.ref w0), .unset, .unset, .unset, .unset] [])) _
      refine XS.iloadN X9.here hx rfl (hb hby at_38) rfl ?_
      show Steps p.tables e below (T9.setTop (mkF m 39 #[.val (.int i0), .val (.int i1), .val (.ref b1), .val (.int (0 : Int32)), .val (.ref w0), .unset, .unset, .unset, .unset] [(.int i1)])) _
      exact k
    rcases own_sign i1 with ⟨ha17, hb17, hc17⟩ | ⟨ha18, hb18, hc18⟩ | ⟨ha19, hb19, hc19⟩
    · obtain ⟨cq22, kq22, q22a, q22b, q22c⟩ := isOf hZ e9 (wE0.ext O_9.2)
      obtain ⟨_, _, ⟨T22, L22, k22, n22⟩, -, X22, ⟨Lc22, hQ22, l22, y22, z22⟩, st22⟩ := X9.virtualBack hx (y := (⟨"com/example/seneschal/seneschal/model/Comparison", "holds", "(I)Z"⟩ : MethodName)) (z := (⟨"com/example/seneschal/seneschal/model/Comparison", "holds", "(I)Z"⟩ : MethodName)) hown (mvT hZ (hw _ (List.mem_of_getElem? (i := 12) rfl))) (mvT hZ (hw _ (List.mem_of_getElem? (i := 13) rfl))) (notFace_of_selects (args := #[]) (mvT hZ (hw _ (List.mem_of_getElem? (i := 15) rfl)))) (mvT hZ (hw _ (List.mem_of_getElem? (i := 15) rfl))) (mvT hZ (hw _ (List.mem_of_getElem? (i := 14) rfl))) (by decide) (backOf (W := 0) (rm1 l Z a0 hw [] w0 w1 w2 w3 i1 h9 n0 hWd O_9 ha17 hb17 hc17) hZ (hw _ (List.mem_of_getElem? (i := 16) rfl)) (hw _ (List.mem_of_getElem? (i := 3) rfl)) (by decide) (by decide)) q22a q22c (g := (mkF m 145 #[.val (.int i0), .val (.int i1), .val (.ref b1), .val (.int (0 : Int32)), .val (.ref w0), .val (.int (1 : Int32)), .val (.int (0 : Int32)), .val (.int (0 : Int32)), .val (.int (1 : Int32))] [(.int i1), (.ref w0)])) rfl (by rw [hml]; rfl) (Steps.refl _) (argsL := [(.int i1)]) (rest := []) (lenOf pd1 rfl) rfl (by show 2 * 0 + _ ≤ _; exact Nat.le_of_eq rfl) (hb hby at_145) (fun _ _ => ⟨rfl, e9, (by decide : 1 + 0 ≤ _), (by decide : 4 + 0 ≤ _)⟩)
      dsimp only [Pt.U, Pt.locs, Pt.cells, Pt.slots] at X22 l22 y22 z22 st22 hQ22
      subst l22 y22 z22
      obtain ⟨rfl, N22q, e22⟩ := hQ22
      have N22 := Fr.app N9 N22q
      obtain ⟨fs, hr, hrun, hended, hWr, hsame⟩ := X22.leave (v := some (.int (1 : Int32))) (fun h => by rw [Bd.returns] at h; cases h)
      refine ⟨_, _, pre16 _ ?_, hrun, hended, _, _, rfl, ?_, ⟨_, rfl⟩, hWr, hsame.mono (Nat.le_of_ble_eq_true rfl) (Nat.le_of_ble_eq_true rfl)⟩
      · show Steps p.tables e below (T9.setTop (mkF m 39 #[.val (.int i0), .val (.int i1), .val (.ref b1), .val (.int (0 : Int32)), .val (.ref w0), .unset, .unset, .unset, .unset] [(.int i1)])) _
        refine XS.ifNo X9.here hx rfl (hb hby at_39) rfl ((if0 _ _).trans (tlt ha17).2.1) ?_
        show Steps p.tables e below (T9.setTop (mkF m 42 #[.val (.int i0), .val (.int i1), .val (.ref b1), .val (.int (0 : Int32)), .val (.ref w0), .unset, .unset, .unset, .unset] [])) _
        refine XS.iconst X9.here hx rfl (hb hby at_42) ?_
        show Steps p.tables e below (T9.setTop (mkF m 43 #[.val (.int i0), .val (.int i1), .val (.ref b1), .val (.int (0 : Int32)), .val (.ref w0), .unset, .unset, .unset, .unset] [(.int (1 : Int32))])) _
        refine XS.goto X9.here hx rfl (pc0 := 43) (pc' := 47) rfl (hb hby at_43) (by decide) (by decide) ?_
        show Steps p.tables e below (T9.setTop (mkF m 47 #[.val (.int i0), .val (.int i1), .val (.ref b1), .val (.int (0 : Int32)), .val (.ref w0), .unset, .unset, .unset, .unset] [(.int (1 : Int32))])) _
        refine XS.istore X9.here hx rfl (hb hby at_47) rfl (l' := #[.val (.int i0), .val (.int i1), .val (.ref b1), .val (.int (0 : Int32)), .val (.ref w0), .val (.int (1 : Int32)), .unset, .unset, .unset]) rfl ?_
        show Steps p.tables e below (T9.setTop (mkF m 49 #[.val (.int i0), .val (.int i1), .val (.ref b1), .val (.int (0 : Int32)), .val (.ref w0), .val (.int (1 : Int32)), .unset, .unset, .unset] [])) _
        refine XS.iloadN X9.here hx rfl (hb hby at_49) rfl ?_
        show Steps p.tables e below (T9.setTop (mkF m 50 #[.val (.int i0), .val (.int i1), .val (.ref b1), .val (.int (0 : Int32)), .val (.ref w0), .val (.int (1 : Int32)), .unset, .unset, .unset] [(.int i1)])) _
        refine XS.ifYes X9.here hx rfl (pc0 := 50) (pc' := 57) rfl (hb hby at_50) rfl ((if0 _ _).trans (feq hc17).2) (by decide) (by decide) ?_
        show Steps p.tables e below (T9.setTop (mkF m 57 #[.val (.int i0), .val (.int i1), .val (.ref b1), .val (.int (0 : Int32)), .val (.ref w0), .val (.int (1 : Int32)), .unset, .unset, .unset] [])) _
        refine XS.iconst X9.here hx rfl (hb hby at_57) ?_
        show Steps p.tables e below (T9.setTop (mkF m 58 #[.val (.int i0), .val (.int i1), .val (.ref b1), .val (.int (0 : Int32)), .val (.ref w0), .val (.int (1 : Int32)), .unset, .unset, .unset] [(.int (0 : Int32))])) _
        refine XS.istore X9.here hx rfl (hb hby at_58) rfl (l' := #[.val (.int i0), .val (.int i1), .val (.ref b1), .val (.int (0 : Int32)), .val (.ref w0), .val (.int (1 : Int32)), .val (.int (0 : Int32)), .unset, .unset]) rfl ?_
        show Steps p.tables e below (T9.setTop (mkF m 60 #[.val (.int i0), .val (.int i1), .val (.ref b1), .val (.int (0 : Int32)), .val (.ref w0), .val (.int (1 : Int32)), .val (.int (0 : Int32)), .unset, .unset] [])) _
        refine XS.iload X9.here hx rfl (hb hby at_60) rfl ?_
        show Steps p.tables e below (T9.setTop (mkF m 62 #[.val (.int i0), .val (.int i1), .val (.ref b1), .val (.int (0 : Int32)), .val (.ref w0), .val (.int (1 : Int32)), .val (.int (0 : Int32)), .unset, .unset] [(.int (1 : Int32))])) _
        refine XS.ifYes X9.here hx rfl (pc0 := 62) (pc' := 74) rfl (hb hby at_62) rfl (by decide) (by decide) (by decide) ?_
        show Steps p.tables e below (T9.setTop (mkF m 74 #[.val (.int i0), .val (.int i1), .val (.ref b1), .val (.int (0 : Int32)), .val (.ref w0), .val (.int (1 : Int32)), .val (.int (0 : Int32)), .unset, .unset] [])) _
        refine XS.iconst X9.here hx rfl (hb hby at_74) ?_
        show Steps p.tables e below (T9.setTop (mkF m 75 #[.val (.int i0), .val (.int i1), .val (.ref b1), .val (.int (0 : Int32)), .val (.ref w0), .val (.int (1 : Int32)), .val (.int (0 : Int32)), .unset, .unset] [(.int (0 : Int32))])) _
        refine XS.istore X9.here hx rfl (hb hby at_75) rfl (l' := #[.val (.int i0), .val (.int i1), .val (.ref b1), .val (.int (0 : Int32)), .val (.ref w0), .val (.int (1 : Int32)), .val (.int (0 : Int32)), .val (.int (0 : Int32)), .unset]) rfl ?_
        show Steps p.tables e below (T9.setTop (mkF m 77 #[.val (.int i0), .val (.int i1), .val (.ref b1), .val (.int (0 : Int32)), .val (.ref w0), .val (.int (1 : Int32)), .val (.int (0 : Int32)), .val (.int (0 : Int32)), .unset] [])) _
        refine XS.iloadN X9.here hx rfl (hb hby at_77) rfl ?_
        show Steps p.tables e below (T9.setTop (mkF m 78 #[.val (.int i0), .val (.int i1), .val (.ref b1), .val (.int (0 : Int32)), .val (.ref w0), .val (.int (1 : Int32)), .val (.int (0 : Int32)), .val (.int (0 : Int32)), .unset] [(.int (0 : Int32))])) _
        refine XS.ifNo X9.here hx rfl (hb hby at_78) rfl (by decide) ?_
        show Steps p.tables e below (T9.setTop (mkF m 81 #[.val (.int i0), .val (.int i1), .val (.ref b1), .val (.int (0 : Int32)), .val (.ref w0), .val (.int (1 : Int32)), .val (.int (0 : Int32)), .val (.int (0 : Int32)), .unset] [])) _
        refine XS.iload X9.here hx rfl (hb hby at_81) rfl ?_
        show Steps p.tables e below (T9.setTop (mkF m 83 #[.val (.int i0), .val (.int i1), .val (.ref b1), .val (.int (0 : Int32)), .val (.ref w0), .val (.int (1 : Int32)), .val (.int (0 : Int32)), .val (.int (0 : Int32)), .unset] [(.int (1 : Int32))])) _
        refine XS.istore X9.here hx rfl (hb hby at_83) rfl (l' := #[.val (.int i0), .val (.int i1), .val (.ref b1), .val (.int (0 : Int32)), .val (.ref w0), .val (.int (1 : Int32)), .val (.int (0 : Int32)), .val (.int (0 : Int32)), .val (.int (1 : Int32))]) rfl ?_
        show Steps p.tables e below (T9.setTop (mkF m 85 #[.val (.int i0), .val (.int i1), .val (.ref b1), .val (.int (0 : Int32)), .val (.ref w0), .val (.int (1 : Int32)), .val (.int (0 : Int32)), .val (.int (0 : Int32)), .val (.int (1 : Int32))] [])) _
        refine XS.goto X9.here hx rfl (pc0 := 85) (pc' := 142) rfl (hb hby at_85) (by decide) (by decide) ?_
        show Steps p.tables e below (T9.setTop (mkF m 142 #[.val (.int i0), .val (.int i1), .val (.ref b1), .val (.int (0 : Int32)), .val (.ref w0), .val (.int (1 : Int32)), .val (.int (0 : Int32)), .val (.int (0 : Int32)), .val (.int (1 : Int32))] [])) _
        refine XS.aload X9.here hx rfl (hb hby at_142) rfl rfl ?_
        show Steps p.tables e below (T9.setTop (mkF m 144 #[.val (.int i0), .val (.int i1), .val (.ref b1), .val (.int (0 : Int32)), .val (.ref w0), .val (.int (1 : Int32)), .val (.int (0 : Int32)), .val (.int (0 : Int32)), .val (.int (1 : Int32))] [(.ref w0)])) _
        refine XS.iloadN X9.here hx rfl (hb hby at_144) rfl ?_
        show Steps p.tables e below (T9.setTop (mkF m 145 #[.val (.int i0), .val (.int i1), .val (.ref b1), .val (.int (0 : Int32)), .val (.ref w0), .val (.int (1 : Int32)), .val (.int (0 : Int32)), .val (.int (0 : Int32)), .val (.int (1 : Int32))] [(.int i1), (.ref w0)])) _
        refine st22.trans ?_
        show Steps p.tables e below (T22.setTop (mkF m 148 #[.val (.int i0), .val (.int i1), .val (.ref b1), .val (.int (0 : Int32)), .val (.ref w0), .val (.int (1 : Int32)), .val (.int (0 : Int32)), .val (.int (0 : Int32)), .val (.int (1 : Int32))] [(.int (1 : Int32))])) _
        refine XS.iload X22.here hx rfl (hb hby at_148) rfl ?_
        show Steps p.tables e below (T22.setTop (mkF m 150 #[.val (.int i0), .val (.int i1), .val (.ref b1), .val (.int (0 : Int32)), .val (.ref w0), .val (.int (1 : Int32)), .val (.int (0 : Int32)), .val (.int (0 : Int32)), .val (.int (1 : Int32))] [(.int (1 : Int32)), (.int (1 : Int32))])) _
        refine XS.icmpNo X22.here hx rfl (hb hby at_150) rfl (by decide) ?_
        show Steps p.tables e below (T22.setTop (mkF m 153 #[.val (.int i0), .val (.int i1), .val (.ref b1), .val (.int (0 : Int32)), .val (.ref w0), .val (.int (1 : Int32)), .val (.int (0 : Int32)), .val (.int (0 : Int32)), .val (.int (1 : Int32))] [])) _
        refine XS.iconst X22.here hx rfl (hb hby at_153) ?_
        show Steps p.tables e below (T22.setTop (mkF m 154 #[.val (.int i0), .val (.int i1), .val (.ref b1), .val (.int (0 : Int32)), .val (.ref w0), .val (.int (1 : Int32)), .val (.int (0 : Int32)), .val (.int (0 : Int32)), .val (.int (1 : Int32))] [(.int (1 : Int32))])) _
        refine XS.goto X22.here hx rfl (pc0 := 154) (pc' := 158) rfl (hb hby at_154) (by decide) (by decide) ?_
        show Steps p.tables e below (T22.setTop (mkF m 158 #[.val (.int i0), .val (.int i1), .val (.ref b1), .val (.int (0 : Int32)), .val (.ref w0), .val (.int (1 : Int32)), .val (.int (0 : Int32)), .val (.int (0 : Int32)), .val (.int (1 : Int32))] [(.int (1 : Int32))])) _
        exact retN X22 hx (t := .boolean) Bd.returns (by simp) (hb hby at_158) hr
      · show Ql n0 _ T22.heap _
        exact ⟨rfl, N22⟩
    · obtain ⟨cq24, kq24, q24a, q24b, q24c⟩ := isOf hZ e9 (wE0.ext O_9.2)
      obtain ⟨_, _, ⟨T24, L24, k24, n24⟩, -, X24, ⟨Lc24, hQ24, l24, y24, z24⟩, st24⟩ := X9.virtualBack hx (y := (⟨"com/example/seneschal/seneschal/model/Comparison", "holds", "(I)Z"⟩ : MethodName)) (z := (⟨"com/example/seneschal/seneschal/model/Comparison", "holds", "(I)Z"⟩ : MethodName)) hown (mvT hZ (hw _ (List.mem_of_getElem? (i := 12) rfl))) (mvT hZ (hw _ (List.mem_of_getElem? (i := 13) rfl))) (notFace_of_selects (args := #[]) (mvT hZ (hw _ (List.mem_of_getElem? (i := 15) rfl)))) (mvT hZ (hw _ (List.mem_of_getElem? (i := 15) rfl))) (mvT hZ (hw _ (List.mem_of_getElem? (i := 14) rfl))) (by decide) (backOf (W := 0) (rm3 l Z a0 hw [] w0 w1 w2 w3 i1 h9 n0 hWd O_9 ha18 hb18 hc18) hZ (hw _ (List.mem_of_getElem? (i := 16) rfl)) (hw _ (List.mem_of_getElem? (i := 3) rfl)) (by decide) (by decide)) q24a q24c (g := (mkF m 145 #[.val (.int i0), .val (.int i1), .val (.ref b1), .val (.int (0 : Int32)), .val (.ref w0), .val (.int (0 : Int32)), .val (.int (1 : Int32)), .val (.int (0 : Int32)), .val (.int (0 : Int32))] [(.int i1), (.ref w0)])) rfl (by rw [hml]; rfl) (Steps.refl _) (argsL := [(.int i1)]) (rest := []) (lenOf pd1 rfl) rfl (by show 2 * 0 + _ ≤ _; exact Nat.le_of_eq rfl) (hb hby at_145) (fun _ _ => ⟨rfl, e9, (by decide : 1 + 0 ≤ _), (by decide : 4 + 0 ≤ _)⟩)
      dsimp only [Pt.U, Pt.locs, Pt.cells, Pt.slots] at X24 l24 y24 z24 st24 hQ24
      subst l24 y24 z24
      obtain ⟨rfl, N24q, e24⟩ := hQ24
      have N24 := Fr.app N9 N24q
      obtain ⟨fs, hr, hrun, hended, hWr, hsame⟩ := X24.leave (v := some (.int (1 : Int32))) (fun h => by rw [Bd.returns] at h; cases h)
      refine ⟨_, _, pre16 _ ?_, hrun, hended, _, _, rfl, ?_, ⟨_, rfl⟩, hWr, hsame.mono (Nat.le_of_ble_eq_true rfl) (Nat.le_of_ble_eq_true rfl)⟩
      · show Steps p.tables e below (T9.setTop (mkF m 39 #[.val (.int i0), .val (.int i1), .val (.ref b1), .val (.int (0 : Int32)), .val (.ref w0), .unset, .unset, .unset, .unset] [(.int i1)])) _
        refine XS.ifYes X9.here hx rfl (pc0 := 39) (pc' := 46) rfl (hb hby at_39) rfl ((if0 _ _).trans (flt ha18).2.1) (by decide) (by decide) ?_
        show Steps p.tables e below (T9.setTop (mkF m 46 #[.val (.int i0), .val (.int i1), .val (.ref b1), .val (.int (0 : Int32)), .val (.ref w0), .unset, .unset, .unset, .unset] [])) _
        refine XS.iconst X9.here hx rfl (hb hby at_46) ?_
        show Steps p.tables e below (T9.setTop (mkF m 47 #[.val (.int i0), .val (.int i1), .val (.ref b1), .val (.int (0 : Int32)), .val (.ref w0), .unset, .unset, .unset, .unset] [(.int (0 : Int32))])) _
        refine XS.istore X9.here hx rfl (hb hby at_47) rfl (l' := #[.val (.int i0), .val (.int i1), .val (.ref b1), .val (.int (0 : Int32)), .val (.ref w0), .val (.int (0 : Int32)), .unset, .unset, .unset]) rfl ?_
        show Steps p.tables e below (T9.setTop (mkF m 49 #[.val (.int i0), .val (.int i1), .val (.ref b1), .val (.int (0 : Int32)), .val (.ref w0), .val (.int (0 : Int32)), .unset, .unset, .unset] [])) _
        refine XS.iloadN X9.here hx rfl (hb hby at_49) rfl ?_
        show Steps p.tables e below (T9.setTop (mkF m 50 #[.val (.int i0), .val (.int i1), .val (.ref b1), .val (.int (0 : Int32)), .val (.ref w0), .val (.int (0 : Int32)), .unset, .unset, .unset] [(.int i1)])) _
        refine XS.ifNo X9.here hx rfl (hb hby at_50) rfl ((if0 _ _).trans (teq hc18).2) ?_
        show Steps p.tables e below (T9.setTop (mkF m 53 #[.val (.int i0), .val (.int i1), .val (.ref b1), .val (.int (0 : Int32)), .val (.ref w0), .val (.int (0 : Int32)), .unset, .unset, .unset] [])) _
        refine XS.iconst X9.here hx rfl (hb hby at_53) ?_
        show Steps p.tables e below (T9.setTop (mkF m 54 #[.val (.int i0), .val (.int i1), .val (.ref b1), .val (.int (0 : Int32)), .val (.ref w0), .val (.int (0 : Int32)), .unset, .unset, .unset] [(.int (1 : Int32))])) _
        refine XS.goto X9.here hx rfl (pc0 := 54) (pc' := 58) rfl (hb hby at_54) (by decide) (by decide) ?_
        show Steps p.tables e below (T9.setTop (mkF m 58 #[.val (.int i0), .val (.int i1), .val (.ref b1), .val (.int (0 : Int32)), .val (.ref w0), .val (.int (0 : Int32)), .unset, .unset, .unset] [(.int (1 : Int32))])) _
        refine XS.istore X9.here hx rfl (hb hby at_58) rfl (l' := #[.val (.int i0), .val (.int i1), .val (.ref b1), .val (.int (0 : Int32)), .val (.ref w0), .val (.int (0 : Int32)), .val (.int (1 : Int32)), .unset, .unset]) rfl ?_
        show Steps p.tables e below (T9.setTop (mkF m 60 #[.val (.int i0), .val (.int i1), .val (.ref b1), .val (.int (0 : Int32)), .val (.ref w0), .val (.int (0 : Int32)), .val (.int (1 : Int32)), .unset, .unset] [])) _
        refine XS.iload X9.here hx rfl (hb hby at_60) rfl ?_
        show Steps p.tables e below (T9.setTop (mkF m 62 #[.val (.int i0), .val (.int i1), .val (.ref b1), .val (.int (0 : Int32)), .val (.ref w0), .val (.int (0 : Int32)), .val (.int (1 : Int32)), .unset, .unset] [(.int (0 : Int32))])) _
        refine XS.ifNo X9.here hx rfl (hb hby at_62) rfl (by decide) ?_
        show Steps p.tables e below (T9.setTop (mkF m 65 #[.val (.int i0), .val (.int i1), .val (.ref b1), .val (.int (0 : Int32)), .val (.ref w0), .val (.int (0 : Int32)), .val (.int (1 : Int32)), .unset, .unset] [])) _
        refine XS.iload X9.here hx rfl (hb hby at_65) rfl ?_
        show Steps p.tables e below (T9.setTop (mkF m 67 #[.val (.int i0), .val (.int i1), .val (.ref b1), .val (.int (0 : Int32)), .val (.ref w0), .val (.int (0 : Int32)), .val (.int (1 : Int32)), .unset, .unset] [(.int (1 : Int32))])) _
        refine XS.ifYes X9.here hx rfl (pc0 := 67) (pc' := 74) rfl (hb hby at_67) rfl (by decide) (by decide) (by decide) ?_
        show Steps p.tables e below (T9.setTop (mkF m 74 #[.val (.int i0), .val (.int i1), .val (.ref b1), .val (.int (0 : Int32)), .val (.ref w0), .val (.int (0 : Int32)), .val (.int (1 : Int32)), .unset, .unset] [])) _
        refine XS.iconst X9.here hx rfl (hb hby at_74) ?_
        show Steps p.tables e below (T9.setTop (mkF m 75 #[.val (.int i0), .val (.int i1), .val (.ref b1), .val (.int (0 : Int32)), .val (.ref w0), .val (.int (0 : Int32)), .val (.int (1 : Int32)), .unset, .unset] [(.int (0 : Int32))])) _
        refine XS.istore X9.here hx rfl (hb hby at_75) rfl (l' := #[.val (.int i0), .val (.int i1), .val (.ref b1), .val (.int (0 : Int32)), .val (.ref w0), .val (.int (0 : Int32)), .val (.int (1 : Int32)), .val (.int (0 : Int32)), .unset]) rfl ?_
        show Steps p.tables e below (T9.setTop (mkF m 77 #[.val (.int i0), .val (.int i1), .val (.ref b1), .val (.int (0 : Int32)), .val (.ref w0), .val (.int (0 : Int32)), .val (.int (1 : Int32)), .val (.int (0 : Int32)), .unset] [])) _
        refine XS.iloadN X9.here hx rfl (hb hby at_77) rfl ?_
        show Steps p.tables e below (T9.setTop (mkF m 78 #[.val (.int i0), .val (.int i1), .val (.ref b1), .val (.int (0 : Int32)), .val (.ref w0), .val (.int (0 : Int32)), .val (.int (1 : Int32)), .val (.int (0 : Int32)), .unset] [(.int (0 : Int32))])) _
        refine XS.ifNo X9.here hx rfl (hb hby at_78) rfl (by decide) ?_
        show Steps p.tables e below (T9.setTop (mkF m 81 #[.val (.int i0), .val (.int i1), .val (.ref b1), .val (.int (0 : Int32)), .val (.ref w0), .val (.int (0 : Int32)), .val (.int (1 : Int32)), .val (.int (0 : Int32)), .unset] [])) _
        refine XS.iload X9.here hx rfl (hb hby at_81) rfl ?_
        show Steps p.tables e below (T9.setTop (mkF m 83 #[.val (.int i0), .val (.int i1), .val (.ref b1), .val (.int (0 : Int32)), .val (.ref w0), .val (.int (0 : Int32)), .val (.int (1 : Int32)), .val (.int (0 : Int32)), .unset] [(.int (0 : Int32))])) _
        refine XS.istore X9.here hx rfl (hb hby at_83) rfl (l' := #[.val (.int i0), .val (.int i1), .val (.ref b1), .val (.int (0 : Int32)), .val (.ref w0), .val (.int (0 : Int32)), .val (.int (1 : Int32)), .val (.int (0 : Int32)), .val (.int (0 : Int32))]) rfl ?_
        show Steps p.tables e below (T9.setTop (mkF m 85 #[.val (.int i0), .val (.int i1), .val (.ref b1), .val (.int (0 : Int32)), .val (.ref w0), .val (.int (0 : Int32)), .val (.int (1 : Int32)), .val (.int (0 : Int32)), .val (.int (0 : Int32))] [])) _
        refine XS.goto X9.here hx rfl (pc0 := 85) (pc' := 142) rfl (hb hby at_85) (by decide) (by decide) ?_
        show Steps p.tables e below (T9.setTop (mkF m 142 #[.val (.int i0), .val (.int i1), .val (.ref b1), .val (.int (0 : Int32)), .val (.ref w0), .val (.int (0 : Int32)), .val (.int (1 : Int32)), .val (.int (0 : Int32)), .val (.int (0 : Int32))] [])) _
        refine XS.aload X9.here hx rfl (hb hby at_142) rfl rfl ?_
        show Steps p.tables e below (T9.setTop (mkF m 144 #[.val (.int i0), .val (.int i1), .val (.ref b1), .val (.int (0 : Int32)), .val (.ref w0), .val (.int (0 : Int32)), .val (.int (1 : Int32)), .val (.int (0 : Int32)), .val (.int (0 : Int32))] [(.ref w0)])) _
        refine XS.iloadN X9.here hx rfl (hb hby at_144) rfl ?_
        show Steps p.tables e below (T9.setTop (mkF m 145 #[.val (.int i0), .val (.int i1), .val (.ref b1), .val (.int (0 : Int32)), .val (.ref w0), .val (.int (0 : Int32)), .val (.int (1 : Int32)), .val (.int (0 : Int32)), .val (.int (0 : Int32))] [(.int i1), (.ref w0)])) _
        refine st24.trans ?_
        show Steps p.tables e below (T24.setTop (mkF m 148 #[.val (.int i0), .val (.int i1), .val (.ref b1), .val (.int (0 : Int32)), .val (.ref w0), .val (.int (0 : Int32)), .val (.int (1 : Int32)), .val (.int (0 : Int32)), .val (.int (0 : Int32))] [(.int (0 : Int32))])) _
        refine XS.iload X24.here hx rfl (hb hby at_148) rfl ?_
        show Steps p.tables e below (T24.setTop (mkF m 150 #[.val (.int i0), .val (.int i1), .val (.ref b1), .val (.int (0 : Int32)), .val (.ref w0), .val (.int (0 : Int32)), .val (.int (1 : Int32)), .val (.int (0 : Int32)), .val (.int (0 : Int32))] [(.int (0 : Int32)), (.int (0 : Int32))])) _
        refine XS.icmpNo X24.here hx rfl (hb hby at_150) rfl (by decide) ?_
        show Steps p.tables e below (T24.setTop (mkF m 153 #[.val (.int i0), .val (.int i1), .val (.ref b1), .val (.int (0 : Int32)), .val (.ref w0), .val (.int (0 : Int32)), .val (.int (1 : Int32)), .val (.int (0 : Int32)), .val (.int (0 : Int32))] [])) _
        refine XS.iconst X24.here hx rfl (hb hby at_153) ?_
        show Steps p.tables e below (T24.setTop (mkF m 154 #[.val (.int i0), .val (.int i1), .val (.ref b1), .val (.int (0 : Int32)), .val (.ref w0), .val (.int (0 : Int32)), .val (.int (1 : Int32)), .val (.int (0 : Int32)), .val (.int (0 : Int32))] [(.int (1 : Int32))])) _
        refine XS.goto X24.here hx rfl (pc0 := 154) (pc' := 158) rfl (hb hby at_154) (by decide) (by decide) ?_
        show Steps p.tables e below (T24.setTop (mkF m 158 #[.val (.int i0), .val (.int i1), .val (.ref b1), .val (.int (0 : Int32)), .val (.ref w0), .val (.int (0 : Int32)), .val (.int (1 : Int32)), .val (.int (0 : Int32)), .val (.int (0 : Int32))] [(.int (1 : Int32))])) _
        exact retN X24 hx (t := .boolean) Bd.returns (by simp) (hb hby at_158) hr
      · show Ql n0 _ T24.heap _
        exact ⟨rfl, N24⟩
    · obtain ⟨cq26, kq26, q26a, q26b, q26c⟩ := isOf hZ e9 (wE0.ext O_9.2)
      obtain ⟨_, _, ⟨T26, L26, k26, n26⟩, -, X26, ⟨Lc26, hQ26, l26, y26, z26⟩, st26⟩ := X9.virtualBack hx (y := (⟨"com/example/seneschal/seneschal/model/Comparison", "holds", "(I)Z"⟩ : MethodName)) (z := (⟨"com/example/seneschal/seneschal/model/Comparison", "holds", "(I)Z"⟩ : MethodName)) hown (mvT hZ (hw _ (List.mem_of_getElem? (i := 12) rfl))) (mvT hZ (hw _ (List.mem_of_getElem? (i := 13) rfl))) (notFace_of_selects (args := #[]) (mvT hZ (hw _ (List.mem_of_getElem? (i := 15) rfl)))) (mvT hZ (hw _ (List.mem_of_getElem? (i := 15) rfl))) (mvT hZ (hw _ (List.mem_of_getElem? (i := 14) rfl))) (by decide) (backOf (W := 0) (rm4 l Z a0 hw [] w0 w1 w2 w3 i1 h9 n0 hWd O_9 ha19 hb19 hc19) hZ (hw _ (List.mem_of_getElem? (i := 16) rfl)) (hw _ (List.mem_of_getElem? (i := 3) rfl)) (by decide) (by decide)) q26a q26c (g := (mkF m 145 #[.val (.int i0), .val (.int i1), .val (.ref b1), .val (.int (0 : Int32)), .val (.ref w0), .val (.int (0 : Int32)), .val (.int (0 : Int32)), .val (.int (1 : Int32)), .val (.int (0 : Int32))] [(.int i1), (.ref w0)])) rfl (by rw [hml]; rfl) (Steps.refl _) (argsL := [(.int i1)]) (rest := []) (lenOf pd1 rfl) rfl (by show 2 * 0 + _ ≤ _; exact Nat.le_of_eq rfl) (hb hby at_145) (fun _ _ => ⟨rfl, e9, (by decide : 1 + 0 ≤ _), (by decide : 4 + 0 ≤ _)⟩)
      dsimp only [Pt.U, Pt.locs, Pt.cells, Pt.slots] at X26 l26 y26 z26 st26 hQ26
      subst l26 y26 z26
      obtain ⟨rfl, N26q, e26⟩ := hQ26
      have N26 := Fr.app N9 N26q
      obtain ⟨fs, hr, hrun, hended, hWr, hsame⟩ := X26.leave (v := some (.int (1 : Int32))) (fun h => by rw [Bd.returns] at h; cases h)
      refine ⟨_, _, pre16 _ ?_, hrun, hended, _, _, rfl, ?_, ⟨_, rfl⟩, hWr, hsame.mono (Nat.le_of_ble_eq_true rfl) (Nat.le_of_ble_eq_true rfl)⟩
      · show Steps p.tables e below (T9.setTop (mkF m 39 #[.val (.int i0), .val (.int i1), .val (.ref b1), .val (.int (0 : Int32)), .val (.ref w0), .unset, .unset, .unset, .unset] [(.int i1)])) _
        refine XS.ifYes X9.here hx rfl (pc0 := 39) (pc' := 46) rfl (hb hby at_39) rfl ((if0 _ _).trans (flt ha19).2.1) (by decide) (by decide) ?_
        show Steps p.tables e below (T9.setTop (mkF m 46 #[.val (.int i0), .val (.int i1), .val (.ref b1), .val (.int (0 : Int32)), .val (.ref w0), .unset, .unset, .unset, .unset] [])) _
        refine XS.iconst X9.here hx rfl (hb hby at_46) ?_
        show Steps p.tables e below (T9.setTop (mkF m 47 #[.val (.int i0), .val (.int i1), .val (.ref b1), .val (.int (0 : Int32)), .val (.ref w0), .unset, .unset, .unset, .unset] [(.int (0 : Int32))])) _
        refine XS.istore X9.here hx rfl (hb hby at_47) rfl (l' := #[.val (.int i0), .val (.int i1), .val (.ref b1), .val (.int (0 : Int32)), .val (.ref w0), .val (.int (0 : Int32)), .unset, .unset, .unset]) rfl ?_
        show Steps p.tables e below (T9.setTop (mkF m 49 #[.val (.int i0), .val (.int i1), .val (.ref b1), .val (.int (0 : Int32)), .val (.ref w0), .val (.int (0 : Int32)), .unset, .unset, .unset] [])) _
        refine XS.iloadN X9.here hx rfl (hb hby at_49) rfl ?_
        show Steps p.tables e below (T9.setTop (mkF m 50 #[.val (.int i0), .val (.int i1), .val (.ref b1), .val (.int (0 : Int32)), .val (.ref w0), .val (.int (0 : Int32)), .unset, .unset, .unset] [(.int i1)])) _
        refine XS.ifYes X9.here hx rfl (pc0 := 50) (pc' := 57) rfl (hb hby at_50) rfl ((if0 _ _).trans (feq hc19).2) (by decide) (by decide) ?_
        show Steps p.tables e below (T9.setTop (mkF m 57 #[.val (.int i0), .val (.int i1), .val (.ref b1), .val (.int (0 : Int32)), .val (.ref w0), .val (.int (0 : Int32)), .unset, .unset, .unset] [])) _
        refine XS.iconst X9.here hx rfl (hb hby at_57) ?_
        show Steps p.tables e below (T9.setTop (mkF m 58 #[.val (.int i0), .val (.int i1), .val (.ref b1), .val (.int (0 : Int32)), .val (.ref w0), .val (.int (0 : Int32)), .unset, .unset, .unset] [(.int (0 : Int32))])) _
        refine XS.istore X9.here hx rfl (hb hby at_58) rfl (l' := #[.val (.int i0), .val (.int i1), .val (.ref b1), .val (.int (0 : Int32)), .val (.ref w0), .val (.int (0 : Int32)), .val (.int (0 : Int32)), .unset, .unset]) rfl ?_
        show Steps p.tables e below (T9.setTop (mkF m 60 #[.val (.int i0), .val (.int i1), .val (.ref b1), .val (.int (0 : Int32)), .val (.ref w0), .val (.int (0 : Int32)), .val (.int (0 : Int32)), .unset, .unset] [])) _
        refine XS.iload X9.here hx rfl (hb hby at_60) rfl ?_
        show Steps p.tables e below (T9.setTop (mkF m 62 #[.val (.int i0), .val (.int i1), .val (.ref b1), .val (.int (0 : Int32)), .val (.ref w0), .val (.int (0 : Int32)), .val (.int (0 : Int32)), .unset, .unset] [(.int (0 : Int32))])) _
        refine XS.ifNo X9.here hx rfl (hb hby at_62) rfl (by decide) ?_
        show Steps p.tables e below (T9.setTop (mkF m 65 #[.val (.int i0), .val (.int i1), .val (.ref b1), .val (.int (0 : Int32)), .val (.ref w0), .val (.int (0 : Int32)), .val (.int (0 : Int32)), .unset, .unset] [])) _
        refine XS.iload X9.here hx rfl (hb hby at_65) rfl ?_
        show Steps p.tables e below (T9.setTop (mkF m 67 #[.val (.int i0), .val (.int i1), .val (.ref b1), .val (.int (0 : Int32)), .val (.ref w0), .val (.int (0 : Int32)), .val (.int (0 : Int32)), .unset, .unset] [(.int (0 : Int32))])) _
        refine XS.ifNo X9.here hx rfl (hb hby at_67) rfl (by decide) ?_
        show Steps p.tables e below (T9.setTop (mkF m 70 #[.val (.int i0), .val (.int i1), .val (.ref b1), .val (.int (0 : Int32)), .val (.ref w0), .val (.int (0 : Int32)), .val (.int (0 : Int32)), .unset, .unset] [])) _
        refine XS.iconst X9.here hx rfl (hb hby at_70) ?_
        show Steps p.tables e below (T9.setTop (mkF m 71 #[.val (.int i0), .val (.int i1), .val (.ref b1), .val (.int (0 : Int32)), .val (.ref w0), .val (.int (0 : Int32)), .val (.int (0 : Int32)), .unset, .unset] [(.int (1 : Int32))])) _
        refine XS.goto X9.here hx rfl (pc0 := 71) (pc' := 75) rfl (hb hby at_71) (by decide) (by decide) ?_
        show Steps p.tables e below (T9.setTop (mkF m 75 #[.val (.int i0), .val (.int i1), .val (.ref b1), .val (.int (0 : Int32)), .val (.ref w0), .val (.int (0 : Int32)), .val (.int (0 : Int32)), .unset, .unset] [(.int (1 : Int32))])) _
        refine XS.istore X9.here hx rfl (hb hby at_75) rfl (l' := #[.val (.int i0), .val (.int i1), .val (.ref b1), .val (.int (0 : Int32)), .val (.ref w0), .val (.int (0 : Int32)), .val (.int (0 : Int32)), .val (.int (1 : Int32)), .unset]) rfl ?_
        show Steps p.tables e below (T9.setTop (mkF m 77 #[.val (.int i0), .val (.int i1), .val (.ref b1), .val (.int (0 : Int32)), .val (.ref w0), .val (.int (0 : Int32)), .val (.int (0 : Int32)), .val (.int (1 : Int32)), .unset] [])) _
        refine XS.iloadN X9.here hx rfl (hb hby at_77) rfl ?_
        show Steps p.tables e below (T9.setTop (mkF m 78 #[.val (.int i0), .val (.int i1), .val (.ref b1), .val (.int (0 : Int32)), .val (.ref w0), .val (.int (0 : Int32)), .val (.int (0 : Int32)), .val (.int (1 : Int32)), .unset] [(.int (0 : Int32))])) _
        refine XS.ifNo X9.here hx rfl (hb hby at_78) rfl (by decide) ?_
        show Steps p.tables e below (T9.setTop (mkF m 81 #[.val (.int i0), .val (.int i1), .val (.ref b1), .val (.int (0 : Int32)), .val (.ref w0), .val (.int (0 : Int32)), .val (.int (0 : Int32)), .val (.int (1 : Int32)), .unset] [])) _
        refine XS.iload X9.here hx rfl (hb hby at_81) rfl ?_
        show Steps p.tables e below (T9.setTop (mkF m 83 #[.val (.int i0), .val (.int i1), .val (.ref b1), .val (.int (0 : Int32)), .val (.ref w0), .val (.int (0 : Int32)), .val (.int (0 : Int32)), .val (.int (1 : Int32)), .unset] [(.int (0 : Int32))])) _
        refine XS.istore X9.here hx rfl (hb hby at_83) rfl (l' := #[.val (.int i0), .val (.int i1), .val (.ref b1), .val (.int (0 : Int32)), .val (.ref w0), .val (.int (0 : Int32)), .val (.int (0 : Int32)), .val (.int (1 : Int32)), .val (.int (0 : Int32))]) rfl ?_
        show Steps p.tables e below (T9.setTop (mkF m 85 #[.val (.int i0), .val (.int i1), .val (.ref b1), .val (.int (0 : Int32)), .val (.ref w0), .val (.int (0 : Int32)), .val (.int (0 : Int32)), .val (.int (1 : Int32)), .val (.int (0 : Int32))] [])) _
        refine XS.goto X9.here hx rfl (pc0 := 85) (pc' := 142) rfl (hb hby at_85) (by decide) (by decide) ?_
        show Steps p.tables e below (T9.setTop (mkF m 142 #[.val (.int i0), .val (.int i1), .val (.ref b1), .val (.int (0 : Int32)), .val (.ref w0), .val (.int (0 : Int32)), .val (.int (0 : Int32)), .val (.int (1 : Int32)), .val (.int (0 : Int32))] [])) _
        refine XS.aload X9.here hx rfl (hb hby at_142) rfl rfl ?_
        show Steps p.tables e below (T9.setTop (mkF m 144 #[.val (.int i0), .val (.int i1), .val (.ref b1), .val (.int (0 : Int32)), .val (.ref w0), .val (.int (0 : Int32)), .val (.int (0 : Int32)), .val (.int (1 : Int32)), .val (.int (0 : Int32))] [(.ref w0)])) _
        refine XS.iloadN X9.here hx rfl (hb hby at_144) rfl ?_
        show Steps p.tables e below (T9.setTop (mkF m 145 #[.val (.int i0), .val (.int i1), .val (.ref b1), .val (.int (0 : Int32)), .val (.ref w0), .val (.int (0 : Int32)), .val (.int (0 : Int32)), .val (.int (1 : Int32)), .val (.int (0 : Int32))] [(.int i1), (.ref w0)])) _
        refine st26.trans ?_
        show Steps p.tables e below (T26.setTop (mkF m 148 #[.val (.int i0), .val (.int i1), .val (.ref b1), .val (.int (0 : Int32)), .val (.ref w0), .val (.int (0 : Int32)), .val (.int (0 : Int32)), .val (.int (1 : Int32)), .val (.int (0 : Int32))] [(.int (0 : Int32))])) _
        refine XS.iload X26.here hx rfl (hb hby at_148) rfl ?_
        show Steps p.tables e below (T26.setTop (mkF m 150 #[.val (.int i0), .val (.int i1), .val (.ref b1), .val (.int (0 : Int32)), .val (.ref w0), .val (.int (0 : Int32)), .val (.int (0 : Int32)), .val (.int (1 : Int32)), .val (.int (0 : Int32))] [(.int (0 : Int32)), (.int (0 : Int32))])) _
        refine XS.icmpNo X26.here hx rfl (hb hby at_150) rfl (by decide) ?_
        show Steps p.tables e below (T26.setTop (mkF m 153 #[.val (.int i0), .val (.int i1), .val (.ref b1), .val (.int (0 : Int32)), .val (.ref w0), .val (.int (0 : Int32)), .val (.int (0 : Int32)), .val (.int (1 : Int32)), .val (.int (0 : Int32))] [])) _
        refine XS.iconst X26.here hx rfl (hb hby at_153) ?_
        show Steps p.tables e below (T26.setTop (mkF m 154 #[.val (.int i0), .val (.int i1), .val (.ref b1), .val (.int (0 : Int32)), .val (.ref w0), .val (.int (0 : Int32)), .val (.int (0 : Int32)), .val (.int (1 : Int32)), .val (.int (0 : Int32))] [(.int (1 : Int32))])) _
        refine XS.goto X26.here hx rfl (pc0 := 154) (pc' := 158) rfl (hb hby at_154) (by decide) (by decide) ?_
        show Steps p.tables e below (T26.setTop (mkF m 158 #[.val (.int i0), .val (.int i1), .val (.ref b1), .val (.int (0 : Int32)), .val (.ref w0), .val (.int (0 : Int32)), .val (.int (0 : Int32)), .val (.int (1 : Int32)), .val (.int (0 : Int32))] [(.int (1 : Int32))])) _
        exact retN X26 hx (t := .boolean) Bd.returns (by simp) (hb hby at_158) hr
      · show Ql n0 _ T26.heap _
        exact ⟨rfl, N26⟩
  · obtain ⟨cl27, Ar27, q27, S27, M27, H27, G27⟩ := V9
    have hin27 : ¬ ((1 : Int32) < 0 ∨ cl27.slots.size ≤ ((1 : Int32)).toNatClampNeg) := inb_of S27 ⟨by decide, by decide⟩
    have hat27 : cl27.slots[((1 : Int32)).toNatClampNeg]? = some (.ref w1) := Has.at H27 hin27 rfl
    have pre28 : ∀ t, Steps p.tables e below (T9.setTop (mkF m 39 #[.val (.int i0), .val (.int i1), .val (.ref b1), .val (.int (1 : Int32)), .val (.ref w1), .unset, .unset, .unset, .unset] [(.int i1)])) t → Steps p.tables e below (s₁.setTop (entryFrame m #[(.int i0), (.int i1)] maxLocals)) t := by
      intro t k
      refine pre10 _ ?_
      show Steps p.tables e below (T9.setTop (mkF m 31 #[.val (.int i0), .val (.int i1), .val (.ref b1), .unset, .unset, .unset, .unset, .unset, .unset] [(.int (3 : Int32)), (.int i0)])) _
      refine XS.iand X9.here hx rfl (hb hby at_31) rfl ?_
      show Steps p.tables e below (T9.setTop (mkF m 32 #[.val (.int i0), .val (.int i1), .val (.ref b1), .unset, .unset, .unset, .unset, .unset, .unset] [(.int (i0 &&& (3 : Int32)))])) _
      rw [hk12]
      show Steps p.tables e below (T9.setTop (mkF m 32 #[.val (.int i0), .val (.int i1), .val (.ref b1), .unset, .unset, .unset, .unset, .unset, .unset] [(.int (1 : Int32))])) _
      refine XS.istoreN X9.here hx rfl (hb hby at_32) rfl (l' := #[.val (.int i0), .val (.int i1), .val (.ref b1), .val (.int (1 : Int32)), .unset, .unset, .unset, .unset, .unset]) rfl ?_
      show Steps p.tables e below (T9.setTop (mkF m 33 #[.val (.int i0), .val (.int i1), .val (.ref b1), .val (.int (1 : Int32)), .unset, .unset, .unset, .unset, .unset] [])) _
      refine XS.aloadN X9.here hx rfl (hb hby at_33) rfl rfl ?_
      show Steps p.tables e below (T9.setTop (mkF m 34 #[.val (.int i0), .val (.int i1), .val (.ref b1), .val (.int (1 : Int32)), .unset, .unset, .unset, .unset, .unset] [(.ref b1)])) _
      refine XS.iloadN X9.here hx rfl (hb hby at_34) rfl ?_
      show Steps p.tables e below (T9.setTop (mkF m 35 #[.val (.int i0), .val (.int i1), .val (.ref b1), .val (.int (1 : Int32)), .unset, .unset, .unset, .unset, .unset] [(.int (1 : Int32)), (.ref b1)])) _
      refine X9.aaload hx (j := (1 : Int32)) (v := (.ref w1)) (by rw [e9]; exact Ar27.1) (State.isArrayOf_alike hZ.alike Ar27.2.1) rfl Ar27.2.2 hin27 hat27 (g := (mkF m 35 #[.val (.int i0), .val (.int i1), .val (.ref b1), .val (.int (1 : Int32)), .unset, .unset, .unset, .unset, .unset] [(.int (1 : Int32)), (.ref b1)])) rfl rfl (hb hby at_35) _ ?_
      show Steps p.tables e below (T9.setTop (mkF m 36 #[.val (.int i0), .val (.int i1), .val (.ref b1), .val (.int (1 : Int32)), .unset, .unset, .unset, .unset, .unset] [(.ref w1)])) _
      refine XS.astore X9.here hx rfl (hb hby at_36) rfl rfl (l' := #[.val (.int i0), .val (.int i1), .val (.ref b1), .val (.int (1 : Int32)), .val (.ref w1), .unset, .unset, .unset, .unset]) rfl ?_
      show Steps p.tables e below (T9.setTop (mkF m 38 #[.val (.int i0), .val (.int i1), .val (.ref b1), .val (.int (1 : Int32)), .val (.ref w1), .unset, .unset, .unset, .unset] [])) _
      refine XS.iloadN X9.here hx rfl (hb hby at_38) rfl ?_
      show Steps p.tables e below (T9.setTop (mkF m 39 #[.val (.int i0), .val (.int i1), .val (.ref b1), .val (.int (1 : Int32)), .val (.ref w1), .unset, .unset, .unset, .unset] [(.int i1)])) _
      exact k
    rcases own_sign i1 with ⟨ha29, hb29, hc29⟩ | ⟨ha30, hb30, hc30⟩ | ⟨ha31, hb31, hc31⟩
    · obtain ⟨cq34, kq34, q34a, q34b, q34c⟩ := isOf hZ e9 (wE1.ext O_9.2)
      obtain ⟨_, _, ⟨T34, L34, k34, n34⟩, -, X34, ⟨Lc34, hQ34, l34, y34, z34⟩, st34⟩ := X9.virtualBack hx (y := (⟨"com/example/seneschal/seneschal/model/Comparison", "holds", "(I)Z"⟩ : MethodName)) (z := (⟨"com/example/seneschal/seneschal/model/Comparison", "holds", "(I)Z"⟩ : MethodName)) hown (mvT hZ (hw _ (List.mem_of_getElem? (i := 12) rfl))) (mvT hZ (hw _ (List.mem_of_getElem? (i := 13) rfl))) (notFace_of_selects (args := #[]) (mvT hZ (hw _ (List.mem_of_getElem? (i := 15) rfl)))) (mvT hZ (hw _ (List.mem_of_getElem? (i := 15) rfl))) (mvT hZ (hw _ (List.mem_of_getElem? (i := 14) rfl))) (by decide) (backOf (W := 0) (rm5 l Z a0 hw [] w0 w1 w2 w3 i1 h9 n0 hWd O_9 ha29 hb29 hc29) hZ (hw _ (List.mem_of_getElem? (i := 16) rfl)) (hw _ (List.mem_of_getElem? (i := 3) rfl)) (by decide) (by decide)) q34a q34c (g := (mkF m 145 #[.val (.int i0), .val (.int i1), .val (.ref b1), .val (.int (1 : Int32)), .val (.ref w1), .val (.int (1 : Int32)), .val (.int (0 : Int32)), .val (.int (0 : Int32)), .val (.int (1 : Int32))] [(.int i1), (.ref w1)])) rfl (by rw [hml]; rfl) (Steps.refl _) (argsL := [(.int i1)]) (rest := []) (lenOf pd1 rfl) rfl (by show 2 * 0 + _ ≤ _; exact Nat.le_of_eq rfl) (hb hby at_145) (fun _ _ => ⟨rfl, e9, (by decide : 1 + 0 ≤ _), (by decide : 4 + 0 ≤ _)⟩)
      dsimp only [Pt.U, Pt.locs, Pt.cells, Pt.slots] at X34 l34 y34 z34 st34 hQ34
      subst l34 y34 z34
      obtain ⟨rfl, N34q, e34⟩ := hQ34
      have N34 := Fr.app N9 N34q
      obtain ⟨fs, hr, hrun, hended, hWr, hsame⟩ := X34.leave (v := some (.int (1 : Int32))) (fun h => by rw [Bd.returns] at h; cases h)
      refine ⟨_, _, pre28 _ ?_, hrun, hended, _, _, rfl, ?_, ⟨_, rfl⟩, hWr, hsame.mono (Nat.le_of_ble_eq_true rfl) (Nat.le_of_ble_eq_true rfl)⟩
      · show Steps p.tables e below (T9.setTop (mkF m 39 #[.val (.int i0), .val (.int i1), .val (.ref b1), .val (.int (1 : Int32)), .val (.ref w1), .unset, .unset, .unset, .unset] [(.int i1)])) _
        refine XS.ifNo X9.here hx rfl (hb hby at_39) rfl ((if0 _ _).trans (tlt ha29).2.1) ?_
        show Steps p.tables e below (T9.setTop (mkF m 42 #[.val (.int i0), .val (.int i1), .val (.ref b1), .val (.int (1 : Int32)), .val (.ref w1), .unset, .unset, .unset, .unset] [])) _
        refine XS.iconst X9.here hx rfl (hb hby at_42) ?_
        show Steps p.tables e below (T9.setTop (mkF m 43 #[.val (.int i0), .val (.int i1), .val (.ref b1), .val (.int (1 : Int32)), .val (.ref w1), .unset, .unset, .unset, .unset] [(.int (1 : Int32))])) _
        refine XS.goto X9.here hx rfl (pc0 := 43) (pc' := 47) rfl (hb hby at_43) (by decide) (by decide) ?_
        show Steps p.tables e below (T9.setTop (mkF m 47 #[.val (.int i0), .val (.int i1), .val (.ref b1), .val (.int (1 : Int32)), .val (.ref w1), .unset, .unset, .unset, .unset] [(.int (1 : Int32))])) _
        refine XS.istore X9.here hx rfl (hb hby at_47) rfl (l' := #[.val (.int i0), .val (.int i1), .val (.ref b1), .val (.int (1 : Int32)), .val (.ref w1), .val (.int (1 : Int32)), .unset, .unset, .unset]) rfl ?_
        show Steps p.tables e below (T9.setTop (mkF m 49 #[.val (.int i0), .val (.int i1), .val (.ref b1), .val (.int (1 : Int32)), .val (.ref w1), .val (.int (1 : Int32)), .unset, .unset, .unset] [])) _
        refine XS.iloadN X9.here hx rfl (hb hby at_49) rfl ?_
        show Steps p.tables e below (T9.setTop (mkF m 50 #[.val (.int i0), .val (.int i1), .val (.ref b1), .val (.int (1 : Int32)), .val (.ref w1), .val (.int (1 : Int32)), .unset, .unset, .unset] [(.int i1)])) _
        refine XS.ifYes X9.here hx rfl (pc0 := 50) (pc' := 57) rfl (hb hby at_50) rfl ((if0 _ _).trans (feq hc29).2) (by decide) (by decide) ?_
        show Steps p.tables e below (T9.setTop (mkF m 57 #[.val (.int i0), .val (.int i1), .val (.ref b1), .val (.int (1 : Int32)), .val (.ref w1), .val (.int (1 : Int32)), .unset, .unset, .unset] [])) _
        refine XS.iconst X9.here hx rfl (hb hby at_57) ?_
        show Steps p.tables e below (T9.setTop (mkF m 58 #[.val (.int i0), .val (.int i1), .val (.ref b1), .val (.int (1 : Int32)), .val (.ref w1), .val (.int (1 : Int32)), .unset, .unset, .unset] [(.int (0 : Int32))])) _
        refine XS.istore X9.here hx rfl (hb hby at_58) rfl (l' := #[.val (.int i0), .val (.int i1), .val (.ref b1), .val (.int (1 : Int32)), .val (.ref w1), .val (.int (1 : Int32)), .val (.int (0 : Int32)), .unset, .unset]) rfl ?_
        show Steps p.tables e below (T9.setTop (mkF m 60 #[.val (.int i0), .val (.int i1), .val (.ref b1), .val (.int (1 : Int32)), .val (.ref w1), .val (.int (1 : Int32)), .val (.int (0 : Int32)), .unset, .unset] [])) _
        refine XS.iload X9.here hx rfl (hb hby at_60) rfl ?_
        show Steps p.tables e below (T9.setTop (mkF m 62 #[.val (.int i0), .val (.int i1), .val (.ref b1), .val (.int (1 : Int32)), .val (.ref w1), .val (.int (1 : Int32)), .val (.int (0 : Int32)), .unset, .unset] [(.int (1 : Int32))])) _
        refine XS.ifYes X9.here hx rfl (pc0 := 62) (pc' := 74) rfl (hb hby at_62) rfl (by decide) (by decide) (by decide) ?_
        show Steps p.tables e below (T9.setTop (mkF m 74 #[.val (.int i0), .val (.int i1), .val (.ref b1), .val (.int (1 : Int32)), .val (.ref w1), .val (.int (1 : Int32)), .val (.int (0 : Int32)), .unset, .unset] [])) _
        refine XS.iconst X9.here hx rfl (hb hby at_74) ?_
        show Steps p.tables e below (T9.setTop (mkF m 75 #[.val (.int i0), .val (.int i1), .val (.ref b1), .val (.int (1 : Int32)), .val (.ref w1), .val (.int (1 : Int32)), .val (.int (0 : Int32)), .unset, .unset] [(.int (0 : Int32))])) _
        refine XS.istore X9.here hx rfl (hb hby at_75) rfl (l' := #[.val (.int i0), .val (.int i1), .val (.ref b1), .val (.int (1 : Int32)), .val (.ref w1), .val (.int (1 : Int32)), .val (.int (0 : Int32)), .val (.int (0 : Int32)), .unset]) rfl ?_
        show Steps p.tables e below (T9.setTop (mkF m 77 #[.val (.int i0), .val (.int i1), .val (.ref b1), .val (.int (1 : Int32)), .val (.ref w1), .val (.int (1 : Int32)), .val (.int (0 : Int32)), .val (.int (0 : Int32)), .unset] [])) _
        refine XS.iloadN X9.here hx rfl (hb hby at_77) rfl ?_
        show Steps p.tables e below (T9.setTop (mkF m 78 #[.val (.int i0), .val (.int i1), .val (.ref b1), .val (.int (1 : Int32)), .val (.ref w1), .val (.int (1 : Int32)), .val (.int (0 : Int32)), .val (.int (0 : Int32)), .unset] [(.int (1 : Int32))])) _
        refine XS.ifYes X9.here hx rfl (pc0 := 78) (pc' := 88) rfl (hb hby at_78) rfl (by decide) (by decide) (by decide) ?_
        show Steps p.tables e below (T9.setTop (mkF m 88 #[.val (.int i0), .val (.int i1), .val (.ref b1), .val (.int (1 : Int32)), .val (.ref w1), .val (.int (1 : Int32)), .val (.int (0 : Int32)), .val (.int (0 : Int32)), .unset] [])) _
        refine XS.iloadN X9.here hx rfl (hb hby at_88) rfl ?_
        show Steps p.tables e below (T9.setTop (mkF m 89 #[.val (.int i0), .val (.int i1), .val (.ref b1), .val (.int (1 : Int32)), .val (.ref w1), .val (.int (1 : Int32)), .val (.int (0 : Int32)), .val (.int (0 : Int32)), .unset] [(.int (1 : Int32))])) _
        refine XS.iconst X9.here hx rfl (hb hby at_89) ?_
        show Steps p.tables e below (T9.setTop (mkF m 90 #[.val (.int i0), .val (.int i1), .val (.ref b1), .val (.int (1 : Int32)), .val (.ref w1), .val (.int (1 : Int32)), .val (.int (0 : Int32)), .val (.int (0 : Int32)), .unset] [(.int (1 : Int32)), (.int (1 : Int32))])) _
        refine XS.icmpNo X9.here hx rfl (hb hby at_90) rfl (by decide) ?_
        show Steps p.tables e below (T9.setTop (mkF m 93 #[.val (.int i0), .val (.int i1), .val (.ref b1), .val (.int (1 : Int32)), .val (.ref w1), .val (.int (1 : Int32)), .val (.int (0 : Int32)), .val (.int (0 : Int32)), .unset] [])) _
        refine XS.iload X9.here hx rfl (hb hby at_93) rfl ?_
        show Steps p.tables e below (T9.setTop (mkF m 95 #[.val (.int i0), .val (.int i1), .val (.ref b1), .val (.int (1 : Int32)), .val (.ref w1), .val (.int (1 : Int32)), .val (.int (0 : Int32)), .val (.int (0 : Int32)), .unset] [(.int (1 : Int32))])) _
        refine XS.ifYes X9.here hx rfl (pc0 := 95) (pc' := 103) rfl (hb hby at_95) rfl (by decide) (by decide) (by decide) ?_
        show Steps p.tables e below (T9.setTop (mkF m 103 #[.val (.int i0), .val (.int i1), .val (.ref b1), .val (.int (1 : Int32)), .val (.ref w1), .val (.int (1 : Int32)), .val (.int (0 : Int32)), .val (.int (0 : Int32)), .unset] [])) _
        refine XS.iconst X9.here hx rfl (hb hby at_103) ?_
        show Steps p.tables e below (T9.setTop (mkF m 104 #[.val (.int i0), .val (.int i1), .val (.ref b1), .val (.int (1 : Int32)), .val (.ref w1), .val (.int (1 : Int32)), .val (.int (0 : Int32)), .val (.int (0 : Int32)), .unset] [(.int (1 : Int32))])) _
        refine XS.goto X9.here hx rfl (pc0 := 104) (pc' := 108) rfl (hb hby at_104) (by decide) (by decide) ?_
        show Steps p.tables e below (T9.setTop (mkF m 108 #[.val (.int i0), .val (.int i1), .val (.ref b1), .val (.int (1 : Int32)), .val (.ref w1), .val (.int (1 : Int32)), .val (.int (0 : Int32)), .val (.int (0 : Int32)), .unset] [(.int (1 : Int32))])) _
        refine XS.istore X9.here hx rfl (hb hby at_108) rfl (l' := #[.val (.int i0), .val (.int i1), .val (.ref b1), .val (.int (1 : Int32)), .val (.ref w1), .val (.int (1 : Int32)), .val (.int (0 : Int32)), .val (.int (0 : Int32)), .val (.int (1 : Int32))]) rfl ?_
        show Steps p.tables e below (T9.setTop (mkF m 110 #[.val (.int i0), .val (.int i1), .val (.ref b1), .val (.int (1 : Int32)), .val (.ref w1), .val (.int (1 : Int32)), .val (.int (0 : Int32)), .val (.int (0 : Int32)), .val (.int (1 : Int32))] [])) _
        refine XS.goto X9.here hx rfl (pc0 := 110) (pc' := 142) rfl (hb hby at_110) (by decide) (by decide) ?_
        show Steps p.tables e below (T9.setTop (mkF m 142 #[.val (.int i0), .val (.int i1), .val (.ref b1), .val (.int (1 : Int32)), .val (.ref w1), .val (.int (1 : Int32)), .val (.int (0 : Int32)), .val (.int (0 : Int32)), .val (.int (1 : Int32))] [])) _
        refine XS.aload X9.here hx rfl (hb hby at_142) rfl rfl ?_
        show Steps p.tables e below (T9.setTop (mkF m 144 #[.val (.int i0), .val (.int i1), .val (.ref b1), .val (.int (1 : Int32)), .val (.ref w1), .val (.int (1 : Int32)), .val (.int (0 : Int32)), .val (.int (0 : Int32)), .val (.int (1 : Int32))] [(.ref w1)])) _
        refine XS.iloadN X9.here hx rfl (hb hby at_144) rfl ?_
        show Steps p.tables e below (T9.setTop (mkF m 145 #[.val (.int i0), .val (.int i1), .val (.ref b1), .val (.int (1 : Int32)), .val (.ref w1), .val (.int (1 : Int32)), .val (.int (0 : Int32)), .val (.int (0 : Int32)), .val (.int (1 : Int32))] [(.int i1), (.ref w1)])) _
        refine st34.trans ?_
        show Steps p.tables e below (T34.setTop (mkF m 148 #[.val (.int i0), .val (.int i1), .val (.ref b1), .val (.int (1 : Int32)), .val (.ref w1), .val (.int (1 : Int32)), .val (.int (0 : Int32)), .val (.int (0 : Int32)), .val (.int (1 : Int32))] [(.int (1 : Int32))])) _
        refine XS.iload X34.here hx rfl (hb hby at_148) rfl ?_
        show Steps p.tables e below (T34.setTop (mkF m 150 #[.val (.int i0), .val (.int i1), .val (.ref b1), .val (.int (1 : Int32)), .val (.ref w1), .val (.int (1 : Int32)), .val (.int (0 : Int32)), .val (.int (0 : Int32)), .val (.int (1 : Int32))] [(.int (1 : Int32)), (.int (1 : Int32))])) _
        refine XS.icmpNo X34.here hx rfl (hb hby at_150) rfl (by decide) ?_
        show Steps p.tables e below (T34.setTop (mkF m 153 #[.val (.int i0), .val (.int i1), .val (.ref b1), .val (.int (1 : Int32)), .val (.ref w1), .val (.int (1 : Int32)), .val (.int (0 : Int32)), .val (.int (0 : Int32)), .val (.int (1 : Int32))] [])) _
        refine XS.iconst X34.here hx rfl (hb hby at_153) ?_
        show Steps p.tables e below (T34.setTop (mkF m 154 #[.val (.int i0), .val (.int i1), .val (.ref b1), .val (.int (1 : Int32)), .val (.ref w1), .val (.int (1 : Int32)), .val (.int (0 : Int32)), .val (.int (0 : Int32)), .val (.int (1 : Int32))] [(.int (1 : Int32))])) _
        refine XS.goto X34.here hx rfl (pc0 := 154) (pc' := 158) rfl (hb hby at_154) (by decide) (by decide) ?_
        show Steps p.tables e below (T34.setTop (mkF m 158 #[.val (.int i0), .val (.int i1), .val (.ref b1), .val (.int (1 : Int32)), .val (.ref w1), .val (.int (1 : Int32)), .val (.int (0 : Int32)), .val (.int (0 : Int32)), .val (.int (1 : Int32))] [(.int (1 : Int32))])) _
        exact retN X34 hx (t := .boolean) Bd.returns (by simp) (hb hby at_158) hr
      · show Ql n0 _ T34.heap _
        exact ⟨rfl, N34⟩
    · obtain ⟨cq36, kq36, q36a, q36b, q36c⟩ := isOf hZ e9 (wE1.ext O_9.2)
      obtain ⟨_, _, ⟨T36, L36, k36, n36⟩, -, X36, ⟨Lc36, hQ36, l36, y36, z36⟩, st36⟩ := X9.virtualBack hx (y := (⟨"com/example/seneschal/seneschal/model/Comparison", "holds", "(I)Z"⟩ : MethodName)) (z := (⟨"com/example/seneschal/seneschal/model/Comparison", "holds", "(I)Z"⟩ : MethodName)) hown (mvT hZ (hw _ (List.mem_of_getElem? (i := 12) rfl))) (mvT hZ (hw _ (List.mem_of_getElem? (i := 13) rfl))) (notFace_of_selects (args := #[]) (mvT hZ (hw _ (List.mem_of_getElem? (i := 15) rfl)))) (mvT hZ (hw _ (List.mem_of_getElem? (i := 15) rfl))) (mvT hZ (hw _ (List.mem_of_getElem? (i := 14) rfl))) (by decide) (backOf (W := 0) (rm7 l Z a0 hw [] w0 w1 w2 w3 i1 h9 n0 hWd O_9 ha30 hb30 hc30) hZ (hw _ (List.mem_of_getElem? (i := 16) rfl)) (hw _ (List.mem_of_getElem? (i := 3) rfl)) (by decide) (by decide)) q36a q36c (g := (mkF m 145 #[.val (.int i0), .val (.int i1), .val (.ref b1), .val (.int (1 : Int32)), .val (.ref w1), .val (.int (0 : Int32)), .val (.int (1 : Int32)), .val (.int (0 : Int32)), .val (.int (1 : Int32))] [(.int i1), (.ref w1)])) rfl (by rw [hml]; rfl) (Steps.refl _) (argsL := [(.int i1)]) (rest := []) (lenOf pd1 rfl) rfl (by show 2 * 0 + _ ≤ _; exact Nat.le_of_eq rfl) (hb hby at_145) (fun _ _ => ⟨rfl, e9, (by decide : 1 + 0 ≤ _), (by decide : 4 + 0 ≤ _)⟩)
      dsimp only [Pt.U, Pt.locs, Pt.cells, Pt.slots] at X36 l36 y36 z36 st36 hQ36
      subst l36 y36 z36
      obtain ⟨rfl, N36q, e36⟩ := hQ36
      have N36 := Fr.app N9 N36q
      obtain ⟨fs, hr, hrun, hended, hWr, hsame⟩ := X36.leave (v := some (.int (1 : Int32))) (fun h => by rw [Bd.returns] at h; cases h)
      refine ⟨_, _, pre28 _ ?_, hrun, hended, _, _, rfl, ?_, ⟨_, rfl⟩, hWr, hsame.mono (Nat.le_of_ble_eq_true rfl) (Nat.le_of_ble_eq_true rfl)⟩
      · show Steps p.tables e below (T9.setTop (mkF m 39 #[.val (.int i0), .val (.int i1), .val (.ref b1), .val (.int (1 : Int32)), .val (.ref w1), .unset, .unset, .unset, .unset] [(.int i1)])) _
        refine XS.ifYes X9.here hx rfl (pc0 := 39) (pc' := 46) rfl (hb hby at_39) rfl ((if0 _ _).trans (flt ha30).2.1) (by decide) (by decide) ?_
        show Steps p.tables e below (T9.setTop (mkF m 46 #[.val (.int i0), .val (.int i1), .val (.ref b1), .val (.int (1 : Int32)), .val (.ref w1), .unset, .unset, .unset, .unset] [])) _
        refine XS.iconst X9.here hx rfl (hb hby at_46) ?_
        show Steps p.tables e below (T9.setTop (mkF m 47 #[.val (.int i0), .val (.int i1), .val (.ref b1), .val (.int (1 : Int32)), .val (.ref w1), .unset, .unset, .unset, .unset] [(.int (0 : Int32))])) _
        refine XS.istore X9.here hx rfl (hb hby at_47) rfl (l' := #[.val (.int i0), .val (.int i1), .val (.ref b1), .val (.int (1 : Int32)), .val (.ref w1), .val (.int (0 : Int32)), .unset, .unset, .unset]) rfl ?_
        show Steps p.tables e below (T9.setTop (mkF m 49 #[.val (.int i0), .val (.int i1), .val (.ref b1), .val (.int (1 : Int32)), .val (.ref w1), .val (.int (0 : Int32)), .unset, .unset, .unset] [])) _
        refine XS.iloadN X9.here hx rfl (hb hby at_49) rfl ?_
        show Steps p.tables e below (T9.setTop (mkF m 50 #[.val (.int i0), .val (.int i1), .val (.ref b1), .val (.int (1 : Int32)), .val (.ref w1), .val (.int (0 : Int32)), .unset, .unset, .unset] [(.int i1)])) _
        refine XS.ifNo X9.here hx rfl (hb hby at_50) rfl ((if0 _ _).trans (teq hc30).2) ?_
        show Steps p.tables e below (T9.setTop (mkF m 53 #[.val (.int i0), .val (.int i1), .val (.ref b1), .val (.int (1 : Int32)), .val (.ref w1), .val (.int (0 : Int32)), .unset, .unset, .unset] [])) _
        refine XS.iconst X9.here hx rfl (hb hby at_53) ?_
        show Steps p.tables e below (T9.setTop (mkF m 54 #[.val (.int i0), .val (.int i1), .val (.ref b1), .val (.int (1 : Int32)), .val (.ref w1), .val (.int (0 : Int32)), .unset, .unset, .unset] [(.int (1 : Int32))])) _
        refine XS.goto X9.here hx rfl (pc0 := 54) (pc' := 58) rfl (hb hby at_54) (by decide) (by decide) ?_
        show Steps p.tables e below (T9.setTop (mkF m 58 #[.val (.int i0), .val (.int i1), .val (.ref b1), .val (.int (1 : Int32)), .val (.ref w1), .val (.int (0 : Int32)), .unset, .unset, .unset] [(.int (1 : Int32))])) _
        refine XS.istore X9.here hx rfl (hb hby at_58) rfl (l' := #[.val (.int i0), .val (.int i1), .val (.ref b1), .val (.int (1 : Int32)), .val (.ref w1), .val (.int (0 : Int32)), .val (.int (1 : Int32)), .unset, .unset]) rfl ?_
        show Steps p.tables e below (T9.setTop (mkF m 60 #[.val (.int i0), .val (.int i1), .val (.ref b1), .val (.int (1 : Int32)), .val (.ref w1), .val (.int (0 : Int32)), .val (.int (1 : Int32)), .unset, .unset] [])) _
        refine XS.iload X9.here hx rfl (hb hby at_60) rfl ?_
        show Steps p.tables e below (T9.setTop (mkF m 62 #[.val (.int i0), .val (.int i1), .val (.ref b1), .val (.int (1 : Int32)), .val (.ref w1), .val (.int (0 : Int32)), .val (.int (1 : Int32)), .unset, .unset] [(.int (0 : Int32))])) _
        refine XS.ifNo X9.here hx rfl (hb hby at_62) rfl (by decide) ?_
        show Steps p.tables e below (T9.setTop (mkF m 65 #[.val (.int i0), .val (.int i1), .val (.ref b1), .val (.int (1 : Int32)), .val (.ref w1), .val (.int (0 : Int32)), .val (.int (1 : Int32)), .unset, .unset] [])) _
        refine XS.iload X9.here hx rfl (hb hby at_65) rfl ?_
        show Steps p.tables e below (T9.setTop (mkF m 67 #[.val (.int i0), .val (.int i1), .val (.ref b1), .val (.int (1 : Int32)), .val (.ref w1), .val (.int (0 : Int32)), .val (.int (1 : Int32)), .unset, .unset] [(.int (1 : Int32))])) _
        refine XS.ifYes X9.here hx rfl (pc0 := 67) (pc' := 74) rfl (hb hby at_67) rfl (by decide) (by decide) (by decide) ?_
        show Steps p.tables e below (T9.setTop (mkF m 74 #[.val (.int i0), .val (.int i1), .val (.ref b1), .val (.int (1 : Int32)), .val (.ref w1), .val (.int (0 : Int32)), .val (.int (1 : Int32)), .unset, .unset] [])) _
        refine XS.iconst X9.here hx rfl (hb hby at_74) ?_
        show Steps p.tables e below (T9.setTop (mkF m 75 #[.val (.int i0), .val (.int i1), .val (.ref b1), .val (.int (1 : Int32)), .val (.ref w1), .val (.int (0 : Int32)), .val (.int (1 : Int32)), .unset, .unset] [(.int (0 : Int32))])) _
        refine XS.istore X9.here hx rfl (hb hby at_75) rfl (l' := #[.val (.int i0), .val (.int i1), .val (.ref b1), .val (.int (1 : Int32)), .val (.ref w1), .val (.int (0 : Int32)), .val (.int (1 : Int32)), .val (.int (0 : Int32)), .unset]) rfl ?_
        show Steps p.tables e below (T9.setTop (mkF m 77 #[.val (.int i0), .val (.int i1), .val (.ref b1), .val (.int (1 : Int32)), .val (.ref w1), .val (.int (0 : Int32)), .val (.int (1 : Int32)), .val (.int (0 : Int32)), .unset] [])) _
        refine XS.iloadN X9.here hx rfl (hb hby at_77) rfl ?_
        show Steps p.tables e below (T9.setTop (mkF m 78 #[.val (.int i0), .val (.int i1), .val (.ref b1), .val (.int (1 : Int32)), .val (.ref w1), .val (.int (0 : Int32)), .val (.int (1 : Int32)), .val (.int (0 : Int32)), .unset] [(.int (1 : Int32))])) _
        refine XS.ifYes X9.here hx rfl (pc0 := 78) (pc' := 88) rfl (hb hby at_78) rfl (by decide) (by decide) (by decide) ?_
        show Steps p.tables e below (T9.setTop (mkF m 88 #[.val (.int i0), .val (.int i1), .val (.ref b1), .val (.int (1 : Int32)), .val (.ref w1), .val (.int (0 : Int32)), .val (.int (1 : Int32)), .val (.int (0 : Int32)), .unset] [])) _
        refine XS.iloadN X9.here hx rfl (hb hby at_88) rfl ?_
        show Steps p.tables e below (T9.setTop (mkF m 89 #[.val (.int i0), .val (.int i1), .val (.ref b1), .val (.int (1 : Int32)), .val (.ref w1), .val (.int (0 : Int32)), .val (.int (1 : Int32)), .val (.int (0 : Int32)), .unset] [(.int (1 : Int32))])) _
        refine XS.iconst X9.here hx rfl (hb hby at_89) ?_
        show Steps p.tables e below (T9.setTop (mkF m 90 #[.val (.int i0), .val (.int i1), .val (.ref b1), .val (.int (1 : Int32)), .val (.ref w1), .val (.int (0 : Int32)), .val (.int (1 : Int32)), .val (.int (0 : Int32)), .unset] [(.int (1 : Int32)), (.int (1 : Int32))])) _
        refine XS.icmpNo X9.here hx rfl (hb hby at_90) rfl (by decide) ?_
        show Steps p.tables e below (T9.setTop (mkF m 93 #[.val (.int i0), .val (.int i1), .val (.ref b1), .val (.int (1 : Int32)), .val (.ref w1), .val (.int (0 : Int32)), .val (.int (1 : Int32)), .val (.int (0 : Int32)), .unset] [])) _
        refine XS.iload X9.here hx rfl (hb hby at_93) rfl ?_
        show Steps p.tables e below (T9.setTop (mkF m 95 #[.val (.int i0), .val (.int i1), .val (.ref b1), .val (.int (1 : Int32)), .val (.ref w1), .val (.int (0 : Int32)), .val (.int (1 : Int32)), .val (.int (0 : Int32)), .unset] [(.int (0 : Int32))])) _
        refine XS.ifNo X9.here hx rfl (hb hby at_95) rfl (by decide) ?_
        show Steps p.tables e below (T9.setTop (mkF m 98 #[.val (.int i0), .val (.int i1), .val (.ref b1), .val (.int (1 : Int32)), .val (.ref w1), .val (.int (0 : Int32)), .val (.int (1 : Int32)), .val (.int (0 : Int32)), .unset] [])) _
        refine XS.iload X9.here hx rfl (hb hby at_98) rfl ?_
        show Steps p.tables e below (T9.setTop (mkF m 100 #[.val (.int i0), .val (.int i1), .val (.ref b1), .val (.int (1 : Int32)), .val (.ref w1), .val (.int (0 : Int32)), .val (.int (1 : Int32)), .val (.int (0 : Int32)), .unset] [(.int (1 : Int32))])) _
        refine XS.ifNo X9.here hx rfl (hb hby at_100) rfl (by decide) ?_
        show Steps p.tables e below (T9.setTop (mkF m 103 #[.val (.int i0), .val (.int i1), .val (.ref b1), .val (.int (1 : Int32)), .val (.ref w1), .val (.int (0 : Int32)), .val (.int (1 : Int32)), .val (.int (0 : Int32)), .unset] [])) _
        refine XS.iconst X9.here hx rfl (hb hby at_103) ?_
        show Steps p.tables e below (T9.setTop (mkF m 104 #[.val (.int i0), .val (.int i1), .val (.ref b1), .val (.int (1 : Int32)), .val (.ref w1), .val (.int (0 : Int32)), .val (.int (1 : Int32)), .val (.int (0 : Int32)), .unset] [(.int (1 : Int32))])) _
        refine XS.goto X9.here hx rfl (pc0 := 104) (pc' := 108) rfl (hb hby at_104) (by decide) (by decide) ?_
        show Steps p.tables e below (T9.setTop (mkF m 108 #[.val (.int i0), .val (.int i1), .val (.ref b1), .val (.int (1 : Int32)), .val (.ref w1), .val (.int (0 : Int32)), .val (.int (1 : Int32)), .val (.int (0 : Int32)), .unset] [(.int (1 : Int32))])) _
        refine XS.istore X9.here hx rfl (hb hby at_108) rfl (l' := #[.val (.int i0), .val (.int i1), .val (.ref b1), .val (.int (1 : Int32)), .val (.ref w1), .val (.int (0 : Int32)), .val (.int (1 : Int32)), .val (.int (0 : Int32)), .val (.int (1 : Int32))]) rfl ?_
        show Steps p.tables e below (T9.setTop (mkF m 110 #[.val (.int i0), .val (.int i1), .val (.ref b1), .val (.int (1 : Int32)), .val (.ref w1), .val (.int (0 : Int32)), .val (.int (1 : Int32)), .val (.int (0 : Int32)), .val (.int (1 : Int32))] [])) _
        refine XS.goto X9.here hx rfl (pc0 := 110) (pc' := 142) rfl (hb hby at_110) (by decide) (by decide) ?_
        show Steps p.tables e below (T9.setTop (mkF m 142 #[.val (.int i0), .val (.int i1), .val (.ref b1), .val (.int (1 : Int32)), .val (.ref w1), .val (.int (0 : Int32)), .val (.int (1 : Int32)), .val (.int (0 : Int32)), .val (.int (1 : Int32))] [])) _
        refine XS.aload X9.here hx rfl (hb hby at_142) rfl rfl ?_
        show Steps p.tables e below (T9.setTop (mkF m 144 #[.val (.int i0), .val (.int i1), .val (.ref b1), .val (.int (1 : Int32)), .val (.ref w1), .val (.int (0 : Int32)), .val (.int (1 : Int32)), .val (.int (0 : Int32)), .val (.int (1 : Int32))] [(.ref w1)])) _
        refine XS.iloadN X9.here hx rfl (hb hby at_144) rfl ?_
        show Steps p.tables e below (T9.setTop (mkF m 145 #[.val (.int i0), .val (.int i1), .val (.ref b1), .val (.int (1 : Int32)), .val (.ref w1), .val (.int (0 : Int32)), .val (.int (1 : Int32)), .val (.int (0 : Int32)), .val (.int (1 : Int32))] [(.int i1), (.ref w1)])) _
        refine st36.trans ?_
        show Steps p.tables e below (T36.setTop (mkF m 148 #[.val (.int i0), .val (.int i1), .val (.ref b1), .val (.int (1 : Int32)), .val (.ref w1), .val (.int (0 : Int32)), .val (.int (1 : Int32)), .val (.int (0 : Int32)), .val (.int (1 : Int32))] [(.int (1 : Int32))])) _
        refine XS.iload X36.here hx rfl (hb hby at_148) rfl ?_
        show Steps p.tables e below (T36.setTop (mkF m 150 #[.val (.int i0), .val (.int i1), .val (.ref b1), .val (.int (1 : Int32)), .val (.ref w1), .val (.int (0 : Int32)), .val (.int (1 : Int32)), .val (.int (0 : Int32)), .val (.int (1 : Int32))] [(.int (1 : Int32)), (.int (1 : Int32))])) _
        refine XS.icmpNo X36.here hx rfl (hb hby at_150) rfl (by decide) ?_
        show Steps p.tables e below (T36.setTop (mkF m 153 #[.val (.int i0), .val (.int i1), .val (.ref b1), .val (.int (1 : Int32)), .val (.ref w1), .val (.int (0 : Int32)), .val (.int (1 : Int32)), .val (.int (0 : Int32)), .val (.int (1 : Int32))] [])) _
        refine XS.iconst X36.here hx rfl (hb hby at_153) ?_
        show Steps p.tables e below (T36.setTop (mkF m 154 #[.val (.int i0), .val (.int i1), .val (.ref b1), .val (.int (1 : Int32)), .val (.ref w1), .val (.int (0 : Int32)), .val (.int (1 : Int32)), .val (.int (0 : Int32)), .val (.int (1 : Int32))] [(.int (1 : Int32))])) _
        refine XS.goto X36.here hx rfl (pc0 := 154) (pc' := 158) rfl (hb hby at_154) (by decide) (by decide) ?_
        show Steps p.tables e below (T36.setTop (mkF m 158 #[.val (.int i0), .val (.int i1), .val (.ref b1), .val (.int (1 : Int32)), .val (.ref w1), .val (.int (0 : Int32)), .val (.int (1 : Int32)), .val (.int (0 : Int32)), .val (.int (1 : Int32))] [(.int (1 : Int32))])) _
        exact retN X36 hx (t := .boolean) Bd.returns (by simp) (hb hby at_158) hr
      · show Ql n0 _ T36.heap _
        exact ⟨rfl, N36⟩
    · obtain ⟨cq38, kq38, q38a, q38b, q38c⟩ := isOf hZ e9 (wE1.ext O_9.2)
      obtain ⟨_, _, ⟨T38, L38, k38, n38⟩, -, X38, ⟨Lc38, hQ38, l38, y38, z38⟩, st38⟩ := X9.virtualBack hx (y := (⟨"com/example/seneschal/seneschal/model/Comparison", "holds", "(I)Z"⟩ : MethodName)) (z := (⟨"com/example/seneschal/seneschal/model/Comparison", "holds", "(I)Z"⟩ : MethodName)) hown (mvT hZ (hw _ (List.mem_of_getElem? (i := 12) rfl))) (mvT hZ (hw _ (List.mem_of_getElem? (i := 13) rfl))) (notFace_of_selects (args := #[]) (mvT hZ (hw _ (List.mem_of_getElem? (i := 15) rfl)))) (mvT hZ (hw _ (List.mem_of_getElem? (i := 15) rfl))) (mvT hZ (hw _ (List.mem_of_getElem? (i := 14) rfl))) (by decide) (backOf (W := 0) (rm8 l Z a0 hw [] w0 w1 w2 w3 i1 h9 n0 hWd O_9 ha31 hb31 hc31) hZ (hw _ (List.mem_of_getElem? (i := 16) rfl)) (hw _ (List.mem_of_getElem? (i := 3) rfl)) (by decide) (by decide)) q38a q38c (g := (mkF m 145 #[.val (.int i0), .val (.int i1), .val (.ref b1), .val (.int (1 : Int32)), .val (.ref w1), .val (.int (0 : Int32)), .val (.int (0 : Int32)), .val (.int (1 : Int32)), .val (.int (0 : Int32))] [(.int i1), (.ref w1)])) rfl (by rw [hml]; rfl) (Steps.refl _) (argsL := [(.int i1)]) (rest := []) (lenOf pd1 rfl) rfl (by show 2 * 0 + _ ≤ _; exact Nat.le_of_eq rfl) (hb hby at_145) (fun _ _ => ⟨rfl, e9, (by decide : 1 + 0 ≤ _), (by decide : 4 + 0 ≤ _)⟩)
      dsimp only [Pt.U, Pt.locs, Pt.cells, Pt.slots] at X38 l38 y38 z38 st38 hQ38
      subst l38 y38 z38
      obtain ⟨rfl, N38q, e38⟩ := hQ38
      have N38 := Fr.app N9 N38q
      obtain ⟨fs, hr, hrun, hended, hWr, hsame⟩ := X38.leave (v := some (.int (1 : Int32))) (fun h => by rw [Bd.returns] at h; cases h)
      refine ⟨_, _, pre28 _ ?_, hrun, hended, _, _, rfl, ?_, ⟨_, rfl⟩, hWr, hsame.mono (Nat.le_of_ble_eq_true rfl) (Nat.le_of_ble_eq_true rfl)⟩
      · show Steps p.tables e below (T9.setTop (mkF m 39 #[.val (.int i0), .val (.int i1), .val (.ref b1), .val (.int (1 : Int32)), .val (.ref w1), .unset, .unset, .unset, .unset] [(.int i1)])) _
        refine XS.ifYes X9.here hx rfl (pc0 := 39) (pc' := 46) rfl (hb hby at_39) rfl ((if0 _ _).trans (flt ha31).2.1) (by decide) (by decide) ?_
        show Steps p.tables e below (T9.setTop (mkF m 46 #[.val (.int i0), .val (.int i1), .val (.ref b1), .val (.int (1 : Int32)), .val (.ref w1), .unset, .unset, .unset, .unset] [])) _
        refine XS.iconst X9.here hx rfl (hb hby at_46) ?_
        show Steps p.tables e below (T9.setTop (mkF m 47 #[.val (.int i0), .val (.int i1), .val (.ref b1), .val (.int (1 : Int32)), .val (.ref w1), .unset, .unset, .unset, .unset] [(.int (0 : Int32))])) _
        refine XS.istore X9.here hx rfl (hb hby at_47) rfl (l' := #[.val (.int i0), .val (.int i1), .val (.ref b1), .val (.int (1 : Int32)), .val (.ref w1), .val (.int (0 : Int32)), .unset, .unset, .unset]) rfl ?_
        show Steps p.tables e below (T9.setTop (mkF m 49 #[.val (.int i0), .val (.int i1), .val (.ref b1), .val (.int (1 : Int32)), .val (.ref w1), .val (.int (0 : Int32)), .unset, .unset, .unset] [])) _
        refine XS.iloadN X9.here hx rfl (hb hby at_49) rfl ?_
        show Steps p.tables e below (T9.setTop (mkF m 50 #[.val (.int i0), .val (.int i1), .val (.ref b1), .val (.int (1 : Int32)), .val (.ref w1), .val (.int (0 : Int32)), .unset, .unset, .unset] [(.int i1)])) _
        refine XS.ifYes X9.here hx rfl (pc0 := 50) (pc' := 57) rfl (hb hby at_50) rfl ((if0 _ _).trans (feq hc31).2) (by decide) (by decide) ?_
        show Steps p.tables e below (T9.setTop (mkF m 57 #[.val (.int i0), .val (.int i1), .val (.ref b1), .val (.int (1 : Int32)), .val (.ref w1), .val (.int (0 : Int32)), .unset, .unset, .unset] [])) _
        refine XS.iconst X9.here hx rfl (hb hby at_57) ?_
        show Steps p.tables e below (T9.setTop (mkF m 58 #[.val (.int i0), .val (.int i1), .val (.ref b1), .val (.int (1 : Int32)), .val (.ref w1), .val (.int (0 : Int32)), .unset, .unset, .unset] [(.int (0 : Int32))])) _
        refine XS.istore X9.here hx rfl (hb hby at_58) rfl (l' := #[.val (.int i0), .val (.int i1), .val (.ref b1), .val (.int (1 : Int32)), .val (.ref w1), .val (.int (0 : Int32)), .val (.int (0 : Int32)), .unset, .unset]) rfl ?_
        show Steps p.tables e below (T9.setTop (mkF m 60 #[.val (.int i0), .val (.int i1), .val (.ref b1), .val (.int (1 : Int32)), .val (.ref w1), .val (.int (0 : Int32)), .val (.int (0 : Int32)), .unset, .unset] [])) _
        refine XS.iload X9.here hx rfl (hb hby at_60) rfl ?_
        show Steps p.tables e below (T9.setTop (mkF m 62 #[.val (.int i0), .val (.int i1), .val (.ref b1), .val (.int (1 : Int32)), .val (.ref w1), .val (.int (0 : Int32)), .val (.int (0 : Int32)), .unset, .unset] [(.int (0 : Int32))])) _
        refine XS.ifNo X9.here hx rfl (hb hby at_62) rfl (by decide) ?_
        show Steps p.tables e below (T9.setTop (mkF m 65 #[.val (.int i0), .val (.int i1), .val (.ref b1), .val (.int (1 : Int32)), .val (.ref w1), .val (.int (0 : Int32)), .val (.int (0 : Int32)), .unset, .unset] [])) _
        refine XS.iload X9.here hx rfl (hb hby at_65) rfl ?_
        show Steps p.tables e below (T9.setTop (mkF m 67 #[.val (.int i0), .val (.int i1), .val (.ref b1), .val (.int (1 : Int32)), .val (.ref w1), .val (.int (0 : Int32)), .val (.int (0 : Int32)), .unset, .unset] [(.int (0 : Int32))])) _
        refine XS.ifNo X9.here hx rfl (hb hby at_67) rfl (by decide) ?_
        show Steps p.tables e below (T9.setTop (mkF m 70 #[.val (.int i0), .val (.int i1), .val (.ref b1), .val (.int (1 : Int32)), .val (.ref w1), .val (.int (0 : Int32)), .val (.int (0 : Int32)), .unset, .unset] [])) _
        refine XS.iconst X9.here hx rfl (hb hby at_70) ?_
        show Steps p.tables e below (T9.setTop (mkF m 71 #[.val (.int i0), .val (.int i1), .val (.ref b1), .val (.int (1 : Int32)), .val (.ref w1), .val (.int (0 : Int32)), .val (.int (0 : Int32)), .unset, .unset] [(.int (1 : Int32))])) _
        refine XS.goto X9.here hx rfl (pc0 := 71) (pc' := 75) rfl (hb hby at_71) (by decide) (by decide) ?_
        show Steps p.tables e below (T9.setTop (mkF m 75 #[.val (.int i0), .val (.int i1), .val (.ref b1), .val (.int (1 : Int32)), .val (.ref w1), .val (.int (0 : Int32)), .val (.int (0 : Int32)), .unset, .unset] [(.int (1 : Int32))])) _
        refine XS.istore X9.here hx rfl (hb hby at_75) rfl (l' := #[.val (.int i0), .val (.int i1), .val (.ref b1), .val (.int (1 : Int32)), .val (.ref w1), .val (.int (0 : Int32)), .val (.int (0 : Int32)), .val (.int (1 : Int32)), .unset]) rfl ?_
        show Steps p.tables e below (T9.setTop (mkF m 77 #[.val (.int i0), .val (.int i1), .val (.ref b1), .val (.int (1 : Int32)), .val (.ref w1), .val (.int (0 : Int32)), .val (.int (0 : Int32)), .val (.int (1 : Int32)), .unset] [])) _
        refine XS.iloadN X9.here hx rfl (hb hby at_77) rfl ?_
        show Steps p.tables e below (T9.setTop (mkF m 78 #[.val (.int i0), .val (.int i1), .val (.ref b1), .val (.int (1 : Int32)), .val (.ref w1), .val (.int (0 : Int32)), .val (.int (0 : Int32)), .val (.int (1 : Int32)), .unset] [(.int (1 : Int32))])) _
        refine XS.ifYes X9.here hx rfl (pc0 := 78) (pc' := 88) rfl (hb hby at_78) rfl (by decide) (by decide) (by decide) ?_
        show Steps p.tables e below (T9.setTop (mkF m 88 #[.val (.int i0), .val (.int i1), .val (.ref b1), .val (.int (1 : Int32)), .val (.ref w1), .val (.int (0 : Int32)), .val (.int (0 : Int32)), .val (.int (1 : Int32)), .unset] [])) _
        refine XS.iloadN X9.here hx rfl (hb hby at_88) rfl ?_
        show Steps p.tables e below (T9.setTop (mkF m 89 #[.val (.int i0), .val (.int i1), .val (.ref b1), .val (.int (1 : Int32)), .val (.ref w1), .val (.int (0 : Int32)), .val (.int (0 : Int32)), .val (.int (1 : Int32)), .unset] [(.int (1 : Int32))])) _
        refine XS.iconst X9.here hx rfl (hb hby at_89) ?_
        show Steps p.tables e below (T9.setTop (mkF m 90 #[.val (.int i0), .val (.int i1), .val (.ref b1), .val (.int (1 : Int32)), .val (.ref w1), .val (.int (0 : Int32)), .val (.int (0 : Int32)), .val (.int (1 : Int32)), .unset] [(.int (1 : Int32)), (.int (1 : Int32))])) _
        refine XS.icmpNo X9.here hx rfl (hb hby at_90) rfl (by decide) ?_
        show Steps p.tables e below (T9.setTop (mkF m 93 #[.val (.int i0), .val (.int i1), .val (.ref b1), .val (.int (1 : Int32)), .val (.ref w1), .val (.int (0 : Int32)), .val (.int (0 : Int32)), .val (.int (1 : Int32)), .unset] [])) _
        refine XS.iload X9.here hx rfl (hb hby at_93) rfl ?_
        show Steps p.tables e below (T9.setTop (mkF m 95 #[.val (.int i0), .val (.int i1), .val (.ref b1), .val (.int (1 : Int32)), .val (.ref w1), .val (.int (0 : Int32)), .val (.int (0 : Int32)), .val (.int (1 : Int32)), .unset] [(.int (0 : Int32))])) _
        refine XS.ifNo X9.here hx rfl (hb hby at_95) rfl (by decide) ?_
        show Steps p.tables e below (T9.setTop (mkF m 98 #[.val (.int i0), .val (.int i1), .val (.ref b1), .val (.int (1 : Int32)), .val (.ref w1), .val (.int (0 : Int32)), .val (.int (0 : Int32)), .val (.int (1 : Int32)), .unset] [])) _
        refine XS.iload X9.here hx rfl (hb hby at_98) rfl ?_
        show Steps p.tables e below (T9.setTop (mkF m 100 #[.val (.int i0), .val (.int i1), .val (.ref b1), .val (.int (1 : Int32)), .val (.ref w1), .val (.int (0 : Int32)), .val (.int (0 : Int32)), .val (.int (1 : Int32)), .unset] [(.int (0 : Int32))])) _
        refine XS.ifYes X9.here hx rfl (pc0 := 100) (pc' := 107) rfl (hb hby at_100) rfl (by decide) (by decide) (by decide) ?_
        show Steps p.tables e below (T9.setTop (mkF m 107 #[.val (.int i0), .val (.int i1), .val (.ref b1), .val (.int (1 : Int32)), .val (.ref w1), .val (.int (0 : Int32)), .val (.int (0 : Int32)), .val (.int (1 : Int32)), .unset] [])) _
        refine XS.iconst X9.here hx rfl (hb hby at_107) ?_
        show Steps p.tables e below (T9.setTop (mkF m 108 #[.val (.int i0), .val (.int i1), .val (.ref b1), .val (.int (1 : Int32)), .val (.ref w1), .val (.int (0 : Int32)), .val (.int (0 : Int32)), .val (.int (1 : Int32)), .unset] [(.int (0 : Int32))])) _
        refine XS.istore X9.here hx rfl (hb hby at_108) rfl (l' := #[.val (.int i0), .val (.int i1), .val (.ref b1), .val (.int (1 : Int32)), .val (.ref w1), .val (.int (0 : Int32)), .val (.int (0 : Int32)), .val (.int (1 : Int32)), .val (.int (0 : Int32))]) rfl ?_
        show Steps p.tables e below (T9.setTop (mkF m 110 #[.val (.int i0), .val (.int i1), .val (.ref b1), .val (.int (1 : Int32)), .val (.ref w1), .val (.int (0 : Int32)), .val (.int (0 : Int32)), .val (.int (1 : Int32)), .val (.int (0 : Int32))] [])) _
        refine XS.goto X9.here hx rfl (pc0 := 110) (pc' := 142) rfl (hb hby at_110) (by decide) (by decide) ?_
        show Steps p.tables e below (T9.setTop (mkF m 142 #[.val (.int i0), .val (.int i1), .val (.ref b1), .val (.int (1 : Int32)), .val (.ref w1), .val (.int (0 : Int32)), .val (.int (0 : Int32)), .val (.int (1 : Int32)), .val (.int (0 : Int32))] [])) _
        refine XS.aload X9.here hx rfl (hb hby at_142) rfl rfl ?_
        show Steps p.tables e below (T9.setTop (mkF m 144 #[.val (.int i0), .val (.int i1), .val (.ref b1), .val (.int (1 : Int32)), .val (.ref w1), .val (.int (0 : Int32)), .val (.int (0 : Int32)), .val (.int (1 : Int32)), .val (.int (0 : Int32))] [(.ref w1)])) _
        refine XS.iloadN X9.here hx rfl (hb hby at_144) rfl ?_
        show Steps p.tables e below (T9.setTop (mkF m 145 #[.val (.int i0), .val (.int i1), .val (.ref b1), .val (.int (1 : Int32)), .val (.ref w1), .val (.int (0 : Int32)), .val (.int (0 : Int32)), .val (.int (1 : Int32)), .val (.int (0 : Int32))] [(.int i1), (.ref w1)])) _
        refine st38.trans ?_
        show Steps p.tables e below (T38.setTop (mkF m 148 #[.val (.int i0), .val (.int i1), .val (.ref b1), .val (.int (1 : Int32)), .val (.ref w1), .val (.int (0 : Int32)), .val (.int (0 : Int32)), .val (.int (1 : Int32)), .val (.int (0 : Int32))] [(.int (0 : Int32))])) _
        refine XS.iload X38.here hx rfl (hb hby at_148) rfl ?_
        show Steps p.tables e below (T38.setTop (mkF m 150 #[.val (.int i0), .val (.int i1), .val (.ref b1), .val (.int (1 : Int32)), .val (.ref w1), .val (.int (0 : Int32)), .val (.int (0 : Int32)), .val (.int (1 : Int32)), .val (.int (0 : Int32))] [(.int (0 : Int32)), (.int (0 : Int32))])) _
        refine XS.icmpNo X38.here hx rfl (hb hby at_150) rfl (by decide) ?_
        show Steps p.tables e below (T38.setTop (mkF m 153 #[.val (.int i0), .val (.int i1), .val (.ref b1), .val (.int (1 : Int32)), .val (.ref w1), .val (.int (0 : Int32)), .val (.int (0 : Int32)), .val (.int (1 : Int32)), .val (.int (0 : Int32))] [])) _
        refine XS.iconst X38.here hx rfl (hb hby at_153) ?_
        show Steps p.tables e below (T38.setTop (mkF m 154 #[.val (.int i0), .val (.int i1), .val (.ref b1), .val (.int (1 : Int32)), .val (.ref w1), .val (.int (0 : Int32)), .val (.int (0 : Int32)), .val (.int (1 : Int32)), .val (.int (0 : Int32))] [(.int (1 : Int32))])) _
        refine XS.goto X38.here hx rfl (pc0 := 154) (pc' := 158) rfl (hb hby at_154) (by decide) (by decide) ?_
        show Steps p.tables e below (T38.setTop (mkF m 158 #[.val (.int i0), .val (.int i1), .val (.ref b1), .val (.int (1 : Int32)), .val (.ref w1), .val (.int (0 : Int32)), .val (.int (0 : Int32)), .val (.int (1 : Int32)), .val (.int (0 : Int32))] [(.int (1 : Int32))])) _
        exact retN X38 hx (t := .boolean) Bd.returns (by simp) (hb hby at_158) hr
      · show Ql n0 _ T38.heap _
        exact ⟨rfl, N38⟩
  · obtain ⟨cl39, Ar39, q39, S39, M39, H39, G39⟩ := V9
    have hin39 : ¬ ((2 : Int32) < 0 ∨ cl39.slots.size ≤ ((2 : Int32)).toNatClampNeg) := inb_of S39 ⟨by decide, by decide⟩
    have hat39 : cl39.slots[((2 : Int32)).toNatClampNeg]? = some (.ref w2) := Has.at H39 hin39 rfl
    have pre40 : ∀ t, Steps p.tables e below (T9.setTop (mkF m 39 #[.val (.int i0), .val (.int i1), .val (.ref b1), .val (.int (2 : Int32)), .val (.ref w2), .unset, .unset, .unset, .unset] [(.int i1)])) t → Steps p.tables e below (s₁.setTop (entryFrame m #[(.int i0), (.int i1)] maxLocals)) t := by
      intro t k
      refine pre10 _ ?_
      show Steps p.tables e below (T9.setTop (mkF m 31 #[.val (.int i0), .val (.int i1), .val (.ref b1), .unset, .unset, .unset, .unset, .unset, .unset] [(.int (3 : Int32)), (.int i0)])) _
      refine XS.iand X9.here hx rfl (hb hby at_31) rfl ?_
      show Steps p.tables e below (T9.setTop (mkF m 32 #[.val (.int i0), .val (.int i1), .val (.ref b1), .unset, .unset, .unset, .unset, .unset, .unset] [(.int (i0 &&& (3 : Int32)))])) _
      rw [hk13]
      show Steps p.tables e below (T9.setTop (mkF m 32 #[.val (.int i0), .val (.int i1), .val (.ref b1), .unset, .unset, .unset, .unset, .unset, .unset] [(.int (2 : Int32))])) _
      refine XS.istoreN X9.here hx rfl (hb hby at_32) rfl (l' := #[.val (.int i0), .val (.int i1), .val (.ref b1), .val (.int (2 : Int32)), .unset, .unset, .unset, .unset, .unset]) rfl ?_
      show Steps p.tables e below (T9.setTop (mkF m 33 #[.val (.int i0), .val (.int i1), .val (.ref b1), .val (.int (2 : Int32)), .unset, .unset, .unset, .unset, .unset] [])) _
      refine XS.aloadN X9.here hx rfl (hb hby at_33) rfl rfl ?_
      show Steps p.tables e below (T9.setTop (mkF m 34 #[.val (.int i0), .val (.int i1), .val (.ref b1), .val (.int (2 : Int32)), .unset, .unset, .unset, .unset, .unset] [(.ref b1)])) _
      refine XS.iloadN X9.here hx rfl (hb hby at_34) rfl ?_
      show Steps p.tables e below (T9.setTop (mkF m 35 #[.val (.int i0), .val (.int i1), .val (.ref b1), .val (.int (2 : Int32)), .unset, .unset, .unset, .unset, .unset] [(.int (2 : Int32)), (.ref b1)])) _
      refine X9.aaload hx (j := (2 : Int32)) (v := (.ref w2)) (by rw [e9]; exact Ar39.1) (State.isArrayOf_alike hZ.alike Ar39.2.1) rfl Ar39.2.2 hin39 hat39 (g := (mkF m 35 #[.val (.int i0), .val (.int i1), .val (.ref b1), .val (.int (2 : Int32)), .unset, .unset, .unset, .unset, .unset] [(.int (2 : Int32)), (.ref b1)])) rfl rfl (hb hby at_35) _ ?_
      show Steps p.tables e below (T9.setTop (mkF m 36 #[.val (.int i0), .val (.int i1), .val (.ref b1), .val (.int (2 : Int32)), .unset, .unset, .unset, .unset, .unset] [(.ref w2)])) _
      refine XS.astore X9.here hx rfl (hb hby at_36) rfl rfl (l' := #[.val (.int i0), .val (.int i1), .val (.ref b1), .val (.int (2 : Int32)), .val (.ref w2), .unset, .unset, .unset, .unset]) rfl ?_
      show Steps p.tables e below (T9.setTop (mkF m 38 #[.val (.int i0), .val (.int i1), .val (.ref b1), .val (.int (2 : Int32)), .val (.ref w2), .unset, .unset, .unset, .unset] [])) _
      refine XS.iloadN X9.here hx rfl (hb hby at_38) rfl ?_
      show Steps p.tables e below (T9.setTop (mkF m 39 #[.val (.int i0), .val (.int i1), .val (.ref b1), .val (.int (2 : Int32)), .val (.ref w2), .unset, .unset, .unset, .unset] [(.int i1)])) _
      exact k
    rcases own_sign i1 with ⟨ha41, hb41, hc41⟩ | ⟨ha42, hb42, hc42⟩ | ⟨ha43, hb43, hc43⟩
    · obtain ⟨cq46, kq46, q46a, q46b, q46c⟩ := isOf hZ e9 (wE2.ext O_9.2)
      obtain ⟨_, _, ⟨T46, L46, k46, n46⟩, -, X46, ⟨Lc46, hQ46, l46, y46, z46⟩, st46⟩ := X9.virtualBack hx (y := (⟨"com/example/seneschal/seneschal/model/Comparison", "holds", "(I)Z"⟩ : MethodName)) (z := (⟨"com/example/seneschal/seneschal/model/Comparison", "holds", "(I)Z"⟩ : MethodName)) hown (mvT hZ (hw _ (List.mem_of_getElem? (i := 12) rfl))) (mvT hZ (hw _ (List.mem_of_getElem? (i := 13) rfl))) (notFace_of_selects (args := #[]) (mvT hZ (hw _ (List.mem_of_getElem? (i := 15) rfl)))) (mvT hZ (hw _ (List.mem_of_getElem? (i := 15) rfl))) (mvT hZ (hw _ (List.mem_of_getElem? (i := 14) rfl))) (by decide) (backOf (W := 0) (rm9 l Z a0 hw [] w0 w1 w2 w3 i1 h9 n0 hWd O_9 ha41 hb41 hc41) hZ (hw _ (List.mem_of_getElem? (i := 16) rfl)) (hw _ (List.mem_of_getElem? (i := 3) rfl)) (by decide) (by decide)) q46a q46c (g := (mkF m 145 #[.val (.int i0), .val (.int i1), .val (.ref b1), .val (.int (2 : Int32)), .val (.ref w2), .val (.int (1 : Int32)), .val (.int (0 : Int32)), .val (.int (0 : Int32)), .val (.int (0 : Int32))] [(.int i1), (.ref w2)])) rfl (by rw [hml]; rfl) (Steps.refl _) (argsL := [(.int i1)]) (rest := []) (lenOf pd1 rfl) rfl (by show 2 * 0 + _ ≤ _; exact Nat.le_of_eq rfl) (hb hby at_145) (fun _ _ => ⟨rfl, e9, (by decide : 1 + 0 ≤ _), (by decide : 4 + 0 ≤ _)⟩)
      dsimp only [Pt.U, Pt.locs, Pt.cells, Pt.slots] at X46 l46 y46 z46 st46 hQ46
      subst l46 y46 z46
      obtain ⟨rfl, N46q, e46⟩ := hQ46
      have N46 := Fr.app N9 N46q
      obtain ⟨fs, hr, hrun, hended, hWr, hsame⟩ := X46.leave (v := some (.int (1 : Int32))) (fun h => by rw [Bd.returns] at h; cases h)
      refine ⟨_, _, pre40 _ ?_, hrun, hended, _, _, rfl, ?_, ⟨_, rfl⟩, hWr, hsame.mono (Nat.le_of_ble_eq_true rfl) (Nat.le_of_ble_eq_true rfl)⟩
      · show Steps p.tables e below (T9.setTop (mkF m 39 #[.val (.int i0), .val (.int i1), .val (.ref b1), .val (.int (2 : Int32)), .val (.ref w2), .unset, .unset, .unset, .unset] [(.int i1)])) _
        refine XS.ifNo X9.here hx rfl (hb hby at_39) rfl ((if0 _ _).trans (tlt ha41).2.1) ?_
        show Steps p.tables e below (T9.setTop (mkF m 42 #[.val (.int i0), .val (.int i1), .val (.ref b1), .val (.int (2 : Int32)), .val (.ref w2), .unset, .unset, .unset, .unset] [])) _
        refine XS.iconst X9.here hx rfl (hb hby at_42) ?_
        show Steps p.tables e below (T9.setTop (mkF m 43 #[.val (.int i0), .val (.int i1), .val (.ref b1), .val (.int (2 : Int32)), .val (.ref w2), .unset, .unset, .unset, .unset] [(.int (1 : Int32))])) _
        refine XS.goto X9.here hx rfl (pc0 := 43) (pc' := 47) rfl (hb hby at_43) (by decide) (by decide) ?_
        show Steps p.tables e below (T9.setTop (mkF m 47 #[.val (.int i0), .val (.int i1), .val (.ref b1), .val (.int (2 : Int32)), .val (.ref w2), .unset, .unset, .unset, .unset] [(.int (1 : Int32))])) _
        refine XS.istore X9.here hx rfl (hb hby at_47) rfl (l' := #[.val (.int i0), .val (.int i1), .val (.ref b1), .val (.int (2 : Int32)), .val (.ref w2), .val (.int (1 : Int32)), .unset, .unset, .unset]) rfl ?_
        show Steps p.tables e below (T9.setTop (mkF m 49 #[.val (.int i0), .val (.int i1), .val (.ref b1), .val (.int (2 : Int32)), .val (.ref w2), .val (.int (1 : Int32)), .unset, .unset, .unset] [])) _
        refine XS.iloadN X9.here hx rfl (hb hby at_49) rfl ?_
        show Steps p.tables e below (T9.setTop (mkF m 50 #[.val (.int i0), .val (.int i1), .val (.ref b1), .val (.int (2 : Int32)), .val (.ref w2), .val (.int (1 : Int32)), .unset, .unset, .unset] [(.int i1)])) _
        refine XS.ifYes X9.here hx rfl (pc0 := 50) (pc' := 57) rfl (hb hby at_50) rfl ((if0 _ _).trans (feq hc41).2) (by decide) (by decide) ?_
        show Steps p.tables e below (T9.setTop (mkF m 57 #[.val (.int i0), .val (.int i1), .val (.ref b1), .val (.int (2 : Int32)), .val (.ref w2), .val (.int (1 : Int32)), .unset, .unset, .unset] [])) _
        refine XS.iconst X9.here hx rfl (hb hby at_57) ?_
        show Steps p.tables e below (T9.setTop (mkF m 58 #[.val (.int i0), .val (.int i1), .val (.ref b1), .val (.int (2 : Int32)), .val (.ref w2), .val (.int (1 : Int32)), .unset, .unset, .unset] [(.int (0 : Int32))])) _
        refine XS.istore X9.here hx rfl (hb hby at_58) rfl (l' := #[.val (.int i0), .val (.int i1), .val (.ref b1), .val (.int (2 : Int32)), .val (.ref w2), .val (.int (1 : Int32)), .val (.int (0 : Int32)), .unset, .unset]) rfl ?_
        show Steps p.tables e below (T9.setTop (mkF m 60 #[.val (.int i0), .val (.int i1), .val (.ref b1), .val (.int (2 : Int32)), .val (.ref w2), .val (.int (1 : Int32)), .val (.int (0 : Int32)), .unset, .unset] [])) _
        refine XS.iload X9.here hx rfl (hb hby at_60) rfl ?_
        show Steps p.tables e below (T9.setTop (mkF m 62 #[.val (.int i0), .val (.int i1), .val (.ref b1), .val (.int (2 : Int32)), .val (.ref w2), .val (.int (1 : Int32)), .val (.int (0 : Int32)), .unset, .unset] [(.int (1 : Int32))])) _
        refine XS.ifYes X9.here hx rfl (pc0 := 62) (pc' := 74) rfl (hb hby at_62) rfl (by decide) (by decide) (by decide) ?_
        show Steps p.tables e below (T9.setTop (mkF m 74 #[.val (.int i0), .val (.int i1), .val (.ref b1), .val (.int (2 : Int32)), .val (.ref w2), .val (.int (1 : Int32)), .val (.int (0 : Int32)), .unset, .unset] [])) _
        refine XS.iconst X9.here hx rfl (hb hby at_74) ?_
        show Steps p.tables e below (T9.setTop (mkF m 75 #[.val (.int i0), .val (.int i1), .val (.ref b1), .val (.int (2 : Int32)), .val (.ref w2), .val (.int (1 : Int32)), .val (.int (0 : Int32)), .unset, .unset] [(.int (0 : Int32))])) _
        refine XS.istore X9.here hx rfl (hb hby at_75) rfl (l' := #[.val (.int i0), .val (.int i1), .val (.ref b1), .val (.int (2 : Int32)), .val (.ref w2), .val (.int (1 : Int32)), .val (.int (0 : Int32)), .val (.int (0 : Int32)), .unset]) rfl ?_
        show Steps p.tables e below (T9.setTop (mkF m 77 #[.val (.int i0), .val (.int i1), .val (.ref b1), .val (.int (2 : Int32)), .val (.ref w2), .val (.int (1 : Int32)), .val (.int (0 : Int32)), .val (.int (0 : Int32)), .unset] [])) _
        refine XS.iloadN X9.here hx rfl (hb hby at_77) rfl ?_
        show Steps p.tables e below (T9.setTop (mkF m 78 #[.val (.int i0), .val (.int i1), .val (.ref b1), .val (.int (2 : Int32)), .val (.ref w2), .val (.int (1 : Int32)), .val (.int (0 : Int32)), .val (.int (0 : Int32)), .unset] [(.int (2 : Int32))])) _
        refine XS.ifYes X9.here hx rfl (pc0 := 78) (pc' := 88) rfl (hb hby at_78) rfl (by decide) (by decide) (by decide) ?_
        show Steps p.tables e below (T9.setTop (mkF m 88 #[.val (.int i0), .val (.int i1), .val (.ref b1), .val (.int (2 : Int32)), .val (.ref w2), .val (.int (1 : Int32)), .val (.int (0 : Int32)), .val (.int (0 : Int32)), .unset] [])) _
        refine XS.iloadN X9.here hx rfl (hb hby at_88) rfl ?_
        show Steps p.tables e below (T9.setTop (mkF m 89 #[.val (.int i0), .val (.int i1), .val (.ref b1), .val (.int (2 : Int32)), .val (.ref w2), .val (.int (1 : Int32)), .val (.int (0 : Int32)), .val (.int (0 : Int32)), .unset] [(.int (2 : Int32))])) _
        refine XS.iconst X9.here hx rfl (hb hby at_89) ?_
        show Steps p.tables e below (T9.setTop (mkF m 90 #[.val (.int i0), .val (.int i1), .val (.ref b1), .val (.int (2 : Int32)), .val (.ref w2), .val (.int (1 : Int32)), .val (.int (0 : Int32)), .val (.int (0 : Int32)), .unset] [(.int (1 : Int32)), (.int (2 : Int32))])) _
        refine XS.icmpYes X9.here hx rfl (pc0 := 90) (pc' := 113) rfl (hb hby at_90) rfl (by decide) (by decide) (by decide) ?_
        show Steps p.tables e below (T9.setTop (mkF m 113 #[.val (.int i0), .val (.int i1), .val (.ref b1), .val (.int (2 : Int32)), .val (.ref w2), .val (.int (1 : Int32)), .val (.int (0 : Int32)), .val (.int (0 : Int32)), .unset] [])) _
        refine XS.iloadN X9.here hx rfl (hb hby at_113) rfl ?_
        show Steps p.tables e below (T9.setTop (mkF m 114 #[.val (.int i0), .val (.int i1), .val (.ref b1), .val (.int (2 : Int32)), .val (.ref w2), .val (.int (1 : Int32)), .val (.int (0 : Int32)), .val (.int (0 : Int32)), .unset] [(.int (2 : Int32))])) _
        refine XS.iconst X9.here hx rfl (hb hby at_114) ?_
        show Steps p.tables e below (T9.setTop (mkF m 115 #[.val (.int i0), .val (.int i1), .val (.ref b1), .val (.int (2 : Int32)), .val (.ref w2), .val (.int (1 : Int32)), .val (.int (0 : Int32)), .val (.int (0 : Int32)), .unset] [(.int (2 : Int32)), (.int (2 : Int32))])) _
        refine XS.icmpNo X9.here hx rfl (hb hby at_115) rfl (by decide) ?_
        show Steps p.tables e below (T9.setTop (mkF m 118 #[.val (.int i0), .val (.int i1), .val (.ref b1), .val (.int (2 : Int32)), .val (.ref w2), .val (.int (1 : Int32)), .val (.int (0 : Int32)), .val (.int (0 : Int32)), .unset] [])) _
        refine XS.iload X9.here hx rfl (hb hby at_118) rfl ?_
        show Steps p.tables e below (T9.setTop (mkF m 120 #[.val (.int i0), .val (.int i1), .val (.ref b1), .val (.int (2 : Int32)), .val (.ref w2), .val (.int (1 : Int32)), .val (.int (0 : Int32)), .val (.int (0 : Int32)), .unset] [(.int (0 : Int32))])) _
        refine XS.istore X9.here hx rfl (hb hby at_120) rfl (l' := #[.val (.int i0), .val (.int i1), .val (.ref b1), .val (.int (2 : Int32)), .val (.ref w2), .val (.int (1 : Int32)), .val (.int (0 : Int32)), .val (.int (0 : Int32)), .val (.int (0 : Int32))]) rfl ?_
        show Steps p.tables e below (T9.setTop (mkF m 122 #[.val (.int i0), .val (.int i1), .val (.ref b1), .val (.int (2 : Int32)), .val (.ref w2), .val (.int (1 : Int32)), .val (.int (0 : Int32)), .val (.int (0 : Int32)), .val (.int (0 : Int32))] [])) _
        refine XS.goto X9.here hx rfl (pc0 := 122) (pc' := 142) rfl (hb hby at_122) (by decide) (by decide) ?_
        show Steps p.tables e below (T9.setTop (mkF m 142 #[.val (.int i0), .val (.int i1), .val (.ref b1), .val (.int (2 : Int32)), .val (.ref w2), .val (.int (1 : Int32)), .val (.int (0 : Int32)), .val (.int (0 : Int32)), .val (.int (0 : Int32))] [])) _
        refine XS.aload X9.here hx rfl (hb hby at_142) rfl rfl ?_
        show Steps p.tables e below (T9.setTop (mkF m 144 #[.val (.int i0), .val (.int i1), .val (.ref b1), .val (.int (2 : Int32)), .val (.ref w2), .val (.int (1 : Int32)), .val (.int (0 : Int32)), .val (.int (0 : Int32)), .val (.int (0 : Int32))] [(.ref w2)])) _
        refine XS.iloadN X9.here hx rfl (hb hby at_144) rfl ?_
        show Steps p.tables e below (T9.setTop (mkF m 145 #[.val (.int i0), .val (.int i1), .val (.ref b1), .val (.int (2 : Int32)), .val (.ref w2), .val (.int (1 : Int32)), .val (.int (0 : Int32)), .val (.int (0 : Int32)), .val (.int (0 : Int32))] [(.int i1), (.ref w2)])) _
        refine st46.trans ?_
        show Steps p.tables e below (T46.setTop (mkF m 148 #[.val (.int i0), .val (.int i1), .val (.ref b1), .val (.int (2 : Int32)), .val (.ref w2), .val (.int (1 : Int32)), .val (.int (0 : Int32)), .val (.int (0 : Int32)), .val (.int (0 : Int32))] [(.int (0 : Int32))])) _
        refine XS.iload X46.here hx rfl (hb hby at_148) rfl ?_
        show Steps p.tables e below (T46.setTop (mkF m 150 #[.val (.int i0), .val (.int i1), .val (.ref b1), .val (.int (2 : Int32)), .val (.ref w2), .val (.int (1 : Int32)), .val (.int (0 : Int32)), .val (.int (0 : Int32)), .val (.int (0 : Int32))] [(.int (0 : Int32)), (.int (0 : Int32))])) _
        refine XS.icmpNo X46.here hx rfl (hb hby at_150) rfl (by decide) ?_
        show Steps p.tables e below (T46.setTop (mkF m 153 #[.val (.int i0), .val (.int i1), .val (.ref b1), .val (.int (2 : Int32)), .val (.ref w2), .val (.int (1 : Int32)), .val (.int (0 : Int32)), .val (.int (0 : Int32)), .val (.int (0 : Int32))] [])) _
        refine XS.iconst X46.here hx rfl (hb hby at_153) ?_
        show Steps p.tables e below (T46.setTop (mkF m 154 #[.val (.int i0), .val (.int i1), .val (.ref b1), .val (.int (2 : Int32)), .val (.ref w2), .val (.int (1 : Int32)), .val (.int (0 : Int32)), .val (.int (0 : Int32)), .val (.int (0 : Int32))] [(.int (1 : Int32))])) _
        refine XS.goto X46.here hx rfl (pc0 := 154) (pc' := 158) rfl (hb hby at_154) (by decide) (by decide) ?_
        show Steps p.tables e below (T46.setTop (mkF m 158 #[.val (.int i0), .val (.int i1), .val (.ref b1), .val (.int (2 : Int32)), .val (.ref w2), .val (.int (1 : Int32)), .val (.int (0 : Int32)), .val (.int (0 : Int32)), .val (.int (0 : Int32))] [(.int (1 : Int32))])) _
        exact retN X46 hx (t := .boolean) Bd.returns (by simp) (hb hby at_158) hr
      · show Ql n0 _ T46.heap _
        exact ⟨rfl, N46⟩
    · obtain ⟨cq48, kq48, q48a, q48b, q48c⟩ := isOf hZ e9 (wE2.ext O_9.2)
      obtain ⟨_, _, ⟨T48, L48, k48, n48⟩, -, X48, ⟨Lc48, hQ48, l48, y48, z48⟩, st48⟩ := X9.virtualBack hx (y := (⟨"com/example/seneschal/seneschal/model/Comparison", "holds", "(I)Z"⟩ : MethodName)) (z := (⟨"com/example/seneschal/seneschal/model/Comparison", "holds", "(I)Z"⟩ : MethodName)) hown (mvT hZ (hw _ (List.mem_of_getElem? (i := 12) rfl))) (mvT hZ (hw _ (List.mem_of_getElem? (i := 13) rfl))) (notFace_of_selects (args := #[]) (mvT hZ (hw _ (List.mem_of_getElem? (i := 15) rfl)))) (mvT hZ (hw _ (List.mem_of_getElem? (i := 15) rfl))) (mvT hZ (hw _ (List.mem_of_getElem? (i := 14) rfl))) (by decide) (backOf (W := 0) (rm11 l Z a0 hw [] w0 w1 w2 w3 i1 h9 n0 hWd O_9 ha42 hb42 hc42) hZ (hw _ (List.mem_of_getElem? (i := 16) rfl)) (hw _ (List.mem_of_getElem? (i := 3) rfl)) (by decide) (by decide)) q48a q48c (g := (mkF m 145 #[.val (.int i0), .val (.int i1), .val (.ref b1), .val (.int (2 : Int32)), .val (.ref w2), .val (.int (0 : Int32)), .val (.int (1 : Int32)), .val (.int (0 : Int32)), .val (.int (0 : Int32))] [(.int i1), (.ref w2)])) rfl (by rw [hml]; rfl) (Steps.refl _) (argsL := [(.int i1)]) (rest := []) (lenOf pd1 rfl) rfl (by show 2 * 0 + _ ≤ _; exact Nat.le_of_eq rfl) (hb hby at_145) (fun _ _ => ⟨rfl, e9, (by decide : 1 + 0 ≤ _), (by decide : 4 + 0 ≤ _)⟩)
      dsimp only [Pt.U, Pt.locs, Pt.cells, Pt.slots] at X48 l48 y48 z48 st48 hQ48
      subst l48 y48 z48
      obtain ⟨rfl, N48q, e48⟩ := hQ48
      have N48 := Fr.app N9 N48q
      obtain ⟨fs, hr, hrun, hended, hWr, hsame⟩ := X48.leave (v := some (.int (1 : Int32))) (fun h => by rw [Bd.returns] at h; cases h)
      refine ⟨_, _, pre40 _ ?_, hrun, hended, _, _, rfl, ?_, ⟨_, rfl⟩, hWr, hsame.mono (Nat.le_of_ble_eq_true rfl) (Nat.le_of_ble_eq_true rfl)⟩
      · show Steps p.tables e below (T9.setTop (mkF m 39 #[.val (.int i0), .val (.int i1), .val (.ref b1), .val (.int (2 : Int32)), .val (.ref w2), .unset, .unset, .unset, .unset] [(.int i1)])) _
        refine XS.ifYes X9.here hx rfl (pc0 := 39) (pc' := 46) rfl (hb hby at_39) rfl ((if0 _ _).trans (flt ha42).2.1) (by decide) (by decide) ?_
        show Steps p.tables e below (T9.setTop (mkF m 46 #[.val (.int i0), .val (.int i1), .val (.ref b1), .val (.int (2 : Int32)), .val (.ref w2), .unset, .unset, .unset, .unset] [])) _
        refine XS.iconst X9.here hx rfl (hb hby at_46) ?_
        show Steps p.tables e below (T9.setTop (mkF m 47 #[.val (.int i0), .val (.int i1), .val (.ref b1), .val (.int (2 : Int32)), .val (.ref w2), .unset, .unset, .unset, .unset] [(.int (0 : Int32))])) _
        refine XS.istore X9.here hx rfl (hb hby at_47) rfl (l' := #[.val (.int i0), .val (.int i1), .val (.ref b1), .val (.int (2 : Int32)), .val (.ref w2), .val (.int (0 : Int32)), .unset, .unset, .unset]) rfl ?_
        show Steps p.tables e below (T9.setTop (mkF m 49 #[.val (.int i0), .val (.int i1), .val (.ref b1), .val (.int (2 : Int32)), .val (.ref w2), .val (.int (0 : Int32)), .unset, .unset, .unset] [])) _
        refine XS.iloadN X9.here hx rfl (hb hby at_49) rfl ?_
        show Steps p.tables e below (T9.setTop (mkF m 50 #[.val (.int i0), .val (.int i1), .val (.ref b1), .val (.int (2 : Int32)), .val (.ref w2), .val (.int (0 : Int32)), .unset, .unset, .unset] [(.int i1)])) _
        refine XS.ifNo X9.here hx rfl (hb hby at_50) rfl ((if0 _ _).trans (teq hc42).2) ?_
        show Steps p.tables e below (T9.setTop (mkF m 53 #[.val (.int i0), .val (.int i1), .val (.ref b1), .val (.int (2 : Int32)), .val (.ref w2), .val (.int (0 : Int32)), .unset, .unset, .unset] [])) _
        refine XS.iconst X9.here hx rfl (hb hby at_53) ?_
        show Steps p.tables e below (T9.setTop (mkF m 54 #[.val (.int i0), .val (.int i1), .val (.ref b1), .val (.int (2 : Int32)), .val (.ref w2), .val (.int (0 : Int32)), .unset, .unset, .unset] [(.int (1 : Int32))])) _
        refine XS.goto X9.here hx rfl (pc0 := 54) (pc' := 58) rfl (hb hby at_54) (by decide) (by decide) ?_
        show Steps p.tables e below (T9.setTop (mkF m 58 #[.val (.int i0), .val (.int i1), .val (.ref b1), .val (.int (2 : Int32)), .val (.ref w2), .val (.int (0 : Int32)), .unset, .unset, .unset] [(.int (1 : Int32))])) _
        refine XS.istore X9.here hx rfl (hb hby at_58) rfl (l' := #[.val (.int i0), .val (.int i1), .val (.ref b1), .val (.int (2 : Int32)), .val (.ref w2), .val (.int (0 : Int32)), .val (.int (1 : Int32)), .unset, .unset]) rfl ?_
        show Steps p.tables e below (T9.setTop (mkF m 60 #[.val (.int i0), .val (.int i1), .val (.ref b1), .val (.int (2 : Int32)), .val (.ref w2), .val (.int (0 : Int32)), .val (.int (1 : Int32)), .unset, .unset] [])) _
        refine XS.iload X9.here hx rfl (hb hby at_60) rfl ?_
        show Steps p.tables e below (T9.setTop (mkF m 62 #[.val (.int i0), .val (.int i1), .val (.ref b1), .val (.int (2 : Int32)), .val (.ref w2), .val (.int (0 : Int32)), .val (.int (1 : Int32)), .unset, .unset] [(.int (0 : Int32))])) _
        refine XS.ifNo X9.here hx rfl (hb hby at_62) rfl (by decide) ?_
        show Steps p.tables e below (T9.setTop (mkF m 65 #[.val (.int i0), .val (.int i1), .val (.ref b1), .val (.int (2 : Int32)), .val (.ref w2), .val (.int (0 : Int32)), .val (.int (1 : Int32)), .unset, .unset] [])) _
        refine XS.iload X9.here hx rfl (hb hby at_65) rfl ?_
        show Steps p.tables e below (T9.setTop (mkF m 67 #[.val (.int i0), .val (.int i1), .val (.ref b1), .val (.int (2 : Int32)), .val (.ref w2), .val (.int (0 : Int32)), .val (.int (1 : Int32)), .unset, .unset] [(.int (1 : Int32))])) _
        refine XS.ifYes X9.here hx rfl (pc0 := 67) (pc' := 74) rfl (hb hby at_67) rfl (by decide) (by decide) (by decide) ?_
        show Steps p.tables e below (T9.setTop (mkF m 74 #[.val (.int i0), .val (.int i1), .val (.ref b1), .val (.int (2 : Int32)), .val (.ref w2), .val (.int (0 : Int32)), .val (.int (1 : Int32)), .unset, .unset] [])) _
        refine XS.iconst X9.here hx rfl (hb hby at_74) ?_
        show Steps p.tables e below (T9.setTop (mkF m 75 #[.val (.int i0), .val (.int i1), .val (.ref b1), .val (.int (2 : Int32)), .val (.ref w2), .val (.int (0 : Int32)), .val (.int (1 : Int32)), .unset, .unset] [(.int (0 : Int32))])) _
        refine XS.istore X9.here hx rfl (hb hby at_75) rfl (l' := #[.val (.int i0), .val (.int i1), .val (.ref b1), .val (.int (2 : Int32)), .val (.ref w2), .val (.int (0 : Int32)), .val (.int (1 : Int32)), .val (.int (0 : Int32)), .unset]) rfl ?_
        show Steps p.tables e below (T9.setTop (mkF m 77 #[.val (.int i0), .val (.int i1), .val (.ref b1), .val (.int (2 : Int32)), .val (.ref w2), .val (.int (0 : Int32)), .val (.int (1 : Int32)), .val (.int (0 : Int32)), .unset] [])) _
        refine XS.iloadN X9.here hx rfl (hb hby at_77) rfl ?_
        show Steps p.tables e below (T9.setTop (mkF m 78 #[.val (.int i0), .val (.int i1), .val (.ref b1), .val (.int (2 : Int32)), .val (.ref w2), .val (.int (0 : Int32)), .val (.int (1 : Int32)), .val (.int (0 : Int32)), .unset] [(.int (2 : Int32))])) _
        refine XS.ifYes X9.here hx rfl (pc0 := 78) (pc' := 88) rfl (hb hby at_78) rfl (by decide) (by decide) (by decide) ?_
        show Steps p.tables e below (T9.setTop (mkF m 88 #[.val (.int i0), .val (.int i1), .val (.ref b1), .val (.int (2 : Int32)), .val (.ref w2), .val (.int (0 : Int32)), .val (.int (1 : Int32)), .val (.int (0 : Int32)), .unset] [])) _
        refine XS.iloadN X9.here hx rfl (hb hby at_88) rfl ?_
        show Steps p.tables e below (T9.setTop (mkF m 89 #[.val (.int i0), .val (.int i1), .val (.ref b1), .val (.int (2 : Int32)), .val (.ref w2), .val (.int (0 : Int32)), .val (.int (1 : Int32)), .val (.int (0 : Int32)), .unset] [(.int (2 : Int32))])) _
        refine XS.iconst X9.here hx rfl (hb hby at_89) ?_
        show Steps p.tables e below (T9.setTop (mkF m 90 #[.val (.int i0), .val (.int i1), .val (.ref b1), .val (.int (2 : Int32)), .val (.ref w2), .val (.int (0 : Int32)), .val (.int (1 : Int32)), .val (.int (0 : Int32)), .unset] [(.int (1 : Int32)), (.int (2 : Int32))])) _
        refine XS.icmpYes X9.here hx rfl (pc0 := 90) (pc' := 113) rfl (hb hby at_90) rfl (by decide) (by decide) (by decide) ?_
        show Steps p.tables e below (T9.setTop (mkF m 113 #[.val (.int i0), .val (.int i1), .val (.ref b1), .val (.int (2 : Int32)), .val (.ref w2), .val (.int (0 : Int32)), .val (.int (1 : Int32)), .val (.int (0 : Int32)), .unset] [])) _
        refine XS.iloadN X9.here hx rfl (hb hby at_113) rfl ?_
        show Steps p.tables e below (T9.setTop (mkF m 114 #[.val (.int i0), .val (.int i1), .val (.ref b1), .val (.int (2 : Int32)), .val (.ref w2), .val (.int (0 : Int32)), .val (.int (1 : Int32)), .val (.int (0 : Int32)), .unset] [(.int (2 : Int32))])) _
        refine XS.iconst X9.here hx rfl (hb hby at_114) ?_
        show Steps p.tables e below (T9.setTop (mkF m 115 #[.val (.int i0), .val (.int i1), .val (.ref b1), .val (.int (2 : Int32)), .val (.ref w2), .val (.int (0 : Int32)), .val (.int (1 : Int32)), .val (.int (0 : Int32)), .unset] [(.int (2 : Int32)), (.int (2 : Int32))])) _
        refine XS.icmpNo X9.here hx rfl (hb hby at_115) rfl (by decide) ?_
        show Steps p.tables e below (T9.setTop (mkF m 118 #[.val (.int i0), .val (.int i1), .val (.ref b1), .val (.int (2 : Int32)), .val (.ref w2), .val (.int (0 : Int32)), .val (.int (1 : Int32)), .val (.int (0 : Int32)), .unset] [])) _
        refine XS.iload X9.here hx rfl (hb hby at_118) rfl ?_
        show Steps p.tables e below (T9.setTop (mkF m 120 #[.val (.int i0), .val (.int i1), .val (.ref b1), .val (.int (2 : Int32)), .val (.ref w2), .val (.int (0 : Int32)), .val (.int (1 : Int32)), .val (.int (0 : Int32)), .unset] [(.int (0 : Int32))])) _
        refine XS.istore X9.here hx rfl (hb hby at_120) rfl (l' := #[.val (.int i0), .val (.int i1), .val (.ref b1), .val (.int (2 : Int32)), .val (.ref w2), .val (.int (0 : Int32)), .val (.int (1 : Int32)), .val (.int (0 : Int32)), .val (.int (0 : Int32))]) rfl ?_
        show Steps p.tables e below (T9.setTop (mkF m 122 #[.val (.int i0), .val (.int i1), .val (.ref b1), .val (.int (2 : Int32)), .val (.ref w2), .val (.int (0 : Int32)), .val (.int (1 : Int32)), .val (.int (0 : Int32)), .val (.int (0 : Int32))] [])) _
        refine XS.goto X9.here hx rfl (pc0 := 122) (pc' := 142) rfl (hb hby at_122) (by decide) (by decide) ?_
        show Steps p.tables e below (T9.setTop (mkF m 142 #[.val (.int i0), .val (.int i1), .val (.ref b1), .val (.int (2 : Int32)), .val (.ref w2), .val (.int (0 : Int32)), .val (.int (1 : Int32)), .val (.int (0 : Int32)), .val (.int (0 : Int32))] [])) _
        refine XS.aload X9.here hx rfl (hb hby at_142) rfl rfl ?_
        show Steps p.tables e below (T9.setTop (mkF m 144 #[.val (.int i0), .val (.int i1), .val (.ref b1), .val (.int (2 : Int32)), .val (.ref w2), .val (.int (0 : Int32)), .val (.int (1 : Int32)), .val (.int (0 : Int32)), .val (.int (0 : Int32))] [(.ref w2)])) _
        refine XS.iloadN X9.here hx rfl (hb hby at_144) rfl ?_
        show Steps p.tables e below (T9.setTop (mkF m 145 #[.val (.int i0), .val (.int i1), .val (.ref b1), .val (.int (2 : Int32)), .val (.ref w2), .val (.int (0 : Int32)), .val (.int (1 : Int32)), .val (.int (0 : Int32)), .val (.int (0 : Int32))] [(.int i1), (.ref w2)])) _
        refine st48.trans ?_
        show Steps p.tables e below (T48.setTop (mkF m 148 #[.val (.int i0), .val (.int i1), .val (.ref b1), .val (.int (2 : Int32)), .val (.ref w2), .val (.int (0 : Int32)), .val (.int (1 : Int32)), .val (.int (0 : Int32)), .val (.int (0 : Int32))] [(.int (0 : Int32))])) _
        refine XS.iload X48.here hx rfl (hb hby at_148) rfl ?_
        show Steps p.tables e below (T48.setTop (mkF m 150 #[.val (.int i0), .val (.int i1), .val (.ref b1), .val (.int (2 : Int32)), .val (.ref w2), .val (.int (0 : Int32)), .val (.int (1 : Int32)), .val (.int (0 : Int32)), .val (.int (0 : Int32))] [(.int (0 : Int32)), (.int (0 : Int32))])) _
        refine XS.icmpNo X48.here hx rfl (hb hby at_150) rfl (by decide) ?_
        show Steps p.tables e below (T48.setTop (mkF m 153 #[.val (.int i0), .val (.int i1), .val (.ref b1), .val (.int (2 : Int32)), .val (.ref w2), .val (.int (0 : Int32)), .val (.int (1 : Int32)), .val (.int (0 : Int32)), .val (.int (0 : Int32))] [])) _
        refine XS.iconst X48.here hx rfl (hb hby at_153) ?_
        show Steps p.tables e below (T48.setTop (mkF m 154 #[.val (.int i0), .val (.int i1), .val (.ref b1), .val (.int (2 : Int32)), .val (.ref w2), .val (.int (0 : Int32)), .val (.int (1 : Int32)), .val (.int (0 : Int32)), .val (.int (0 : Int32))] [(.int (1 : Int32))])) _
        refine XS.goto X48.here hx rfl (pc0 := 154) (pc' := 158) rfl (hb hby at_154) (by decide) (by decide) ?_
        show Steps p.tables e below (T48.setTop (mkF m 158 #[.val (.int i0), .val (.int i1), .val (.ref b1), .val (.int (2 : Int32)), .val (.ref w2), .val (.int (0 : Int32)), .val (.int (1 : Int32)), .val (.int (0 : Int32)), .val (.int (0 : Int32))] [(.int (1 : Int32))])) _
        exact retN X48 hx (t := .boolean) Bd.returns (by simp) (hb hby at_158) hr
      · show Ql n0 _ T48.heap _
        exact ⟨rfl, N48⟩
    · obtain ⟨cq50, kq50, q50a, q50b, q50c⟩ := isOf hZ e9 (wE2.ext O_9.2)
      obtain ⟨_, _, ⟨T50, L50, k50, n50⟩, -, X50, ⟨Lc50, hQ50, l50, y50, z50⟩, st50⟩ := X9.virtualBack hx (y := (⟨"com/example/seneschal/seneschal/model/Comparison", "holds", "(I)Z"⟩ : MethodName)) (z := (⟨"com/example/seneschal/seneschal/model/Comparison", "holds", "(I)Z"⟩ : MethodName)) hown (mvT hZ (hw _ (List.mem_of_getElem? (i := 12) rfl))) (mvT hZ (hw _ (List.mem_of_getElem? (i := 13) rfl))) (notFace_of_selects (args := #[]) (mvT hZ (hw _ (List.mem_of_getElem? (i := 15) rfl)))) (mvT hZ (hw _ (List.mem_of_getElem? (i := 15) rfl))) (mvT hZ (hw _ (List.mem_of_getElem? (i := 14) rfl))) (by decide) (backOf (W := 0) (rm12 l Z a0 hw [] w0 w1 w2 w3 i1 h9 n0 hWd O_9 ha43 hb43 hc43) hZ (hw _ (List.mem_of_getElem? (i := 16) rfl)) (hw _ (List.mem_of_getElem? (i := 3) rfl)) (by decide) (by decide)) q50a q50c (g := (mkF m 145 #[.val (.int i0), .val (.int i1), .val (.ref b1), .val (.int (2 : Int32)), .val (.ref w2), .val (.int (0 : Int32)), .val (.int (0 : Int32)), .val (.int (1 : Int32)), .val (.int (1 : Int32))] [(.int i1), (.ref w2)])) rfl (by rw [hml]; rfl) (Steps.refl _) (argsL := [(.int i1)]) (rest := []) (lenOf pd1 rfl) rfl (by show 2 * 0 + _ ≤ _; exact Nat.le_of_eq rfl) (hb hby at_145) (fun _ _ => ⟨rfl, e9, (by decide : 1 + 0 ≤ _), (by decide : 4 + 0 ≤ _)⟩)
      dsimp only [Pt.U, Pt.locs, Pt.cells, Pt.slots] at X50 l50 y50 z50 st50 hQ50
      subst l50 y50 z50
      obtain ⟨rfl, N50q, e50⟩ := hQ50
      have N50 := Fr.app N9 N50q
      obtain ⟨fs, hr, hrun, hended, hWr, hsame⟩ := X50.leave (v := some (.int (1 : Int32))) (fun h => by rw [Bd.returns] at h; cases h)
      refine ⟨_, _, pre40 _ ?_, hrun, hended, _, _, rfl, ?_, ⟨_, rfl⟩, hWr, hsame.mono (Nat.le_of_ble_eq_true rfl) (Nat.le_of_ble_eq_true rfl)⟩
      · show Steps p.tables e below (T9.setTop (mkF m 39 #[.val (.int i0), .val (.int i1), .val (.ref b1), .val (.int (2 : Int32)), .val (.ref w2), .unset, .unset, .unset, .unset] [(.int i1)])) _
        refine XS.ifYes X9.here hx rfl (pc0 := 39) (pc' := 46) rfl (hb hby at_39) rfl ((if0 _ _).trans (flt ha43).2.1) (by decide) (by decide) ?_
        show Steps p.tables e below (T9.setTop (mkF m 46 #[.val (.int i0), .val (.int i1), .val (.ref b1), .val (.int (2 : Int32)), .val (.ref w2), .unset, .unset, .unset, .unset] [])) _
        refine XS.iconst X9.here hx rfl (hb hby at_46) ?_
        show Steps p.tables e below (T9.setTop (mkF m 47 #[.val (.int i0), .val (.int i1), .val (.ref b1), .val (.int (2 : Int32)), .val (.ref w2), .unset, .unset, .unset, .unset] [(.int (0 : Int32))])) _
        refine XS.istore X9.here hx rfl (hb hby at_47) rfl (l' := #[.val (.int i0), .val (.int i1), .val (.ref b1), .val (.int (2 : Int32)), .val (.ref w2), .val (.int (0 : Int32)), .unset, .unset, .unset]) rfl ?_
        show Steps p.tables e below (T9.setTop (mkF m 49 #[.val (.int i0), .val (.int i1), .val (.ref b1), .val (.int (2 : Int32)), .val (.ref w2), .val (.int (0 : Int32)), .unset, .unset, .unset] [])) _
        refine XS.iloadN X9.here hx rfl (hb hby at_49) rfl ?_
        show Steps p.tables e below (T9.setTop (mkF m 50 #[.val (.int i0), .val (.int i1), .val (.ref b1), .val (.int (2 : Int32)), .val (.ref w2), .val (.int (0 : Int32)), .unset, .unset, .unset] [(.int i1)])) _
        refine XS.ifYes X9.here hx rfl (pc0 := 50) (pc' := 57) rfl (hb hby at_50) rfl ((if0 _ _).trans (feq hc43).2) (by decide) (by decide) ?_
        show Steps p.tables e below (T9.setTop (mkF m 57 #[.val (.int i0), .val (.int i1), .val (.ref b1), .val (.int (2 : Int32)), .val (.ref w2), .val (.int (0 : Int32)), .unset, .unset, .unset] [])) _
        refine XS.iconst X9.here hx rfl (hb hby at_57) ?_
        show Steps p.tables e below (T9.setTop (mkF m 58 #[.val (.int i0), .val (.int i1), .val (.ref b1), .val (.int (2 : Int32)), .val (.ref w2), .val (.int (0 : Int32)), .unset, .unset, .unset] [(.int (0 : Int32))])) _
        refine XS.istore X9.here hx rfl (hb hby at_58) rfl (l' := #[.val (.int i0), .val (.int i1), .val (.ref b1), .val (.int (2 : Int32)), .val (.ref w2), .val (.int (0 : Int32)), .val (.int (0 : Int32)), .unset, .unset]) rfl ?_
        show Steps p.tables e below (T9.setTop (mkF m 60 #[.val (.int i0), .val (.int i1), .val (.ref b1), .val (.int (2 : Int32)), .val (.ref w2), .val (.int (0 : Int32)), .val (.int (0 : Int32)), .unset, .unset] [])) _
        refine XS.iload X9.here hx rfl (hb hby at_60) rfl ?_
        show Steps p.tables e below (T9.setTop (mkF m 62 #[.val (.int i0), .val (.int i1), .val (.ref b1), .val (.int (2 : Int32)), .val (.ref w2), .val (.int (0 : Int32)), .val (.int (0 : Int32)), .unset, .unset] [(.int (0 : Int32))])) _
        refine XS.ifNo X9.here hx rfl (hb hby at_62) rfl (by decide) ?_
        show Steps p.tables e below (T9.setTop (mkF m 65 #[.val (.int i0), .val (.int i1), .val (.ref b1), .val (.int (2 : Int32)), .val (.ref w2), .val (.int (0 : Int32)), .val (.int (0 : Int32)), .unset, .unset] [])) _
        refine XS.iload X9.here hx rfl (hb hby at_65) rfl ?_
        show Steps p.tables e below (T9.setTop (mkF m 67 #[.val (.int i0), .val (.int i1), .val (.ref b1), .val (.int (2 : Int32)), .val (.ref w2), .val (.int (0 : Int32)), .val (.int (0 : Int32)), .unset, .unset] [(.int (0 : Int32))])) _
        refine XS.ifNo X9.here hx rfl (hb hby at_67) rfl (by decide) ?_
        show Steps p.tables e below (T9.setTop (mkF m 70 #[.val (.int i0), .val (.int i1), .val (.ref b1), .val (.int (2 : Int32)), .val (.ref w2), .val (.int (0 : Int32)), .val (.int (0 : Int32)), .unset, .unset] [])) _
        refine XS.iconst X9.here hx rfl (hb hby at_70) ?_
        show Steps p.tables e below (T9.setTop (mkF m 71 #[.val (.int i0), .val (.int i1), .val (.ref b1), .val (.int (2 : Int32)), .val (.ref w2), .val (.int (0 : Int32)), .val (.int (0 : Int32)), .unset, .unset] [(.int (1 : Int32))])) _
        refine XS.goto X9.here hx rfl (pc0 := 71) (pc' := 75) rfl (hb hby at_71) (by decide) (by decide) ?_
        show Steps p.tables e below (T9.setTop (mkF m 75 #[.val (.int i0), .val (.int i1), .val (.ref b1), .val (.int (2 : Int32)), .val (.ref w2), .val (.int (0 : Int32)), .val (.int (0 : Int32)), .unset, .unset] [(.int (1 : Int32))])) _
        refine XS.istore X9.here hx rfl (hb hby at_75) rfl (l' := #[.val (.int i0), .val (.int i1), .val (.ref b1), .val (.int (2 : Int32)), .val (.ref w2), .val (.int (0 : Int32)), .val (.int (0 : Int32)), .val (.int (1 : Int32)), .unset]) rfl ?_
        show Steps p.tables e below (T9.setTop (mkF m 77 #[.val (.int i0), .val (.int i1), .val (.ref b1), .val (.int (2 : Int32)), .val (.ref w2), .val (.int (0 : Int32)), .val (.int (0 : Int32)), .val (.int (1 : Int32)), .unset] [])) _
        refine XS.iloadN X9.here hx rfl (hb hby at_77) rfl ?_
        show Steps p.tables e below (T9.setTop (mkF m 78 #[.val (.int i0), .val (.int i1), .val (.ref b1), .val (.int (2 : Int32)), .val (.ref w2), .val (.int (0 : Int32)), .val (.int (0 : Int32)), .val (.int (1 : Int32)), .unset] [(.int (2 : Int32))])) _
        refine XS.ifYes X9.here hx rfl (pc0 := 78) (pc' := 88) rfl (hb hby at_78) rfl (by decide) (by decide) (by decide) ?_
        show Steps p.tables e below (T9.setTop (mkF m 88 #[.val (.int i0), .val (.int i1), .val (.ref b1), .val (.int (2 : Int32)), .val (.ref w2), .val (.int (0 : Int32)), .val (.int (0 : Int32)), .val (.int (1 : Int32)), .unset] [])) _
        refine XS.iloadN X9.here hx rfl (hb hby at_88) rfl ?_
        show Steps p.tables e below (T9.setTop (mkF m 89 #[.val (.int i0), .val (.int i1), .val (.ref b1), .val (.int (2 : Int32)), .val (.ref w2), .val (.int (0 : Int32)), .val (.int (0 : Int32)), .val (.int (1 : Int32)), .unset] [(.int (2 : Int32))])) _
        refine XS.iconst X9.here hx rfl (hb hby at_89) ?_
        show Steps p.tables e below (T9.setTop (mkF m 90 #[.val (.int i0), .val (.int i1), .val (.ref b1), .val (.int (2 : Int32)), .val (.ref w2), .val (.int (0 : Int32)), .val (.int (0 : Int32)), .val (.int (1 : Int32)), .unset] [(.int (1 : Int32)), (.int (2 : Int32))])) _
        refine XS.icmpYes X9.here hx rfl (pc0 := 90) (pc' := 113) rfl (hb hby at_90) rfl (by decide) (by decide) (by decide) ?_
        show Steps p.tables e below (T9.setTop (mkF m 113 #[.val (.int i0), .val (.int i1), .val (.ref b1), .val (.int (2 : Int32)), .val (.ref w2), .val (.int (0 : Int32)), .val (.int (0 : Int32)), .val (.int (1 : Int32)), .unset] [])) _
        refine XS.iloadN X9.here hx rfl (hb hby at_113) rfl ?_
        show Steps p.tables e below (T9.setTop (mkF m 114 #[.val (.int i0), .val (.int i1), .val (.ref b1), .val (.int (2 : Int32)), .val (.ref w2), .val (.int (0 : Int32)), .val (.int (0 : Int32)), .val (.int (1 : Int32)), .unset] [(.int (2 : Int32))])) _
        refine XS.iconst X9.here hx rfl (hb hby at_114) ?_
        show Steps p.tables e below (T9.setTop (mkF m 115 #[.val (.int i0), .val (.int i1), .val (.ref b1), .val (.int (2 : Int32)), .val (.ref w2), .val (.int (0 : Int32)), .val (.int (0 : Int32)), .val (.int (1 : Int32)), .unset] [(.int (2 : Int32)), (.int (2 : Int32))])) _
        refine XS.icmpNo X9.here hx rfl (hb hby at_115) rfl (by decide) ?_
        show Steps p.tables e below (T9.setTop (mkF m 118 #[.val (.int i0), .val (.int i1), .val (.ref b1), .val (.int (2 : Int32)), .val (.ref w2), .val (.int (0 : Int32)), .val (.int (0 : Int32)), .val (.int (1 : Int32)), .unset] [])) _
        refine XS.iload X9.here hx rfl (hb hby at_118) rfl ?_
        show Steps p.tables e below (T9.setTop (mkF m 120 #[.val (.int i0), .val (.int i1), .val (.ref b1), .val (.int (2 : Int32)), .val (.ref w2), .val (.int (0 : Int32)), .val (.int (0 : Int32)), .val (.int (1 : Int32)), .unset] [(.int (1 : Int32))])) _
        refine XS.istore X9.here hx rfl (hb hby at_120) rfl (l' := #[.val (.int i0), .val (.int i1), .val (.ref b1), .val (.int (2 : Int32)), .val (.ref w2), .val (.int (0 : Int32)), .val (.int (0 : Int32)), .val (.int (1 : Int32)), .val (.int (1 : Int32))]) rfl ?_
        show Steps p.tables e below (T9.setTop (mkF m 122 #[.val (.int i0), .val (.int i1), .val (.ref b1), .val (.int (2 : Int32)), .val (.ref w2), .val (.int (0 : Int32)), .val (.int (0 : Int32)), .val (.int (1 : Int32)), .val (.int (1 : Int32))] [])) _
        refine XS.goto X9.here hx rfl (pc0 := 122) (pc' := 142) rfl (hb hby at_122) (by decide) (by decide) ?_
        show Steps p.tables e below (T9.setTop (mkF m 142 #[.val (.int i0), .val (.int i1), .val (.ref b1), .val (.int (2 : Int32)), .val (.ref w2), .val (.int (0 : Int32)), .val (.int (0 : Int32)), .val (.int (1 : Int32)), .val (.int (1 : Int32))] [])) _
        refine XS.aload X9.here hx rfl (hb hby at_142) rfl rfl ?_
        show Steps p.tables e below (T9.setTop (mkF m 144 #[.val (.int i0), .val (.int i1), .val (.ref b1), .val (.int (2 : Int32)), .val (.ref w2), .val (.int (0 : Int32)), .val (.int (0 : Int32)), .val (.int (1 : Int32)), .val (.int (1 : Int32))] [(.ref w2)])) _
        refine XS.iloadN X9.here hx rfl (hb hby at_144) rfl ?_
        show Steps p.tables e below (T9.setTop (mkF m 145 #[.val (.int i0), .val (.int i1), .val (.ref b1), .val (.int (2 : Int32)), .val (.ref w2), .val (.int (0 : Int32)), .val (.int (0 : Int32)), .val (.int (1 : Int32)), .val (.int (1 : Int32))] [(.int i1), (.ref w2)])) _
        refine st50.trans ?_
        show Steps p.tables e below (T50.setTop (mkF m 148 #[.val (.int i0), .val (.int i1), .val (.ref b1), .val (.int (2 : Int32)), .val (.ref w2), .val (.int (0 : Int32)), .val (.int (0 : Int32)), .val (.int (1 : Int32)), .val (.int (1 : Int32))] [(.int (1 : Int32))])) _
        refine XS.iload X50.here hx rfl (hb hby at_148) rfl ?_
        show Steps p.tables e below (T50.setTop (mkF m 150 #[.val (.int i0), .val (.int i1), .val (.ref b1), .val (.int (2 : Int32)), .val (.ref w2), .val (.int (0 : Int32)), .val (.int (0 : Int32)), .val (.int (1 : Int32)), .val (.int (1 : Int32))] [(.int (1 : Int32)), (.int (1 : Int32))])) _
        refine XS.icmpNo X50.here hx rfl (hb hby at_150) rfl (by decide) ?_
        show Steps p.tables e below (T50.setTop (mkF m 153 #[.val (.int i0), .val (.int i1), .val (.ref b1), .val (.int (2 : Int32)), .val (.ref w2), .val (.int (0 : Int32)), .val (.int (0 : Int32)), .val (.int (1 : Int32)), .val (.int (1 : Int32))] [])) _
        refine XS.iconst X50.here hx rfl (hb hby at_153) ?_
        show Steps p.tables e below (T50.setTop (mkF m 154 #[.val (.int i0), .val (.int i1), .val (.ref b1), .val (.int (2 : Int32)), .val (.ref w2), .val (.int (0 : Int32)), .val (.int (0 : Int32)), .val (.int (1 : Int32)), .val (.int (1 : Int32))] [(.int (1 : Int32))])) _
        refine XS.goto X50.here hx rfl (pc0 := 154) (pc' := 158) rfl (hb hby at_154) (by decide) (by decide) ?_
        show Steps p.tables e below (T50.setTop (mkF m 158 #[.val (.int i0), .val (.int i1), .val (.ref b1), .val (.int (2 : Int32)), .val (.ref w2), .val (.int (0 : Int32)), .val (.int (0 : Int32)), .val (.int (1 : Int32)), .val (.int (1 : Int32))] [(.int (1 : Int32))])) _
        exact retN X50 hx (t := .boolean) Bd.returns (by simp) (hb hby at_158) hr
      · show Ql n0 _ T50.heap _
        exact ⟨rfl, N50⟩
  · obtain ⟨cl51, Ar51, q51, S51, M51, H51, G51⟩ := V9
    have hin51 : ¬ ((3 : Int32) < 0 ∨ cl51.slots.size ≤ ((3 : Int32)).toNatClampNeg) := inb_of S51 ⟨by decide, by decide⟩
    have hat51 : cl51.slots[((3 : Int32)).toNatClampNeg]? = some (.ref w3) := Has.at H51 hin51 rfl
    have pre52 : ∀ t, Steps p.tables e below (T9.setTop (mkF m 39 #[.val (.int i0), .val (.int i1), .val (.ref b1), .val (.int (3 : Int32)), .val (.ref w3), .unset, .unset, .unset, .unset] [(.int i1)])) t → Steps p.tables e below (s₁.setTop (entryFrame m #[(.int i0), (.int i1)] maxLocals)) t := by
      intro t k
      refine pre10 _ ?_
      show Steps p.tables e below (T9.setTop (mkF m 31 #[.val (.int i0), .val (.int i1), .val (.ref b1), .unset, .unset, .unset, .unset, .unset, .unset] [(.int (3 : Int32)), (.int i0)])) _
      refine XS.iand X9.here hx rfl (hb hby at_31) rfl ?_
      show Steps p.tables e below (T9.setTop (mkF m 32 #[.val (.int i0), .val (.int i1), .val (.ref b1), .unset, .unset, .unset, .unset, .unset, .unset] [(.int (i0 &&& (3 : Int32)))])) _
      rw [hk14]
      show Steps p.tables e below (T9.setTop (mkF m 32 #[.val (.int i0), .val (.int i1), .val (.ref b1), .unset, .unset, .unset, .unset, .unset, .unset] [(.int (3 : Int32))])) _
      refine XS.istoreN X9.here hx rfl (hb hby at_32) rfl (l' := #[.val (.int i0), .val (.int i1), .val (.ref b1), .val (.int (3 : Int32)), .unset, .unset, .unset, .unset, .unset]) rfl ?_
      show Steps p.tables e below (T9.setTop (mkF m 33 #[.val (.int i0), .val (.int i1), .val (.ref b1), .val (.int (3 : Int32)), .unset, .unset, .unset, .unset, .unset] [])) _
      refine XS.aloadN X9.here hx rfl (hb hby at_33) rfl rfl ?_
      show Steps p.tables e below (T9.setTop (mkF m 34 #[.val (.int i0), .val (.int i1), .val (.ref b1), .val (.int (3 : Int32)), .unset, .unset, .unset, .unset, .unset] [(.ref b1)])) _
      refine XS.iloadN X9.here hx rfl (hb hby at_34) rfl ?_
      show Steps p.tables e below (T9.setTop (mkF m 35 #[.val (.int i0), .val (.int i1), .val (.ref b1), .val (.int (3 : Int32)), .unset, .unset, .unset, .unset, .unset] [(.int (3 : Int32)), (.ref b1)])) _
      refine X9.aaload hx (j := (3 : Int32)) (v := (.ref w3)) (by rw [e9]; exact Ar51.1) (State.isArrayOf_alike hZ.alike Ar51.2.1) rfl Ar51.2.2 hin51 hat51 (g := (mkF m 35 #[.val (.int i0), .val (.int i1), .val (.ref b1), .val (.int (3 : Int32)), .unset, .unset, .unset, .unset, .unset] [(.int (3 : Int32)), (.ref b1)])) rfl rfl (hb hby at_35) _ ?_
      show Steps p.tables e below (T9.setTop (mkF m 36 #[.val (.int i0), .val (.int i1), .val (.ref b1), .val (.int (3 : Int32)), .unset, .unset, .unset, .unset, .unset] [(.ref w3)])) _
      refine XS.astore X9.here hx rfl (hb hby at_36) rfl rfl (l' := #[.val (.int i0), .val (.int i1), .val (.ref b1), .val (.int (3 : Int32)), .val (.ref w3), .unset, .unset, .unset, .unset]) rfl ?_
      show Steps p.tables e below (T9.setTop (mkF m 38 #[.val (.int i0), .val (.int i1), .val (.ref b1), .val (.int (3 : Int32)), .val (.ref w3), .unset, .unset, .unset, .unset] [])) _
      refine XS.iloadN X9.here hx rfl (hb hby at_38) rfl ?_
      show Steps p.tables e below (T9.setTop (mkF m 39 #[.val (.int i0), .val (.int i1), .val (.ref b1), .val (.int (3 : Int32)), .val (.ref w3), .unset, .unset, .unset, .unset] [(.int i1)])) _
      exact k
    rcases own_sign i1 with ⟨ha53, hb53, hc53⟩ | ⟨ha54, hb54, hc54⟩ | ⟨ha55, hb55, hc55⟩
    · obtain ⟨cq58, kq58, q58a, q58b, q58c⟩ := isOf hZ e9 (wE3.ext O_9.2)
      obtain ⟨_, _, ⟨T58, L58, k58, n58⟩, -, X58, ⟨Lc58, hQ58, l58, y58, z58⟩, st58⟩ := X9.virtualBack hx (y := (⟨"com/example/seneschal/seneschal/model/Comparison", "holds", "(I)Z"⟩ : MethodName)) (z := (⟨"com/example/seneschal/seneschal/model/Comparison", "holds", "(I)Z"⟩ : MethodName)) hown (mvT hZ (hw _ (List.mem_of_getElem? (i := 12) rfl))) (mvT hZ (hw _ (List.mem_of_getElem? (i := 13) rfl))) (notFace_of_selects (args := #[]) (mvT hZ (hw _ (List.mem_of_getElem? (i := 15) rfl)))) (mvT hZ (hw _ (List.mem_of_getElem? (i := 15) rfl))) (mvT hZ (hw _ (List.mem_of_getElem? (i := 14) rfl))) (by decide) (backOf (W := 0) (rm13 l Z a0 hw [] w0 w1 w2 w3 i1 h9 n0 hWd O_9 ha53 hb53 hc53) hZ (hw _ (List.mem_of_getElem? (i := 16) rfl)) (hw _ (List.mem_of_getElem? (i := 3) rfl)) (by decide) (by decide)) q58a q58c (g := (mkF m 145 #[.val (.int i0), .val (.int i1), .val (.ref b1), .val (.int (3 : Int32)), .val (.ref w3), .val (.int (1 : Int32)), .val (.int (0 : Int32)), .val (.int (0 : Int32)), .val (.int (0 : Int32))] [(.int i1), (.ref w3)])) rfl (by rw [hml]; rfl) (Steps.refl _) (argsL := [(.int i1)]) (rest := []) (lenOf pd1 rfl) rfl (by show 2 * 0 + _ ≤ _; exact Nat.le_of_eq rfl) (hb hby at_145) (fun _ _ => ⟨rfl, e9, (by decide : 1 + 0 ≤ _), (by decide : 4 + 0 ≤ _)⟩)
      dsimp only [Pt.U, Pt.locs, Pt.cells, Pt.slots] at X58 l58 y58 z58 st58 hQ58
      subst l58 y58 z58
      obtain ⟨rfl, N58q, e58⟩ := hQ58
      have N58 := Fr.app N9 N58q
      obtain ⟨fs, hr, hrun, hended, hWr, hsame⟩ := X58.leave (v := some (.int (1 : Int32))) (fun h => by rw [Bd.returns] at h; cases h)
      refine ⟨_, _, pre52 _ ?_, hrun, hended, _, _, rfl, ?_, ⟨_, rfl⟩, hWr, hsame.mono (Nat.le_of_ble_eq_true rfl) (Nat.le_of_ble_eq_true rfl)⟩
      · show Steps p.tables e below (T9.setTop (mkF m 39 #[.val (.int i0), .val (.int i1), .val (.ref b1), .val (.int (3 : Int32)), .val (.ref w3), .unset, .unset, .unset, .unset] [(.int i1)])) _
        refine XS.ifNo X9.here hx rfl (hb hby at_39) rfl ((if0 _ _).trans (tlt ha53).2.1) ?_
        show Steps p.tables e below (T9.setTop (mkF m 42 #[.val (.int i0), .val (.int i1), .val (.ref b1), .val (.int (3 : Int32)), .val (.ref w3), .unset, .unset, .unset, .unset] [])) _
        refine XS.iconst X9.here hx rfl (hb hby at_42) ?_
        show Steps p.tables e below (T9.setTop (mkF m 43 #[.val (.int i0), .val (.int i1), .val (.ref b1), .val (.int (3 : Int32)), .val (.ref w3), .unset, .unset, .unset, .unset] [(.int (1 : Int32))])) _
        refine XS.goto X9.here hx rfl (pc0 := 43) (pc' := 47) rfl (hb hby at_43) (by decide) (by decide) ?_
        show Steps p.tables e below (T9.setTop (mkF m 47 #[.val (.int i0), .val (.int i1), .val (.ref b1), .val (.int (3 : Int32)), .val (.ref w3), .unset, .unset, .unset, .unset] [(.int (1 : Int32))])) _
        refine XS.istore X9.here hx rfl (hb hby at_47) rfl (l' := #[.val (.int i0), .val (.int i1), .val (.ref b1), .val (.int (3 : Int32)), .val (.ref w3), .val (.int (1 : Int32)), .unset, .unset, .unset]) rfl ?_
        show Steps p.tables e below (T9.setTop (mkF m 49 #[.val (.int i0), .val (.int i1), .val (.ref b1), .val (.int (3 : Int32)), .val (.ref w3), .val (.int (1 : Int32)), .unset, .unset, .unset] [])) _
        refine XS.iloadN X9.here hx rfl (hb hby at_49) rfl ?_
        show Steps p.tables e below (T9.setTop (mkF m 50 #[.val (.int i0), .val (.int i1), .val (.ref b1), .val (.int (3 : Int32)), .val (.ref w3), .val (.int (1 : Int32)), .unset, .unset, .unset] [(.int i1)])) _
        refine XS.ifYes X9.here hx rfl (pc0 := 50) (pc' := 57) rfl (hb hby at_50) rfl ((if0 _ _).trans (feq hc53).2) (by decide) (by decide) ?_
        show Steps p.tables e below (T9.setTop (mkF m 57 #[.val (.int i0), .val (.int i1), .val (.ref b1), .val (.int (3 : Int32)), .val (.ref w3), .val (.int (1 : Int32)), .unset, .unset, .unset] [])) _
        refine XS.iconst X9.here hx rfl (hb hby at_57) ?_
        show Steps p.tables e below (T9.setTop (mkF m 58 #[.val (.int i0), .val (.int i1), .val (.ref b1), .val (.int (3 : Int32)), .val (.ref w3), .val (.int (1 : Int32)), .unset, .unset, .unset] [(.int (0 : Int32))])) _
        refine XS.istore X9.here hx rfl (hb hby at_58) rfl (l' := #[.val (.int i0), .val (.int i1), .val (.ref b1), .val (.int (3 : Int32)), .val (.ref w3), .val (.int (1 : Int32)), .val (.int (0 : Int32)), .unset, .unset]) rfl ?_
        show Steps p.tables e below (T9.setTop (mkF m 60 #[.val (.int i0), .val (.int i1), .val (.ref b1), .val (.int (3 : Int32)), .val (.ref w3), .val (.int (1 : Int32)), .val (.int (0 : Int32)), .unset, .unset] [])) _
        refine XS.iload X9.here hx rfl (hb hby at_60) rfl ?_
        show Steps p.tables e below (T9.setTop (mkF m 62 #[.val (.int i0), .val (.int i1), .val (.ref b1), .val (.int (3 : Int32)), .val (.ref w3), .val (.int (1 : Int32)), .val (.int (0 : Int32)), .unset, .unset] [(.int (1 : Int32))])) _
        refine XS.ifYes X9.here hx rfl (pc0 := 62) (pc' := 74) rfl (hb hby at_62) rfl (by decide) (by decide) (by decide) ?_
        show Steps p.tables e below (T9.setTop (mkF m 74 #[.val (.int i0), .val (.int i1), .val (.ref b1), .val (.int (3 : Int32)), .val (.ref w3), .val (.int (1 : Int32)), .val (.int (0 : Int32)), .unset, .unset] [])) _
        refine XS.iconst X9.here hx rfl (hb hby at_74) ?_
        show Steps p.tables e below (T9.setTop (mkF m 75 #[.val (.int i0), .val (.int i1), .val (.ref b1), .val (.int (3 : Int32)), .val (.ref w3), .val (.int (1 : Int32)), .val (.int (0 : Int32)), .unset, .unset] [(.int (0 : Int32))])) _
        refine XS.istore X9.here hx rfl (hb hby at_75) rfl (l' := #[.val (.int i0), .val (.int i1), .val (.ref b1), .val (.int (3 : Int32)), .val (.ref w3), .val (.int (1 : Int32)), .val (.int (0 : Int32)), .val (.int (0 : Int32)), .unset]) rfl ?_
        show Steps p.tables e below (T9.setTop (mkF m 77 #[.val (.int i0), .val (.int i1), .val (.ref b1), .val (.int (3 : Int32)), .val (.ref w3), .val (.int (1 : Int32)), .val (.int (0 : Int32)), .val (.int (0 : Int32)), .unset] [])) _
        refine XS.iloadN X9.here hx rfl (hb hby at_77) rfl ?_
        show Steps p.tables e below (T9.setTop (mkF m 78 #[.val (.int i0), .val (.int i1), .val (.ref b1), .val (.int (3 : Int32)), .val (.ref w3), .val (.int (1 : Int32)), .val (.int (0 : Int32)), .val (.int (0 : Int32)), .unset] [(.int (3 : Int32))])) _
        refine XS.ifYes X9.here hx rfl (pc0 := 78) (pc' := 88) rfl (hb hby at_78) rfl (by decide) (by decide) (by decide) ?_
        show Steps p.tables e below (T9.setTop (mkF m 88 #[.val (.int i0), .val (.int i1), .val (.ref b1), .val (.int (3 : Int32)), .val (.ref w3), .val (.int (1 : Int32)), .val (.int (0 : Int32)), .val (.int (0 : Int32)), .unset] [])) _
        refine XS.iloadN X9.here hx rfl (hb hby at_88) rfl ?_
        show Steps p.tables e below (T9.setTop (mkF m 89 #[.val (.int i0), .val (.int i1), .val (.ref b1), .val (.int (3 : Int32)), .val (.ref w3), .val (.int (1 : Int32)), .val (.int (0 : Int32)), .val (.int (0 : Int32)), .unset] [(.int (3 : Int32))])) _
        refine XS.iconst X9.here hx rfl (hb hby at_89) ?_
        show Steps p.tables e below (T9.setTop (mkF m 90 #[.val (.int i0), .val (.int i1), .val (.ref b1), .val (.int (3 : Int32)), .val (.ref w3), .val (.int (1 : Int32)), .val (.int (0 : Int32)), .val (.int (0 : Int32)), .unset] [(.int (1 : Int32)), (.int (3 : Int32))])) _
        refine XS.icmpYes X9.here hx rfl (pc0 := 90) (pc' := 113) rfl (hb hby at_90) rfl (by decide) (by decide) (by decide) ?_
        show Steps p.tables e below (T9.setTop (mkF m 113 #[.val (.int i0), .val (.int i1), .val (.ref b1), .val (.int (3 : Int32)), .val (.ref w3), .val (.int (1 : Int32)), .val (.int (0 : Int32)), .val (.int (0 : Int32)), .unset] [])) _
        refine XS.iloadN X9.here hx rfl (hb hby at_113) rfl ?_
        show Steps p.tables e below (T9.setTop (mkF m 114 #[.val (.int i0), .val (.int i1), .val (.ref b1), .val (.int (3 : Int32)), .val (.ref w3), .val (.int (1 : Int32)), .val (.int (0 : Int32)), .val (.int (0 : Int32)), .unset] [(.int (3 : Int32))])) _
        refine XS.iconst X9.here hx rfl (hb hby at_114) ?_
        show Steps p.tables e below (T9.setTop (mkF m 115 #[.val (.int i0), .val (.int i1), .val (.ref b1), .val (.int (3 : Int32)), .val (.ref w3), .val (.int (1 : Int32)), .val (.int (0 : Int32)), .val (.int (0 : Int32)), .unset] [(.int (2 : Int32)), (.int (3 : Int32))])) _
        refine XS.icmpYes X9.here hx rfl (pc0 := 115) (pc' := 125) rfl (hb hby at_115) rfl (by decide) (by decide) (by decide) ?_
        show Steps p.tables e below (T9.setTop (mkF m 125 #[.val (.int i0), .val (.int i1), .val (.ref b1), .val (.int (3 : Int32)), .val (.ref w3), .val (.int (1 : Int32)), .val (.int (0 : Int32)), .val (.int (0 : Int32)), .unset] [])) _
        refine XS.iload X9.here hx rfl (hb hby at_125) rfl ?_
        show Steps p.tables e below (T9.setTop (mkF m 127 #[.val (.int i0), .val (.int i1), .val (.ref b1), .val (.int (3 : Int32)), .val (.ref w3), .val (.int (1 : Int32)), .val (.int (0 : Int32)), .val (.int (0 : Int32)), .unset] [(.int (0 : Int32))])) _
        refine XS.ifNo X9.here hx rfl (hb hby at_127) rfl (by decide) ?_
        show Steps p.tables e below (T9.setTop (mkF m 130 #[.val (.int i0), .val (.int i1), .val (.ref b1), .val (.int (3 : Int32)), .val (.ref w3), .val (.int (1 : Int32)), .val (.int (0 : Int32)), .val (.int (0 : Int32)), .unset] [])) _
        refine XS.iload X9.here hx rfl (hb hby at_130) rfl ?_
        show Steps p.tables e below (T9.setTop (mkF m 132 #[.val (.int i0), .val (.int i1), .val (.ref b1), .val (.int (3 : Int32)), .val (.ref w3), .val (.int (1 : Int32)), .val (.int (0 : Int32)), .val (.int (0 : Int32)), .unset] [(.int (0 : Int32))])) _
        refine XS.ifYes X9.here hx rfl (pc0 := 132) (pc' := 139) rfl (hb hby at_132) rfl (by decide) (by decide) (by decide) ?_
        show Steps p.tables e below (T9.setTop (mkF m 139 #[.val (.int i0), .val (.int i1), .val (.ref b1), .val (.int (3 : Int32)), .val (.ref w3), .val (.int (1 : Int32)), .val (.int (0 : Int32)), .val (.int (0 : Int32)), .unset] [])) _
        refine XS.iconst X9.here hx rfl (hb hby at_139) ?_
        show Steps p.tables e below (T9.setTop (mkF m 140 #[.val (.int i0), .val (.int i1), .val (.ref b1), .val (.int (3 : Int32)), .val (.ref w3), .val (.int (1 : Int32)), .val (.int (0 : Int32)), .val (.int (0 : Int32)), .unset] [(.int (0 : Int32))])) _
        refine XS.istore X9.here hx rfl (hb hby at_140) rfl (l' := #[.val (.int i0), .val (.int i1), .val (.ref b1), .val (.int (3 : Int32)), .val (.ref w3), .val (.int (1 : Int32)), .val (.int (0 : Int32)), .val (.int (0 : Int32)), .val (.int (0 : Int32))]) rfl ?_
        show Steps p.tables e below (T9.setTop (mkF m 142 #[.val (.int i0), .val (.int i1), .val (.ref b1), .val (.int (3 : Int32)), .val (.ref w3), .val (.int (1 : Int32)), .val (.int (0 : Int32)), .val (.int (0 : Int32)), .val (.int (0 : Int32))] [])) _
        refine XS.aload X9.here hx rfl (hb hby at_142) rfl rfl ?_
        show Steps p.tables e below (T9.setTop (mkF m 144 #[.val (.int i0), .val (.int i1), .val (.ref b1), .val (.int (3 : Int32)), .val (.ref w3), .val (.int (1 : Int32)), .val (.int (0 : Int32)), .val (.int (0 : Int32)), .val (.int (0 : Int32))] [(.ref w3)])) _
        refine XS.iloadN X9.here hx rfl (hb hby at_144) rfl ?_
        show Steps p.tables e below (T9.setTop (mkF m 145 #[.val (.int i0), .val (.int i1), .val (.ref b1), .val (.int (3 : Int32)), .val (.ref w3), .val (.int (1 : Int32)), .val (.int (0 : Int32)), .val (.int (0 : Int32)), .val (.int (0 : Int32))] [(.int i1), (.ref w3)])) _
        refine st58.trans ?_
        show Steps p.tables e below (T58.setTop (mkF m 148 #[.val (.int i0), .val (.int i1), .val (.ref b1), .val (.int (3 : Int32)), .val (.ref w3), .val (.int (1 : Int32)), .val (.int (0 : Int32)), .val (.int (0 : Int32)), .val (.int (0 : Int32))] [(.int (0 : Int32))])) _
        refine XS.iload X58.here hx rfl (hb hby at_148) rfl ?_
        show Steps p.tables e below (T58.setTop (mkF m 150 #[.val (.int i0), .val (.int i1), .val (.ref b1), .val (.int (3 : Int32)), .val (.ref w3), .val (.int (1 : Int32)), .val (.int (0 : Int32)), .val (.int (0 : Int32)), .val (.int (0 : Int32))] [(.int (0 : Int32)), (.int (0 : Int32))])) _
        refine XS.icmpNo X58.here hx rfl (hb hby at_150) rfl (by decide) ?_
        show Steps p.tables e below (T58.setTop (mkF m 153 #[.val (.int i0), .val (.int i1), .val (.ref b1), .val (.int (3 : Int32)), .val (.ref w3), .val (.int (1 : Int32)), .val (.int (0 : Int32)), .val (.int (0 : Int32)), .val (.int (0 : Int32))] [])) _
        refine XS.iconst X58.here hx rfl (hb hby at_153) ?_
        show Steps p.tables e below (T58.setTop (mkF m 154 #[.val (.int i0), .val (.int i1), .val (.ref b1), .val (.int (3 : Int32)), .val (.ref w3), .val (.int (1 : Int32)), .val (.int (0 : Int32)), .val (.int (0 : Int32)), .val (.int (0 : Int32))] [(.int (1 : Int32))])) _
        refine XS.goto X58.here hx rfl (pc0 := 154) (pc' := 158) rfl (hb hby at_154) (by decide) (by decide) ?_
        show Steps p.tables e below (T58.setTop (mkF m 158 #[.val (.int i0), .val (.int i1), .val (.ref b1), .val (.int (3 : Int32)), .val (.ref w3), .val (.int (1 : Int32)), .val (.int (0 : Int32)), .val (.int (0 : Int32)), .val (.int (0 : Int32))] [(.int (1 : Int32))])) _
        exact retN X58 hx (t := .boolean) Bd.returns (by simp) (hb hby at_158) hr
      · show Ql n0 _ T58.heap _
        exact ⟨rfl, N58⟩
    · obtain ⟨cq60, kq60, q60a, q60b, q60c⟩ := isOf hZ e9 (wE3.ext O_9.2)
      obtain ⟨_, _, ⟨T60, L60, k60, n60⟩, -, X60, ⟨Lc60, hQ60, l60, y60, z60⟩, st60⟩ := X9.virtualBack hx (y := (⟨"com/example/seneschal/seneschal/model/Comparison", "holds", "(I)Z"⟩ : MethodName)) (z := (⟨"com/example/seneschal/seneschal/model/Comparison", "holds", "(I)Z"⟩ : MethodName)) hown (mvT hZ (hw _ (List.mem_of_getElem? (i := 12) rfl))) (mvT hZ (hw _ (List.mem_of_getElem? (i := 13) rfl))) (notFace_of_selects (args := #[]) (mvT hZ (hw _ (List.mem_of_getElem? (i := 15) rfl)))) (mvT hZ (hw _ (List.mem_of_getElem? (i := 15) rfl))) (mvT hZ (hw _ (List.mem_of_getElem? (i := 14) rfl))) (by decide) (backOf (W := 0) (rm15 l Z a0 hw [] w0 w1 w2 w3 i1 h9 n0 hWd O_9 ha54 hb54 hc54) hZ (hw _ (List.mem_of_getElem? (i := 16) rfl)) (hw _ (List.mem_of_getElem? (i := 3) rfl)) (by decide) (by decide)) q60a q60c (g := (mkF m 145 #[.val (.int i0), .val (.int i1), .val (.ref b1), .val (.int (3 : Int32)), .val (.ref w3), .val (.int (0 : Int32)), .val (.int (1 : Int32)), .val (.int (0 : Int32)), .val (.int (1 : Int32))] [(.int i1), (.ref w3)])) rfl (by rw [hml]; rfl) (Steps.refl _) (argsL := [(.int i1)]) (rest := []) (lenOf pd1 rfl) rfl (by show 2 * 0 + _ ≤ _; exact Nat.le_of_eq rfl) (hb hby at_145) (fun _ _ => ⟨rfl, e9, (by decide : 1 + 0 ≤ _), (by decide : 4 + 0 ≤ _)⟩)
      dsimp only [Pt.U, Pt.locs, Pt.cells, Pt.slots] at X60 l60 y60 z60 st60 hQ60
      subst l60 y60 z60
      obtain ⟨rfl, N60q, e60⟩ := hQ60
      have N60 := Fr.app N9 N60q
      obtain ⟨fs, hr, hrun, hended, hWr, hsame⟩ := X60.leave (v := some (.int (1 : Int32))) (fun h => by rw [Bd.returns] at h; cases h)
      refine ⟨_, _, pre52 _ ?_, hrun, hended, _, _, rfl, ?_, ⟨_, rfl⟩, hWr, hsame.mono (Nat.le_of_ble_eq_true rfl) (Nat.le_of_ble_eq_true rfl)⟩
      · show Steps p.tables e below (T9.setTop (mkF m 39 #[.val (.int i0), .val (.int i1), .val (.ref b1), .val (.int (3 : Int32)), .val (.ref w3), .unset, .unset, .unset, .unset] [(.int i1)])) _
        refine XS.ifYes X9.here hx rfl (pc0 := 39) (pc' := 46) rfl (hb hby at_39) rfl ((if0 _ _).trans (flt ha54).2.1) (by decide) (by decide) ?_
        show Steps p.tables e below (T9.setTop (mkF m 46 #[.val (.int i0), .val (.int i1), .val (.ref b1), .val (.int (3 : Int32)), .val (.ref w3), .unset, .unset, .unset, .unset] [])) _
        refine XS.iconst X9.here hx rfl (hb hby at_46) ?_
        show Steps p.tables e below (T9.setTop (mkF m 47 #[.val (.int i0), .val (.int i1), .val (.ref b1), .val (.int (3 : Int32)), .val (.ref w3), .unset, .unset, .unset, .unset] [(.int (0 : Int32))])) _
        refine XS.istore X9.here hx rfl (hb hby at_47) rfl (l' := #[.val (.int i0), .val (.int i1), .val (.ref b1), .val (.int (3 : Int32)), .val (.ref w3), .val (.int (0 : Int32)), .unset, .unset, .unset]) rfl ?_
        show Steps p.tables e below (T9.setTop (mkF m 49 #[.val (.int i0), .val (.int i1), .val (.ref b1), .val (.int (3 : Int32)), .val (.ref w3), .val (.int (0 : Int32)), .unset, .unset, .unset] [])) _
        refine XS.iloadN X9.here hx rfl (hb hby at_49) rfl ?_
        show Steps p.tables e below (T9.setTop (mkF m 50 #[.val (.int i0), .val (.int i1), .val (.ref b1), .val (.int (3 : Int32)), .val (.ref w3), .val (.int (0 : Int32)), .unset, .unset, .unset] [(.int i1)])) _
        refine XS.ifNo X9.here hx rfl (hb hby at_50) rfl ((if0 _ _).trans (teq hc54).2) ?_
        show Steps p.tables e below (T9.setTop (mkF m 53 #[.val (.int i0), .val (.int i1), .val (.ref b1), .val (.int (3 : Int32)), .val (.ref w3), .val (.int (0 : Int32)), .unset, .unset, .unset] [])) _
        refine XS.iconst X9.here hx rfl (hb hby at_53) ?_
        show Steps p.tables e below (T9.setTop (mkF m 54 #[.val (.int i0), .val (.int i1), .val (.ref b1), .val (.int (3 : Int32)), .val (.ref w3), .val (.int (0 : Int32)), .unset, .unset, .unset] [(.int (1 : Int32))])) _
        refine XS.goto X9.here hx rfl (pc0 := 54) (pc' := 58) rfl (hb hby at_54) (by decide) (by decide) ?_
        show Steps p.tables e below (T9.setTop (mkF m 58 #[.val (.int i0), .val (.int i1), .val (.ref b1), .val (.int (3 : Int32)), .val (.ref w3), .val (.int (0 : Int32)), .unset, .unset, .unset] [(.int (1 : Int32))])) _
        refine XS.istore X9.here hx rfl (hb hby at_58) rfl (l' := #[.val (.int i0), .val (.int i1), .val (.ref b1), .val (.int (3 : Int32)), .val (.ref w3), .val (.int (0 : Int32)), .val (.int (1 : Int32)), .unset, .unset]) rfl ?_
        show Steps p.tables e below (T9.setTop (mkF m 60 #[.val (.int i0), .val (.int i1), .val (.ref b1), .val (.int (3 : Int32)), .val (.ref w3), .val (.int (0 : Int32)), .val (.int (1 : Int32)), .unset, .unset] [])) _
        refine XS.iload X9.here hx rfl (hb hby at_60) rfl ?_
        show Steps p.tables e below (T9.setTop (mkF m 62 #[.val (.int i0), .val (.int i1), .val (.ref b1), .val (.int (3 : Int32)), .val (.ref w3), .val (.int (0 : Int32)), .val (.int (1 : Int32)), .unset, .unset] [(.int (0 : Int32))])) _
        refine XS.ifNo X9.here hx rfl (hb hby at_62) rfl (by decide) ?_
        show Steps p.tables e below (T9.setTop (mkF m 65 #[.val (.int i0), .val (.int i1), .val (.ref b1), .val (.int (3 : Int32)), .val (.ref w3), .val (.int (0 : Int32)), .val (.int (1 : Int32)), .unset, .unset] [])) _
        refine XS.iload X9.here hx rfl (hb hby at_65) rfl ?_
        show Steps p.tables e below (T9.setTop (mkF m 67 #[.val (.int i0), .val (.int i1), .val (.ref b1), .val (.int (3 : Int32)), .val (.ref w3), .val (.int (0 : Int32)), .val (.int (1 : Int32)), .unset, .unset] [(.int (1 : Int32))])) _
        refine XS.ifYes X9.here hx rfl (pc0 := 67) (pc' := 74) rfl (hb hby at_67) rfl (by decide) (by decide) (by decide) ?_
        show Steps p.tables e below (T9.setTop (mkF m 74 #[.val (.int i0), .val (.int i1), .val (.ref b1), .val (.int (3 : Int32)), .val (.ref w3), .val (.int (0 : Int32)), .val (.int (1 : Int32)), .unset, .unset] [])) _
        refine XS.iconst X9.here hx rfl (hb hby at_74) ?_
        show Steps p.tables e below (T9.setTop (mkF m 75 #[.val (.int i0), .val (.int i1), .val (.ref b1), .val (.int (3 : Int32)), .val (.ref w3), .val (.int (0 : Int32)), .val (.int (1 : Int32)), .unset, .unset] [(.int (0 : Int32))])) _
        refine XS.istore X9.here hx rfl (hb hby at_75) rfl (l' := #[.val (.int i0), .val (.int i1), .val (.ref b1), .val (.int (3 : Int32)), .val (.ref w3), .val (.int (0 : Int32)), .val (.int (1 : Int32)), .val (.int (0 : Int32)), .unset]) rfl ?_
        show Steps p.tables e below (T9.setTop (mkF m 77 #[.val (.int i0), .val (.int i1), .val (.ref b1), .val (.int (3 : Int32)), .val (.ref w3), .val (.int (0 : Int32)), .val (.int (1 : Int32)), .val (.int (0 : Int32)), .unset] [])) _
        refine XS.iloadN X9.here hx rfl (hb hby at_77) rfl ?_
        show Steps p.tables e below (T9.setTop (mkF m 78 #[.val (.int i0), .val (.int i1), .val (.ref b1), .val (.int (3 : Int32)), .val (.ref w3), .val (.int (0 : Int32)), .val (.int (1 : Int32)), .val (.int (0 : Int32)), .unset] [(.int (3 : Int32))])) _
        refine XS.ifYes X9.here hx rfl (pc0 := 78) (pc' := 88) rfl (hb hby at_78) rfl (by decide) (by decide) (by decide) ?_
        show Steps p.tables e below (T9.setTop (mkF m 88 #[.val (.int i0), .val (.int i1), .val (.ref b1), .val (.int (3 : Int32)), .val (.ref w3), .val (.int (0 : Int32)), .val (.int (1 : Int32)), .val (.int (0 : Int32)), .unset] [])) _
        refine XS.iloadN X9.here hx rfl (hb hby at_88) rfl ?_
        show Steps p.tables e below (T9.setTop (mkF m 89 #[.val (.int i0), .val (.int i1), .val (.ref b1), .val (.int (3 : Int32)), .val (.ref w3), .val (.int (0 : Int32)), .val (.int (1 : Int32)), .val (.int (0 : Int32)), .unset] [(.int (3 : Int32))])) _
        refine XS.iconst X9.here hx rfl (hb hby at_89) ?_
        show Steps p.tables e below (T9.setTop (mkF m 90 #[.val (.int i0), .val (.int i1), .val (.ref b1), .val (.int (3 : Int32)), .val (.ref w3), .val (.int (0 : Int32)), .val (.int (1 : Int32)), .val (.int (0 : Int32)), .unset] [(.int (1 : Int32)), (.int (3 : Int32))])) _
        refine XS.icmpYes X9.here hx rfl (pc0 := 90) (pc' := 113) rfl (hb hby at_90) rfl (by decide) (by decide) (by decide) ?_
        show Steps p.tables e below (T9.setTop (mkF m 113 #[.val (.int i0), .val (.int i1), .val (.ref b1), .val (.int (3 : Int32)), .val (.ref w3), .val (.int (0 : Int32)), .val (.int (1 : Int32)), .val (.int (0 : Int32)), .unset] [])) _
        refine XS.iloadN X9.here hx rfl (hb hby at_113) rfl ?_
        show Steps p.tables e below (T9.setTop (mkF m 114 #[.val (.int i0), .val (.int i1), .val (.ref b1), .val (.int (3 : Int32)), .val (.ref w3), .val (.int (0 : Int32)), .val (.int (1 : Int32)), .val (.int (0 : Int32)), .unset] [(.int (3 : Int32))])) _
        refine XS.iconst X9.here hx rfl (hb hby at_114) ?_
        show Steps p.tables e below (T9.setTop (mkF m 115 #[.val (.int i0), .val (.int i1), .val (.ref b1), .val (.int (3 : Int32)), .val (.ref w3), .val (.int (0 : Int32)), .val (.int (1 : Int32)), .val (.int (0 : Int32)), .unset] [(.int (2 : Int32)), (.int (3 : Int32))])) _
        refine XS.icmpYes X9.here hx rfl (pc0 := 115) (pc' := 125) rfl (hb hby at_115) rfl (by decide) (by decide) (by decide) ?_
        show Steps p.tables e below (T9.setTop (mkF m 125 #[.val (.int i0), .val (.int i1), .val (.ref b1), .val (.int (3 : Int32)), .val (.ref w3), .val (.int (0 : Int32)), .val (.int (1 : Int32)), .val (.int (0 : Int32)), .unset] [])) _
        refine XS.iload X9.here hx rfl (hb hby at_125) rfl ?_
        show Steps p.tables e below (T9.setTop (mkF m 127 #[.val (.int i0), .val (.int i1), .val (.ref b1), .val (.int (3 : Int32)), .val (.ref w3), .val (.int (0 : Int32)), .val (.int (1 : Int32)), .val (.int (0 : Int32)), .unset] [(.int (0 : Int32))])) _
        refine XS.ifNo X9.here hx rfl (hb hby at_127) rfl (by decide) ?_
        show Steps p.tables e below (T9.setTop (mkF m 130 #[.val (.int i0), .val (.int i1), .val (.ref b1), .val (.int (3 : Int32)), .val (.ref w3), .val (.int (0 : Int32)), .val (.int (1 : Int32)), .val (.int (0 : Int32)), .unset] [])) _
        refine XS.iload X9.here hx rfl (hb hby at_130) rfl ?_
        show Steps p.tables e below (T9.setTop (mkF m 132 #[.val (.int i0), .val (.int i1), .val (.ref b1), .val (.int (3 : Int32)), .val (.ref w3), .val (.int (0 : Int32)), .val (.int (1 : Int32)), .val (.int (0 : Int32)), .unset] [(.int (1 : Int32))])) _
        refine XS.ifNo X9.here hx rfl (hb hby at_132) rfl (by decide) ?_
        show Steps p.tables e below (T9.setTop (mkF m 135 #[.val (.int i0), .val (.int i1), .val (.ref b1), .val (.int (3 : Int32)), .val (.ref w3), .val (.int (0 : Int32)), .val (.int (1 : Int32)), .val (.int (0 : Int32)), .unset] [])) _
        refine XS.iconst X9.here hx rfl (hb hby at_135) ?_
        show Steps p.tables e below (T9.setTop (mkF m 136 #[.val (.int i0), .val (.int i1), .val (.ref b1), .val (.int (3 : Int32)), .val (.ref w3), .val (.int (0 : Int32)), .val (.int (1 : Int32)), .val (.int (0 : Int32)), .unset] [(.int (1 : Int32))])) _
        refine XS.goto X9.here hx rfl (pc0 := 136) (pc' := 140) rfl (hb hby at_136) (by decide) (by decide) ?_
        show Steps p.tables e below (T9.setTop (mkF m 140 #[.val (.int i0), .val (.int i1), .val (.ref b1), .val (.int (3 : Int32)), .val (.ref w3), .val (.int (0 : Int32)), .val (.int (1 : Int32)), .val (.int (0 : Int32)), .unset] [(.int (1 : Int32))])) _
        refine XS.istore X9.here hx rfl (hb hby at_140) rfl (l' := #[.val (.int i0), .val (.int i1), .val (.ref b1), .val (.int (3 : Int32)), .val (.ref w3), .val (.int (0 : Int32)), .val (.int (1 : Int32)), .val (.int (0 : Int32)), .val (.int (1 : Int32))]) rfl ?_
        show Steps p.tables e below (T9.setTop (mkF m 142 #[.val (.int i0), .val (.int i1), .val (.ref b1), .val (.int (3 : Int32)), .val (.ref w3), .val (.int (0 : Int32)), .val (.int (1 : Int32)), .val (.int (0 : Int32)), .val (.int (1 : Int32))] [])) _
        refine XS.aload X9.here hx rfl (hb hby at_142) rfl rfl ?_
        show Steps p.tables e below (T9.setTop (mkF m 144 #[.val (.int i0), .val (.int i1), .val (.ref b1), .val (.int (3 : Int32)), .val (.ref w3), .val (.int (0 : Int32)), .val (.int (1 : Int32)), .val (.int (0 : Int32)), .val (.int (1 : Int32))] [(.ref w3)])) _
        refine XS.iloadN X9.here hx rfl (hb hby at_144) rfl ?_
        show Steps p.tables e below (T9.setTop (mkF m 145 #[.val (.int i0), .val (.int i1), .val (.ref b1), .val (.int (3 : Int32)), .val (.ref w3), .val (.int (0 : Int32)), .val (.int (1 : Int32)), .val (.int (0 : Int32)), .val (.int (1 : Int32))] [(.int i1), (.ref w3)])) _
        refine st60.trans ?_
        show Steps p.tables e below (T60.setTop (mkF m 148 #[.val (.int i0), .val (.int i1), .val (.ref b1), .val (.int (3 : Int32)), .val (.ref w3), .val (.int (0 : Int32)), .val (.int (1 : Int32)), .val (.int (0 : Int32)), .val (.int (1 : Int32))] [(.int (1 : Int32))])) _
        refine XS.iload X60.here hx rfl (hb hby at_148) rfl ?_
        show Steps p.tables e below (T60.setTop (mkF m 150 #[.val (.int i0), .val (.int i1), .val (.ref b1), .val (.int (3 : Int32)), .val (.ref w3), .val (.int (0 : Int32)), .val (.int (1 : Int32)), .val (.int (0 : Int32)), .val (.int (1 : Int32))] [(.int (1 : Int32)), (.int (1 : Int32))])) _
        refine XS.icmpNo X60.here hx rfl (hb hby at_150) rfl (by decide) ?_
        show Steps p.tables e below (T60.setTop (mkF m 153 #[.val (.int i0), .val (.int i1), .val (.ref b1), .val (.int (3 : Int32)), .val (.ref w3), .val (.int (0 : Int32)), .val (.int (1 : Int32)), .val (.int (0 : Int32)), .val (.int (1 : Int32))] [])) _
        refine XS.iconst X60.here hx rfl (hb hby at_153) ?_
        show Steps p.tables e below (T60.setTop (mkF m 154 #[.val (.int i0), .val (.int i1), .val (.ref b1), .val (.int (3 : Int32)), .val (.ref w3), .val (.int (0 : Int32)), .val (.int (1 : Int32)), .val (.int (0 : Int32)), .val (.int (1 : Int32))] [(.int (1 : Int32))])) _
        refine XS.goto X60.here hx rfl (pc0 := 154) (pc' := 158) rfl (hb hby at_154) (by decide) (by decide) ?_
        show Steps p.tables e below (T60.setTop (mkF m 158 #[.val (.int i0), .val (.int i1), .val (.ref b1), .val (.int (3 : Int32)), .val (.ref w3), .val (.int (0 : Int32)), .val (.int (1 : Int32)), .val (.int (0 : Int32)), .val (.int (1 : Int32))] [(.int (1 : Int32))])) _
        exact retN X60 hx (t := .boolean) Bd.returns (by simp) (hb hby at_158) hr
      · show Ql n0 _ T60.heap _
        exact ⟨rfl, N60⟩
    · obtain ⟨cq62, kq62, q62a, q62b, q62c⟩ := isOf hZ e9 (wE3.ext O_9.2)
      obtain ⟨_, _, ⟨T62, L62, k62, n62⟩, -, X62, ⟨Lc62, hQ62, l62, y62, z62⟩, st62⟩ := X9.virtualBack hx (y := (⟨"com/example/seneschal/seneschal/model/Comparison", "holds", "(I)Z"⟩ : MethodName)) (z := (⟨"com/example/seneschal/seneschal/model/Comparison", "holds", "(I)Z"⟩ : MethodName)) hown (mvT hZ (hw _ (List.mem_of_getElem? (i := 12) rfl))) (mvT hZ (hw _ (List.mem_of_getElem? (i := 13) rfl))) (notFace_of_selects (args := #[]) (mvT hZ (hw _ (List.mem_of_getElem? (i := 15) rfl)))) (mvT hZ (hw _ (List.mem_of_getElem? (i := 15) rfl))) (mvT hZ (hw _ (List.mem_of_getElem? (i := 14) rfl))) (by decide) (backOf (W := 0) (rm16 l Z a0 hw [] w0 w1 w2 w3 i1 h9 n0 hWd O_9 ha55 hb55 hc55) hZ (hw _ (List.mem_of_getElem? (i := 16) rfl)) (hw _ (List.mem_of_getElem? (i := 3) rfl)) (by decide) (by decide)) q62a q62c (g := (mkF m 145 #[.val (.int i0), .val (.int i1), .val (.ref b1), .val (.int (3 : Int32)), .val (.ref w3), .val (.int (0 : Int32)), .val (.int (0 : Int32)), .val (.int (1 : Int32)), .val (.int (1 : Int32))] [(.int i1), (.ref w3)])) rfl (by rw [hml]; rfl) (Steps.refl _) (argsL := [(.int i1)]) (rest := []) (lenOf pd1 rfl) rfl (by show 2 * 0 + _ ≤ _; exact Nat.le_of_eq rfl) (hb hby at_145) (fun _ _ => ⟨rfl, e9, (by decide : 1 + 0 ≤ _), (by decide : 4 + 0 ≤ _)⟩)
      dsimp only [Pt.U, Pt.locs, Pt.cells, Pt.slots] at X62 l62 y62 z62 st62 hQ62
      subst l62 y62 z62
      obtain ⟨rfl, N62q, e62⟩ := hQ62
      have N62 := Fr.app N9 N62q
      obtain ⟨fs, hr, hrun, hended, hWr, hsame⟩ := X62.leave (v := some (.int (1 : Int32))) (fun h => by rw [Bd.returns] at h; cases h)
      refine ⟨_, _, pre52 _ ?_, hrun, hended, _, _, rfl, ?_, ⟨_, rfl⟩, hWr, hsame.mono (Nat.le_of_ble_eq_true rfl) (Nat.le_of_ble_eq_true rfl)⟩
      · show Steps p.tables e below (T9.setTop (mkF m 39 #[.val (.int i0), .val (.int i1), .val (.ref b1), .val (.int (3 : Int32)), .val (.ref w3), .unset, .unset, .unset, .unset] [(.int i1)])) _
        refine XS.ifYes X9.here hx rfl (pc0 := 39) (pc' := 46) rfl (hb hby at_39) rfl ((if0 _ _).trans (flt ha55).2.1) (by decide) (by decide) ?_
        show Steps p.tables e below (T9.setTop (mkF m 46 #[.val (.int i0), .val (.int i1), .val (.ref b1), .val (.int (3 : Int32)), .val (.ref w3), .unset, .unset, .unset, .unset] [])) _
        refine XS.iconst X9.here hx rfl (hb hby at_46) ?_
        show Steps p.tables e below (T9.setTop (mkF m 47 #[.val (.int i0), .val (.int i1), .val (.ref b1), .val (.int (3 : Int32)), .val (.ref w3), .unset, .unset, .unset, .unset] [(.int (0 : Int32))])) _
        refine XS.istore X9.here hx rfl (hb hby at_47) rfl (l' := #[.val (.int i0), .val (.int i1), .val (.ref b1), .val (.int (3 : Int32)), .val (.ref w3), .val (.int (0 : Int32)), .unset, .unset, .unset]) rfl ?_
        show Steps p.tables e below (T9.setTop (mkF m 49 #[.val (.int i0), .val (.int i1), .val (.ref b1), .val (.int (3 : Int32)), .val (.ref w3), .val (.int (0 : Int32)), .unset, .unset, .unset] [])) _
        refine XS.iloadN X9.here hx rfl (hb hby at_49) rfl ?_
        show Steps p.tables e below (T9.setTop (mkF m 50 #[.val (.int i0), .val (.int i1), .val (.ref b1), .val (.int (3 : Int32)), .val (.ref w3), .val (.int (0 : Int32)), .unset, .unset, .unset] [(.int i1)])) _
        refine XS.ifYes X9.here hx rfl (pc0 := 50) (pc' := 57) rfl (hb hby at_50) rfl ((if0 _ _).trans (feq hc55).2) (by decide) (by decide) ?_
        show Steps p.tables e below (T9.setTop (mkF m 57 #[.val (.int i0), .val (.int i1), .val (.ref b1), .val (.int (3 : Int32)), .val (.ref w3), .val (.int (0 : Int32)), .unset, .unset, .unset] [])) _
        refine XS.iconst X9.here hx rfl (hb hby at_57) ?_
        show Steps p.tables e below (T9.setTop (mkF m 58 #[.val (.int i0), .val (.int i1), .val (.ref b1), .val (.int (3 : Int32)), .val (.ref w3), .val (.int (0 : Int32)), .unset, .unset, .unset] [(.int (0 : Int32))])) _
        refine XS.istore X9.here hx rfl (hb hby at_58) rfl (l' := #[.val (.int i0), .val (.int i1), .val (.ref b1), .val (.int (3 : Int32)), .val (.ref w3), .val (.int (0 : Int32)), .val (.int (0 : Int32)), .unset, .unset]) rfl ?_
        show Steps p.tables e below (T9.setTop (mkF m 60 #[.val (.int i0), .val (.int i1), .val (.ref b1), .val (.int (3 : Int32)), .val (.ref w3), .val (.int (0 : Int32)), .val (.int (0 : Int32)), .unset, .unset] [])) _
        refine XS.iload X9.here hx rfl (hb hby at_60) rfl ?_
        show Steps p.tables e below (T9.setTop (mkF m 62 #[.val (.int i0), .val (.int i1), .val (.ref b1), .val (.int (3 : Int32)), .val (.ref w3), .val (.int (0 : Int32)), .val (.int (0 : Int32)), .unset, .unset] [(.int (0 : Int32))])) _
        refine XS.ifNo X9.here hx rfl (hb hby at_62) rfl (by decide) ?_
        show Steps p.tables e below (T9.setTop (mkF m 65 #[.val (.int i0), .val (.int i1), .val (.ref b1), .val (.int (3 : Int32)), .val (.ref w3), .val (.int (0 : Int32)), .val (.int (0 : Int32)), .unset, .unset] [])) _
        refine XS.iload X9.here hx rfl (hb hby at_65) rfl ?_
        show Steps p.tables e below (T9.setTop (mkF m 67 #[.val (.int i0), .val (.int i1), .val (.ref b1), .val (.int (3 : Int32)), .val (.ref w3), .val (.int (0 : Int32)), .val (.int (0 : Int32)), .unset, .unset] [(.int (0 : Int32))])) _
        refine XS.ifNo X9.here hx rfl (hb hby at_67) rfl (by decide) ?_
        show Steps p.tables e below (T9.setTop (mkF m 70 #[.val (.int i0), .val (.int i1), .val (.ref b1), .val (.int (3 : Int32)), .val (.ref w3), .val (.int (0 : Int32)), .val (.int (0 : Int32)), .unset, .unset] [])) _
        refine XS.iconst X9.here hx rfl (hb hby at_70) ?_
        show Steps p.tables e below (T9.setTop (mkF m 71 #[.val (.int i0), .val (.int i1), .val (.ref b1), .val (.int (3 : Int32)), .val (.ref w3), .val (.int (0 : Int32)), .val (.int (0 : Int32)), .unset, .unset] [(.int (1 : Int32))])) _
        refine XS.goto X9.here hx rfl (pc0 := 71) (pc' := 75) rfl (hb hby at_71) (by decide) (by decide) ?_
        show Steps p.tables e below (T9.setTop (mkF m 75 #[.val (.int i0), .val (.int i1), .val (.ref b1), .val (.int (3 : Int32)), .val (.ref w3), .val (.int (0 : Int32)), .val (.int (0 : Int32)), .unset, .unset] [(.int (1 : Int32))])) _
        refine XS.istore X9.here hx rfl (hb hby at_75) rfl (l' := #[.val (.int i0), .val (.int i1), .val (.ref b1), .val (.int (3 : Int32)), .val (.ref w3), .val (.int (0 : Int32)), .val (.int (0 : Int32)), .val (.int (1 : Int32)), .unset]) rfl ?_
        show Steps p.tables e below (T9.setTop (mkF m 77 #[.val (.int i0), .val (.int i1), .val (.ref b1), .val (.int (3 : Int32)), .val (.ref w3), .val (.int (0 : Int32)), .val (.int (0 : Int32)), .val (.int (1 : Int32)), .unset] [])) _
        refine XS.iloadN X9.here hx rfl (hb hby at_77) rfl ?_
        show Steps p.tables e below (T9.setTop (mkF m 78 #[.val (.int i0), .val (.int i1), .val (.ref b1), .val (.int (3 : Int32)), .val (.ref w3), .val (.int (0 : Int32)), .val (.int (0 : Int32)), .val (.int (1 : Int32)), .unset] [(.int (3 : Int32))])) _
        refine XS.ifYes X9.here hx rfl (pc0 := 78) (pc' := 88) rfl (hb hby at_78) rfl (by decide) (by decide) (by decide) ?_
        show Steps p.tables e below (T9.setTop (mkF m 88 #[.val (.int i0), .val (.int i1), .val (.ref b1), .val (.int (3 : Int32)), .val (.ref w3), .val (.int (0 : Int32)), .val (.int (0 : Int32)), .val (.int (1 : Int32)), .unset] [])) _
        refine XS.iloadN X9.here hx rfl (hb hby at_88) rfl ?_
        show Steps p.tables e below (T9.setTop (mkF m 89 #[.val (.int i0), .val (.int i1), .val (.ref b1), .val (.int (3 : Int32)), .val (.ref w3), .val (.int (0 : Int32)), .val (.int (0 : Int32)), .val (.int (1 : Int32)), .unset] [(.int (3 : Int32))])) _
        refine XS.iconst X9.here hx rfl (hb hby at_89) ?_
        show Steps p.tables e below (T9.setTop (mkF m 90 #[.val (.int i0), .val (.int i1), .val (.ref b1), .val (.int (3 : Int32)), .val (.ref w3), .val (.int (0 : Int32)), .val (.int (0 : Int32)), .val (.int (1 : Int32)), .unset] [(.int (1 : Int32)), (.int (3 : Int32))])) _
        refine XS.icmpYes X9.here hx rfl (pc0 := 90) (pc' := 113) rfl (hb hby at_90) rfl (by decide) (by decide) (by decide) ?_
        show Steps p.tables e below (T9.setTop (mkF m 113 #[.val (.int i0), .val (.int i1), .val (.ref b1), .val (.int (3 : Int32)), .val (.ref w3), .val (.int (0 : Int32)), .val (.int (0 : Int32)), .val (.int (1 : Int32)), .unset] [])) _
        refine XS.iloadN X9.here hx rfl (hb hby at_113) rfl ?_
        show Steps p.tables e below (T9.setTop (mkF m 114 #[.val (.int i0), .val (.int i1), .val (.ref b1), .val (.int (3 : Int32)), .val (.ref w3), .val (.int (0 : Int32)), .val (.int (0 : Int32)), .val (.int (1 : Int32)), .unset] [(.int (3 : Int32))])) _
        refine XS.iconst X9.here hx rfl (hb hby at_114) ?_
        show Steps p.tables e below (T9.setTop (mkF m 115 #[.val (.int i0), .val (.int i1), .val (.ref b1), .val (.int (3 : Int32)), .val (.ref w3), .val (.int (0 : Int32)), .val (.int (0 : Int32)), .val (.int (1 : Int32)), .unset] [(.int (2 : Int32)), (.int (3 : Int32))])) _
        refine XS.icmpYes X9.here hx rfl (pc0 := 115) (pc' := 125) rfl (hb hby at_115) rfl (by decide) (by decide) (by decide) ?_
        show Steps p.tables e below (T9.setTop (mkF m 125 #[.val (.int i0), .val (.int i1), .val (.ref b1), .val (.int (3 : Int32)), .val (.ref w3), .val (.int (0 : Int32)), .val (.int (0 : Int32)), .val (.int (1 : Int32)), .unset] [])) _
        refine XS.iload X9.here hx rfl (hb hby at_125) rfl ?_
        show Steps p.tables e below (T9.setTop (mkF m 127 #[.val (.int i0), .val (.int i1), .val (.ref b1), .val (.int (3 : Int32)), .val (.ref w3), .val (.int (0 : Int32)), .val (.int (0 : Int32)), .val (.int (1 : Int32)), .unset] [(.int (1 : Int32))])) _
        refine XS.ifYes X9.here hx rfl (pc0 := 127) (pc' := 135) rfl (hb hby at_127) rfl (by decide) (by decide) (by decide) ?_
        show Steps p.tables e below (T9.setTop (mkF m 135 #[.val (.int i0), .val (.int i1), .val (.ref b1), .val (.int (3 : Int32)), .val (.ref w3), .val (.int (0 : Int32)), .val (.int (0 : Int32)), .val (.int (1 : Int32)), .unset] [])) _
        refine XS.iconst X9.here hx rfl (hb hby at_135) ?_
        show Steps p.tables e below (T9.setTop (mkF m 136 #[.val (.int i0), .val (.int i1), .val (.ref b1), .val (.int (3 : Int32)), .val (.ref w3), .val (.int (0 : Int32)), .val (.int (0 : Int32)), .val (.int (1 : Int32)), .unset] [(.int (1 : Int32))])) _
        refine XS.goto X9.here hx rfl (pc0 := 136) (pc' := 140) rfl (hb hby at_136) (by decide) (by decide) ?_
        show Steps p.tables e below (T9.setTop (mkF m 140 #[.val (.int i0), .val (.int i1), .val (.ref b1), .val (.int (3 : Int32)), .val (.ref w3), .val (.int (0 : Int32)), .val (.int (0 : Int32)), .val (.int (1 : Int32)), .unset] [(.int (1 : Int32))])) _
        refine XS.istore X9.here hx rfl (hb hby at_140) rfl (l' := #[.val (.int i0), .val (.int i1), .val (.ref b1), .val (.int (3 : Int32)), .val (.ref w3), .val (.int (0 : Int32)), .val (.int (0 : Int32)), .val (.int (1 : Int32)), .val (.int (1 : Int32))]) rfl ?_
        show Steps p.tables e below (T9.setTop (mkF m 142 #[.val (.int i0), .val (.int i1), .val (.ref b1), .val (.int (3 : Int32)), .val (.ref w3), .val (.int (0 : Int32)), .val (.int (0 : Int32)), .val (.int (1 : Int32)), .val (.int (1 : Int32))] [])) _
        refine XS.aload X9.here hx rfl (hb hby at_142) rfl rfl ?_
        show Steps p.tables e below (T9.setTop (mkF m 144 #[.val (.int i0), .val (.int i1), .val (.ref b1), .val (.int (3 : Int32)), .val (.ref w3), .val (.int (0 : Int32)), .val (.int (0 : Int32)), .val (.int (1 : Int32)), .val (.int (1 : Int32))] [(.ref w3)])) _
        refine XS.iloadN X9.here hx rfl (hb hby at_144) rfl ?_
        show Steps p.tables e below (T9.setTop (mkF m 145 #[.val (.int i0), .val (.int i1), .val (.ref b1), .val (.int (3 : Int32)), .val (.ref w3), .val (.int (0 : Int32)), .val (.int (0 : Int32)), .val (.int (1 : Int32)), .val (.int (1 : Int32))] [(.int i1), (.ref w3)])) _
        refine st62.trans ?_
        show Steps p.tables e below (T62.setTop (mkF m 148 #[.val (.int i0), .val (.int i1), .val (.ref b1), .val (.int (3 : Int32)), .val (.ref w3), .val (.int (0 : Int32)), .val (.int (0 : Int32)), .val (.int (1 : Int32)), .val (.int (1 : Int32))] [(.int (1 : Int32))])) _
        refine XS.iload X62.here hx rfl (hb hby at_148) rfl ?_
        show Steps p.tables e below (T62.setTop (mkF m 150 #[.val (.int i0), .val (.int i1), .val (.ref b1), .val (.int (3 : Int32)), .val (.ref w3), .val (.int (0 : Int32)), .val (.int (0 : Int32)), .val (.int (1 : Int32)), .val (.int (1 : Int32))] [(.int (1 : Int32)), (.int (1 : Int32))])) _
        refine XS.icmpNo X62.here hx rfl (hb hby at_150) rfl (by decide) ?_
        show Steps p.tables e below (T62.setTop (mkF m 153 #[.val (.int i0), .val (.int i1), .val (.ref b1), .val (.int (3 : Int32)), .val (.ref w3), .val (.int (0 : Int32)), .val (.int (0 : Int32)), .val (.int (1 : Int32)), .val (.int (1 : Int32))] [])) _
        refine XS.iconst X62.here hx rfl (hb hby at_153) ?_
        show Steps p.tables e below (T62.setTop (mkF m 154 #[.val (.int i0), .val (.int i1), .val (.ref b1), .val (.int (3 : Int32)), .val (.ref w3), .val (.int (0 : Int32)), .val (.int (0 : Int32)), .val (.int (1 : Int32)), .val (.int (1 : Int32))] [(.int (1 : Int32))])) _
        refine XS.goto X62.here hx rfl (pc0 := 154) (pc' := 158) rfl (hb hby at_154) (by decide) (by decide) ?_
        show Steps p.tables e below (T62.setTop (mkF m 158 #[.val (.int i0), .val (.int i1), .val (.ref b1), .val (.int (3 : Int32)), .val (.ref w3), .val (.int (0 : Int32)), .val (.int (0 : Int32)), .val (.int (1 : Int32)), .val (.int (1 : Int32))] [(.int (1 : Int32))])) _
        exact retN X62 hx (t := .boolean) Bd.returns (by simp) (hb hby at_158) hr
      · show Ql n0 _ T62.heap _
        exact ⟨rfl, N62⟩
set_option maxRecDepth 65536 in
set_option maxHeartbeats 40000000 in
theorem comes_1 {Post : Tables → Env → Array Value → State → Outcome → State → Prop} (hpost : ∀ tb e args s v u, (limb_1_1.after args s (.returned v) u = true ∧ limb_1_2.after args s (.returned v) u = true ∧ True) → FrameEnd s (.returned v) u (Jvm.fieldLocs frame_1_writes args s ++ Jvm.arrayLocs frame_1_arrays args s ++ Jvm.staticLocs frame_1_statics s) 16 128 → Post tb e args s (.returned v) u) :
    ArmFor flags0 classFile x code maxLocals ret World_1 tables_1 room_1 Calls_1 rest_1 Pre_1 Post := by
  intro l hfl _ _ p e ha hc hk s m args below hf hA hF happ hP
  obtain ⟨hcalls, hrest, hpre⟩ := hP
  obtain ⟨-, -, -, hnamed, -, -, -, hat⟩ := (Spec.applies_iff hf).mp happ
  obtain ⟨hg, hn⟩ := and_e (Cond.before_iff.mp (show (Jvm.Cond.and given_1 narrow_1).before args s = true from hpre))
  obtain ⟨gc, g0⟩ := and_e hg
  obtain ⟨ga0, g1⟩ := and_e g0
  obtain ⟨x0, x1, rfl⟩ : ∃ x0 x1 : Value, args = #[x0, x1] := by
    have hs : args.size = 2 := by simpa [Cond.value, given_1] using gc
    obtain ⟨L⟩ := args
    match L, hs with
    | [x0, x1], _ => exact ⟨x0, x1, rfl⟩
  have hw := fun d (hd : d ∈ tables_1) => atoms_spec (ws := Jvm.Cond.code x code maxLocals ret :: tables_1) hat d (List.mem_cons_of_mem _ hd)
  have hfit : Fit s := fun {y c} hc i hi => by
    obtain ⟨ha, rfl⟩ := Array.getElem?_eq_some_iff.mp hc
    have q := List.all_eq_true.mp ((Array.all_eq_true_iff_forall_mem.mp hF) _ (Array.getElem_mem ha)) i (List.mem_range.mpr hi)
    simpa [Array.getElem?_eq_getElem hi] using q
  obtain ⟨i0, ei0⟩ := is_v ga0
  obtain rfl : x0 = (.int i0) := Option.some.inj ei0
  obtain ⟨i1, ei1⟩ := is_v g1
  obtain rfl : x1 = (.int i1) := Option.some.inj ei1
  obtain ⟨c0, r0⟩ := and_e hn
  obtain ⟨c1, r1⟩ := and_e r0
  obtain ⟨c2, r2⟩ := and_e r1
  obtain ⟨c3, r3⟩ := and_e r2
  obtain ⟨c4, r4⟩ := and_e r3
  obtain ⟨c5, r5⟩ := and_e r4
  obtain ⟨c6, r6⟩ := and_e r5
  obtain ⟨w0, ev0⟩ := exa_v c0
  have wE0 : Exa s s.heap w0 "com/example/seneschal/seneschal/model/Comparison" := Exa.start ev0 c0
  have wS0 : Sta s s.heap "com/example/seneschal/seneschal/model/Comparison" "LT" "Lcom/example/seneschal/seneschal/model/Comparison;" (.ref w0) := Sta.start ev0 (Or.inr ⟨(hw _ (List.mem_of_getElem? (i := 3) rfl)), (hw _ (List.mem_of_getElem? (i := 4) rfl))⟩)
  obtain ⟨w1, ev1⟩ := exa_v c1
  have wE1 : Exa s s.heap w1 "com/example/seneschal/seneschal/model/Comparison" := Exa.start ev1 c1
  have wS1 : Sta s s.heap "com/example/seneschal/seneschal/model/Comparison" "LE" "Lcom/example/seneschal/seneschal/model/Comparison;" (.ref w1) := Sta.start ev1 (Or.inr ⟨(hw _ (List.mem_of_getElem? (i := 3) rfl)), (hw _ (List.mem_of_getElem? (i := 7) rfl))⟩)
  obtain ⟨w2, ev2⟩ := exa_v c2
  have wE2 : Exa s s.heap w2 "com/example/seneschal/seneschal/model/Comparison" := Exa.start ev2 c2
  have wS2 : Sta s s.heap "com/example/seneschal/seneschal/model/Comparison" "GT" "Lcom/example/seneschal/seneschal/model/Comparison;" (.ref w2) := Sta.start ev2 (Or.inr ⟨(hw _ (List.mem_of_getElem? (i := 3) rfl)), (hw _ (List.mem_of_getElem? (i := 9) rfl))⟩)
  obtain ⟨w3, ev3⟩ := exa_v c3
  have wE3 : Exa s s.heap w3 "com/example/seneschal/seneschal/model/Comparison" := Exa.start ev3 c3
  have wS3 : Sta s s.heap "com/example/seneschal/seneschal/model/Comparison" "GE" "Lcom/example/seneschal/seneschal/model/Comparison;" (.ref w3) := Sta.start ev3 (Or.inr ⟨(hw _ (List.mem_of_getElem? (i := 3) rfl)), (hw _ (List.mem_of_getElem? (i := 11) rfl))⟩)
  have wF0_ordinal : Fld s s.heap w0 "java/lang/Enum" "ordinal" "I" (.int (0 : Int32)) := Fld.start ((fld_at ev0).symm.trans (eqv_i (Term.int_eval _) c4))
  have wF2_ordinal : Fld s s.heap w2 "java/lang/Enum" "ordinal" "I" (.int (2 : Int32)) := Fld.start ((fld_at ev2).symm.trans (eqv_i (Term.int_eval _) c5))
  have wF1_ordinal : Fld s s.heap w1 "java/lang/Enum" "ordinal" "I" (.int (1 : Int32)) := Fld.start ((fld_at ev1).symm.trans (eqv_i (Term.int_eval _) c6))
  have wF3_ordinal : Fld s s.heap w3 "java/lang/Enum" "ordinal" "I" (.int (3 : Int32)) := Fld.start ((fld_at ev3).symm.trans (eqv_i (Term.int_eval _) r6))
  have hWd : Wd s w0 w1 w2 w3 := ⟨wS0, wE0, wS1, wE1, wS2, wE2, wS3, wE3, wF0_ordinal, wF2_ordinal, wF1_ordinal, wF3_ordinal, trivial⟩
  obtain ⟨n, o, h1, h2, h3, _, L, rfl, ⟨rfl, N⟩, hq⟩ := rm0 l s _ hw tables_1 w0 w1 w2 w3 i0 i1 s.heap s.heap.size hWd (Old.start s) p e ha hc hk s m _ below hf ((Spec.applies_iff_loose hf).mp happ).1 ⟨rfl, State.Warmed39.refl s, rfl⟩ trivial
  exact ⟨n, _, h1, h2, h3, hpost _ _ _ _ _ _ ⟨Cond.after_iff.mpr rfl, Cond.after_iff.mpr (eq_i res_at (Term.int_eval (1)) rfl), trivial⟩ ⟨hq.1, hq.2.1, (hq.2.2.sift fun y hy => Or.inr (N y hy)).mono (by decide) (by decide)⟩⟩
theorem main_1_1 : Claimed_1_1 := comes_1 fun _ _ _ _ _ _ h hF => ⟨h.1, hF⟩
theorem main_1_2 : Claimed_1_2 := comes_1 fun _ _ _ _ _ _ h hF => ⟨h.2.1, hF⟩
end Jvm.Pilot.@@N@@
namespace Jvm.Pilot.@@N@@
open Jvm Jvm.ClassFile Sem Op Lib Jvm.Free Jvm.Stand Jvm.Pilot.@@N@@.Jvm.D
/-! MADE BY PROGRAM (witnessworld.py) out of the Statement's table words and the real class files: 13 classes; the members and pool entries that the words name. The judged class is class 1, her method 1. -/
namespace start1
open Jvm.ClassFile
def u (s : String) : CpInfo := .utf8 (stringToUtf16 s)
/-- a pool by its gaps: so many unusable entries, then the entry; so many at the end -/
def gap : Nat → List CpInfo → List CpInfo
  | 0, r => r
  | n + 1, r => .unusable :: gap n r
def poolList (es : List (Nat × CpInfo)) (last : Nat) : List CpInfo := es.foldr (fun e r => gap e.1 (e.2 :: r)) (gap last [])
def pool (es : List (Nat × CpInfo)) (last : Nat) : Array CpInfo := ⟨poolList es last⟩
def fileOf (pool : Array CpInfo) (this : Nat) (attrs : Array Attribute := #[]) (ms : Array MethodInfo := #[]) (fl : Nat := 33) (sup : Nat := 0) (ifs : Array Nat := #[]) (fds : Array FieldInfo := #[]) : ClassFile where
  minorVersion := 0
  majorVersion := 65
  constantPool := pool
  accessFlags := fl
  thisClass := this
  superClass := sup
  interfaces := ifs
  fields := fds
  methods := ms
  attributes := attrs
def plain (name : String) (sup : Option ClassId) : Class where
  name := name
  kind := .ordinary
  loader := none
  accessFlags := 33
  super := sup
  interfaces := #[]
  cf := none
  fields := #[]
  methods := #[]
  instanceTypes := #[]
  staticTypes := #[]
  resolved := #[]
  callSites := []
  init := .initialized
  statics := none
  mirror := none

def pool0 : Array CpInfo := pool [(5, u "<init>"), (0, u "()V"), (1, .class_ 10), (1, u "java/lang/Object")] 113

def k0m0 : Method := { name := "<init>", desc := "()V", sig := { parameters := [], returnType := none }, accessFlags := 1, code := none }
/-- java/lang/Object -/
def k0 : Class := { plain "java/lang/Object" none with
  accessFlags := 33
  interfaces := #[]
  cf := some (fileOf pool0 8 #[] #[{ accessFlags := 1, nameIndex := 5, descriptorIndex := 6, attributes := #[] }] 33 0 #[] #[])
  fields := #[]
  methods := #[k0m0]
  instanceTypes := #[]
  staticTypes := #[]
  resolved := Array.replicate 124 none
  statics := none }

def pool1 : Array CpInfo := pool [(2, .class_ 4), (1, u "java/lang/Object"), (0, u "<init>"), (0, u "()V"), (0, .class_ 8), (0, u "com/example/seneschal/seneschal/model/Comparison"), (0, .fieldref 7 10), (0, .nameAndType 11 12), (0, u "LT"), (0, u "Lcom/example/seneschal/seneschal/model/Comparison;"), (0, .fieldref 7 14), (0, .nameAndType 15 12), (0, u "LE"), (0, .fieldref 7 17), (0, .nameAndType 18 12), (0, u "GT"), (0, .fieldref 7 20), (0, .nameAndType 21 12), (0, u "GE"), (0, .methodref 7 23), (0, .nameAndType 24 25), (0, u "holds"), (0, u "(I)Z"), (0, .class_ 27), (0, u "com/example/seneschal/seneschal/model/ComparisonHoldsPinLaw"), (2, u "law"), (0, u "(II)Z")] 5

def k1m0 : Method := { name := "<init>", desc := "()V", sig := { parameters := [], returnType := none }, accessFlags := 1, code := none }
def k1c1 : Code := { maxStack := 4, maxLocals := 9, code := code, exceptionTable := #[], attributes := #[] }
def k1m1 : Method := { name := "law", desc := "(II)Z", sig := { parameters := [.int, .int], returnType := some .boolean }, accessFlags := 9, code := some k1c1 }
/-- com/example/seneschal/seneschal/model/ComparisonHoldsPinLaw -/
def k1 : Class := { plain "com/example/seneschal/seneschal/model/ComparisonHoldsPinLaw" (some 0) with
  accessFlags := 49
  interfaces := #[]
  cf := some (fileOf pool1 26 #[] #[{ accessFlags := 1, nameIndex := 5, descriptorIndex := 6, attributes := #[] }, { accessFlags := 9, nameIndex := 30, descriptorIndex := 31, attributes := #[] }] 49 2 #[] #[])
  fields := #[]
  methods := #[k1m0, k1m1]
  instanceTypes := #[]
  staticTypes := #[]
  resolved := Array.replicate 37 none
  statics := none }

def pool2 : Array CpInfo := pool [(1, .class_ 2), (0, u "java/lang/constant/Constable"), (0, .class_ 4), (0, u "java/lang/Object")] 6

/-- java/lang/constant/Constable -/
def k2 : Class := { plain "java/lang/constant/Constable" (some 0) with
  accessFlags := 1537
  interfaces := #[]
  cf := some (fileOf pool2 1 #[] #[] 1537 3 #[] #[])
  fields := #[]
  methods := #[]
  instanceTypes := #[]
  staticTypes := #[]
  resolved := Array.replicate 11 none
  statics := none }

def pool3 : Array CpInfo := pool [(1, .class_ 2), (0, u "java/lang/Comparable"), (0, .class_ 4), (0, u "java/lang/Object")] 7

/-- java/lang/Comparable -/
def k3 : Class := { plain "java/lang/Comparable" (some 0) with
  accessFlags := 1537
  interfaces := #[]
  cf := some (fileOf pool3 1 #[] #[] 1537 3 #[] #[])
  fields := #[]
  methods := #[]
  instanceTypes := #[]
  staticTypes := #[]
  resolved := Array.replicate 12 none
  statics := none }

def pool4 : Array CpInfo := pool [(1, .class_ 2), (0, u "java/io/Serializable"), (0, .class_ 4), (0, u "java/lang/Object")] 2

/-- java/io/Serializable -/
def k4 : Class := { plain "java/io/Serializable" (some 0) with
  accessFlags := 1537
  interfaces := #[]
  cf := some (fileOf pool4 1 #[] #[] 1537 3 #[] #[])
  fields := #[]
  methods := #[]
  instanceTypes := #[]
  staticTypes := #[]
  resolved := Array.replicate 7 none
  statics := none }

def pool5 : Array CpInfo := pool [(2, .class_ 4), (1, u "java/lang/Enum"), (0, u "name"), (0, u "Ljava/lang/String;"), (0, .fieldref 2 8), (0, .nameAndType 9 10), (0, u "ordinal"), (0, u "I"), (1, .class_ 14), (1, u "java/lang/Object"), (4, u "hash"), (86, .class_ 108), (1, u "java/lang/Enum$EnumDesc"), (2, .class_ 112), (0, u "java/lang/constant/Constable"), (0, .class_ 114), (0, u "java/lang/Comparable"), (0, .class_ 116), (0, u "java/io/Serializable"), (9, u "()I")] 77

def k5c0 : Code := { maxStack := 1, maxLocals := 1, code := jdk_37_method_2_code, exceptionTable := #[], attributes := #[] }
def k5m0 : Method := { name := "ordinal", desc := "()I", sig := { parameters := [], returnType := some .int }, accessFlags := 17, code := some k5c0 }
/-- java/lang/Enum -/
def k5 : Class := { plain "java/lang/Enum" (some 0) with
  accessFlags := 1057
  interfaces := #[2, 3, 4]
  cf := some (fileOf pool5 2 #[.nestMembers #[106]] #[{ accessFlags := 17, nameIndex := 9, descriptorIndex := 126, attributes := #[] }] 1057 12 #[111, 113, 115] #[{ accessFlags := 18, nameIndex := 5, descriptorIndex := 6, attributes := #[] }, { accessFlags := 18, nameIndex := 9, descriptorIndex := 10, attributes := #[] }, { accessFlags := 2, nameIndex := 19, descriptorIndex := 10, attributes := #[] }])
  fields := #[{ name := "name", type := (.object "java/lang/String"), accessFlags := 18, slot := 0, constantValue := 0 }, { name := "ordinal", type := .int, accessFlags := 18, slot := 1, constantValue := 0 }, { name := "hash", type := .int, accessFlags := 2, slot := 2, constantValue := 0 }]
  methods := #[k5m0]
  instanceTypes := #[(.object "java/lang/String"), .int, .int]
  staticTypes := #[]
  resolved := Array.replicate 204 none
  statics := none }

def pool6 : Array CpInfo := pool [(1, .class_ 2), (0, u "com/example/seneschal/seneschal/model/Comparison"), (2, u "LT"), (0, u "Lcom/example/seneschal/seneschal/model/Comparison;"), (2, u "LE"), (2, u "GT"), (2, u "GE"), (2, u "$VALUES"), (0, u "[Lcom/example/seneschal/seneschal/model/Comparison;"), (6, .class_ 28), (1, u "java/lang/Enum"), (6, .methodref 1 36), (0, .nameAndType 37 38), (0, u "ordinal"), (0, u "()I"), (21, u "holds"), (0, u "(I)Z")] 5

def k6c0 : Code := { maxStack := 4, maxLocals := 2, code := prog_21_method_4_code, exceptionTable := #[], attributes := #[] }
def k6m0 : Method := { name := "holds", desc := "(I)Z", sig := { parameters := [.int], returnType := some .boolean }, accessFlags := 1, code := some k6c0 }
/-- com/example/seneschal/seneschal/model/Comparison -/
def k6 : Class := { plain "com/example/seneschal/seneschal/model/Comparison" (some 5) with
  accessFlags := 16433
  interfaces := #[]
  cf := some (fileOf pool6 1 #[] #[{ accessFlags := 1, nameIndex := 60, descriptorIndex := 61, attributes := #[] }] 16433 26 #[] #[{ accessFlags := 16409, nameIndex := 5, descriptorIndex := 6, attributes := #[] }, { accessFlags := 16409, nameIndex := 9, descriptorIndex := 6, attributes := #[] }, { accessFlags := 16409, nameIndex := 12, descriptorIndex := 6, attributes := #[] }, { accessFlags := 16409, nameIndex := 15, descriptorIndex := 6, attributes := #[] }, { accessFlags := 4122, nameIndex := 18, descriptorIndex := 19, attributes := #[] }])
  fields := #[{ name := "LT", type := (.object "com/example/seneschal/seneschal/model/Comparison"), accessFlags := 16409, slot := 0, constantValue := 0 }, { name := "LE", type := (.object "com/example/seneschal/seneschal/model/Comparison"), accessFlags := 16409, slot := 1, constantValue := 0 }, { name := "GT", type := (.object "com/example/seneschal/seneschal/model/Comparison"), accessFlags := 16409, slot := 2, constantValue := 0 }, { name := "GE", type := (.object "com/example/seneschal/seneschal/model/Comparison"), accessFlags := 16409, slot := 3, constantValue := 0 }, { name := "$VALUES", type := (.array (.object "com/example/seneschal/seneschal/model/Comparison")), accessFlags := 4122, slot := 4, constantValue := 0 }]
  methods := #[k6m0]
  instanceTypes := #[(.object "java/lang/String"), .int, .int]
  staticTypes := #[(.object "com/example/seneschal/seneschal/model/Comparison"), (.object "com/example/seneschal/seneschal/model/Comparison"), (.object "com/example/seneschal/seneschal/model/Comparison"), (.object "com/example/seneschal/seneschal/model/Comparison"), (.array (.object "com/example/seneschal/seneschal/model/Comparison"))]
  resolved := Array.replicate 67 none
  statics := some 0 }

def pool7 : Array CpInfo := pool [(1, u "java/lang/Cloneable"), (0, .class_ 1), (0, u "java/lang/Object"), (0, .class_ 3)] 3

/-- java/lang/Cloneable -/
def k7 : Class := { plain "java/lang/Cloneable" (some 0) with
  accessFlags := 1537
  interfaces := #[]
  cf := some (fileOf pool7 2 #[] #[] 1537 4 #[] #[])
  fields := #[]
  methods := #[]
  instanceTypes := #[]
  staticTypes := #[]
  resolved := Array.replicate 8 none
  statics := none }

/-- the primitive byte -/
def k8 : Class := { plain "byte" none with kind := .primitive 'B', accessFlags := 0x411 }
/-- [B -/
def k9 : Class := { plain "[B" (some 0) with kind := .array 8 .byte, interfaces := #[7, 4], accessFlags := 1041 }

/-- the primitive int -/
def k10 : Class := { plain "int" none with kind := .primitive 'I', accessFlags := 0x411 }
/-- [I -/
def k11 : Class := { plain "[I" (some 0) with kind := .array 10 .int, interfaces := #[7, 4], accessFlags := 1041 }

/-- [Lcom/example/seneschal/seneschal/model/Comparison; -/
def k12 : Class := { plain "[Lcom/example/seneschal/seneschal/model/Comparison;" (some 0) with kind := .array 6 (.object "com/example/seneschal/seneschal/model/Comparison"), interfaces := #[7, 4], accessFlags := 1041 }

def heap : Heap := #[{ cls := 6, slots := #[.ref 1, .ref 2, .ref 3, .ref 4, .null], vm := .statics 6 },
  { cls := 6, slots := #[.null, .int 0, .int 0], vm := .none },
  { cls := 6, slots := #[.null, .int 1, .int 0], vm := .none },
  { cls := 6, slots := #[.null, .int 2, .int 0], vm := .none },
  { cls := 6, slots := #[.null, .int 3, .int 0], vm := .none }]
def classes : Array Class := #[k0, k1, k2, k3, k4, k5, k6, k7, k8, k9, k10, k11, k12]
def interned : List (Array UInt16 × Addr) := []
def slotsUsed : Nat := 17
def theMethod : MethodId := ⟨1, 1⟩
def args0 : Array Value := #[.int 5, .int 5]
def aboutOver (below : List Frame) : State where
  vm := { classes := classes, interned := interned.toArray }
  heap := heap
  slotsUsed := slotsUsed
  threads := #[{ frames := .invoking theMethod args0 :: below }]
def below0 : List Frame := [.native { method := ⟨0, 0⟩, args := #[] }]
def about1 : State := aboutOver below0
def p0 : Program := .bare "" "" ""
def e0 : Env := launch0.env 0 0 0
theorem w_frames : about1.frames = Frame.invoking theMethod args0 :: below0 := rfl
set_option maxRecDepth 65536 in
theorem w_args : argsFit about1.vm theMethod args0 = true := by decide +kernel
set_option maxRecDepth 65536 in
theorem w_heap : heapFits about1 = true := by decide +kernel
set_option maxRecDepth 65536 in
theorem w_runnable : about1.curStatus? = some .runnable := by decide +kernel
set_option maxRecDepth 65536 in
theorem w_alone : about1.alone = true := by decide +kernel
set_option maxRecDepth 65536 in
theorem w_named : about1.methodNamed? x = some theMethod := by decide +kernel
set_option maxRecDepth 65536 in
theorem w_hears : about1.hears theMethod below0 = true := by decide +kernel
set_option maxRecDepth 65536 in
theorem w_ripe : about1.ripe theMethod args0 below0 = true := by decide +kernel
theorem w_running : about1.status = .running := rfl
set_option maxRecDepth 65536 in
theorem w_room : about1.hasRoom e0.platform room_1 = true :=
  launch0.hasRoom_least _ room_1 (by decide +kernel) (by decide +kernel) (by decide +kernel) (by decide +kernel) (by decide +kernel) (by decide +kernel)
theorem allAtoms_all (ts : List Jvm.Cond) (a : Array Jvm.Value) (st : Jvm.State) : (allAtoms ts).before a st = ts.all (fun c => c.before a st) := by
  induction ts with
  | nil => rfl
  | cons c t ih =>
    show (Jvm.Cond.and c (allAtoms t)).before a st = _
    rw [Jvm.Cond.before_and, ih, List.all_cons]
def words1 : List Jvm.Cond := Jvm.Cond.code x code maxLocals ret :: tables_1
/-- a 'code' word, met by the world's own term for the bytes: nothing is compared byte by byte -/
theorem code_word {y : MethodName} {bytes : ByteArray} {mx : Nat} {rt : Option FieldType} {a : Array Value} {s : State} {m : MethodId} {meth : Method} {c : Code} (h1 : s.methodNamed? y = some m) (h2 : s.vm.method? m = some meth) (h3 : meth.code = some c) (h4 : c.code = bytes)
    (h5 : (c.maxLocals == mx && c.exceptionTable.isEmpty && decide (c.maxStack ≤ mostOperands) && decide (meth.sig.returnType = rt) && !meth.locks && decide (parseMethodDescriptor y.desc = some meth.sig)) = true) : (Jvm.Cond.code y bytes mx rt).before a s = true := by
  simp only [Bool.and_eq_true, beq_iff_eq, Bool.not_eq_true', decide_eq_true_eq] at h5
  obtain ⟨⟨⟨⟨⟨g1, g2⟩, g3⟩, g4⟩, g5⟩, g6⟩ := h5
  simp [Cond.before, Cond.holds, Cond.value, h1, h2, h3, h4, g1, g2, g3, g4, g5, g6]
def isCode : Jvm.Cond → Bool
  | .code _ _ _ _ => true
  | _ => false
theorem all_split {L : List Jvm.Cond} {P : Jvm.Cond → Bool} (h1 : L.all (fun c => isCode c || P c) = true) (h2 : ∀ c ∈ L.filter isCode, P c = true) : L.all P = true := by
  refine List.all_eq_true.mpr fun c hc => ?_
  have h := List.all_eq_true.mp h1 c hc
  rcases Bool.eq_false_or_eq_true (isCode c) with hi | hi
  · exact h2 c (List.mem_filter.mpr ⟨hc, hi⟩)
  · simpa [hi] using h
set_option maxRecDepth 65536 in
theorem w_c0 : (Jvm.Cond.code x code maxLocals ret).before args0 about1 = true := code_word (m := ⟨1, 1⟩) (meth := k1m1) (c := k1c1) (by decide +kernel) rfl rfl rfl (by decide +kernel)
set_option maxRecDepth 65536 in
theorem w_c1 : (Jvm.Cond.code ({ cls := "com/example/seneschal/seneschal/model/Comparison", name := "holds", desc := "(I)Z" } : Jvm.MethodName) prog_21_method_4_code (2 : Nat) (Option.some Jvm.ClassFile.FieldType.boolean)).before args0 about1 = true := code_word (m := ⟨6, 0⟩) (meth := k6m0) (c := k6c0) (by decide +kernel) rfl rfl rfl (by decide +kernel)
set_option maxRecDepth 65536 in
theorem w_c2 : (Jvm.Cond.code ({ cls := "java/lang/Enum", name := "ordinal", desc := "()I" } : Jvm.MethodName) jdk_37_method_2_code (1 : Nat) (Option.some Jvm.ClassFile.FieldType.int)).before args0 about1 = true := code_word (m := ⟨5, 0⟩) (meth := k5m0) (c := k5c0) (by decide +kernel) rfl rfl rfl (by decide +kernel)
def codes1 : List Jvm.Cond := [Jvm.Cond.code x code maxLocals ret, Jvm.Cond.code ({ cls := "com/example/seneschal/seneschal/model/Comparison", name := "holds", desc := "(I)Z" } : Jvm.MethodName) prog_21_method_4_code (2 : Nat) (Option.some Jvm.ClassFile.FieldType.boolean), Jvm.Cond.code ({ cls := "java/lang/Enum", name := "ordinal", desc := "()I" } : Jvm.MethodName) jdk_37_method_2_code (1 : Nat) (Option.some Jvm.ClassFile.FieldType.int)]
set_option maxRecDepth 65536 in
theorem codes_eq : words1.filter isCode = codes1 := rfl
theorem w_codes : ∀ c ∈ words1.filter isCode, c.before args0 about1 = true := by
  rw [codes_eq]
  intro c hc
  simp only [codes1, List.mem_cons, List.not_mem_nil, or_false] at hc
  rcases hc with rfl | rfl | rfl
  · exact w_c0
  · exact w_c1
  · exact w_c2
set_option maxRecDepth 65536 in
theorem w_t1 : (words1.take 24).all (fun c => isCode c || c.before args0 about1) = true := by decide +kernel
set_option maxRecDepth 65536 in
theorem w_t2 : (words1.drop 24).all (fun c => isCode c || c.before args0 about1) = true := by decide +kernel
theorem w_tables : (allAtoms (Jvm.Cond.code x code maxLocals ret :: tables_1)).before args0 about1 = true := by
  rw [allAtoms_all]
  show words1.all (fun c => c.before args0 about1) = true
  refine all_split ?_ w_codes
  rw [← List.take_append_drop 24 words1, List.all_append, w_t1, w_t2]
  rfl
set_option maxRecDepth 65536 in
theorem w_case : (Jvm.Cond.and given_1 narrow_1).before args0 about1 = true := by decide +kernel
theorem w_applies : (headSpec (Jvm.Cond.code x code maxLocals ret :: tables_1) room_1).applies x e0.platform about1 = true :=
  (Spec.applies_iff w_frames).mpr ⟨w_running, w_runnable, w_alone, w_named, w_hears, w_ripe, w_room, w_tables⟩
theorem atStart : AtStart classFile x code maxLocals ret World_1 tables_1 room_1 Calls_1 rest_1 Pre_1 launch0 p0 e0 about1 theMethod args0 below0 :=
  ⟨lists_1, trivial, launch0.admits_env _ _ _, launch0.least_env, fairChoices_fair.cas, fairChoices_fair.clock, w_frames, w_args, w_heap, w_applies, trivial, trivial, w_case⟩
end start1
theorem witness_1 : WitnessClaimed_1 := ⟨start1.p0, start1.e0, start1.about1, start1.theMethod, start1.args0, start1.below0, start1.atStart⟩
end Jvm.Pilot.@@N@@
