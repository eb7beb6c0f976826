import JvmDerived
import JvmDerived.Pilot.@@N@@Statement
import JvmDerived.Pilot.@@N@@Code
set_option linter.unusedVariables false
set_option linter.unusedSimpArgs false
namespace Jvm.Pilot.@@N@@
open Jvm Jvm.ClassFile Sem Op Lib Jvm.Free Jvm.Stand Jvm.LawKit Jvm.RoadKit Bundle Jvm.Pilot.@@N@@.Jvm.D
theorem own_ofNat {y : Int32} {n : Nat} (h : y.toBitVec.toNat = n) : y = Int32.ofNat n := by
  subst h
  apply Int32.toBitVec_inj.mp
  apply BitVec.eq_of_toNat_eq
  simp
theorem own_and_le (x m : Int32) : (x &&& m).toBitVec.toNat ≤ m.toBitVec.toNat := by
  rw [Int32.toBitVec_and, BitVec.toNat_and]; exact Nat.and_le_right
theorem own_nonneg (x : Int32) : 0 ≤ (x &&& (2147483647 : Int32)).toInt := by
  have h := own_and_le x 2147483647
  have e : (2147483647 : Int32).toBitVec.toNat = 2147483647 := by decide
  rw [e] at h
  have : (x &&& (2147483647 : Int32)).toInt = (x &&& (2147483647 : Int32)).toBitVec.toInt := rfl
  rw [this, BitVec.toInt_eq_toNat_cond, if_pos (by omega)]
  omega
theorem own_rem_3 (x : Int32) : ((x &&& (2147483647 : Int32)) % (3 : Int32)) = (0 : Int32) ∨ ((x &&& (2147483647 : Int32)) % (3 : Int32)) = (1 : Int32) ∨ ((x &&& (2147483647 : Int32)) % (3 : Int32)) = (2 : Int32) := by
  have h := own_nonneg x
  generalize x &&& (2147483647 : Int32) = y at h ⊢
  have e : (y % (3 : Int32)).toInt = y.toInt.tmod 3 := by rw [Int32.toInt_mod]; rfl
  have e1 : y.toInt.tmod 3 = y.toInt % 3 := Int.tmod_eq_emod_of_nonneg h
  have q : (y % (3 : Int32)).toInt = 0 ∨ (y % (3 : Int32)).toInt = 1 ∨ (y % (3 : Int32)).toInt = 2 := by omega
  rcases q with q | q | q
  · exact Or.inl (Int32.toInt_inj.mp (q.trans (by decide)))
  · exact Or.inr (Or.inl (Int32.toInt_inj.mp (q.trans (by decide))))
  · exact Or.inr (Or.inr (Int32.toInt_inj.mp (q.trans (by decide))))
theorem own_and_1 (x : Int32) : (x &&& (1 : Int32)) = (0 : Int32) ∨ (x &&& (1 : Int32)) = (1 : Int32) := by
  have h := own_and_le x (1 : Int32)
  have e : (1 : Int32).toBitVec.toNat = 1 := by decide
  rw [e] at h
  generalize x &&& (1 : Int32) = y at h ⊢
  have q : y.toBitVec.toNat = 0 ∨ y.toBitVec.toNat = 1 := by omega
  rcases q with q | q <;> simp [own_ofNat q]
def Wd (Z : State) (w0 w1 w2 : Addr) : Prop := Sta Z Z.heap "com/example/seneschal/seneschal/model/EvaluationsSemantic" "EXECUTE_ALL" "Lcom/example/seneschal/seneschal/model/EvaluationsSemantic;" (.ref w0) ∧ Exa Z Z.heap w0 "com/example/seneschal/seneschal/model/EvaluationsSemantic" ∧ Sta Z Z.heap "com/example/seneschal/seneschal/model/EvaluationsSemantic" "PERMIT_ON_FIRST_PERMIT" "Lcom/example/seneschal/seneschal/model/EvaluationsSemantic;" (.ref w1) ∧ Exa Z Z.heap w1 "com/example/seneschal/seneschal/model/EvaluationsSemantic" ∧ Sta Z Z.heap "com/example/seneschal/seneschal/model/EvaluationsSemantic" "DENY_ON_FIRST_DENY" "Lcom/example/seneschal/seneschal/model/EvaluationsSemantic;" (.ref w2) ∧ Exa Z Z.heap w2 "com/example/seneschal/seneschal/model/EvaluationsSemantic" ∧ Fld Z Z.heap w0 "java/lang/Enum" "ordinal" "I" (.int (0 : Int32)) ∧ Fld Z Z.heap w1 "java/lang/Enum" "ordinal" "I" (.int (2 : Int32)) ∧ Fld Z Z.heap w2 "java/lang/Enum" "ordinal" "I" (.int (1 : Int32)) ∧ True
def Qp (r : Option Value) (h0 : Heap) (n0 : Nat) (v : Option Value) (h : Heap) (L : List Loc) : Prop := v = r ∧ Fr n0 L ∧ h = h0
def Ql (n0 : Nat) (v : Option Value) (h : Heap) (L : List Loc) : Prop := v = some (.int (1 : Int32)) ∧ Fr n0 L
theorem d_method_2_code_0 : decode method_2_code 0 = .ok (.iload_n 0, 1) := by decide +kernel
theorem d_method_2_code_1 : decode method_2_code 1 = .ok (.ifCond .ne 7, 3) := by decide +kernel
theorem d_method_2_code_4 : decode method_2_code 4 = .ok (.getstatic 7, 3) := by decide +kernel
theorem d_method_2_code_7 : decode method_2_code 7 = .ok (.areturn, 1) := by decide +kernel
theorem pn0 : plainName "com/example/seneschal/seneschal/model/EvaluationsSemanticStopsAfterPinLaw" = true := by first | (simp [plainName, overriddenIn]; done) | decide +kernel
theorem ef0 (m : MethodId)    : entryFrame m #[(.int (0 : Int32))] 1 = mkF m 0 #[.val (.int (0 : Int32))] [] := by first | (simp [entryFrame, mkF, argsToLocals, Value.category]; done) | rfl
set_option maxRecDepth 65536 in
set_option maxHeartbeats 40000000 in
theorem rm1 (l : Launch) (Z : State) (a0 : Array Value) (hw : ∀ d ∈ tables_1, d.before a0 Z = true) (ws : List Jvm.Cond) (w0 w1 w2 : Addr) (h0 : Heap) (n0 : Nat) (hWd : Wd Z w0 w1 w2) (O0 : Old Z n0 h0) :
    MetFree l (⟨"com/example/seneschal/seneschal/model/EvaluationsSemanticStopsAfterPinLaw", "pick", "(I)Lcom/example/seneschal/seneschal/model/EvaluationsSemantic;"⟩ : MethodName) (head1 (Jvm.Cond.code (⟨"com/example/seneschal/seneschal/model/EvaluationsSemanticStopsAfterPinLaw", "pick", "(I)Lcom/example/seneschal/seneschal/model/EvaluationsSemantic;"⟩ : MethodName) method_2_code 1 (some (.object "com/example/seneschal/seneschal/model/EvaluationsSemantic")) :: ws) ({ frames := 0, cells := 0, slots := 0, locals := 0 } : Room)) (fun a U => a = #[(.int (0 : Int32))] ∧ Z.Warmed39 U.vm ∧ U.heap = h0) (fun _ _ _ _ _ => True) (fun _ U o U' => ∃ v L, o = .returned v ∧ Qp (some (.ref w0)) h0 n0 v U'.heap L ∧ FrameEnd U o U' L ({ frames := 0, cells := 0, slots := 0, locals := 0 } : Room).cells ({ frames := 0, cells := 0, slots := 0, locals := 0 } : Room).slots) := by
  refine MetFree.of_bodySF (plainFor_of_name pn0) hisR ?_
  intro p e s m args below meth c s₁ Bd hml0 hP hK
  obtain ⟨rfl, hZ, hh⟩ := hP
  have hx := Bd.exec
  have hby := Bd.bytes
  have hml : c.maxLocals = 1 := hml0
  have hown : s.vm.findClass "com/example/seneschal/seneschal/model/EvaluationsSemanticStopsAfterPinLaw" = some m.cls := findClass_of_methodNamed Bd.named
  have hnm := (name_of_methodNamed Bd.named Bd.method).1
  have X0 : Stand p l e ({ frames := 0, cells := 0, slots := 0, locals := 0 } : Room) s m #[(.int (0 : Int32))] below meth c s₁ [] 0 0 := Stand.of_body Bd
  have e0 : s₁.heap = h0 := by rw [← hh, Bd.state]; rfl
  have N0 := Fr.nil n0
  obtain ⟨wS0, wE0, wS1, wE1, wS2, wE2, wF0_ordinal, wF1_ordinal, wF2_ordinal, -⟩ := id hWd
  have pre0 : ∀ t, Steps p.tables e below (s₁.setTop (mkF m 0 #[.val (.int (0 : Int32))] [])) t → Steps p.tables e below (s₁.setTop (entryFrame m #[(.int (0 : Int32))] 1)) t := fun t k => castTop (ef0 m ) k
  obtain ⟨T5, X5, e5, st5⟩ := getS2 X0 hx hZ hown (host := "") (Or.inl (hw _ (List.mem_of_getElem? (i := 5) rfl))) Via.refl e0 (wS0.ext O0.2) (g := (mkF m 4 #[.val (.int (0 : Int32))] [])) rfl (hb hby d_method_2_code_4)
  obtain ⟨fs, hr, hrun, hended, hWr, hsame⟩ := X5.leave (v := some (.ref w0)) (fun h => by rw [Bd.returns] at h; cases h)
  refine ⟨_, _, pre0 _ ?_, hrun, hended, _, _, rfl, ?_, ⟨_, rfl⟩, hWr, hsame.mono (Nat.le_of_ble_eq_true rfl) (Nat.le_of_ble_eq_true rfl)⟩
  · show Steps p.tables e below (s₁.setTop (mkF m 0 #[.val (.int (0 : Int32))] [])) _
    refine XS.iloadN X0.here hx rfl (hb hby d_method_2_code_0) rfl ?_
    show Steps p.tables e below (s₁.setTop (mkF m 1 #[.val (.int (0 : Int32))] [(.int (0 : Int32))])) _
    refine XS.ifNo X0.here hx rfl (hb hby d_method_2_code_1) rfl (by decide) ?_
    show Steps p.tables e below (s₁.setTop (mkF m 4 #[.val (.int (0 : Int32))] [])) _
    refine st5 _ ?_
    show Steps p.tables e below (T5.setTop (mkF m 7 #[.val (.int (0 : Int32))] [(.ref w0)])) _
    exact retOut X5 hx (t := (.object "com/example/seneschal/seneschal/model/EvaluationsSemantic")) (i := .areturn) Bd.returns rfl (Or.inr (Or.inr (Or.inr (Or.inr ⟨rfl, rfl, rfl⟩)))) (hb hby d_method_2_code_7) hr
  · show Qp (some (.ref w0)) h0 n0 _ T5.heap _
    rw [e5]
    exact ⟨rfl, N0, rfl⟩
theorem pd0 : parseMethodDescriptor "(I)Lcom/example/seneschal/seneschal/model/EvaluationsSemantic;" = some ⟨[.int], some (.object "com/example/seneschal/seneschal/model/EvaluationsSemantic")⟩ := by decide +kernel
theorem d_prog_36_method_5_code_0 : decode prog_36_method_5_code 0 = .ok (.aload_n 0, 1) := by decide +kernel
theorem d_prog_36_method_5_code_1 : decode prog_36_method_5_code 1 = .ok (.invokevirtual 36, 3) := by decide +kernel
theorem d_jdk_37_method_2_code_0 : decode jdk_37_method_2_code 0 = .ok (.aload_n 0, 1) := by decide +kernel
theorem d_jdk_37_method_2_code_1 : decode jdk_37_method_2_code 1 = .ok (.getfield 7, 3) := by decide +kernel
theorem d_jdk_37_method_2_code_4 : decode jdk_37_method_2_code 4 = .ok (.ireturn, 1) := by decide +kernel
theorem pn1 : plainName "java/lang/Enum" = true := by first | (simp [plainName, overriddenIn]; done) | decide +kernel
theorem ef1 (m : MethodId)   (w0 : Addr) : entryFrame m #[(.ref w0)] 1 = mkF m 0 #[.val (.ref w0)] [] := by first | (simp [entryFrame, mkF, argsToLocals, Value.category]; done) | rfl
set_option maxRecDepth 65536 in
set_option maxHeartbeats 40000000 in
theorem rm3 (l : Launch) (Z : State) (a0 : Array Value) (hw : ∀ d ∈ tables_1, d.before a0 Z = true) (ws : List Jvm.Cond) (w0 w1 w2 : Addr) (h0 : Heap) (n0 : Nat) (hWd : Wd Z w0 w1 w2) (O0 : Old Z n0 h0) :
    MetFree l (⟨"java/lang/Enum", "ordinal", "()I"⟩ : MethodName) (head1 (Jvm.Cond.code (⟨"java/lang/Enum", "ordinal", "()I"⟩ : MethodName) jdk_37_method_2_code 1 (some .int) :: ws) ({ frames := 0, cells := 0, slots := 0, locals := 0 } : Room)) (fun a U => a = #[(.ref w0)] ∧ Z.Warmed39 U.vm ∧ U.heap = h0) (fun _ _ _ _ _ => True) (fun _ U o U' => ∃ v L, o = .returned v ∧ Qp (some (.int (0 : Int32))) h0 n0 v U'.heap L ∧ FrameEnd U o U' L ({ frames := 0, cells := 0, slots := 0, locals := 0 } : Room).cells ({ frames := 0, cells := 0, slots := 0, locals := 0 } : Room).slots) := by
  refine MetFree.of_bodySF (plainFor_of_name pn1) hisR ?_
  intro p e s m args below meth c s₁ Bd hml0 hP hK
  obtain ⟨rfl, hZ, hh⟩ := hP
  have hx := Bd.exec
  have hby := Bd.bytes
  have hml : c.maxLocals = 1 := hml0
  have hown : s.vm.findClass "java/lang/Enum" = some m.cls := findClass_of_methodNamed Bd.named
  have hnm := (name_of_methodNamed Bd.named Bd.method).1
  have X0 : Stand p l e ({ frames := 0, cells := 0, slots := 0, locals := 0 } : Room) s m #[(.ref w0)] below meth c s₁ [] 0 0 := Stand.of_body Bd
  have e0 : s₁.heap = h0 := by rw [← hh, Bd.state]; rfl
  have N0 := Fr.nil n0
  obtain ⟨wS0, wE0, wS1, wE1, wS2, wE2, wF0_ordinal, wF1_ordinal, wF2_ordinal, -⟩ := id hWd
  have pre0 : ∀ t, Steps p.tables e below (s₁.setTop (mkF m 0 #[.val (.ref w0)] [])) t → Steps p.tables e below (s₁.setTop (entryFrame m #[(.ref w0)] 1)) t := fun t k => castTop (ef1 m w0) k
  obtain ⟨T10, X10, e10, st10⟩ := getF X0 hx hZ hown (host := "") (Or.inl (hw _ (List.mem_of_getElem? (i := 20) rfl))) Via.refl e0 (wF0_ordinal.ext O0.2) (g := (mkF m 1 #[.val (.ref w0)] [(.ref w0)])) rfl rfl (hb hby d_jdk_37_method_2_code_1)
  obtain ⟨fs, hr, hrun, hended, hWr, hsame⟩ := X10.leave (v := some (.int (0 : Int32))) (fun h => by rw [Bd.returns] at h; cases h)
  refine ⟨_, _, pre0 _ ?_, hrun, hended, _, _, rfl, ?_, ⟨_, rfl⟩, hWr, hsame.mono (Nat.le_of_ble_eq_true rfl) (Nat.le_of_ble_eq_true rfl)⟩
  · show Steps p.tables e below (s₁.setTop (mkF m 0 #[.val (.ref w0)] [])) _
    refine XS.aloadN X0.here hx rfl (hb hby d_jdk_37_method_2_code_0) rfl rfl ?_
    show Steps p.tables e below (s₁.setTop (mkF m 1 #[.val (.ref w0)] [(.ref w0)])) _
    refine st10 _ ?_
    show Steps p.tables e below (T10.setTop (mkF m 4 #[.val (.ref w0)] [(.int (0 : Int32))])) _
    exact retOut X10 hx (t := .int) (i := .ireturn) Bd.returns rfl (Or.inl ⟨rfl, Or.inl rfl, _, rfl⟩) (hb hby d_jdk_37_method_2_code_4) hr
  · show Qp (some (.int (0 : Int32))) h0 n0 _ T10.heap _
    rw [e10]
    exact ⟨rfl, N0, rfl⟩
theorem pd1 : parseMethodDescriptor "()I" = some ⟨[], some .int⟩ := by decide +kernel
theorem d_prog_36_method_5_code_4 : decode prog_36_method_5_code 4 = .ok (.tableswitch 28 0 2 #[38, 42, 54], 28) := by decide +kernel
theorem d_prog_36_method_5_code_42 : decode prog_36_method_5_code 42 = .ok (.iconst 0, 1) := by decide +kernel
theorem d_prog_36_method_5_code_43 : decode prog_36_method_5_code 43 = .ok (.goto 16, 3) := by decide +kernel
theorem d_prog_36_method_5_code_59 : decode prog_36_method_5_code 59 = .ok (.ireturn, 1) := by decide +kernel
theorem pn2 : plainName "com/example/seneschal/seneschal/model/EvaluationsSemantic" = true := by first | (simp [plainName, overriddenIn]; done) | decide +kernel
theorem ef2 (m : MethodId)   (w0 : Addr) : entryFrame m #[(.ref w0), (.int (0 : Int32))] 2 = mkF m 0 #[.val (.ref w0), .val (.int (0 : Int32))] [] := by first | (simp [entryFrame, mkF, argsToLocals, Value.category]; done) | rfl
set_option maxRecDepth 65536 in
set_option maxHeartbeats 40000000 in
theorem rm2 (l : Launch) (Z : State) (a0 : Array Value) (hw : ∀ d ∈ tables_1, d.before a0 Z = true) (ws : List Jvm.Cond) (w0 w1 w2 : Addr) (h0 : Heap) (n0 : Nat) (hWd : Wd Z w0 w1 w2) (O0 : Old Z n0 h0) :
    MetFree l (⟨"com/example/seneschal/seneschal/model/EvaluationsSemantic", "stopsAfter", "(Z)Z"⟩ : MethodName) (head1 (Jvm.Cond.code (⟨"com/example/seneschal/seneschal/model/EvaluationsSemantic", "stopsAfter", "(Z)Z"⟩ : MethodName) prog_36_method_5_code 2 (some .boolean) :: ws) ({ frames := 1, cells := 0, slots := 0, locals := 12 } : Room)) (fun a U => a = #[(.ref w0), (.int (0 : Int32))] ∧ Z.Warmed39 U.vm ∧ U.heap = h0) (fun _ _ _ _ _ => True) (fun _ U o U' => ∃ v L, o = .returned v ∧ Qp (some (.int (0 : Int32))) h0 n0 v U'.heap L ∧ FrameEnd U o U' L ({ frames := 1, cells := 0, slots := 0, locals := 12 } : Room).cells ({ frames := 1, cells := 0, slots := 0, locals := 12 } : Room).slots) := by
  refine MetFree.of_bodySF (plainFor_of_name pn2) hisR ?_
  intro p e s m args below meth c s₁ Bd hml0 hP hK
  obtain ⟨rfl, hZ, hh⟩ := hP
  have hx := Bd.exec
  have hby := Bd.bytes
  have hml : c.maxLocals = 2 := hml0
  have hown : s.vm.findClass "com/example/seneschal/seneschal/model/EvaluationsSemantic" = some m.cls := findClass_of_methodNamed Bd.named
  have hnm := (name_of_methodNamed Bd.named Bd.method).1
  have X0 : Stand p l e ({ frames := 1, cells := 0, slots := 0, locals := 12 } : Room) s m #[(.ref w0), (.int (0 : Int32))] below meth c s₁ [] 0 0 := Stand.of_body Bd
  have e0 : s₁.heap = h0 := by rw [← hh, Bd.state]; rfl
  have N0 := Fr.nil n0
  obtain ⟨wS0, wE0, wS1, wE1, wS2, wE2, wF0_ordinal, wF1_ordinal, wF2_ordinal, -⟩ := id hWd
  have pre0 : ∀ t, Steps p.tables e below (s₁.setTop (mkF m 0 #[.val (.ref w0), .val (.int (0 : Int32))] [])) t → Steps p.tables e below (s₁.setTop (entryFrame m #[(.ref w0), (.int (0 : Int32))] 2)) t := fun t k => castTop (ef2 m w0) k
  obtain ⟨cq11, kq11, q11a, q11b, q11c⟩ := isOf hZ e0 (wE0.ext O0.2)
  obtain ⟨_, _, ⟨T11, L11, k11, n11⟩, -, X11, ⟨Lc11, hQ11, l11, y11, z11⟩, st11⟩ := X0.virtualBackUp hx (owner := "java/lang/Enum") (x := (⟨"com/example/seneschal/seneschal/model/EvaluationsSemantic", "ordinal", "()I"⟩ : MethodName)) (y := (⟨"java/lang/Enum", "ordinal", "()I"⟩ : MethodName)) hown (mvT hZ (hw _ (List.mem_of_getElem? (i := 13) rfl))) (mvT hZ (hw _ (List.mem_of_getElem? (i := 14) rfl))) (mvT hZ (hw _ (List.mem_of_getElem? (i := 15) rfl))) (by decide) (mvT hZ (hw _ (List.mem_of_getElem? (i := 17) rfl))) (mvT hZ (hw _ (List.mem_of_getElem? (i := 16) rfl))) (backOf (W := 0) (rm3 l Z a0 hw [] w0 w1 w2 h0 n0 hWd O0) hZ (hw _ (List.mem_of_getElem? (i := 19) rfl)) (hw _ (List.mem_of_getElem? (i := 18) rfl)) (by decide) (by decide)) q11a q11c (g := (mkF m 1 #[.val (.ref w0), .val (.int (0 : Int32))] [(.ref w0)])) rfl (by rw [hml]; rfl) (Steps.refl _) (argsL := []) (rest := []) (lenOf pd1 rfl) rfl (by show 2 * 0 + _ ≤ _; exact Nat.le_of_eq rfl) (hb hby d_prog_36_method_5_code_1) (fun _ _ => ⟨rfl, e0, (by decide : 0 + 0 ≤ _), (by decide : 0 + 0 ≤ _)⟩)
  dsimp only [Pt.U, Pt.locs, Pt.cells, Pt.slots] at X11 l11 y11 z11 st11 hQ11
  subst l11 y11 z11
  obtain ⟨rfl, N11q, e11⟩ := hQ11
  have N11 := Fr.app N0 N11q
  obtain ⟨fs, hr, hrun, hended, hWr, hsame⟩ := X11.leave (v := some (.int (0 : Int32))) (fun h => by rw [Bd.returns] at h; cases h)
  refine ⟨_, _, pre0 _ ?_, hrun, hended, _, _, rfl, ?_, ⟨_, rfl⟩, hWr, hsame.mono (Nat.le_of_ble_eq_true rfl) (Nat.le_of_ble_eq_true rfl)⟩
  · show Steps p.tables e below (s₁.setTop (mkF m 0 #[.val (.ref w0), .val (.int (0 : Int32))] [])) _
    refine XS.aloadN X0.here hx rfl (hb hby d_prog_36_method_5_code_0) rfl rfl ?_
    show Steps p.tables e below (s₁.setTop (mkF m 1 #[.val (.ref w0), .val (.int (0 : Int32))] [(.ref w0)])) _
    refine st11.trans ?_
    show Steps p.tables e below (T11.setTop (mkF m 4 #[.val (.ref w0), .val (.int (0 : Int32))] [(.int (0 : Int32))])) _
    refine XS.tswIn X11.here hx rfl (pc0 := 4) (pc' := 42) (o := 38) rfl (hb hby d_prog_36_method_5_code_4) rfl (by decide) (by first | rfl | decide) (by decide) (by decide) ?_
    show Steps p.tables e below (T11.setTop (mkF m 42 #[.val (.ref w0), .val (.int (0 : Int32))] [])) _
    refine XS.iconst X11.here hx rfl (hb hby d_prog_36_method_5_code_42) ?_
    show Steps p.tables e below (T11.setTop (mkF m 43 #[.val (.ref w0), .val (.int (0 : Int32))] [(.int (0 : Int32))])) _
    refine XS.goto X11.here hx rfl (pc0 := 43) (pc' := 59) rfl (hb hby d_prog_36_method_5_code_43) (by decide) (by decide) ?_
    show Steps p.tables e below (T11.setTop (mkF m 59 #[.val (.ref w0), .val (.int (0 : Int32))] [(.int (0 : Int32))])) _
    exact retN X11 hx (t := .boolean) Bd.returns (by simp) (hb hby d_prog_36_method_5_code_59) hr
  · show Qp (some (.int (0 : Int32))) h0 n0 _ T11.heap _
    rw [e11]
    exact ⟨rfl, N11, rfl⟩
theorem pd2 : parseMethodDescriptor "(Z)Z" = some ⟨[.boolean], some .boolean⟩ := by decide +kernel
theorem ef3 (m : MethodId)   (w0 : Addr) : entryFrame m #[(.ref w0), (.int (1 : Int32))] 2 = mkF m 0 #[.val (.ref w0), .val (.int (1 : Int32))] [] := by first | (simp [entryFrame, mkF, argsToLocals, Value.category]; done) | rfl
set_option maxRecDepth 65536 in
set_option maxHeartbeats 40000000 in
theorem rm4 (l : Launch) (Z : State) (a0 : Array Value) (hw : ∀ d ∈ tables_1, d.before a0 Z = true) (ws : List Jvm.Cond) (w0 w1 w2 : Addr) (h0 : Heap) (n0 : Nat) (hWd : Wd Z w0 w1 w2) (O0 : Old Z n0 h0) :
    MetFree l (⟨"com/example/seneschal/seneschal/model/EvaluationsSemantic", "stopsAfter", "(Z)Z"⟩ : MethodName) (head1 (Jvm.Cond.code (⟨"com/example/seneschal/seneschal/model/EvaluationsSemantic", "stopsAfter", "(Z)Z"⟩ : MethodName) prog_36_method_5_code 2 (some .boolean) :: ws) ({ frames := 1, cells := 0, slots := 0, locals := 12 } : Room)) (fun a U => a = #[(.ref w0), (.int (1 : Int32))] ∧ Z.Warmed39 U.vm ∧ U.heap = h0) (fun _ _ _ _ _ => True) (fun _ U o U' => ∃ v L, o = .returned v ∧ Qp (some (.int (0 : Int32))) h0 n0 v U'.heap L ∧ FrameEnd U o U' L ({ frames := 1, cells := 0, slots := 0, locals := 12 } : Room).cells ({ frames := 1, cells := 0, slots := 0, locals := 12 } : Room).slots) := by
  refine MetFree.of_bodySF (plainFor_of_name pn2) hisR ?_
  intro p e s m args below meth c s₁ Bd hml0 hP hK
  obtain ⟨rfl, hZ, hh⟩ := hP
  have hx := Bd.exec
  have hby := Bd.bytes
  have hml : c.maxLocals = 2 := hml0
  have hown : s.vm.findClass "com/example/seneschal/seneschal/model/EvaluationsSemantic" = some m.cls := findClass_of_methodNamed Bd.named
  have hnm := (name_of_methodNamed Bd.named Bd.method).1
  have X0 : Stand p l e ({ frames := 1, cells := 0, slots := 0, locals := 12 } : Room) s m #[(.ref w0), (.int (1 : Int32))] below meth c s₁ [] 0 0 := Stand.of_body Bd
  have e0 : s₁.heap = h0 := by rw [← hh, Bd.state]; rfl
  have N0 := Fr.nil n0
  obtain ⟨wS0, wE0, wS1, wE1, wS2, wE2, wF0_ordinal, wF1_ordinal, wF2_ordinal, -⟩ := id hWd
  have pre0 : ∀ t, Steps p.tables e below (s₁.setTop (mkF m 0 #[.val (.ref w0), .val (.int (1 : Int32))] [])) t → Steps p.tables e below (s₁.setTop (entryFrame m #[(.ref w0), (.int (1 : Int32))] 2)) t := fun t k => castTop (ef3 m w0) k
  obtain ⟨cq13, kq13, q13a, q13b, q13c⟩ := isOf hZ e0 (wE0.ext O0.2)
  obtain ⟨_, _, ⟨T13, L13, k13, n13⟩, -, X13, ⟨Lc13, hQ13, l13, y13, z13⟩, st13⟩ := X0.virtualBackUp hx (owner := "java/lang/Enum") (x := (⟨"com/example/seneschal/seneschal/model/EvaluationsSemantic", "ordinal", "()I"⟩ : MethodName)) (y := (⟨"java/lang/Enum", "ordinal", "()I"⟩ : MethodName)) hown (mvT hZ (hw _ (List.mem_of_getElem? (i := 13) rfl))) (mvT hZ (hw _ (List.mem_of_getElem? (i := 14) rfl))) (mvT hZ (hw _ (List.mem_of_getElem? (i := 15) rfl))) (by decide) (mvT hZ (hw _ (List.mem_of_getElem? (i := 17) rfl))) (mvT hZ (hw _ (List.mem_of_getElem? (i := 16) rfl))) (backOf (W := 0) (rm3 l Z a0 hw [] w0 w1 w2 h0 n0 hWd O0) hZ (hw _ (List.mem_of_getElem? (i := 19) rfl)) (hw _ (List.mem_of_getElem? (i := 18) rfl)) (by decide) (by decide)) q13a q13c (g := (mkF m 1 #[.val (.ref w0), .val (.int (1 : Int32))] [(.ref w0)])) rfl (by rw [hml]; rfl) (Steps.refl _) (argsL := []) (rest := []) (lenOf pd1 rfl) rfl (by show 2 * 0 + _ ≤ _; exact Nat.le_of_eq rfl) (hb hby d_prog_36_method_5_code_1) (fun _ _ => ⟨rfl, e0, (by decide : 0 + 0 ≤ _), (by decide : 0 + 0 ≤ _)⟩)
  dsimp only [Pt.U, Pt.locs, Pt.cells, Pt.slots] at X13 l13 y13 z13 st13 hQ13
  subst l13 y13 z13
  obtain ⟨rfl, N13q, e13⟩ := hQ13
  have N13 := Fr.app N0 N13q
  obtain ⟨fs, hr, hrun, hended, hWr, hsame⟩ := X13.leave (v := some (.int (0 : Int32))) (fun h => by rw [Bd.returns] at h; cases h)
  refine ⟨_, _, pre0 _ ?_, hrun, hended, _, _, rfl, ?_, ⟨_, rfl⟩, hWr, hsame.mono (Nat.le_of_ble_eq_true rfl) (Nat.le_of_ble_eq_true rfl)⟩
  · show Steps p.tables e below (s₁.setTop (mkF m 0 #[.val (.ref w0), .val (.int (1 : Int32))] [])) _
    refine XS.aloadN X0.here hx rfl (hb hby d_prog_36_method_5_code_0) rfl rfl ?_
    show Steps p.tables e below (s₁.setTop (mkF m 1 #[.val (.ref w0), .val (.int (1 : Int32))] [(.ref w0)])) _
    refine st13.trans ?_
    show Steps p.tables e below (T13.setTop (mkF m 4 #[.val (.ref w0), .val (.int (1 : Int32))] [(.int (0 : Int32))])) _
    refine XS.tswIn X13.here hx rfl (pc0 := 4) (pc' := 42) (o := 38) rfl (hb hby d_prog_36_method_5_code_4) rfl (by decide) (by first | rfl | decide) (by decide) (by decide) ?_
    show Steps p.tables e below (T13.setTop (mkF m 42 #[.val (.ref w0), .val (.int (1 : Int32))] [])) _
    refine XS.iconst X13.here hx rfl (hb hby d_prog_36_method_5_code_42) ?_
    show Steps p.tables e below (T13.setTop (mkF m 43 #[.val (.ref w0), .val (.int (1 : Int32))] [(.int (0 : Int32))])) _
    refine XS.goto X13.here hx rfl (pc0 := 43) (pc' := 59) rfl (hb hby d_prog_36_method_5_code_43) (by decide) (by decide) ?_
    show Steps p.tables e below (T13.setTop (mkF m 59 #[.val (.ref w0), .val (.int (1 : Int32))] [(.int (0 : Int32))])) _
    exact retN X13 hx (t := .boolean) Bd.returns (by simp) (hb hby d_prog_36_method_5_code_59) hr
  · show Qp (some (.int (0 : Int32))) h0 n0 _ T13.heap _
    rw [e13]
    exact ⟨rfl, N13, rfl⟩
theorem d_method_2_code_8 : decode method_2_code 8 = .ok (.iload_n 0, 1) := by decide +kernel
theorem d_method_2_code_9 : decode method_2_code 9 = .ok (.iconst 1, 1) := by decide +kernel
theorem d_method_2_code_10 : decode method_2_code 10 = .ok (.if_icmp .ne 7, 3) := by decide +kernel
theorem d_method_2_code_13 : decode method_2_code 13 = .ok (.getstatic 13, 3) := by decide +kernel
theorem d_method_2_code_16 : decode method_2_code 16 = .ok (.areturn, 1) := by decide +kernel
theorem ef4 (m : MethodId)    : entryFrame m #[(.int (1 : Int32))] 1 = mkF m 0 #[.val (.int (1 : Int32))] [] := by first | (simp [entryFrame, mkF, argsToLocals, Value.category]; done) | rfl
set_option maxRecDepth 65536 in
set_option maxHeartbeats 40000000 in
theorem rm5 (l : Launch) (Z : State) (a0 : Array Value) (hw : ∀ d ∈ tables_1, d.before a0 Z = true) (ws : List Jvm.Cond) (w0 w1 w2 : Addr) (h0 : Heap) (n0 : Nat) (hWd : Wd Z w0 w1 w2) (O0 : Old Z n0 h0) :
    MetFree l (⟨"com/example/seneschal/seneschal/model/EvaluationsSemanticStopsAfterPinLaw", "pick", "(I)Lcom/example/seneschal/seneschal/model/EvaluationsSemantic;"⟩ : MethodName) (head1 (Jvm.Cond.code (⟨"com/example/seneschal/seneschal/model/EvaluationsSemanticStopsAfterPinLaw", "pick", "(I)Lcom/example/seneschal/seneschal/model/EvaluationsSemantic;"⟩ : MethodName) method_2_code 1 (some (.object "com/example/seneschal/seneschal/model/EvaluationsSemantic")) :: ws) ({ frames := 0, cells := 0, slots := 0, locals := 0 } : Room)) (fun a U => a = #[(.int (1 : Int32))] ∧ Z.Warmed39 U.vm ∧ U.heap = h0) (fun _ _ _ _ _ => True) (fun _ U o U' => ∃ v L, o = .returned v ∧ Qp (some (.ref w2)) h0 n0 v U'.heap L ∧ FrameEnd U o U' L ({ frames := 0, cells := 0, slots := 0, locals := 0 } : Room).cells ({ frames := 0, cells := 0, slots := 0, locals := 0 } : Room).slots) := by
  refine MetFree.of_bodySF (plainFor_of_name pn0) hisR ?_
  intro p e s m args below meth c s₁ Bd hml0 hP hK
  obtain ⟨rfl, hZ, hh⟩ := hP
  have hx := Bd.exec
  have hby := Bd.bytes
  have hml : c.maxLocals = 1 := hml0
  have hown : s.vm.findClass "com/example/seneschal/seneschal/model/EvaluationsSemanticStopsAfterPinLaw" = some m.cls := findClass_of_methodNamed Bd.named
  have hnm := (name_of_methodNamed Bd.named Bd.method).1
  have X0 : Stand p l e ({ frames := 0, cells := 0, slots := 0, locals := 0 } : Room) s m #[(.int (1 : Int32))] below meth c s₁ [] 0 0 := Stand.of_body Bd
  have e0 : s₁.heap = h0 := by rw [← hh, Bd.state]; rfl
  have N0 := Fr.nil n0
  obtain ⟨wS0, wE0, wS1, wE1, wS2, wE2, wF0_ordinal, wF1_ordinal, wF2_ordinal, -⟩ := id hWd
  have pre0 : ∀ t, Steps p.tables e below (s₁.setTop (mkF m 0 #[.val (.int (1 : Int32))] [])) t → Steps p.tables e below (s₁.setTop (entryFrame m #[(.int (1 : Int32))] 1)) t := fun t k => castTop (ef4 m ) k
  obtain ⟨T15, X15, e15, st15⟩ := getS2 X0 hx hZ hown (host := "") (Or.inl (hw _ (List.mem_of_getElem? (i := 24) rfl))) Via.refl e0 (wS2.ext O0.2) (g := (mkF m 13 #[.val (.int (1 : Int32))] [])) rfl (hb hby d_method_2_code_13)
  obtain ⟨fs, hr, hrun, hended, hWr, hsame⟩ := X15.leave (v := some (.ref w2)) (fun h => by rw [Bd.returns] at h; cases h)
  refine ⟨_, _, pre0 _ ?_, hrun, hended, _, _, rfl, ?_, ⟨_, rfl⟩, hWr, hsame.mono (Nat.le_of_ble_eq_true rfl) (Nat.le_of_ble_eq_true rfl)⟩
  · show Steps p.tables e below (s₁.setTop (mkF m 0 #[.val (.int (1 : Int32))] [])) _
    refine XS.iloadN X0.here hx rfl (hb hby d_method_2_code_0) rfl ?_
    show Steps p.tables e below (s₁.setTop (mkF m 1 #[.val (.int (1 : Int32))] [(.int (1 : Int32))])) _
    refine XS.ifYes X0.here hx rfl (pc0 := 1) (pc' := 8) rfl (hb hby d_method_2_code_1) rfl (by decide) (by decide) (by decide) ?_
    show Steps p.tables e below (s₁.setTop (mkF m 8 #[.val (.int (1 : Int32))] [])) _
    refine XS.iloadN X0.here hx rfl (hb hby d_method_2_code_8) rfl ?_
    show Steps p.tables e below (s₁.setTop (mkF m 9 #[.val (.int (1 : Int32))] [(.int (1 : Int32))])) _
    refine XS.iconst X0.here hx rfl (hb hby d_method_2_code_9) ?_
    show Steps p.tables e below (s₁.setTop (mkF m 10 #[.val (.int (1 : Int32))] [(.int (1 : Int32)), (.int (1 : Int32))])) _
    refine XS.icmpNo X0.here hx rfl (hb hby d_method_2_code_10) rfl (by decide) ?_
    show Steps p.tables e below (s₁.setTop (mkF m 13 #[.val (.int (1 : Int32))] [])) _
    refine st15 _ ?_
    show Steps p.tables e below (T15.setTop (mkF m 16 #[.val (.int (1 : Int32))] [(.ref w2)])) _
    exact retOut X15 hx (t := (.object "com/example/seneschal/seneschal/model/EvaluationsSemantic")) (i := .areturn) Bd.returns rfl (Or.inr (Or.inr (Or.inr (Or.inr ⟨rfl, rfl, rfl⟩)))) (hb hby d_method_2_code_16) hr
  · show Qp (some (.ref w2)) h0 n0 _ T15.heap _
    rw [e15]
    exact ⟨rfl, N0, rfl⟩
theorem ef5 (m : MethodId)   (w2 : Addr) : entryFrame m #[(.ref w2)] 1 = mkF m 0 #[.val (.ref w2)] [] := by first | (simp [entryFrame, mkF, argsToLocals, Value.category]; done) | rfl
set_option maxRecDepth 65536 in
set_option maxHeartbeats 40000000 in
theorem rm7 (l : Launch) (Z : State) (a0 : Array Value) (hw : ∀ d ∈ tables_1, d.before a0 Z = true) (ws : List Jvm.Cond) (w0 w1 w2 : Addr) (h0 : Heap) (n0 : Nat) (hWd : Wd Z w0 w1 w2) (O0 : Old Z n0 h0) :
    MetFree l (⟨"java/lang/Enum", "ordinal", "()I"⟩ : MethodName) (head1 (Jvm.Cond.code (⟨"java/lang/Enum", "ordinal", "()I"⟩ : MethodName) jdk_37_method_2_code 1 (some .int) :: ws) ({ frames := 0, cells := 0, slots := 0, locals := 0 } : Room)) (fun a U => a = #[(.ref w2)] ∧ Z.Warmed39 U.vm ∧ U.heap = h0) (fun _ _ _ _ _ => True) (fun _ U o U' => ∃ v L, o = .returned v ∧ Qp (some (.int (1 : Int32))) h0 n0 v U'.heap L ∧ FrameEnd U o U' L ({ frames := 0, cells := 0, slots := 0, locals := 0 } : Room).cells ({ frames := 0, cells := 0, slots := 0, locals := 0 } : Room).slots) := by
  refine MetFree.of_bodySF (plainFor_of_name pn1) hisR ?_
  intro p e s m args below meth c s₁ Bd hml0 hP hK
  obtain ⟨rfl, hZ, hh⟩ := hP
  have hx := Bd.exec
  have hby := Bd.bytes
  have hml : c.maxLocals = 1 := hml0
  have hown : s.vm.findClass "java/lang/Enum" = some m.cls := findClass_of_methodNamed Bd.named
  have hnm := (name_of_methodNamed Bd.named Bd.method).1
  have X0 : Stand p l e ({ frames := 0, cells := 0, slots := 0, locals := 0 } : Room) s m #[(.ref w2)] below meth c s₁ [] 0 0 := Stand.of_body Bd
  have e0 : s₁.heap = h0 := by rw [← hh, Bd.state]; rfl
  have N0 := Fr.nil n0
  obtain ⟨wS0, wE0, wS1, wE1, wS2, wE2, wF0_ordinal, wF1_ordinal, wF2_ordinal, -⟩ := id hWd
  have pre0 : ∀ t, Steps p.tables e below (s₁.setTop (mkF m 0 #[.val (.ref w2)] [])) t → Steps p.tables e below (s₁.setTop (entryFrame m #[(.ref w2)] 1)) t := fun t k => castTop (ef5 m w2) k
  obtain ⟨T20, X20, e20, st20⟩ := getF X0 hx hZ hown (host := "") (Or.inl (hw _ (List.mem_of_getElem? (i := 20) rfl))) Via.refl e0 (wF2_ordinal.ext O0.2) (g := (mkF m 1 #[.val (.ref w2)] [(.ref w2)])) rfl rfl (hb hby d_jdk_37_method_2_code_1)
  obtain ⟨fs, hr, hrun, hended, hWr, hsame⟩ := X20.leave (v := some (.int (1 : Int32))) (fun h => by rw [Bd.returns] at h; cases h)
  refine ⟨_, _, pre0 _ ?_, hrun, hended, _, _, rfl, ?_, ⟨_, rfl⟩, hWr, hsame.mono (Nat.le_of_ble_eq_true rfl) (Nat.le_of_ble_eq_true rfl)⟩
  · show Steps p.tables e below (s₁.setTop (mkF m 0 #[.val (.ref w2)] [])) _
    refine XS.aloadN X0.here hx rfl (hb hby d_jdk_37_method_2_code_0) rfl rfl ?_
    show Steps p.tables e below (s₁.setTop (mkF m 1 #[.val (.ref w2)] [(.ref w2)])) _
    refine st20 _ ?_
    show Steps p.tables e below (T20.setTop (mkF m 4 #[.val (.ref w2)] [(.int (1 : Int32))])) _
    exact retOut X20 hx (t := .int) (i := .ireturn) Bd.returns rfl (Or.inl ⟨rfl, Or.inl rfl, _, rfl⟩) (hb hby d_jdk_37_method_2_code_4) hr
  · show Qp (some (.int (1 : Int32))) h0 n0 _ T20.heap _
    rw [e20]
    exact ⟨rfl, N0, rfl⟩
theorem d_prog_36_method_5_code_46 : decode prog_36_method_5_code 46 = .ok (.iload_n 1, 1) := by decide +kernel
theorem d_prog_36_method_5_code_47 : decode prog_36_method_5_code 47 = .ok (.ifCond .ne 7, 3) := by decide +kernel
theorem d_prog_36_method_5_code_50 : decode prog_36_method_5_code 50 = .ok (.iconst 1, 1) := by decide +kernel
theorem d_prog_36_method_5_code_51 : decode prog_36_method_5_code 51 = .ok (.goto 8, 3) := by decide +kernel
theorem ef6 (m : MethodId)   (w2 : Addr) : entryFrame m #[(.ref w2), (.int (0 : Int32))] 2 = mkF m 0 #[.val (.ref w2), .val (.int (0 : Int32))] [] := by first | (simp [entryFrame, mkF, argsToLocals, Value.category]; done) | rfl
set_option maxRecDepth 65536 in
set_option maxHeartbeats 40000000 in
theorem rm6 (l : Launch) (Z : State) (a0 : Array Value) (hw : ∀ d ∈ tables_1, d.before a0 Z = true) (ws : List Jvm.Cond) (w0 w1 w2 : Addr) (h0 : Heap) (n0 : Nat) (hWd : Wd Z w0 w1 w2) (O0 : Old Z n0 h0) :
    MetFree l (⟨"com/example/seneschal/seneschal/model/EvaluationsSemantic", "stopsAfter", "(Z)Z"⟩ : MethodName) (head1 (Jvm.Cond.code (⟨"com/example/seneschal/seneschal/model/EvaluationsSemantic", "stopsAfter", "(Z)Z"⟩ : MethodName) prog_36_method_5_code 2 (some .boolean) :: ws) ({ frames := 1, cells := 0, slots := 0, locals := 12 } : Room)) (fun a U => a = #[(.ref w2), (.int (0 : Int32))] ∧ Z.Warmed39 U.vm ∧ U.heap = h0) (fun _ _ _ _ _ => True) (fun _ U o U' => ∃ v L, o = .returned v ∧ Qp (some (.int (1 : Int32))) h0 n0 v U'.heap L ∧ FrameEnd U o U' L ({ frames := 1, cells := 0, slots := 0, locals := 12 } : Room).cells ({ frames := 1, cells := 0, slots := 0, locals := 12 } : Room).slots) := by
  refine MetFree.of_bodySF (plainFor_of_name pn2) hisR ?_
  intro p e s m args below meth c s₁ Bd hml0 hP hK
  obtain ⟨rfl, hZ, hh⟩ := hP
  have hx := Bd.exec
  have hby := Bd.bytes
  have hml : c.maxLocals = 2 := hml0
  have hown : s.vm.findClass "com/example/seneschal/seneschal/model/EvaluationsSemantic" = some m.cls := findClass_of_methodNamed Bd.named
  have hnm := (name_of_methodNamed Bd.named Bd.method).1
  have X0 : Stand p l e ({ frames := 1, cells := 0, slots := 0, locals := 12 } : Room) s m #[(.ref w2), (.int (0 : Int32))] below meth c s₁ [] 0 0 := Stand.of_body Bd
  have e0 : s₁.heap = h0 := by rw [← hh, Bd.state]; rfl
  have N0 := Fr.nil n0
  obtain ⟨wS0, wE0, wS1, wE1, wS2, wE2, wF0_ordinal, wF1_ordinal, wF2_ordinal, -⟩ := id hWd
  have pre0 : ∀ t, Steps p.tables e below (s₁.setTop (mkF m 0 #[.val (.ref w2), .val (.int (0 : Int32))] [])) t → Steps p.tables e below (s₁.setTop (entryFrame m #[(.ref w2), (.int (0 : Int32))] 2)) t := fun t k => castTop (ef6 m w2) k
  obtain ⟨cq21, kq21, q21a, q21b, q21c⟩ := isOf hZ e0 (wE2.ext O0.2)
  obtain ⟨_, _, ⟨T21, L21, k21, n21⟩, -, X21, ⟨Lc21, hQ21, l21, y21, z21⟩, st21⟩ := X0.virtualBackUp hx (owner := "java/lang/Enum") (x := (⟨"com/example/seneschal/seneschal/model/EvaluationsSemantic", "ordinal", "()I"⟩ : MethodName)) (y := (⟨"java/lang/Enum", "ordinal", "()I"⟩ : MethodName)) hown (mvT hZ (hw _ (List.mem_of_getElem? (i := 13) rfl))) (mvT hZ (hw _ (List.mem_of_getElem? (i := 14) rfl))) (mvT hZ (hw _ (List.mem_of_getElem? (i := 15) rfl))) (by decide) (mvT hZ (hw _ (List.mem_of_getElem? (i := 17) rfl))) (mvT hZ (hw _ (List.mem_of_getElem? (i := 16) rfl))) (backOf (W := 0) (rm7 l Z a0 hw [] w0 w1 w2 h0 n0 hWd O0) hZ (hw _ (List.mem_of_getElem? (i := 19) rfl)) (hw _ (List.mem_of_getElem? (i := 18) rfl)) (by decide) (by decide)) q21a q21c (g := (mkF m 1 #[.val (.ref w2), .val (.int (0 : Int32))] [(.ref w2)])) rfl (by rw [hml]; rfl) (Steps.refl _) (argsL := []) (rest := []) (lenOf pd1 rfl) rfl (by show 2 * 0 + _ ≤ _; exact Nat.le_of_eq rfl) (hb hby d_prog_36_method_5_code_1) (fun _ _ => ⟨rfl, e0, (by decide : 0 + 0 ≤ _), (by decide : 0 + 0 ≤ _)⟩)
  dsimp only [Pt.U, Pt.locs, Pt.cells, Pt.slots] at X21 l21 y21 z21 st21 hQ21
  subst l21 y21 z21
  obtain ⟨rfl, N21q, e21⟩ := hQ21
  have N21 := Fr.app N0 N21q
  obtain ⟨fs, hr, hrun, hended, hWr, hsame⟩ := X21.leave (v := some (.int (1 : Int32))) (fun h => by rw [Bd.returns] at h; cases h)
  refine ⟨_, _, pre0 _ ?_, hrun, hended, _, _, rfl, ?_, ⟨_, rfl⟩, hWr, hsame.mono (Nat.le_of_ble_eq_true rfl) (Nat.le_of_ble_eq_true rfl)⟩
  · show Steps p.tables e below (s₁.setTop (mkF m 0 #[.val (.ref w2), .val (.int (0 : Int32))] [])) _
    refine XS.aloadN X0.here hx rfl (hb hby d_prog_36_method_5_code_0) rfl rfl ?_
    show Steps p.tables e below (s₁.setTop (mkF m 1 #[.val (.ref w2), .val (.int (0 : Int32))] [(.ref w2)])) _
    refine st21.trans ?_
    show Steps p.tables e below (T21.setTop (mkF m 4 #[.val (.ref w2), .val (.int (0 : Int32))] [(.int (1 : Int32))])) _
    refine XS.tswIn X21.here hx rfl (pc0 := 4) (pc' := 46) (o := 42) rfl (hb hby d_prog_36_method_5_code_4) rfl (by decide) (by first | rfl | decide) (by decide) (by decide) ?_
    show Steps p.tables e below (T21.setTop (mkF m 46 #[.val (.ref w2), .val (.int (0 : Int32))] [])) _
    refine XS.iloadN X21.here hx rfl (hb hby d_prog_36_method_5_code_46) rfl ?_
    show Steps p.tables e below (T21.setTop (mkF m 47 #[.val (.ref w2), .val (.int (0 : Int32))] [(.int (0 : Int32))])) _
    refine XS.ifNo X21.here hx rfl (hb hby d_prog_36_method_5_code_47) rfl (by decide) ?_
    show Steps p.tables e below (T21.setTop (mkF m 50 #[.val (.ref w2), .val (.int (0 : Int32))] [])) _
    refine XS.iconst X21.here hx rfl (hb hby d_prog_36_method_5_code_50) ?_
    show Steps p.tables e below (T21.setTop (mkF m 51 #[.val (.ref w2), .val (.int (0 : Int32))] [(.int (1 : Int32))])) _
    refine XS.goto X21.here hx rfl (pc0 := 51) (pc' := 59) rfl (hb hby d_prog_36_method_5_code_51) (by decide) (by decide) ?_
    show Steps p.tables e below (T21.setTop (mkF m 59 #[.val (.ref w2), .val (.int (0 : Int32))] [(.int (1 : Int32))])) _
    exact retN X21 hx (t := .boolean) Bd.returns (by simp) (hb hby d_prog_36_method_5_code_59) hr
  · show Qp (some (.int (1 : Int32))) h0 n0 _ T21.heap _
    rw [e21]
    exact ⟨rfl, N21, rfl⟩
theorem d_prog_36_method_5_code_54 : decode prog_36_method_5_code 54 = .ok (.iconst 0, 1) := by decide +kernel
theorem d_prog_36_method_5_code_55 : decode prog_36_method_5_code 55 = .ok (.goto 4, 3) := by decide +kernel
theorem ef7 (m : MethodId)   (w2 : Addr) : entryFrame m #[(.ref w2), (.int (1 : Int32))] 2 = mkF m 0 #[.val (.ref w2), .val (.int (1 : Int32))] [] := by first | (simp [entryFrame, mkF, argsToLocals, Value.category]; done) | rfl
set_option maxRecDepth 65536 in
set_option maxHeartbeats 40000000 in
theorem rm8 (l : Launch) (Z : State) (a0 : Array Value) (hw : ∀ d ∈ tables_1, d.before a0 Z = true) (ws : List Jvm.Cond) (w0 w1 w2 : Addr) (h0 : Heap) (n0 : Nat) (hWd : Wd Z w0 w1 w2) (O0 : Old Z n0 h0) :
    MetFree l (⟨"com/example/seneschal/seneschal/model/EvaluationsSemantic", "stopsAfter", "(Z)Z"⟩ : MethodName) (head1 (Jvm.Cond.code (⟨"com/example/seneschal/seneschal/model/EvaluationsSemantic", "stopsAfter", "(Z)Z"⟩ : MethodName) prog_36_method_5_code 2 (some .boolean) :: ws) ({ frames := 1, cells := 0, slots := 0, locals := 12 } : Room)) (fun a U => a = #[(.ref w2), (.int (1 : Int32))] ∧ Z.Warmed39 U.vm ∧ U.heap = h0) (fun _ _ _ _ _ => True) (fun _ U o U' => ∃ v L, o = .returned v ∧ Qp (some (.int (0 : Int32))) h0 n0 v U'.heap L ∧ FrameEnd U o U' L ({ frames := 1, cells := 0, slots := 0, locals := 12 } : Room).cells ({ frames := 1, cells := 0, slots := 0, locals := 12 } : Room).slots) := by
  refine MetFree.of_bodySF (plainFor_of_name pn2) hisR ?_
  intro p e s m args below meth c s₁ Bd hml0 hP hK
  obtain ⟨rfl, hZ, hh⟩ := hP
  have hx := Bd.exec
  have hby := Bd.bytes
  have hml : c.maxLocals = 2 := hml0
  have hown : s.vm.findClass "com/example/seneschal/seneschal/model/EvaluationsSemantic" = some m.cls := findClass_of_methodNamed Bd.named
  have hnm := (name_of_methodNamed Bd.named Bd.method).1
  have X0 : Stand p l e ({ frames := 1, cells := 0, slots := 0, locals := 12 } : Room) s m #[(.ref w2), (.int (1 : Int32))] below meth c s₁ [] 0 0 := Stand.of_body Bd
  have e0 : s₁.heap = h0 := by rw [← hh, Bd.state]; rfl
  have N0 := Fr.nil n0
  obtain ⟨wS0, wE0, wS1, wE1, wS2, wE2, wF0_ordinal, wF1_ordinal, wF2_ordinal, -⟩ := id hWd
  have pre0 : ∀ t, Steps p.tables e below (s₁.setTop (mkF m 0 #[.val (.ref w2), .val (.int (1 : Int32))] [])) t → Steps p.tables e below (s₁.setTop (entryFrame m #[(.ref w2), (.int (1 : Int32))] 2)) t := fun t k => castTop (ef7 m w2) k
  obtain ⟨cq23, kq23, q23a, q23b, q23c⟩ := isOf hZ e0 (wE2.ext O0.2)
  obtain ⟨_, _, ⟨T23, L23, k23, n23⟩, -, X23, ⟨Lc23, hQ23, l23, y23, z23⟩, st23⟩ := X0.virtualBackUp hx (owner := "java/lang/Enum") (x := (⟨"com/example/seneschal/seneschal/model/EvaluationsSemantic", "ordinal", "()I"⟩ : MethodName)) (y := (⟨"java/lang/Enum", "ordinal", "()I"⟩ : MethodName)) hown (mvT hZ (hw _ (List.mem_of_getElem? (i := 13) rfl))) (mvT hZ (hw _ (List.mem_of_getElem? (i := 14) rfl))) (mvT hZ (hw _ (List.mem_of_getElem? (i := 15) rfl))) (by decide) (mvT hZ (hw _ (List.mem_of_getElem? (i := 17) rfl))) (mvT hZ (hw _ (List.mem_of_getElem? (i := 16) rfl))) (backOf (W := 0) (rm7 l Z a0 hw [] w0 w1 w2 h0 n0 hWd O0) hZ (hw _ (List.mem_of_getElem? (i := 19) rfl)) (hw _ (List.mem_of_getElem? (i := 18) rfl)) (by decide) (by decide)) q23a q23c (g := (mkF m 1 #[.val (.ref w2), .val (.int (1 : Int32))] [(.ref w2)])) rfl (by rw [hml]; rfl) (Steps.refl _) (argsL := []) (rest := []) (lenOf pd1 rfl) rfl (by show 2 * 0 + _ ≤ _; exact Nat.le_of_eq rfl) (hb hby d_prog_36_method_5_code_1) (fun _ _ => ⟨rfl, e0, (by decide : 0 + 0 ≤ _), (by decide : 0 + 0 ≤ _)⟩)
  dsimp only [Pt.U, Pt.locs, Pt.cells, Pt.slots] at X23 l23 y23 z23 st23 hQ23
  subst l23 y23 z23
  obtain ⟨rfl, N23q, e23⟩ := hQ23
  have N23 := Fr.app N0 N23q
  obtain ⟨fs, hr, hrun, hended, hWr, hsame⟩ := X23.leave (v := some (.int (0 : Int32))) (fun h => by rw [Bd.returns] at h; cases h)
  refine ⟨_, _, pre0 _ ?_, hrun, hended, _, _, rfl, ?_, ⟨_, rfl⟩, hWr, hsame.mono (Nat.le_of_ble_eq_true rfl) (Nat.le_of_ble_eq_true rfl)⟩
  · show Steps p.tables e below (s₁.setTop (mkF m 0 #[.val (.ref w2), .val (.int (1 : Int32))] [])) _
    refine XS.aloadN X0.here hx rfl (hb hby d_prog_36_method_5_code_0) rfl rfl ?_
    show Steps p.tables e below (s₁.setTop (mkF m 1 #[.val (.ref w2), .val (.int (1 : Int32))] [(.ref w2)])) _
    refine st23.trans ?_
    show Steps p.tables e below (T23.setTop (mkF m 4 #[.val (.ref w2), .val (.int (1 : Int32))] [(.int (1 : Int32))])) _
    refine XS.tswIn X23.here hx rfl (pc0 := 4) (pc' := 46) (o := 42) rfl (hb hby d_prog_36_method_5_code_4) rfl (by decide) (by first | rfl | decide) (by decide) (by decide) ?_
    show Steps p.tables e below (T23.setTop (mkF m 46 #[.val (.ref w2), .val (.int (1 : Int32))] [])) _
    refine XS.iloadN X23.here hx rfl (hb hby d_prog_36_method_5_code_46) rfl ?_
    show Steps p.tables e below (T23.setTop (mkF m 47 #[.val (.ref w2), .val (.int (1 : Int32))] [(.int (1 : Int32))])) _
    refine XS.ifYes X23.here hx rfl (pc0 := 47) (pc' := 54) rfl (hb hby d_prog_36_method_5_code_47) rfl (by decide) (by decide) (by decide) ?_
    show Steps p.tables e below (T23.setTop (mkF m 54 #[.val (.ref w2), .val (.int (1 : Int32))] [])) _
    refine XS.iconst X23.here hx rfl (hb hby d_prog_36_method_5_code_54) ?_
    show Steps p.tables e below (T23.setTop (mkF m 55 #[.val (.ref w2), .val (.int (1 : Int32))] [(.int (0 : Int32))])) _
    refine XS.goto X23.here hx rfl (pc0 := 55) (pc' := 59) rfl (hb hby d_prog_36_method_5_code_55) (by decide) (by decide) ?_
    show Steps p.tables e below (T23.setTop (mkF m 59 #[.val (.ref w2), .val (.int (1 : Int32))] [(.int (0 : Int32))])) _
    exact retN X23 hx (t := .boolean) Bd.returns (by simp) (hb hby d_prog_36_method_5_code_59) hr
  · show Qp (some (.int (0 : Int32))) h0 n0 _ T23.heap _
    rw [e23]
    exact ⟨rfl, N23, rfl⟩
theorem d_method_2_code_17 : decode method_2_code 17 = .ok (.getstatic 16, 3) := by decide +kernel
theorem d_method_2_code_20 : decode method_2_code 20 = .ok (.areturn, 1) := by decide +kernel
theorem ef8 (m : MethodId)    : entryFrame m #[(.int (2 : Int32))] 1 = mkF m 0 #[.val (.int (2 : Int32))] [] := by first | (simp [entryFrame, mkF, argsToLocals, Value.category]; done) | rfl
set_option maxRecDepth 65536 in
set_option maxHeartbeats 40000000 in
theorem rm9 (l : Launch) (Z : State) (a0 : Array Value) (hw : ∀ d ∈ tables_1, d.before a0 Z = true) (ws : List Jvm.Cond) (w0 w1 w2 : Addr) (h0 : Heap) (n0 : Nat) (hWd : Wd Z w0 w1 w2) (O0 : Old Z n0 h0) :
    MetFree l (⟨"com/example/seneschal/seneschal/model/EvaluationsSemanticStopsAfterPinLaw", "pick", "(I)Lcom/example/seneschal/seneschal/model/EvaluationsSemantic;"⟩ : MethodName) (head1 (Jvm.Cond.code (⟨"com/example/seneschal/seneschal/model/EvaluationsSemanticStopsAfterPinLaw", "pick", "(I)Lcom/example/seneschal/seneschal/model/EvaluationsSemantic;"⟩ : MethodName) method_2_code 1 (some (.object "com/example/seneschal/seneschal/model/EvaluationsSemantic")) :: ws) ({ frames := 0, cells := 0, slots := 0, locals := 0 } : Room)) (fun a U => a = #[(.int (2 : Int32))] ∧ Z.Warmed39 U.vm ∧ U.heap = h0) (fun _ _ _ _ _ => True) (fun _ U o U' => ∃ v L, o = .returned v ∧ Qp (some (.ref w1)) h0 n0 v U'.heap L ∧ FrameEnd U o U' L ({ frames := 0, cells := 0, slots := 0, locals := 0 } : Room).cells ({ frames := 0, cells := 0, slots := 0, locals := 0 } : Room).slots) := by
  refine MetFree.of_bodySF (plainFor_of_name pn0) hisR ?_
  intro p e s m args below meth c s₁ Bd hml0 hP hK
  obtain ⟨rfl, hZ, hh⟩ := hP
  have hx := Bd.exec
  have hby := Bd.bytes
  have hml : c.maxLocals = 1 := hml0
  have hown : s.vm.findClass "com/example/seneschal/seneschal/model/EvaluationsSemanticStopsAfterPinLaw" = some m.cls := findClass_of_methodNamed Bd.named
  have hnm := (name_of_methodNamed Bd.named Bd.method).1
  have X0 : Stand p l e ({ frames := 0, cells := 0, slots := 0, locals := 0 } : Room) s m #[(.int (2 : Int32))] below meth c s₁ [] 0 0 := Stand.of_body Bd
  have e0 : s₁.heap = h0 := by rw [← hh, Bd.state]; rfl
  have N0 := Fr.nil n0
  obtain ⟨wS0, wE0, wS1, wE1, wS2, wE2, wF0_ordinal, wF1_ordinal, wF2_ordinal, -⟩ := id hWd
  have pre0 : ∀ t, Steps p.tables e below (s₁.setTop (mkF m 0 #[.val (.int (2 : Int32))] [])) t → Steps p.tables e below (s₁.setTop (entryFrame m #[(.int (2 : Int32))] 1)) t := fun t k => castTop (ef8 m ) k
  obtain ⟨T25, X25, e25, st25⟩ := getS2 X0 hx hZ hown (host := "") (Or.inl (hw _ (List.mem_of_getElem? (i := 22) rfl))) Via.refl e0 (wS1.ext O0.2) (g := (mkF m 17 #[.val (.int (2 : Int32))] [])) rfl (hb hby d_method_2_code_17)
  obtain ⟨fs, hr, hrun, hended, hWr, hsame⟩ := X25.leave (v := some (.ref w1)) (fun h => by rw [Bd.returns] at h; cases h)
  refine ⟨_, _, pre0 _ ?_, hrun, hended, _, _, rfl, ?_, ⟨_, rfl⟩, hWr, hsame.mono (Nat.le_of_ble_eq_true rfl) (Nat.le_of_ble_eq_true rfl)⟩
  · show Steps p.tables e below (s₁.setTop (mkF m 0 #[.val (.int (2 : Int32))] [])) _
    refine XS.iloadN X0.here hx rfl (hb hby d_method_2_code_0) rfl ?_
    show Steps p.tables e below (s₁.setTop (mkF m 1 #[.val (.int (2 : Int32))] [(.int (2 : Int32))])) _
    refine XS.ifYes X0.here hx rfl (pc0 := 1) (pc' := 8) rfl (hb hby d_method_2_code_1) rfl (by decide) (by decide) (by decide) ?_
    show Steps p.tables e below (s₁.setTop (mkF m 8 #[.val (.int (2 : Int32))] [])) _
    refine XS.iloadN X0.here hx rfl (hb hby d_method_2_code_8) rfl ?_
    show Steps p.tables e below (s₁.setTop (mkF m 9 #[.val (.int (2 : Int32))] [(.int (2 : Int32))])) _
    refine XS.iconst X0.here hx rfl (hb hby d_method_2_code_9) ?_
    show Steps p.tables e below (s₁.setTop (mkF m 10 #[.val (.int (2 : Int32))] [(.int (1 : Int32)), (.int (2 : Int32))])) _
    refine XS.icmpYes X0.here hx rfl (pc0 := 10) (pc' := 17) rfl (hb hby d_method_2_code_10) rfl (by decide) (by decide) (by decide) ?_
    show Steps p.tables e below (s₁.setTop (mkF m 17 #[.val (.int (2 : Int32))] [])) _
    refine st25 _ ?_
    show Steps p.tables e below (T25.setTop (mkF m 20 #[.val (.int (2 : Int32))] [(.ref w1)])) _
    exact retOut X25 hx (t := (.object "com/example/seneschal/seneschal/model/EvaluationsSemantic")) (i := .areturn) Bd.returns rfl (Or.inr (Or.inr (Or.inr (Or.inr ⟨rfl, rfl, rfl⟩)))) (hb hby d_method_2_code_20) hr
  · show Qp (some (.ref w1)) h0 n0 _ T25.heap _
    rw [e25]
    exact ⟨rfl, N0, rfl⟩
theorem ef9 (m : MethodId)   (w1 : Addr) : entryFrame m #[(.ref w1)] 1 = mkF m 0 #[.val (.ref w1)] [] := by first | (simp [entryFrame, mkF, argsToLocals, Value.category]; done) | rfl
set_option maxRecDepth 65536 in
set_option maxHeartbeats 40000000 in
theorem rm11 (l : Launch) (Z : State) (a0 : Array Value) (hw : ∀ d ∈ tables_1, d.before a0 Z = true) (ws : List Jvm.Cond) (w0 w1 w2 : Addr) (h0 : Heap) (n0 : Nat) (hWd : Wd Z w0 w1 w2) (O0 : Old Z n0 h0) :
    MetFree l (⟨"java/lang/Enum", "ordinal", "()I"⟩ : MethodName) (head1 (Jvm.Cond.code (⟨"java/lang/Enum", "ordinal", "()I"⟩ : MethodName) jdk_37_method_2_code 1 (some .int) :: ws) ({ frames := 0, cells := 0, slots := 0, locals := 0 } : Room)) (fun a U => a = #[(.ref w1)] ∧ Z.Warmed39 U.vm ∧ U.heap = h0) (fun _ _ _ _ _ => True) (fun _ U o U' => ∃ v L, o = .returned v ∧ Qp (some (.int (2 : Int32))) h0 n0 v U'.heap L ∧ FrameEnd U o U' L ({ frames := 0, cells := 0, slots := 0, locals := 0 } : Room).cells ({ frames := 0, cells := 0, slots := 0, locals := 0 } : Room).slots) := by
  refine MetFree.of_bodySF (plainFor_of_name pn1) hisR ?_
  intro p e s m args below meth c s₁ Bd hml0 hP hK
  obtain ⟨rfl, hZ, hh⟩ := hP
  have hx := Bd.exec
  have hby := Bd.bytes
  have hml : c.maxLocals = 1 := hml0
  have hown : s.vm.findClass "java/lang/Enum" = some m.cls := findClass_of_methodNamed Bd.named
  have hnm := (name_of_methodNamed Bd.named Bd.method).1
  have X0 : Stand p l e ({ frames := 0, cells := 0, slots := 0, locals := 0 } : Room) s m #[(.ref w1)] below meth c s₁ [] 0 0 := Stand.of_body Bd
  have e0 : s₁.heap = h0 := by rw [← hh, Bd.state]; rfl
  have N0 := Fr.nil n0
  obtain ⟨wS0, wE0, wS1, wE1, wS2, wE2, wF0_ordinal, wF1_ordinal, wF2_ordinal, -⟩ := id hWd
  have pre0 : ∀ t, Steps p.tables e below (s₁.setTop (mkF m 0 #[.val (.ref w1)] [])) t → Steps p.tables e below (s₁.setTop (entryFrame m #[(.ref w1)] 1)) t := fun t k => castTop (ef9 m w1) k
  obtain ⟨T30, X30, e30, st30⟩ := getF X0 hx hZ hown (host := "") (Or.inl (hw _ (List.mem_of_getElem? (i := 20) rfl))) Via.refl e0 (wF1_ordinal.ext O0.2) (g := (mkF m 1 #[.val (.ref w1)] [(.ref w1)])) rfl rfl (hb hby d_jdk_37_method_2_code_1)
  obtain ⟨fs, hr, hrun, hended, hWr, hsame⟩ := X30.leave (v := some (.int (2 : Int32))) (fun h => by rw [Bd.returns] at h; cases h)
  refine ⟨_, _, pre0 _ ?_, hrun, hended, _, _, rfl, ?_, ⟨_, rfl⟩, hWr, hsame.mono (Nat.le_of_ble_eq_true rfl) (Nat.le_of_ble_eq_true rfl)⟩
  · show Steps p.tables e below (s₁.setTop (mkF m 0 #[.val (.ref w1)] [])) _
    refine XS.aloadN X0.here hx rfl (hb hby d_jdk_37_method_2_code_0) rfl rfl ?_
    show Steps p.tables e below (s₁.setTop (mkF m 1 #[.val (.ref w1)] [(.ref w1)])) _
    refine st30 _ ?_
    show Steps p.tables e below (T30.setTop (mkF m 4 #[.val (.ref w1)] [(.int (2 : Int32))])) _
    exact retOut X30 hx (t := .int) (i := .ireturn) Bd.returns rfl (Or.inl ⟨rfl, Or.inl rfl, _, rfl⟩) (hb hby d_jdk_37_method_2_code_4) hr
  · show Qp (some (.int (2 : Int32))) h0 n0 _ T30.heap _
    rw [e30]
    exact ⟨rfl, N0, rfl⟩
theorem d_prog_36_method_5_code_58 : decode prog_36_method_5_code 58 = .ok (.iload_n 1, 1) := by decide +kernel
theorem ef10 (m : MethodId)   (w1 : Addr) : entryFrame m #[(.ref w1), (.int (0 : Int32))] 2 = mkF m 0 #[.val (.ref w1), .val (.int (0 : Int32))] [] := by first | (simp [entryFrame, mkF, argsToLocals, Value.category]; done) | rfl
set_option maxRecDepth 65536 in
set_option maxHeartbeats 40000000 in
theorem rm10 (l : Launch) (Z : State) (a0 : Array Value) (hw : ∀ d ∈ tables_1, d.before a0 Z = true) (ws : List Jvm.Cond) (w0 w1 w2 : Addr) (h0 : Heap) (n0 : Nat) (hWd : Wd Z w0 w1 w2) (O0 : Old Z n0 h0) :
    MetFree l (⟨"com/example/seneschal/seneschal/model/EvaluationsSemantic", "stopsAfter", "(Z)Z"⟩ : MethodName) (head1 (Jvm.Cond.code (⟨"com/example/seneschal/seneschal/model/EvaluationsSemantic", "stopsAfter", "(Z)Z"⟩ : MethodName) prog_36_method_5_code 2 (some .boolean) :: ws) ({ frames := 1, cells := 0, slots := 0, locals := 12 } : Room)) (fun a U => a = #[(.ref w1), (.int (0 : Int32))] ∧ Z.Warmed39 U.vm ∧ U.heap = h0) (fun _ _ _ _ _ => True) (fun _ U o U' => ∃ v L, o = .returned v ∧ Qp (some (.int (0 : Int32))) h0 n0 v U'.heap L ∧ FrameEnd U o U' L ({ frames := 1, cells := 0, slots := 0, locals := 12 } : Room).cells ({ frames := 1, cells := 0, slots := 0, locals := 12 } : Room).slots) := by
  refine MetFree.of_bodySF (plainFor_of_name pn2) hisR ?_
  intro p e s m args below meth c s₁ Bd hml0 hP hK
  obtain ⟨rfl, hZ, hh⟩ := hP
  have hx := Bd.exec
  have hby := Bd.bytes
  have hml : c.maxLocals = 2 := hml0
  have hown : s.vm.findClass "com/example/seneschal/seneschal/model/EvaluationsSemantic" = some m.cls := findClass_of_methodNamed Bd.named
  have hnm := (name_of_methodNamed Bd.named Bd.method).1
  have X0 : Stand p l e ({ frames := 1, cells := 0, slots := 0, locals := 12 } : Room) s m #[(.ref w1), (.int (0 : Int32))] below meth c s₁ [] 0 0 := Stand.of_body Bd
  have e0 : s₁.heap = h0 := by rw [← hh, Bd.state]; rfl
  have N0 := Fr.nil n0
  obtain ⟨wS0, wE0, wS1, wE1, wS2, wE2, wF0_ordinal, wF1_ordinal, wF2_ordinal, -⟩ := id hWd
  have pre0 : ∀ t, Steps p.tables e below (s₁.setTop (mkF m 0 #[.val (.ref w1), .val (.int (0 : Int32))] [])) t → Steps p.tables e below (s₁.setTop (entryFrame m #[(.ref w1), (.int (0 : Int32))] 2)) t := fun t k => castTop (ef10 m w1) k
  obtain ⟨cq31, kq31, q31a, q31b, q31c⟩ := isOf hZ e0 (wE1.ext O0.2)
  obtain ⟨_, _, ⟨T31, L31, k31, n31⟩, -, X31, ⟨Lc31, hQ31, l31, y31, z31⟩, st31⟩ := X0.virtualBackUp hx (owner := "java/lang/Enum") (x := (⟨"com/example/seneschal/seneschal/model/EvaluationsSemantic", "ordinal", "()I"⟩ : MethodName)) (y := (⟨"java/lang/Enum", "ordinal", "()I"⟩ : MethodName)) hown (mvT hZ (hw _ (List.mem_of_getElem? (i := 13) rfl))) (mvT hZ (hw _ (List.mem_of_getElem? (i := 14) rfl))) (mvT hZ (hw _ (List.mem_of_getElem? (i := 15) rfl))) (by decide) (mvT hZ (hw _ (List.mem_of_getElem? (i := 17) rfl))) (mvT hZ (hw _ (List.mem_of_getElem? (i := 16) rfl))) (backOf (W := 0) (rm11 l Z a0 hw [] w0 w1 w2 h0 n0 hWd O0) hZ (hw _ (List.mem_of_getElem? (i := 19) rfl)) (hw _ (List.mem_of_getElem? (i := 18) rfl)) (by decide) (by decide)) q31a q31c (g := (mkF m 1 #[.val (.ref w1), .val (.int (0 : Int32))] [(.ref w1)])) rfl (by rw [hml]; rfl) (Steps.refl _) (argsL := []) (rest := []) (lenOf pd1 rfl) rfl (by show 2 * 0 + _ ≤ _; exact Nat.le_of_eq rfl) (hb hby d_prog_36_method_5_code_1) (fun _ _ => ⟨rfl, e0, (by decide : 0 + 0 ≤ _), (by decide : 0 + 0 ≤ _)⟩)
  dsimp only [Pt.U, Pt.locs, Pt.cells, Pt.slots] at X31 l31 y31 z31 st31 hQ31
  subst l31 y31 z31
  obtain ⟨rfl, N31q, e31⟩ := hQ31
  have N31 := Fr.app N0 N31q
  obtain ⟨fs, hr, hrun, hended, hWr, hsame⟩ := X31.leave (v := some (.int (0 : Int32))) (fun h => by rw [Bd.returns] at h; cases h)
  refine ⟨_, _, pre0 _ ?_, hrun, hended, _, _, rfl, ?_, ⟨_, rfl⟩, hWr, hsame.mono (Nat.le_of_ble_eq_true rfl) (Nat.le_of_ble_eq_true rfl)⟩
  · show Steps p.tables e below (s₁.setTop (mkF m 0 #[.val (.ref w1), .val (.int (0 : Int32))] [])) _
    refine XS.aloadN X0.here hx rfl (hb hby d_prog_36_method_5_code_0) rfl rfl ?_
    show Steps p.tables e below (s₁.setTop (mkF m 1 #[.val (.ref w1), .val (.int (0 : Int32))] [(.ref w1)])) _
    refine st31.trans ?_
    show Steps p.tables e below (T31.setTop (mkF m 4 #[.val (.ref w1), .val (.int (0 : Int32))] [(.int (2 : Int32))])) _
    refine XS.tswIn X31.here hx rfl (pc0 := 4) (pc' := 58) (o := 54) rfl (hb hby d_prog_36_method_5_code_4) rfl (by decide) (by first | rfl | decide) (by decide) (by decide) ?_
    show Steps p.tables e below (T31.setTop (mkF m 58 #[.val (.ref w1), .val (.int (0 : Int32))] [])) _
    refine XS.iloadN X31.here hx rfl (hb hby d_prog_36_method_5_code_58) rfl ?_
    show Steps p.tables e below (T31.setTop (mkF m 59 #[.val (.ref w1), .val (.int (0 : Int32))] [(.int (0 : Int32))])) _
    exact retN X31 hx (t := .boolean) Bd.returns (by simp) (hb hby d_prog_36_method_5_code_59) hr
  · show Qp (some (.int (0 : Int32))) h0 n0 _ T31.heap _
    rw [e31]
    exact ⟨rfl, N31, rfl⟩
theorem ef11 (m : MethodId)   (w1 : Addr) : entryFrame m #[(.ref w1), (.int (1 : Int32))] 2 = mkF m 0 #[.val (.ref w1), .val (.int (1 : Int32))] [] := by first | (simp [entryFrame, mkF, argsToLocals, Value.category]; done) | rfl
set_option maxRecDepth 65536 in
set_option maxHeartbeats 40000000 in
theorem rm12 (l : Launch) (Z : State) (a0 : Array Value) (hw : ∀ d ∈ tables_1, d.before a0 Z = true) (ws : List Jvm.Cond) (w0 w1 w2 : Addr) (h0 : Heap) (n0 : Nat) (hWd : Wd Z w0 w1 w2) (O0 : Old Z n0 h0) :
    MetFree l (⟨"com/example/seneschal/seneschal/model/EvaluationsSemantic", "stopsAfter", "(Z)Z"⟩ : MethodName) (head1 (Jvm.Cond.code (⟨"com/example/seneschal/seneschal/model/EvaluationsSemantic", "stopsAfter", "(Z)Z"⟩ : MethodName) prog_36_method_5_code 2 (some .boolean) :: ws) ({ frames := 1, cells := 0, slots := 0, locals := 12 } : Room)) (fun a U => a = #[(.ref w1), (.int (1 : Int32))] ∧ Z.Warmed39 U.vm ∧ U.heap = h0) (fun _ _ _ _ _ => True) (fun _ U o U' => ∃ v L, o = .returned v ∧ Qp (some (.int (1 : Int32))) h0 n0 v U'.heap L ∧ FrameEnd U o U' L ({ frames := 1, cells := 0, slots := 0, locals := 12 } : Room).cells ({ frames := 1, cells := 0, slots := 0, locals := 12 } : Room).slots) := by
  refine MetFree.of_bodySF (plainFor_of_name pn2) hisR ?_
  intro p e s m args below meth c s₁ Bd hml0 hP hK
  obtain ⟨rfl, hZ, hh⟩ := hP
  have hx := Bd.exec
  have hby := Bd.bytes
  have hml : c.maxLocals = 2 := hml0
  have hown : s.vm.findClass "com/example/seneschal/seneschal/model/EvaluationsSemantic" = some m.cls := findClass_of_methodNamed Bd.named
  have hnm := (name_of_methodNamed Bd.named Bd.method).1
  have X0 : Stand p l e ({ frames := 1, cells := 0, slots := 0, locals := 12 } : Room) s m #[(.ref w1), (.int (1 : Int32))] below meth c s₁ [] 0 0 := Stand.of_body Bd
  have e0 : s₁.heap = h0 := by rw [← hh, Bd.state]; rfl
  have N0 := Fr.nil n0
  obtain ⟨wS0, wE0, wS1, wE1, wS2, wE2, wF0_ordinal, wF1_ordinal, wF2_ordinal, -⟩ := id hWd
  have pre0 : ∀ t, Steps p.tables e below (s₁.setTop (mkF m 0 #[.val (.ref w1), .val (.int (1 : Int32))] [])) t → Steps p.tables e below (s₁.setTop (entryFrame m #[(.ref w1), (.int (1 : Int32))] 2)) t := fun t k => castTop (ef11 m w1) k
  obtain ⟨cq33, kq33, q33a, q33b, q33c⟩ := isOf hZ e0 (wE1.ext O0.2)
  obtain ⟨_, _, ⟨T33, L33, k33, n33⟩, -, X33, ⟨Lc33, hQ33, l33, y33, z33⟩, st33⟩ := X0.virtualBackUp hx (owner := "java/lang/Enum") (x := (⟨"com/example/seneschal/seneschal/model/EvaluationsSemantic", "ordinal", "()I"⟩ : MethodName)) (y := (⟨"java/lang/Enum", "ordinal", "()I"⟩ : MethodName)) hown (mvT hZ (hw _ (List.mem_of_getElem? (i := 13) rfl))) (mvT hZ (hw _ (List.mem_of_getElem? (i := 14) rfl))) (mvT hZ (hw _ (List.mem_of_getElem? (i := 15) rfl))) (by decide) (mvT hZ (hw _ (List.mem_of_getElem? (i := 17) rfl))) (mvT hZ (hw _ (List.mem_of_getElem? (i := 16) rfl))) (backOf (W := 0) (rm11 l Z a0 hw [] w0 w1 w2 h0 n0 hWd O0) hZ (hw _ (List.mem_of_getElem? (i := 19) rfl)) (hw _ (List.mem_of_getElem? (i := 18) rfl)) (by decide) (by decide)) q33a q33c (g := (mkF m 1 #[.val (.ref w1), .val (.int (1 : Int32))] [(.ref w1)])) rfl (by rw [hml]; rfl) (Steps.refl _) (argsL := []) (rest := []) (lenOf pd1 rfl) rfl (by show 2 * 0 + _ ≤ _; exact Nat.le_of_eq rfl) (hb hby d_prog_36_method_5_code_1) (fun _ _ => ⟨rfl, e0, (by decide : 0 + 0 ≤ _), (by decide : 0 + 0 ≤ _)⟩)
  dsimp only [Pt.U, Pt.locs, Pt.cells, Pt.slots] at X33 l33 y33 z33 st33 hQ33
  subst l33 y33 z33
  obtain ⟨rfl, N33q, e33⟩ := hQ33
  have N33 := Fr.app N0 N33q
  obtain ⟨fs, hr, hrun, hended, hWr, hsame⟩ := X33.leave (v := some (.int (1 : Int32))) (fun h => by rw [Bd.returns] at h; cases h)
  refine ⟨_, _, pre0 _ ?_, hrun, hended, _, _, rfl, ?_, ⟨_, rfl⟩, hWr, hsame.mono (Nat.le_of_ble_eq_true rfl) (Nat.le_of_ble_eq_true rfl)⟩
  · show Steps p.tables e below (s₁.setTop (mkF m 0 #[.val (.ref w1), .val (.int (1 : Int32))] [])) _
    refine XS.aloadN X0.here hx rfl (hb hby d_prog_36_method_5_code_0) rfl rfl ?_
    show Steps p.tables e below (s₁.setTop (mkF m 1 #[.val (.ref w1), .val (.int (1 : Int32))] [(.ref w1)])) _
    refine st33.trans ?_
    show Steps p.tables e below (T33.setTop (mkF m 4 #[.val (.ref w1), .val (.int (1 : Int32))] [(.int (2 : Int32))])) _
    refine XS.tswIn X33.here hx rfl (pc0 := 4) (pc' := 58) (o := 54) rfl (hb hby d_prog_36_method_5_code_4) rfl (by decide) (by first | rfl | decide) (by decide) (by decide) ?_
    show Steps p.tables e below (T33.setTop (mkF m 58 #[.val (.ref w1), .val (.int (1 : Int32))] [])) _
    refine XS.iloadN X33.here hx rfl (hb hby d_prog_36_method_5_code_58) rfl ?_
    show Steps p.tables e below (T33.setTop (mkF m 59 #[.val (.ref w1), .val (.int (1 : Int32))] [(.int (1 : Int32))])) _
    exact retN X33 hx (t := .boolean) Bd.returns (by simp) (hb hby d_prog_36_method_5_code_59) hr
  · show Qp (some (.int (1 : Int32))) h0 n0 _ T33.heap _
    rw [e33]
    exact ⟨rfl, N33, rfl⟩
theorem ef12 (m : MethodId) (i0 : Int32) (i1 : Int32)   : entryFrame m #[(.int i0), (.int i1)] maxLocals = mkF m 0 #[.val (.int i0), .val (.int i1), .unset, .unset, .unset, .unset, .unset] [] := by first | (simp [entryFrame, mkF, argsToLocals, Value.category, maxLocals]; done) | rfl
set_option maxRecDepth 65536 in
set_option maxHeartbeats 40000000 in
theorem rm0 (l : Launch) (Z : State) (a0 : Array Value) (hw : ∀ d ∈ tables_1, d.before a0 Z = true) (ws : List Jvm.Cond) (w0 w1 w2 : Addr) (i0 i1 : Int32) (h0 : Heap) (n0 : Nat) (hWd : Wd Z w0 w1 w2) (O0 : Old Z n0 h0) :
    MetFree l x (head1 (Jvm.Cond.code x code maxLocals ret :: ws) room_1) (fun a U => a = #[(.int i0), (.int i1)] ∧ Z.Warmed39 U.vm ∧ U.heap = h0) (fun _ _ _ _ _ => True) (fun _ U o U' => ∃ v L, o = .returned v ∧ Ql n0 v U'.heap L ∧ FrameEnd U o U' L room_1.cells room_1.slots) := by
  refine MetFree.of_bodySF (plainFor_of_name pn0) hisR ?_
  intro p e s m args below meth c s₁ Bd hml0 hP hK
  obtain ⟨rfl, hZ, hh⟩ := hP
  have hx := Bd.exec
  have hby := Bd.bytes
  have hml : c.maxLocals = 7 := hml0
  have hown : s.vm.findClass "com/example/seneschal/seneschal/model/EvaluationsSemanticStopsAfterPinLaw" = some m.cls := findClass_of_methodNamed Bd.named
  have hnm := (name_of_methodNamed Bd.named Bd.method).1
  have X0 : Stand p l e room_1 s m #[(.int i0), (.int i1)] below meth c s₁ [] 0 0 := Stand.of_body Bd
  have e0 : s₁.heap = h0 := by rw [← hh, Bd.state]; rfl
  have N0 := Fr.nil n0
  obtain ⟨wS0, wE0, wS1, wE1, wS2, wE2, wF0_ordinal, wF1_ordinal, wF2_ordinal, -⟩ := id hWd
  have pre0 : ∀ t, Steps p.tables e below (s₁.setTop (mkF m 0 #[.val (.int i0), .val (.int i1), .unset, .unset, .unset, .unset, .unset] [])) t → Steps p.tables e below (s₁.setTop (entryFrame m #[(.int i0), (.int i1)] maxLocals)) t := fun t k => castTop (ef12 m i0 i1) k
  have pre1 : ∀ t, Steps p.tables e below (s₁.setTop (mkF m 5 #[.val (.int i0), .val (.int i1), .unset, .unset, .unset, .unset, .unset] [(.int (3 : Int32)), (.int (i0 &&& (2147483647 : Int32)))])) t → Steps p.tables e below (s₁.setTop (entryFrame m #[(.int i0), (.int i1)] maxLocals)) t := by
    intro t k
    refine pre0 _ ?_
    show Steps p.tables e below (s₁.setTop (mkF m 0 #[.val (.int i0), .val (.int i1), .unset, .unset, .unset, .unset, .unset] [])) _
    refine XS.iloadN X0.here hx rfl (hb hby at_0) rfl ?_
    show Steps p.tables e below (s₁.setTop (mkF m 1 #[.val (.int i0), .val (.int i1), .unset, .unset, .unset, .unset, .unset] [(.int i0)])) _
    refine X0.ldcInt hx hown (mvT hZ (hw _ (List.mem_of_getElem? (i := 0) rfl))) (g := (mkF m 1 #[.val (.int i0), .val (.int i1), .unset, .unset, .unset, .unset, .unset] [(.int i0)])) rfl (hb hby at_1) _ ?_
    show Steps p.tables e below (s₁.setTop (mkF m 3 #[.val (.int i0), .val (.int i1), .unset, .unset, .unset, .unset, .unset] [(.int (2147483647 : Int32)), (.int i0)])) _
    refine XS.iand X0.here hx rfl (hb hby at_3) rfl ?_
    show Steps p.tables e below (s₁.setTop (mkF m 4 #[.val (.int i0), .val (.int i1), .unset, .unset, .unset, .unset, .unset] [(.int (i0 &&& (2147483647 : Int32)))])) _
    refine XS.iconst X0.here hx rfl (hb hby at_4) ?_
    show Steps p.tables e below (s₁.setTop (mkF m 5 #[.val (.int i0), .val (.int i1), .unset, .unset, .unset, .unset, .unset] [(.int (3 : Int32)), (.int (i0 &&& (2147483647 : Int32)))])) _
    exact k
  rcases own_rem_3 i0 with hk2 | hk3 | hk4
  · obtain ⟨_, _, ⟨T6, L6, k6, n6⟩, -, X6, ⟨Lc6, hQ6, l6, y6, z6⟩, st6⟩ := Jvm.LawKit.callS X0 hx (y := (⟨"com/example/seneschal/seneschal/model/EvaluationsSemanticStopsAfterPinLaw", "pick", "(I)Lcom/example/seneschal/seneschal/model/EvaluationsSemantic;"⟩ : MethodName)) hown (mvT hZ (hw _ (List.mem_of_getElem? (i := 1) rfl))) (mvT hZ (hw _ (List.mem_of_getElem? (i := 2) rfl))) (mvT hZ (hw _ (List.mem_of_getElem? (i := 3) rfl))) (mvT hZ (hw _ (List.mem_of_getElem? (i := 4) rfl))) (by decide) (backOf (W := 0) (rm1 l Z a0 hw [] w0 w1 w2 h0 n0 hWd O0) hZ (hw _ (List.mem_of_getElem? (i := 4) rfl)) (hw _ (List.mem_of_getElem? (i := 3) rfl)) (by decide) (by decide)) (g := (mkF m 8 #[.val (.int i0), .val (.int i1), .val (.int (0 : Int32)), .unset, .unset, .unset, .unset] [(.int (0 : Int32))])) rfl (by rw [hml]; rfl) (argsL := [(.int (0 : Int32))]) (rest := []) (lenOf pd0 rfl) rfl (by show 2 * 0 + _ ≤ _; exact Nat.le_of_eq rfl) (hb hby at_8) (fun _ _ => ⟨rfl, e0, (by decide : 0 + 0 ≤ _), (by decide : 0 + 0 ≤ _)⟩)
    dsimp only [Pt.U, Pt.locs, Pt.cells, Pt.slots] at X6 l6 y6 z6 st6 hQ6
    subst l6 y6 z6
    obtain ⟨rfl, N6q, e6⟩ := hQ6
    have N6 := Fr.app N0 N6q
    have pre7 : ∀ t, Steps p.tables e below (T6.setTop (mkF m 14 #[.val (.int i0), .val (.int i1), .val (.int (0 : Int32)), .val (.ref w0), .unset, .unset, .unset] [(.int (1 : Int32)), (.int i1)])) t → Steps p.tables e below (s₁.setTop (entryFrame m #[(.int i0), (.int i1)] maxLocals)) t := by
      intro t k
      refine pre1 _ ?_
      show Steps p.tables e below (s₁.setTop (mkF m 5 #[.val (.int i0), .val (.int i1), .unset, .unset, .unset, .unset, .unset] [(.int (3 : Int32)), (.int (i0 &&& (2147483647 : Int32)))])) _
      refine iremM X0 hx rfl (hb hby at_5) rfl (by decide) ?_
      show Steps p.tables e below (s₁.setTop (mkF m 6 #[.val (.int i0), .val (.int i1), .unset, .unset, .unset, .unset, .unset] [(.int ((i0 &&& (2147483647 : Int32)) % (3 : Int32)))])) _
      rw [hk2]
      show Steps p.tables e below (s₁.setTop (mkF m 6 #[.val (.int i0), .val (.int i1), .unset, .unset, .unset, .unset, .unset] [(.int (0 : Int32))])) _
      refine XS.istoreN X0.here hx rfl (hb hby at_6) rfl (l' := #[.val (.int i0), .val (.int i1), .val (.int (0 : Int32)), .unset, .unset, .unset, .unset]) rfl ?_
      show Steps p.tables e below (s₁.setTop (mkF m 7 #[.val (.int i0), .val (.int i1), .val (.int (0 : Int32)), .unset, .unset, .unset, .unset] [])) _
      refine XS.iloadN X0.here hx rfl (hb hby at_7) rfl ?_
      show Steps p.tables e below (s₁.setTop (mkF m 8 #[.val (.int i0), .val (.int i1), .val (.int (0 : Int32)), .unset, .unset, .unset, .unset] [(.int (0 : Int32))])) _
      refine st6 _ ?_
      show Steps p.tables e below (T6.setTop (mkF m 11 #[.val (.int i0), .val (.int i1), .val (.int (0 : Int32)), .unset, .unset, .unset, .unset] [(.ref w0)])) _
      refine XS.astoreN X6.here hx rfl (hb hby at_11) rfl rfl (l' := #[.val (.int i0), .val (.int i1), .val (.int (0 : Int32)), .val (.ref w0), .unset, .unset, .unset]) rfl ?_
      show Steps p.tables e below (T6.setTop (mkF m 12 #[.val (.int i0), .val (.int i1), .val (.int (0 : Int32)), .val (.ref w0), .unset, .unset, .unset] [])) _
      refine XS.iloadN X6.here hx rfl (hb hby at_12) rfl ?_
      show Steps p.tables e below (T6.setTop (mkF m 13 #[.val (.int i0), .val (.int i1), .val (.int (0 : Int32)), .val (.ref w0), .unset, .unset, .unset] [(.int i1)])) _
      refine XS.iconst X6.here hx rfl (hb hby at_13) ?_
      show Steps p.tables e below (T6.setTop (mkF m 14 #[.val (.int i0), .val (.int i1), .val (.int (0 : Int32)), .val (.ref w0), .unset, .unset, .unset] [(.int (1 : Int32)), (.int i1)])) _
      exact k
    rcases own_and_1 i1 with hk8 | hk9
    · obtain ⟨cq12, kq12, q12a, q12b, q12c⟩ := isOf hZ e6 (wE0.ext O0.2)
      obtain ⟨_, _, ⟨T12, L12, k12, n12⟩, -, X12, ⟨Lc12, hQ12, l12, y12, z12⟩, st12⟩ := X6.virtualBack hx (y := (⟨"com/example/seneschal/seneschal/model/EvaluationsSemantic", "stopsAfter", "(Z)Z"⟩ : MethodName)) (z := (⟨"com/example/seneschal/seneschal/model/EvaluationsSemantic", "stopsAfter", "(Z)Z"⟩ : MethodName)) hown (mvT hZ (hw _ (List.mem_of_getElem? (i := 8) rfl))) (mvT hZ (hw _ (List.mem_of_getElem? (i := 9) rfl))) (notFace_of_selects (args := #[]) (mvT hZ (hw _ (List.mem_of_getElem? (i := 11) rfl)))) (mvT hZ (hw _ (List.mem_of_getElem? (i := 11) rfl))) (mvT hZ (hw _ (List.mem_of_getElem? (i := 10) rfl))) (by decide) (backOf (W := 0) (rm2 l Z a0 hw [] w0 w1 w2 h0 n0 hWd O0) hZ (hw _ (List.mem_of_getElem? (i := 12) rfl)) (hw _ (List.mem_of_getElem? (i := 6) rfl)) (by decide) (by decide)) q12a q12c (g := (mkF m 28 #[.val (.int i0), .val (.int i1), .val (.int (0 : Int32)), .val (.ref w0), .val (.int (0 : Int32)), .unset, .unset] [(.int (0 : Int32)), (.ref w0)])) rfl (by rw [hml]; rfl) (Steps.refl _) (argsL := [(.int (0 : Int32))]) (rest := []) (lenOf pd2 rfl) rfl (by show 2 * 0 + _ ≤ _; exact Nat.le_of_eq rfl) (hb hby at_28) (fun _ _ => ⟨rfl, e6, (by decide : 0 + 0 ≤ _), (by decide : 0 + 0 ≤ _)⟩)
      dsimp only [Pt.U, Pt.locs, Pt.cells, Pt.slots] at X12 l12 y12 z12 st12 hQ12
      subst l12 y12 z12
      obtain ⟨rfl, N12q, e12⟩ := hQ12
      have N12 := Fr.app N6 N12q
      obtain ⟨fs, hr, hrun, hended, hWr, hsame⟩ := X12.leave (v := some (.int (1 : Int32))) (fun h => by rw [Bd.returns] at h; cases h)
      refine ⟨_, _, pre7 _ ?_, hrun, hended, _, _, rfl, ?_, ⟨_, rfl⟩, hWr, hsame.mono (Nat.le_of_ble_eq_true rfl) (Nat.le_of_ble_eq_true rfl)⟩
      · show Steps p.tables e below (T6.setTop (mkF m 14 #[.val (.int i0), .val (.int i1), .val (.int (0 : Int32)), .val (.ref w0), .unset, .unset, .unset] [(.int (1 : Int32)), (.int i1)])) _
        refine XS.iand X6.here hx rfl (hb hby at_14) rfl ?_
        show Steps p.tables e below (T6.setTop (mkF m 15 #[.val (.int i0), .val (.int i1), .val (.int (0 : Int32)), .val (.ref w0), .unset, .unset, .unset] [(.int (i1 &&& (1 : Int32)))])) _
        rw [hk8]
        show Steps p.tables e below (T6.setTop (mkF m 15 #[.val (.int i0), .val (.int i1), .val (.int (0 : Int32)), .val (.ref w0), .unset, .unset, .unset] [(.int (0 : Int32))])) _
        refine XS.ifYes X6.here hx rfl (pc0 := 15) (pc' := 22) rfl (hb hby at_15) rfl (by decide) (by decide) (by decide) ?_
        show Steps p.tables e below (T6.setTop (mkF m 22 #[.val (.int i0), .val (.int i1), .val (.int (0 : Int32)), .val (.ref w0), .unset, .unset, .unset] [])) _
        refine XS.iconst X6.here hx rfl (hb hby at_22) ?_
        show Steps p.tables e below (T6.setTop (mkF m 23 #[.val (.int i0), .val (.int i1), .val (.int (0 : Int32)), .val (.ref w0), .unset, .unset, .unset] [(.int (0 : Int32))])) _
        refine XS.istore X6.here hx rfl (hb hby at_23) rfl (l' := #[.val (.int i0), .val (.int i1), .val (.int (0 : Int32)), .val (.ref w0), .val (.int (0 : Int32)), .unset, .unset]) rfl ?_
        show Steps p.tables e below (T6.setTop (mkF m 25 #[.val (.int i0), .val (.int i1), .val (.int (0 : Int32)), .val (.ref w0), .val (.int (0 : Int32)), .unset, .unset] [])) _
        refine XS.aloadN X6.here hx rfl (hb hby at_25) rfl rfl ?_
        show Steps p.tables e below (T6.setTop (mkF m 26 #[.val (.int i0), .val (.int i1), .val (.int (0 : Int32)), .val (.ref w0), .val (.int (0 : Int32)), .unset, .unset] [(.ref w0)])) _
        refine XS.iload X6.here hx rfl (hb hby at_26) rfl ?_
        show Steps p.tables e below (T6.setTop (mkF m 28 #[.val (.int i0), .val (.int i1), .val (.int (0 : Int32)), .val (.ref w0), .val (.int (0 : Int32)), .unset, .unset] [(.int (0 : Int32)), (.ref w0)])) _
        refine st12.trans ?_
        show Steps p.tables e below (T12.setTop (mkF m 31 #[.val (.int i0), .val (.int i1), .val (.int (0 : Int32)), .val (.ref w0), .val (.int (0 : Int32)), .unset, .unset] [(.int (0 : Int32))])) _
        refine XS.istore X12.here hx rfl (hb hby at_31) rfl (l' := #[.val (.int i0), .val (.int i1), .val (.int (0 : Int32)), .val (.ref w0), .val (.int (0 : Int32)), .val (.int (0 : Int32)), .unset]) rfl ?_
        show Steps p.tables e below (T12.setTop (mkF m 33 #[.val (.int i0), .val (.int i1), .val (.int (0 : Int32)), .val (.ref w0), .val (.int (0 : Int32)), .val (.int (0 : Int32)), .unset] [])) _
        refine XS.iloadN X12.here hx rfl (hb hby at_33) rfl ?_
        show Steps p.tables e below (T12.setTop (mkF m 34 #[.val (.int i0), .val (.int i1), .val (.int (0 : Int32)), .val (.ref w0), .val (.int (0 : Int32)), .val (.int (0 : Int32)), .unset] [(.int (0 : Int32))])) _
        refine XS.ifNo X12.here hx rfl (hb hby at_34) rfl (by decide) ?_
        show Steps p.tables e below (T12.setTop (mkF m 37 #[.val (.int i0), .val (.int i1), .val (.int (0 : Int32)), .val (.ref w0), .val (.int (0 : Int32)), .val (.int (0 : Int32)), .unset] [])) _
        refine XS.iconst X12.here hx rfl (hb hby at_37) ?_
        show Steps p.tables e below (T12.setTop (mkF m 38 #[.val (.int i0), .val (.int i1), .val (.int (0 : Int32)), .val (.ref w0), .val (.int (0 : Int32)), .val (.int (0 : Int32)), .unset] [(.int (0 : Int32))])) _
        refine XS.istore X12.here hx rfl (hb hby at_38) rfl (l' := #[.val (.int i0), .val (.int i1), .val (.int (0 : Int32)), .val (.ref w0), .val (.int (0 : Int32)), .val (.int (0 : Int32)), .val (.int (0 : Int32))]) rfl ?_
        show Steps p.tables e below (T12.setTop (mkF m 40 #[.val (.int i0), .val (.int i1), .val (.int (0 : Int32)), .val (.ref w0), .val (.int (0 : Int32)), .val (.int (0 : Int32)), .val (.int (0 : Int32))] [])) _
        refine XS.goto X12.here hx rfl (pc0 := 40) (pc' := 67) rfl (hb hby at_40) (by decide) (by decide) ?_
        show Steps p.tables e below (T12.setTop (mkF m 67 #[.val (.int i0), .val (.int i1), .val (.int (0 : Int32)), .val (.ref w0), .val (.int (0 : Int32)), .val (.int (0 : Int32)), .val (.int (0 : Int32))] [])) _
        refine XS.iload X12.here hx rfl (hb hby at_67) rfl ?_
        show Steps p.tables e below (T12.setTop (mkF m 69 #[.val (.int i0), .val (.int i1), .val (.int (0 : Int32)), .val (.ref w0), .val (.int (0 : Int32)), .val (.int (0 : Int32)), .val (.int (0 : Int32))] [(.int (0 : Int32))])) _
        refine XS.iload X12.here hx rfl (hb hby at_69) rfl ?_
        show Steps p.tables e below (T12.setTop (mkF m 71 #[.val (.int i0), .val (.int i1), .val (.int (0 : Int32)), .val (.ref w0), .val (.int (0 : Int32)), .val (.int (0 : Int32)), .val (.int (0 : Int32))] [(.int (0 : Int32)), (.int (0 : Int32))])) _
        refine XS.icmpNo X12.here hx rfl (hb hby at_71) rfl (by decide) ?_
        show Steps p.tables e below (T12.setTop (mkF m 74 #[.val (.int i0), .val (.int i1), .val (.int (0 : Int32)), .val (.ref w0), .val (.int (0 : Int32)), .val (.int (0 : Int32)), .val (.int (0 : Int32))] [])) _
        refine XS.iconst X12.here hx rfl (hb hby at_74) ?_
        show Steps p.tables e below (T12.setTop (mkF m 75 #[.val (.int i0), .val (.int i1), .val (.int (0 : Int32)), .val (.ref w0), .val (.int (0 : Int32)), .val (.int (0 : Int32)), .val (.int (0 : Int32))] [(.int (1 : Int32))])) _
        refine XS.goto X12.here hx rfl (pc0 := 75) (pc' := 79) rfl (hb hby at_75) (by decide) (by decide) ?_
        show Steps p.tables e below (T12.setTop (mkF m 79 #[.val (.int i0), .val (.int i1), .val (.int (0 : Int32)), .val (.ref w0), .val (.int (0 : Int32)), .val (.int (0 : Int32)), .val (.int (0 : Int32))] [(.int (1 : Int32))])) _
        exact retN X12 hx (t := .boolean) Bd.returns (by simp) (hb hby at_79) hr
      · show Ql n0 _ T12.heap _
        exact ⟨rfl, N12⟩
    · obtain ⟨cq14, kq14, q14a, q14b, q14c⟩ := isOf hZ e6 (wE0.ext O0.2)
      obtain ⟨_, _, ⟨T14, L14, k14, n14⟩, -, X14, ⟨Lc14, hQ14, l14, y14, z14⟩, st14⟩ := X6.virtualBack hx (y := (⟨"com/example/seneschal/seneschal/model/EvaluationsSemantic", "stopsAfter", "(Z)Z"⟩ : MethodName)) (z := (⟨"com/example/seneschal/seneschal/model/EvaluationsSemantic", "stopsAfter", "(Z)Z"⟩ : MethodName)) hown (mvT hZ (hw _ (List.mem_of_getElem? (i := 8) rfl))) (mvT hZ (hw _ (List.mem_of_getElem? (i := 9) rfl))) (notFace_of_selects (args := #[]) (mvT hZ (hw _ (List.mem_of_getElem? (i := 11) rfl)))) (mvT hZ (hw _ (List.mem_of_getElem? (i := 11) rfl))) (mvT hZ (hw _ (List.mem_of_getElem? (i := 10) rfl))) (by decide) (backOf (W := 0) (rm4 l Z a0 hw [] w0 w1 w2 h0 n0 hWd O0) hZ (hw _ (List.mem_of_getElem? (i := 12) rfl)) (hw _ (List.mem_of_getElem? (i := 6) rfl)) (by decide) (by decide)) q14a q14c (g := (mkF m 28 #[.val (.int i0), .val (.int i1), .val (.int (0 : Int32)), .val (.ref w0), .val (.int (1 : Int32)), .unset, .unset] [(.int (1 : Int32)), (.ref w0)])) rfl (by rw [hml]; rfl) (Steps.refl _) (argsL := [(.int (1 : Int32))]) (rest := []) (lenOf pd2 rfl) rfl (by show 2 * 0 + _ ≤ _; exact Nat.le_of_eq rfl) (hb hby at_28) (fun _ _ => ⟨rfl, e6, (by decide : 0 + 0 ≤ _), (by decide : 0 + 0 ≤ _)⟩)
      dsimp only [Pt.U, Pt.locs, Pt.cells, Pt.slots] at X14 l14 y14 z14 st14 hQ14
      subst l14 y14 z14
      obtain ⟨rfl, N14q, e14⟩ := hQ14
      have N14 := Fr.app N6 N14q
      obtain ⟨fs, hr, hrun, hended, hWr, hsame⟩ := X14.leave (v := some (.int (1 : Int32))) (fun h => by rw [Bd.returns] at h; cases h)
      refine ⟨_, _, pre7 _ ?_, hrun, hended, _, _, rfl, ?_, ⟨_, rfl⟩, hWr, hsame.mono (Nat.le_of_ble_eq_true rfl) (Nat.le_of_ble_eq_true rfl)⟩
      · show Steps p.tables e below (T6.setTop (mkF m 14 #[.val (.int i0), .val (.int i1), .val (.int (0 : Int32)), .val (.ref w0), .unset, .unset, .unset] [(.int (1 : Int32)), (.int i1)])) _
        refine XS.iand X6.here hx rfl (hb hby at_14) rfl ?_
        show Steps p.tables e below (T6.setTop (mkF m 15 #[.val (.int i0), .val (.int i1), .val (.int (0 : Int32)), .val (.ref w0), .unset, .unset, .unset] [(.int (i1 &&& (1 : Int32)))])) _
        rw [hk9]
        show Steps p.tables e below (T6.setTop (mkF m 15 #[.val (.int i0), .val (.int i1), .val (.int (0 : Int32)), .val (.ref w0), .unset, .unset, .unset] [(.int (1 : Int32))])) _
        refine XS.ifNo X6.here hx rfl (hb hby at_15) rfl (by decide) ?_
        show Steps p.tables e below (T6.setTop (mkF m 18 #[.val (.int i0), .val (.int i1), .val (.int (0 : Int32)), .val (.ref w0), .unset, .unset, .unset] [])) _
        refine XS.iconst X6.here hx rfl (hb hby at_18) ?_
        show Steps p.tables e below (T6.setTop (mkF m 19 #[.val (.int i0), .val (.int i1), .val (.int (0 : Int32)), .val (.ref w0), .unset, .unset, .unset] [(.int (1 : Int32))])) _
        refine XS.goto X6.here hx rfl (pc0 := 19) (pc' := 23) rfl (hb hby at_19) (by decide) (by decide) ?_
        show Steps p.tables e below (T6.setTop (mkF m 23 #[.val (.int i0), .val (.int i1), .val (.int (0 : Int32)), .val (.ref w0), .unset, .unset, .unset] [(.int (1 : Int32))])) _
        refine XS.istore X6.here hx rfl (hb hby at_23) rfl (l' := #[.val (.int i0), .val (.int i1), .val (.int (0 : Int32)), .val (.ref w0), .val (.int (1 : Int32)), .unset, .unset]) rfl ?_
        show Steps p.tables e below (T6.setTop (mkF m 25 #[.val (.int i0), .val (.int i1), .val (.int (0 : Int32)), .val (.ref w0), .val (.int (1 : Int32)), .unset, .unset] [])) _
        refine XS.aloadN X6.here hx rfl (hb hby at_25) rfl rfl ?_
        show Steps p.tables e below (T6.setTop (mkF m 26 #[.val (.int i0), .val (.int i1), .val (.int (0 : Int32)), .val (.ref w0), .val (.int (1 : Int32)), .unset, .unset] [(.ref w0)])) _
        refine XS.iload X6.here hx rfl (hb hby at_26) rfl ?_
        show Steps p.tables e below (T6.setTop (mkF m 28 #[.val (.int i0), .val (.int i1), .val (.int (0 : Int32)), .val (.ref w0), .val (.int (1 : Int32)), .unset, .unset] [(.int (1 : Int32)), (.ref w0)])) _
        refine st14.trans ?_
        show Steps p.tables e below (T14.setTop (mkF m 31 #[.val (.int i0), .val (.int i1), .val (.int (0 : Int32)), .val (.ref w0), .val (.int (1 : Int32)), .unset, .unset] [(.int (0 : Int32))])) _
        refine XS.istore X14.here hx rfl (hb hby at_31) rfl (l' := #[.val (.int i0), .val (.int i1), .val (.int (0 : Int32)), .val (.ref w0), .val (.int (1 : Int32)), .val (.int (0 : Int32)), .unset]) rfl ?_
        show Steps p.tables e below (T14.setTop (mkF m 33 #[.val (.int i0), .val (.int i1), .val (.int (0 : Int32)), .val (.ref w0), .val (.int (1 : Int32)), .val (.int (0 : Int32)), .unset] [])) _
        refine XS.iloadN X14.here hx rfl (hb hby at_33) rfl ?_
        show Steps p.tables e below (T14.setTop (mkF m 34 #[.val (.int i0), .val (.int i1), .val (.int (0 : Int32)), .val (.ref w0), .val (.int (1 : Int32)), .val (.int (0 : Int32)), .unset] [(.int (0 : Int32))])) _
        refine XS.ifNo X14.here hx rfl (hb hby at_34) rfl (by decide) ?_
        show Steps p.tables e below (T14.setTop (mkF m 37 #[.val (.int i0), .val (.int i1), .val (.int (0 : Int32)), .val (.ref w0), .val (.int (1 : Int32)), .val (.int (0 : Int32)), .unset] [])) _
        refine XS.iconst X14.here hx rfl (hb hby at_37) ?_
        show Steps p.tables e below (T14.setTop (mkF m 38 #[.val (.int i0), .val (.int i1), .val (.int (0 : Int32)), .val (.ref w0), .val (.int (1 : Int32)), .val (.int (0 : Int32)), .unset] [(.int (0 : Int32))])) _
        refine XS.istore X14.here hx rfl (hb hby at_38) rfl (l' := #[.val (.int i0), .val (.int i1), .val (.int (0 : Int32)), .val (.ref w0), .val (.int (1 : Int32)), .val (.int (0 : Int32)), .val (.int (0 : Int32))]) rfl ?_
        show Steps p.tables e below (T14.setTop (mkF m 40 #[.val (.int i0), .val (.int i1), .val (.int (0 : Int32)), .val (.ref w0), .val (.int (1 : Int32)), .val (.int (0 : Int32)), .val (.int (0 : Int32))] [])) _
        refine XS.goto X14.here hx rfl (pc0 := 40) (pc' := 67) rfl (hb hby at_40) (by decide) (by decide) ?_
        show Steps p.tables e below (T14.setTop (mkF m 67 #[.val (.int i0), .val (.int i1), .val (.int (0 : Int32)), .val (.ref w0), .val (.int (1 : Int32)), .val (.int (0 : Int32)), .val (.int (0 : Int32))] [])) _
        refine XS.iload X14.here hx rfl (hb hby at_67) rfl ?_
        show Steps p.tables e below (T14.setTop (mkF m 69 #[.val (.int i0), .val (.int i1), .val (.int (0 : Int32)), .val (.ref w0), .val (.int (1 : Int32)), .val (.int (0 : Int32)), .val (.int (0 : Int32))] [(.int (0 : Int32))])) _
        refine XS.iload X14.here hx rfl (hb hby at_69) rfl ?_
        show Steps p.tables e below (T14.setTop (mkF m 71 #[.val (.int i0), .val (.int i1), .val (.int (0 : Int32)), .val (.ref w0), .val (.int (1 : Int32)), .val (.int (0 : Int32)), .val (.int (0 : Int32))] [(.int (0 : Int32)), (.int (0 : Int32))])) _
        refine XS.icmpNo X14.here hx rfl (hb hby at_71) rfl (by decide) ?_
        show Steps p.tables e below (T14.setTop (mkF m 74 #[.val (.int i0), .val (.int i1), .val (.int (0 : Int32)), .val (.ref w0), .val (.int (1 : Int32)), .val (.int (0 : Int32)), .val (.int (0 : Int32))] [])) _
        refine XS.iconst X14.here hx rfl (hb hby at_74) ?_
        show Steps p.tables e below (T14.setTop (mkF m 75 #[.val (.int i0), .val (.int i1), .val (.int (0 : Int32)), .val (.ref w0), .val (.int (1 : Int32)), .val (.int (0 : Int32)), .val (.int (0 : Int32))] [(.int (1 : Int32))])) _
        refine XS.goto X14.here hx rfl (pc0 := 75) (pc' := 79) rfl (hb hby at_75) (by decide) (by decide) ?_
        show Steps p.tables e below (T14.setTop (mkF m 79 #[.val (.int i0), .val (.int i1), .val (.int (0 : Int32)), .val (.ref w0), .val (.int (1 : Int32)), .val (.int (0 : Int32)), .val (.int (0 : Int32))] [(.int (1 : Int32))])) _
        exact retN X14 hx (t := .boolean) Bd.returns (by simp) (hb hby at_79) hr
      · show Ql n0 _ T14.heap _
        exact ⟨rfl, N14⟩
  · obtain ⟨_, _, ⟨T16, L16, k16, n16⟩, -, X16, ⟨Lc16, hQ16, l16, y16, z16⟩, st16⟩ := Jvm.LawKit.callS X0 hx (y := (⟨"com/example/seneschal/seneschal/model/EvaluationsSemanticStopsAfterPinLaw", "pick", "(I)Lcom/example/seneschal/seneschal/model/EvaluationsSemantic;"⟩ : MethodName)) hown (mvT hZ (hw _ (List.mem_of_getElem? (i := 1) rfl))) (mvT hZ (hw _ (List.mem_of_getElem? (i := 2) rfl))) (mvT hZ (hw _ (List.mem_of_getElem? (i := 3) rfl))) (mvT hZ (hw _ (List.mem_of_getElem? (i := 4) rfl))) (by decide) (backOf (W := 0) (rm5 l Z a0 hw [] w0 w1 w2 h0 n0 hWd O0) hZ (hw _ (List.mem_of_getElem? (i := 4) rfl)) (hw _ (List.mem_of_getElem? (i := 3) rfl)) (by decide) (by decide)) (g := (mkF m 8 #[.val (.int i0), .val (.int i1), .val (.int (1 : Int32)), .unset, .unset, .unset, .unset] [(.int (1 : Int32))])) rfl (by rw [hml]; rfl) (argsL := [(.int (1 : Int32))]) (rest := []) (lenOf pd0 rfl) rfl (by show 2 * 0 + _ ≤ _; exact Nat.le_of_eq rfl) (hb hby at_8) (fun _ _ => ⟨rfl, e0, (by decide : 0 + 0 ≤ _), (by decide : 0 + 0 ≤ _)⟩)
    dsimp only [Pt.U, Pt.locs, Pt.cells, Pt.slots] at X16 l16 y16 z16 st16 hQ16
    subst l16 y16 z16
    obtain ⟨rfl, N16q, e16⟩ := hQ16
    have N16 := Fr.app N0 N16q
    have pre17 : ∀ t, Steps p.tables e below (T16.setTop (mkF m 14 #[.val (.int i0), .val (.int i1), .val (.int (1 : Int32)), .val (.ref w2), .unset, .unset, .unset] [(.int (1 : Int32)), (.int i1)])) t → Steps p.tables e below (s₁.setTop (entryFrame m #[(.int i0), (.int i1)] maxLocals)) t := by
      intro t k
      refine pre1 _ ?_
      show Steps p.tables e below (s₁.setTop (mkF m 5 #[.val (.int i0), .val (.int i1), .unset, .unset, .unset, .unset, .unset] [(.int (3 : Int32)), (.int (i0 &&& (2147483647 : Int32)))])) _
      refine iremM X0 hx rfl (hb hby at_5) rfl (by decide) ?_
      show Steps p.tables e below (s₁.setTop (mkF m 6 #[.val (.int i0), .val (.int i1), .unset, .unset, .unset, .unset, .unset] [(.int ((i0 &&& (2147483647 : Int32)) % (3 : Int32)))])) _
      rw [hk3]
      show Steps p.tables e below (s₁.setTop (mkF m 6 #[.val (.int i0), .val (.int i1), .unset, .unset, .unset, .unset, .unset] [(.int (1 : Int32))])) _
      refine XS.istoreN X0.here hx rfl (hb hby at_6) rfl (l' := #[.val (.int i0), .val (.int i1), .val (.int (1 : Int32)), .unset, .unset, .unset, .unset]) rfl ?_
      show Steps p.tables e below (s₁.setTop (mkF m 7 #[.val (.int i0), .val (.int i1), .val (.int (1 : Int32)), .unset, .unset, .unset, .unset] [])) _
      refine XS.iloadN X0.here hx rfl (hb hby at_7) rfl ?_
      show Steps p.tables e below (s₁.setTop (mkF m 8 #[.val (.int i0), .val (.int i1), .val (.int (1 : Int32)), .unset, .unset, .unset, .unset] [(.int (1 : Int32))])) _
      refine st16 _ ?_
      show Steps p.tables e below (T16.setTop (mkF m 11 #[.val (.int i0), .val (.int i1), .val (.int (1 : Int32)), .unset, .unset, .unset, .unset] [(.ref w2)])) _
      refine XS.astoreN X16.here hx rfl (hb hby at_11) rfl rfl (l' := #[.val (.int i0), .val (.int i1), .val (.int (1 : Int32)), .val (.ref w2), .unset, .unset, .unset]) rfl ?_
      show Steps p.tables e below (T16.setTop (mkF m 12 #[.val (.int i0), .val (.int i1), .val (.int (1 : Int32)), .val (.ref w2), .unset, .unset, .unset] [])) _
      refine XS.iloadN X16.here hx rfl (hb hby at_12) rfl ?_
      show Steps p.tables e below (T16.setTop (mkF m 13 #[.val (.int i0), .val (.int i1), .val (.int (1 : Int32)), .val (.ref w2), .unset, .unset, .unset] [(.int i1)])) _
      refine XS.iconst X16.here hx rfl (hb hby at_13) ?_
      show Steps p.tables e below (T16.setTop (mkF m 14 #[.val (.int i0), .val (.int i1), .val (.int (1 : Int32)), .val (.ref w2), .unset, .unset, .unset] [(.int (1 : Int32)), (.int i1)])) _
      exact k
    rcases own_and_1 i1 with hk18 | hk19
    · obtain ⟨cq22, kq22, q22a, q22b, q22c⟩ := isOf hZ e16 (wE2.ext O0.2)
      obtain ⟨_, _, ⟨T22, L22, k22, n22⟩, -, X22, ⟨Lc22, hQ22, l22, y22, z22⟩, st22⟩ := X16.virtualBack hx (y := (⟨"com/example/seneschal/seneschal/model/EvaluationsSemantic", "stopsAfter", "(Z)Z"⟩ : MethodName)) (z := (⟨"com/example/seneschal/seneschal/model/EvaluationsSemantic", "stopsAfter", "(Z)Z"⟩ : MethodName)) hown (mvT hZ (hw _ (List.mem_of_getElem? (i := 8) rfl))) (mvT hZ (hw _ (List.mem_of_getElem? (i := 9) rfl))) (notFace_of_selects (args := #[]) (mvT hZ (hw _ (List.mem_of_getElem? (i := 11) rfl)))) (mvT hZ (hw _ (List.mem_of_getElem? (i := 11) rfl))) (mvT hZ (hw _ (List.mem_of_getElem? (i := 10) rfl))) (by decide) (backOf (W := 0) (rm6 l Z a0 hw [] w0 w1 w2 h0 n0 hWd O0) hZ (hw _ (List.mem_of_getElem? (i := 12) rfl)) (hw _ (List.mem_of_getElem? (i := 6) rfl)) (by decide) (by decide)) q22a q22c (g := (mkF m 28 #[.val (.int i0), .val (.int i1), .val (.int (1 : Int32)), .val (.ref w2), .val (.int (0 : Int32)), .unset, .unset] [(.int (0 : Int32)), (.ref w2)])) rfl (by rw [hml]; rfl) (Steps.refl _) (argsL := [(.int (0 : Int32))]) (rest := []) (lenOf pd2 rfl) rfl (by show 2 * 0 + _ ≤ _; exact Nat.le_of_eq rfl) (hb hby at_28) (fun _ _ => ⟨rfl, e16, (by decide : 0 + 0 ≤ _), (by decide : 0 + 0 ≤ _)⟩)
      dsimp only [Pt.U, Pt.locs, Pt.cells, Pt.slots] at X22 l22 y22 z22 st22 hQ22
      subst l22 y22 z22
      obtain ⟨rfl, N22q, e22⟩ := hQ22
      have N22 := Fr.app N16 N22q
      obtain ⟨fs, hr, hrun, hended, hWr, hsame⟩ := X22.leave (v := some (.int (1 : Int32))) (fun h => by rw [Bd.returns] at h; cases h)
      refine ⟨_, _, pre17 _ ?_, hrun, hended, _, _, rfl, ?_, ⟨_, rfl⟩, hWr, hsame.mono (Nat.le_of_ble_eq_true rfl) (Nat.le_of_ble_eq_true rfl)⟩
      · show Steps p.tables e below (T16.setTop (mkF m 14 #[.val (.int i0), .val (.int i1), .val (.int (1 : Int32)), .val (.ref w2), .unset, .unset, .unset] [(.int (1 : Int32)), (.int i1)])) _
        refine XS.iand X16.here hx rfl (hb hby at_14) rfl ?_
        show Steps p.tables e below (T16.setTop (mkF m 15 #[.val (.int i0), .val (.int i1), .val (.int (1 : Int32)), .val (.ref w2), .unset, .unset, .unset] [(.int (i1 &&& (1 : Int32)))])) _
        rw [hk18]
        show Steps p.tables e below (T16.setTop (mkF m 15 #[.val (.int i0), .val (.int i1), .val (.int (1 : Int32)), .val (.ref w2), .unset, .unset, .unset] [(.int (0 : Int32))])) _
        refine XS.ifYes X16.here hx rfl (pc0 := 15) (pc' := 22) rfl (hb hby at_15) rfl (by decide) (by decide) (by decide) ?_
        show Steps p.tables e below (T16.setTop (mkF m 22 #[.val (.int i0), .val (.int i1), .val (.int (1 : Int32)), .val (.ref w2), .unset, .unset, .unset] [])) _
        refine XS.iconst X16.here hx rfl (hb hby at_22) ?_
        show Steps p.tables e below (T16.setTop (mkF m 23 #[.val (.int i0), .val (.int i1), .val (.int (1 : Int32)), .val (.ref w2), .unset, .unset, .unset] [(.int (0 : Int32))])) _
        refine XS.istore X16.here hx rfl (hb hby at_23) rfl (l' := #[.val (.int i0), .val (.int i1), .val (.int (1 : Int32)), .val (.ref w2), .val (.int (0 : Int32)), .unset, .unset]) rfl ?_
        show Steps p.tables e below (T16.setTop (mkF m 25 #[.val (.int i0), .val (.int i1), .val (.int (1 : Int32)), .val (.ref w2), .val (.int (0 : Int32)), .unset, .unset] [])) _
        refine XS.aloadN X16.here hx rfl (hb hby at_25) rfl rfl ?_
        show Steps p.tables e below (T16.setTop (mkF m 26 #[.val (.int i0), .val (.int i1), .val (.int (1 : Int32)), .val (.ref w2), .val (.int (0 : Int32)), .unset, .unset] [(.ref w2)])) _
        refine XS.iload X16.here hx rfl (hb hby at_26) rfl ?_
        show Steps p.tables e below (T16.setTop (mkF m 28 #[.val (.int i0), .val (.int i1), .val (.int (1 : Int32)), .val (.ref w2), .val (.int (0 : Int32)), .unset, .unset] [(.int (0 : Int32)), (.ref w2)])) _
        refine st22.trans ?_
        show Steps p.tables e below (T22.setTop (mkF m 31 #[.val (.int i0), .val (.int i1), .val (.int (1 : Int32)), .val (.ref w2), .val (.int (0 : Int32)), .unset, .unset] [(.int (1 : Int32))])) _
        refine XS.istore X22.here hx rfl (hb hby at_31) rfl (l' := #[.val (.int i0), .val (.int i1), .val (.int (1 : Int32)), .val (.ref w2), .val (.int (0 : Int32)), .val (.int (1 : Int32)), .unset]) rfl ?_
        show Steps p.tables e below (T22.setTop (mkF m 33 #[.val (.int i0), .val (.int i1), .val (.int (1 : Int32)), .val (.ref w2), .val (.int (0 : Int32)), .val (.int (1 : Int32)), .unset] [])) _
        refine XS.iloadN X22.here hx rfl (hb hby at_33) rfl ?_
        show Steps p.tables e below (T22.setTop (mkF m 34 #[.val (.int i0), .val (.int i1), .val (.int (1 : Int32)), .val (.ref w2), .val (.int (0 : Int32)), .val (.int (1 : Int32)), .unset] [(.int (1 : Int32))])) _
        refine XS.ifYes X22.here hx rfl (pc0 := 34) (pc' := 43) rfl (hb hby at_34) rfl (by decide) (by decide) (by decide) ?_
        show Steps p.tables e below (T22.setTop (mkF m 43 #[.val (.int i0), .val (.int i1), .val (.int (1 : Int32)), .val (.ref w2), .val (.int (0 : Int32)), .val (.int (1 : Int32)), .unset] [])) _
        refine XS.iloadN X22.here hx rfl (hb hby at_43) rfl ?_
        show Steps p.tables e below (T22.setTop (mkF m 44 #[.val (.int i0), .val (.int i1), .val (.int (1 : Int32)), .val (.ref w2), .val (.int (0 : Int32)), .val (.int (1 : Int32)), .unset] [(.int (1 : Int32))])) _
        refine XS.iconst X22.here hx rfl (hb hby at_44) ?_
        show Steps p.tables e below (T22.setTop (mkF m 45 #[.val (.int i0), .val (.int i1), .val (.int (1 : Int32)), .val (.ref w2), .val (.int (0 : Int32)), .val (.int (1 : Int32)), .unset] [(.int (1 : Int32)), (.int (1 : Int32))])) _
        refine XS.icmpNo X22.here hx rfl (hb hby at_45) rfl (by decide) ?_
        show Steps p.tables e below (T22.setTop (mkF m 48 #[.val (.int i0), .val (.int i1), .val (.int (1 : Int32)), .val (.ref w2), .val (.int (0 : Int32)), .val (.int (1 : Int32)), .unset] [])) _
        refine XS.iload X22.here hx rfl (hb hby at_48) rfl ?_
        show Steps p.tables e below (T22.setTop (mkF m 50 #[.val (.int i0), .val (.int i1), .val (.int (1 : Int32)), .val (.ref w2), .val (.int (0 : Int32)), .val (.int (1 : Int32)), .unset] [(.int (0 : Int32))])) _
        refine XS.ifNo X22.here hx rfl (hb hby at_50) rfl (by decide) ?_
        show Steps p.tables e below (T22.setTop (mkF m 53 #[.val (.int i0), .val (.int i1), .val (.int (1 : Int32)), .val (.ref w2), .val (.int (0 : Int32)), .val (.int (1 : Int32)), .unset] [])) _
        refine XS.iconst X22.here hx rfl (hb hby at_53) ?_
        show Steps p.tables e below (T22.setTop (mkF m 54 #[.val (.int i0), .val (.int i1), .val (.int (1 : Int32)), .val (.ref w2), .val (.int (0 : Int32)), .val (.int (1 : Int32)), .unset] [(.int (1 : Int32))])) _
        refine XS.goto X22.here hx rfl (pc0 := 54) (pc' := 58) rfl (hb hby at_54) (by decide) (by decide) ?_
        show Steps p.tables e below (T22.setTop (mkF m 58 #[.val (.int i0), .val (.int i1), .val (.int (1 : Int32)), .val (.ref w2), .val (.int (0 : Int32)), .val (.int (1 : Int32)), .unset] [(.int (1 : Int32))])) _
        refine XS.istore X22.here hx rfl (hb hby at_58) rfl (l' := #[.val (.int i0), .val (.int i1), .val (.int (1 : Int32)), .val (.ref w2), .val (.int (0 : Int32)), .val (.int (1 : Int32)), .val (.int (1 : Int32))]) rfl ?_
        show Steps p.tables e below (T22.setTop (mkF m 60 #[.val (.int i0), .val (.int i1), .val (.int (1 : Int32)), .val (.ref w2), .val (.int (0 : Int32)), .val (.int (1 : Int32)), .val (.int (1 : Int32))] [])) _
        refine XS.goto X22.here hx rfl (pc0 := 60) (pc' := 67) rfl (hb hby at_60) (by decide) (by decide) ?_
        show Steps p.tables e below (T22.setTop (mkF m 67 #[.val (.int i0), .val (.int i1), .val (.int (1 : Int32)), .val (.ref w2), .val (.int (0 : Int32)), .val (.int (1 : Int32)), .val (.int (1 : Int32))] [])) _
        refine XS.iload X22.here hx rfl (hb hby at_67) rfl ?_
        show Steps p.tables e below (T22.setTop (mkF m 69 #[.val (.int i0), .val (.int i1), .val (.int (1 : Int32)), .val (.ref w2), .val (.int (0 : Int32)), .val (.int (1 : Int32)), .val (.int (1 : Int32))] [(.int (1 : Int32))])) _
        refine XS.iload X22.here hx rfl (hb hby at_69) rfl ?_
        show Steps p.tables e below (T22.setTop (mkF m 71 #[.val (.int i0), .val (.int i1), .val (.int (1 : Int32)), .val (.ref w2), .val (.int (0 : Int32)), .val (.int (1 : Int32)), .val (.int (1 : Int32))] [(.int (1 : Int32)), (.int (1 : Int32))])) _
        refine XS.icmpNo X22.here hx rfl (hb hby at_71) rfl (by decide) ?_
        show Steps p.tables e below (T22.setTop (mkF m 74 #[.val (.int i0), .val (.int i1), .val (.int (1 : Int32)), .val (.ref w2), .val (.int (0 : Int32)), .val (.int (1 : Int32)), .val (.int (1 : Int32))] [])) _
        refine XS.iconst X22.here hx rfl (hb hby at_74) ?_
        show Steps p.tables e below (T22.setTop (mkF m 75 #[.val (.int i0), .val (.int i1), .val (.int (1 : Int32)), .val (.ref w2), .val (.int (0 : Int32)), .val (.int (1 : Int32)), .val (.int (1 : Int32))] [(.int (1 : Int32))])) _
        refine XS.goto X22.here hx rfl (pc0 := 75) (pc' := 79) rfl (hb hby at_75) (by decide) (by decide) ?_
        show Steps p.tables e below (T22.setTop (mkF m 79 #[.val (.int i0), .val (.int i1), .val (.int (1 : Int32)), .val (.ref w2), .val (.int (0 : Int32)), .val (.int (1 : Int32)), .val (.int (1 : Int32))] [(.int (1 : Int32))])) _
        exact retN X22 hx (t := .boolean) Bd.returns (by simp) (hb hby at_79) hr
      · show Ql n0 _ T22.heap _
        exact ⟨rfl, N22⟩
    · obtain ⟨cq24, kq24, q24a, q24b, q24c⟩ := isOf hZ e16 (wE2.ext O0.2)
      obtain ⟨_, _, ⟨T24, L24, k24, n24⟩, -, X24, ⟨Lc24, hQ24, l24, y24, z24⟩, st24⟩ := X16.virtualBack hx (y := (⟨"com/example/seneschal/seneschal/model/EvaluationsSemantic", "stopsAfter", "(Z)Z"⟩ : MethodName)) (z := (⟨"com/example/seneschal/seneschal/model/EvaluationsSemantic", "stopsAfter", "(Z)Z"⟩ : MethodName)) hown (mvT hZ (hw _ (List.mem_of_getElem? (i := 8) rfl))) (mvT hZ (hw _ (List.mem_of_getElem? (i := 9) rfl))) (notFace_of_selects (args := #[]) (mvT hZ (hw _ (List.mem_of_getElem? (i := 11) rfl)))) (mvT hZ (hw _ (List.mem_of_getElem? (i := 11) rfl))) (mvT hZ (hw _ (List.mem_of_getElem? (i := 10) rfl))) (by decide) (backOf (W := 0) (rm8 l Z a0 hw [] w0 w1 w2 h0 n0 hWd O0) hZ (hw _ (List.mem_of_getElem? (i := 12) rfl)) (hw _ (List.mem_of_getElem? (i := 6) rfl)) (by decide) (by decide)) q24a q24c (g := (mkF m 28 #[.val (.int i0), .val (.int i1), .val (.int (1 : Int32)), .val (.ref w2), .val (.int (1 : Int32)), .unset, .unset] [(.int (1 : Int32)), (.ref w2)])) rfl (by rw [hml]; rfl) (Steps.refl _) (argsL := [(.int (1 : Int32))]) (rest := []) (lenOf pd2 rfl) rfl (by show 2 * 0 + _ ≤ _; exact Nat.le_of_eq rfl) (hb hby at_28) (fun _ _ => ⟨rfl, e16, (by decide : 0 + 0 ≤ _), (by decide : 0 + 0 ≤ _)⟩)
      dsimp only [Pt.U, Pt.locs, Pt.cells, Pt.slots] at X24 l24 y24 z24 st24 hQ24
      subst l24 y24 z24
      obtain ⟨rfl, N24q, e24⟩ := hQ24
      have N24 := Fr.app N16 N24q
      obtain ⟨fs, hr, hrun, hended, hWr, hsame⟩ := X24.leave (v := some (.int (1 : Int32))) (fun h => by rw [Bd.returns] at h; cases h)
      refine ⟨_, _, pre17 _ ?_, hrun, hended, _, _, rfl, ?_, ⟨_, rfl⟩, hWr, hsame.mono (Nat.le_of_ble_eq_true rfl) (Nat.le_of_ble_eq_true rfl)⟩
      · show Steps p.tables e below (T16.setTop (mkF m 14 #[.val (.int i0), .val (.int i1), .val (.int (1 : Int32)), .val (.ref w2), .unset, .unset, .unset] [(.int (1 : Int32)), (.int i1)])) _
        refine XS.iand X16.here hx rfl (hb hby at_14) rfl ?_
        show Steps p.tables e below (T16.setTop (mkF m 15 #[.val (.int i0), .val (.int i1), .val (.int (1 : Int32)), .val (.ref w2), .unset, .unset, .unset] [(.int (i1 &&& (1 : Int32)))])) _
        rw [hk19]
        show Steps p.tables e below (T16.setTop (mkF m 15 #[.val (.int i0), .val (.int i1), .val (.int (1 : Int32)), .val (.ref w2), .unset, .unset, .unset] [(.int (1 : Int32))])) _
        refine XS.ifNo X16.here hx rfl (hb hby at_15) rfl (by decide) ?_
        show Steps p.tables e below (T16.setTop (mkF m 18 #[.val (.int i0), .val (.int i1), .val (.int (1 : Int32)), .val (.ref w2), .unset, .unset, .unset] [])) _
        refine XS.iconst X16.here hx rfl (hb hby at_18) ?_
        show Steps p.tables e below (T16.setTop (mkF m 19 #[.val (.int i0), .val (.int i1), .val (.int (1 : Int32)), .val (.ref w2), .unset, .unset, .unset] [(.int (1 : Int32))])) _
        refine XS.goto X16.here hx rfl (pc0 := 19) (pc' := 23) rfl (hb hby at_19) (by decide) (by decide) ?_
        show Steps p.tables e below (T16.setTop (mkF m 23 #[.val (.int i0), .val (.int i1), .val (.int (1 : Int32)), .val (.ref w2), .unset, .unset, .unset] [(.int (1 : Int32))])) _
        refine XS.istore X16.here hx rfl (hb hby at_23) rfl (l' := #[.val (.int i0), .val (.int i1), .val (.int (1 : Int32)), .val (.ref w2), .val (.int (1 : Int32)), .unset, .unset]) rfl ?_
        show Steps p.tables e below (T16.setTop (mkF m 25 #[.val (.int i0), .val (.int i1), .val (.int (1 : Int32)), .val (.ref w2), .val (.int (1 : Int32)), .unset, .unset] [])) _
        refine XS.aloadN X16.here hx rfl (hb hby at_25) rfl rfl ?_
        show Steps p.tables e below (T16.setTop (mkF m 26 #[.val (.int i0), .val (.int i1), .val (.int (1 : Int32)), .val (.ref w2), .val (.int (1 : Int32)), .unset, .unset] [(.ref w2)])) _
        refine XS.iload X16.here hx rfl (hb hby at_26) rfl ?_
        show Steps p.tables e below (T16.setTop (mkF m 28 #[.val (.int i0), .val (.int i1), .val (.int (1 : Int32)), .val (.ref w2), .val (.int (1 : Int32)), .unset, .unset] [(.int (1 : Int32)), (.ref w2)])) _
        refine st24.trans ?_
        show Steps p.tables e below (T24.setTop (mkF m 31 #[.val (.int i0), .val (.int i1), .val (.int (1 : Int32)), .val (.ref w2), .val (.int (1 : Int32)), .unset, .unset] [(.int (0 : Int32))])) _
        refine XS.istore X24.here hx rfl (hb hby at_31) rfl (l' := #[.val (.int i0), .val (.int i1), .val (.int (1 : Int32)), .val (.ref w2), .val (.int (1 : Int32)), .val (.int (0 : Int32)), .unset]) rfl ?_
        show Steps p.tables e below (T24.setTop (mkF m 33 #[.val (.int i0), .val (.int i1), .val (.int (1 : Int32)), .val (.ref w2), .val (.int (1 : Int32)), .val (.int (0 : Int32)), .unset] [])) _
        refine XS.iloadN X24.here hx rfl (hb hby at_33) rfl ?_
        show Steps p.tables e below (T24.setTop (mkF m 34 #[.val (.int i0), .val (.int i1), .val (.int (1 : Int32)), .val (.ref w2), .val (.int (1 : Int32)), .val (.int (0 : Int32)), .unset] [(.int (1 : Int32))])) _
        refine XS.ifYes X24.here hx rfl (pc0 := 34) (pc' := 43) rfl (hb hby at_34) rfl (by decide) (by decide) (by decide) ?_
        show Steps p.tables e below (T24.setTop (mkF m 43 #[.val (.int i0), .val (.int i1), .val (.int (1 : Int32)), .val (.ref w2), .val (.int (1 : Int32)), .val (.int (0 : Int32)), .unset] [])) _
        refine XS.iloadN X24.here hx rfl (hb hby at_43) rfl ?_
        show Steps p.tables e below (T24.setTop (mkF m 44 #[.val (.int i0), .val (.int i1), .val (.int (1 : Int32)), .val (.ref w2), .val (.int (1 : Int32)), .val (.int (0 : Int32)), .unset] [(.int (1 : Int32))])) _
        refine XS.iconst X24.here hx rfl (hb hby at_44) ?_
        show Steps p.tables e below (T24.setTop (mkF m 45 #[.val (.int i0), .val (.int i1), .val (.int (1 : Int32)), .val (.ref w2), .val (.int (1 : Int32)), .val (.int (0 : Int32)), .unset] [(.int (1 : Int32)), (.int (1 : Int32))])) _
        refine XS.icmpNo X24.here hx rfl (hb hby at_45) rfl (by decide) ?_
        show Steps p.tables e below (T24.setTop (mkF m 48 #[.val (.int i0), .val (.int i1), .val (.int (1 : Int32)), .val (.ref w2), .val (.int (1 : Int32)), .val (.int (0 : Int32)), .unset] [])) _
        refine XS.iload X24.here hx rfl (hb hby at_48) rfl ?_
        show Steps p.tables e below (T24.setTop (mkF m 50 #[.val (.int i0), .val (.int i1), .val (.int (1 : Int32)), .val (.ref w2), .val (.int (1 : Int32)), .val (.int (0 : Int32)), .unset] [(.int (1 : Int32))])) _
        refine XS.ifYes X24.here hx rfl (pc0 := 50) (pc' := 57) rfl (hb hby at_50) rfl (by decide) (by decide) (by decide) ?_
        show Steps p.tables e below (T24.setTop (mkF m 57 #[.val (.int i0), .val (.int i1), .val (.int (1 : Int32)), .val (.ref w2), .val (.int (1 : Int32)), .val (.int (0 : Int32)), .unset] [])) _
        refine XS.iconst X24.here hx rfl (hb hby at_57) ?_
        show Steps p.tables e below (T24.setTop (mkF m 58 #[.val (.int i0), .val (.int i1), .val (.int (1 : Int32)), .val (.ref w2), .val (.int (1 : Int32)), .val (.int (0 : Int32)), .unset] [(.int (0 : Int32))])) _
        refine XS.istore X24.here hx rfl (hb hby at_58) rfl (l' := #[.val (.int i0), .val (.int i1), .val (.int (1 : Int32)), .val (.ref w2), .val (.int (1 : Int32)), .val (.int (0 : Int32)), .val (.int (0 : Int32))]) rfl ?_
        show Steps p.tables e below (T24.setTop (mkF m 60 #[.val (.int i0), .val (.int i1), .val (.int (1 : Int32)), .val (.ref w2), .val (.int (1 : Int32)), .val (.int (0 : Int32)), .val (.int (0 : Int32))] [])) _
        refine XS.goto X24.here hx rfl (pc0 := 60) (pc' := 67) rfl (hb hby at_60) (by decide) (by decide) ?_
        show Steps p.tables e below (T24.setTop (mkF m 67 #[.val (.int i0), .val (.int i1), .val (.int (1 : Int32)), .val (.ref w2), .val (.int (1 : Int32)), .val (.int (0 : Int32)), .val (.int (0 : Int32))] [])) _
        refine XS.iload X24.here hx rfl (hb hby at_67) rfl ?_
        show Steps p.tables e below (T24.setTop (mkF m 69 #[.val (.int i0), .val (.int i1), .val (.int (1 : Int32)), .val (.ref w2), .val (.int (1 : Int32)), .val (.int (0 : Int32)), .val (.int (0 : Int32))] [(.int (0 : Int32))])) _
        refine XS.iload X24.here hx rfl (hb hby at_69) rfl ?_
        show Steps p.tables e below (T24.setTop (mkF m 71 #[.val (.int i0), .val (.int i1), .val (.int (1 : Int32)), .val (.ref w2), .val (.int (1 : Int32)), .val (.int (0 : Int32)), .val (.int (0 : Int32))] [(.int (0 : Int32)), (.int (0 : Int32))])) _
        refine XS.icmpNo X24.here hx rfl (hb hby at_71) rfl (by decide) ?_
        show Steps p.tables e below (T24.setTop (mkF m 74 #[.val (.int i0), .val (.int i1), .val (.int (1 : Int32)), .val (.ref w2), .val (.int (1 : Int32)), .val (.int (0 : Int32)), .val (.int (0 : Int32))] [])) _
        refine XS.iconst X24.here hx rfl (hb hby at_74) ?_
        show Steps p.tables e below (T24.setTop (mkF m 75 #[.val (.int i0), .val (.int i1), .val (.int (1 : Int32)), .val (.ref w2), .val (.int (1 : Int32)), .val (.int (0 : Int32)), .val (.int (0 : Int32))] [(.int (1 : Int32))])) _
        refine XS.goto X24.here hx rfl (pc0 := 75) (pc' := 79) rfl (hb hby at_75) (by decide) (by decide) ?_
        show Steps p.tables e below (T24.setTop (mkF m 79 #[.val (.int i0), .val (.int i1), .val (.int (1 : Int32)), .val (.ref w2), .val (.int (1 : Int32)), .val (.int (0 : Int32)), .val (.int (0 : Int32))] [(.int (1 : Int32))])) _
        exact retN X24 hx (t := .boolean) Bd.returns (by simp) (hb hby at_79) hr
      · show Ql n0 _ T24.heap _
        exact ⟨rfl, N24⟩
  · obtain ⟨_, _, ⟨T26, L26, k26, n26⟩, -, X26, ⟨Lc26, hQ26, l26, y26, z26⟩, st26⟩ := Jvm.LawKit.callS X0 hx (y := (⟨"com/example/seneschal/seneschal/model/EvaluationsSemanticStopsAfterPinLaw", "pick", "(I)Lcom/example/seneschal/seneschal/model/EvaluationsSemantic;"⟩ : MethodName)) hown (mvT hZ (hw _ (List.mem_of_getElem? (i := 1) rfl))) (mvT hZ (hw _ (List.mem_of_getElem? (i := 2) rfl))) (mvT hZ (hw _ (List.mem_of_getElem? (i := 3) rfl))) (mvT hZ (hw _ (List.mem_of_getElem? (i := 4) rfl))) (by decide) (backOf (W := 0) (rm9 l Z a0 hw [] w0 w1 w2 h0 n0 hWd O0) hZ (hw _ (List.mem_of_getElem? (i := 4) rfl)) (hw _ (List.mem_of_getElem? (i := 3) rfl)) (by decide) (by decide)) (g := (mkF m 8 #[.val (.int i0), .val (.int i1), .val (.int (2 : Int32)), .unset, .unset, .unset, .unset] [(.int (2 : Int32))])) rfl (by rw [hml]; rfl) (argsL := [(.int (2 : Int32))]) (rest := []) (lenOf pd0 rfl) rfl (by show 2 * 0 + _ ≤ _; exact Nat.le_of_eq rfl) (hb hby at_8) (fun _ _ => ⟨rfl, e0, (by decide : 0 + 0 ≤ _), (by decide : 0 + 0 ≤ _)⟩)
    dsimp only [Pt.U, Pt.locs, Pt.cells, Pt.slots] at X26 l26 y26 z26 st26 hQ26
    subst l26 y26 z26
    obtain ⟨rfl, N26q, e26⟩ := hQ26
    have N26 := Fr.app N0 N26q
    have pre27 : ∀ t, Steps p.tables e below (T26.setTop (mkF m 14 #[.val (.int i0), .val (.int i1), .val (.int (2 : Int32)), .val (.ref w1), .unset, .unset, .unset] [(.int (1 : Int32)), (.int i1)])) t → Steps p.tables e below (s₁.setTop (entryFrame m #[(.int i0), (.int i1)] maxLocals)) t := by
      intro t k
      refine pre1 _ ?_
      show Steps p.tables e below (s₁.setTop (mkF m 5 #[.val (.int i0), .val (.int i1), .unset, .unset, .unset, .unset, .unset] [(.int (3 : Int32)), (.int (i0 &&& (2147483647 : Int32)))])) _
      refine iremM X0 hx rfl (hb hby at_5) rfl (by decide) ?_
      show Steps p.tables e below (s₁.setTop (mkF m 6 #[.val (.int i0), .val (.int i1), .unset, .unset, .unset, .unset, .unset] [(.int ((i0 &&& (2147483647 : Int32)) % (3 : Int32)))])) _
      rw [hk4]
      show Steps p.tables e below (s₁.setTop (mkF m 6 #[.val (.int i0), .val (.int i1), .unset, .unset, .unset, .unset, .unset] [(.int (2 : Int32))])) _
      refine XS.istoreN X0.here hx rfl (hb hby at_6) rfl (l' := #[.val (.int i0), .val (.int i1), .val (.int (2 : Int32)), .unset, .unset, .unset, .unset]) rfl ?_
      show Steps p.tables e below (s₁.setTop (mkF m 7 #[.val (.int i0), .val (.int i1), .val (.int (2 : Int32)), .unset, .unset, .unset, .unset] [])) _
      refine XS.iloadN X0.here hx rfl (hb hby at_7) rfl ?_
      show Steps p.tables e below (s₁.setTop (mkF m 8 #[.val (.int i0), .val (.int i1), .val (.int (2 : Int32)), .unset, .unset, .unset, .unset] [(.int (2 : Int32))])) _
      refine st26 _ ?_
      show Steps p.tables e below (T26.setTop (mkF m 11 #[.val (.int i0), .val (.int i1), .val (.int (2 : Int32)), .unset, .unset, .unset, .unset] [(.ref w1)])) _
      refine XS.astoreN X26.here hx rfl (hb hby at_11) rfl rfl (l' := #[.val (.int i0), .val (.int i1), .val (.int (2 : Int32)), .val (.ref w1), .unset, .unset, .unset]) rfl ?_
      show Steps p.tables e below (T26.setTop (mkF m 12 #[.val (.int i0), .val (.int i1), .val (.int (2 : Int32)), .val (.ref w1), .unset, .unset, .unset] [])) _
      refine XS.iloadN X26.here hx rfl (hb hby at_12) rfl ?_
      show Steps p.tables e below (T26.setTop (mkF m 13 #[.val (.int i0), .val (.int i1), .val (.int (2 : Int32)), .val (.ref w1), .unset, .unset, .unset] [(.int i1)])) _
      refine XS.iconst X26.here hx rfl (hb hby at_13) ?_
      show Steps p.tables e below (T26.setTop (mkF m 14 #[.val (.int i0), .val (.int i1), .val (.int (2 : Int32)), .val (.ref w1), .unset, .unset, .unset] [(.int (1 : Int32)), (.int i1)])) _
      exact k
    rcases own_and_1 i1 with hk28 | hk29
    · obtain ⟨cq32, kq32, q32a, q32b, q32c⟩ := isOf hZ e26 (wE1.ext O0.2)
      obtain ⟨_, _, ⟨T32, L32, k32, n32⟩, -, X32, ⟨Lc32, hQ32, l32, y32, z32⟩, st32⟩ := X26.virtualBack hx (y := (⟨"com/example/seneschal/seneschal/model/EvaluationsSemantic", "stopsAfter", "(Z)Z"⟩ : MethodName)) (z := (⟨"com/example/seneschal/seneschal/model/EvaluationsSemantic", "stopsAfter", "(Z)Z"⟩ : MethodName)) hown (mvT hZ (hw _ (List.mem_of_getElem? (i := 8) rfl))) (mvT hZ (hw _ (List.mem_of_getElem? (i := 9) rfl))) (notFace_of_selects (args := #[]) (mvT hZ (hw _ (List.mem_of_getElem? (i := 11) rfl)))) (mvT hZ (hw _ (List.mem_of_getElem? (i := 11) rfl))) (mvT hZ (hw _ (List.mem_of_getElem? (i := 10) rfl))) (by decide) (backOf (W := 0) (rm10 l Z a0 hw [] w0 w1 w2 h0 n0 hWd O0) hZ (hw _ (List.mem_of_getElem? (i := 12) rfl)) (hw _ (List.mem_of_getElem? (i := 6) rfl)) (by decide) (by decide)) q32a q32c (g := (mkF m 28 #[.val (.int i0), .val (.int i1), .val (.int (2 : Int32)), .val (.ref w1), .val (.int (0 : Int32)), .unset, .unset] [(.int (0 : Int32)), (.ref w1)])) rfl (by rw [hml]; rfl) (Steps.refl _) (argsL := [(.int (0 : Int32))]) (rest := []) (lenOf pd2 rfl) rfl (by show 2 * 0 + _ ≤ _; exact Nat.le_of_eq rfl) (hb hby at_28) (fun _ _ => ⟨rfl, e26, (by decide : 0 + 0 ≤ _), (by decide : 0 + 0 ≤ _)⟩)
      dsimp only [Pt.U, Pt.locs, Pt.cells, Pt.slots] at X32 l32 y32 z32 st32 hQ32
      subst l32 y32 z32
      obtain ⟨rfl, N32q, e32⟩ := hQ32
      have N32 := Fr.app N26 N32q
      obtain ⟨fs, hr, hrun, hended, hWr, hsame⟩ := X32.leave (v := some (.int (1 : Int32))) (fun h => by rw [Bd.returns] at h; cases h)
      refine ⟨_, _, pre27 _ ?_, hrun, hended, _, _, rfl, ?_, ⟨_, rfl⟩, hWr, hsame.mono (Nat.le_of_ble_eq_true rfl) (Nat.le_of_ble_eq_true rfl)⟩
      · show Steps p.tables e below (T26.setTop (mkF m 14 #[.val (.int i0), .val (.int i1), .val (.int (2 : Int32)), .val (.ref w1), .unset, .unset, .unset] [(.int (1 : Int32)), (.int i1)])) _
        refine XS.iand X26.here hx rfl (hb hby at_14) rfl ?_
        show Steps p.tables e below (T26.setTop (mkF m 15 #[.val (.int i0), .val (.int i1), .val (.int (2 : Int32)), .val (.ref w1), .unset, .unset, .unset] [(.int (i1 &&& (1 : Int32)))])) _
        rw [hk28]
        show Steps p.tables e below (T26.setTop (mkF m 15 #[.val (.int i0), .val (.int i1), .val (.int (2 : Int32)), .val (.ref w1), .unset, .unset, .unset] [(.int (0 : Int32))])) _
        refine XS.ifYes X26.here hx rfl (pc0 := 15) (pc' := 22) rfl (hb hby at_15) rfl (by decide) (by decide) (by decide) ?_
        show Steps p.tables e below (T26.setTop (mkF m 22 #[.val (.int i0), .val (.int i1), .val (.int (2 : Int32)), .val (.ref w1), .unset, .unset, .unset] [])) _
        refine XS.iconst X26.here hx rfl (hb hby at_22) ?_
        show Steps p.tables e below (T26.setTop (mkF m 23 #[.val (.int i0), .val (.int i1), .val (.int (2 : Int32)), .val (.ref w1), .unset, .unset, .unset] [(.int (0 : Int32))])) _
        refine XS.istore X26.here hx rfl (hb hby at_23) rfl (l' := #[.val (.int i0), .val (.int i1), .val (.int (2 : Int32)), .val (.ref w1), .val (.int (0 : Int32)), .unset, .unset]) rfl ?_
        show Steps p.tables e below (T26.setTop (mkF m 25 #[.val (.int i0), .val (.int i1), .val (.int (2 : Int32)), .val (.ref w1), .val (.int (0 : Int32)), .unset, .unset] [])) _
        refine XS.aloadN X26.here hx rfl (hb hby at_25) rfl rfl ?_
        show Steps p.tables e below (T26.setTop (mkF m 26 #[.val (.int i0), .val (.int i1), .val (.int (2 : Int32)), .val (.ref w1), .val (.int (0 : Int32)), .unset, .unset] [(.ref w1)])) _
        refine XS.iload X26.here hx rfl (hb hby at_26) rfl ?_
        show Steps p.tables e below (T26.setTop (mkF m 28 #[.val (.int i0), .val (.int i1), .val (.int (2 : Int32)), .val (.ref w1), .val (.int (0 : Int32)), .unset, .unset] [(.int (0 : Int32)), (.ref w1)])) _
        refine st32.trans ?_
        show Steps p.tables e below (T32.setTop (mkF m 31 #[.val (.int i0), .val (.int i1), .val (.int (2 : Int32)), .val (.ref w1), .val (.int (0 : Int32)), .unset, .unset] [(.int (0 : Int32))])) _
        refine XS.istore X32.here hx rfl (hb hby at_31) rfl (l' := #[.val (.int i0), .val (.int i1), .val (.int (2 : Int32)), .val (.ref w1), .val (.int (0 : Int32)), .val (.int (0 : Int32)), .unset]) rfl ?_
        show Steps p.tables e below (T32.setTop (mkF m 33 #[.val (.int i0), .val (.int i1), .val (.int (2 : Int32)), .val (.ref w1), .val (.int (0 : Int32)), .val (.int (0 : Int32)), .unset] [])) _
        refine XS.iloadN X32.here hx rfl (hb hby at_33) rfl ?_
        show Steps p.tables e below (T32.setTop (mkF m 34 #[.val (.int i0), .val (.int i1), .val (.int (2 : Int32)), .val (.ref w1), .val (.int (0 : Int32)), .val (.int (0 : Int32)), .unset] [(.int (2 : Int32))])) _
        refine XS.ifYes X32.here hx rfl (pc0 := 34) (pc' := 43) rfl (hb hby at_34) rfl (by decide) (by decide) (by decide) ?_
        show Steps p.tables e below (T32.setTop (mkF m 43 #[.val (.int i0), .val (.int i1), .val (.int (2 : Int32)), .val (.ref w1), .val (.int (0 : Int32)), .val (.int (0 : Int32)), .unset] [])) _
        refine XS.iloadN X32.here hx rfl (hb hby at_43) rfl ?_
        show Steps p.tables e below (T32.setTop (mkF m 44 #[.val (.int i0), .val (.int i1), .val (.int (2 : Int32)), .val (.ref w1), .val (.int (0 : Int32)), .val (.int (0 : Int32)), .unset] [(.int (2 : Int32))])) _
        refine XS.iconst X32.here hx rfl (hb hby at_44) ?_
        show Steps p.tables e below (T32.setTop (mkF m 45 #[.val (.int i0), .val (.int i1), .val (.int (2 : Int32)), .val (.ref w1), .val (.int (0 : Int32)), .val (.int (0 : Int32)), .unset] [(.int (1 : Int32)), (.int (2 : Int32))])) _
        refine XS.icmpYes X32.here hx rfl (pc0 := 45) (pc' := 63) rfl (hb hby at_45) rfl (by decide) (by decide) (by decide) ?_
        show Steps p.tables e below (T32.setTop (mkF m 63 #[.val (.int i0), .val (.int i1), .val (.int (2 : Int32)), .val (.ref w1), .val (.int (0 : Int32)), .val (.int (0 : Int32)), .unset] [])) _
        refine XS.iload X32.here hx rfl (hb hby at_63) rfl ?_
        show Steps p.tables e below (T32.setTop (mkF m 65 #[.val (.int i0), .val (.int i1), .val (.int (2 : Int32)), .val (.ref w1), .val (.int (0 : Int32)), .val (.int (0 : Int32)), .unset] [(.int (0 : Int32))])) _
        refine XS.istore X32.here hx rfl (hb hby at_65) rfl (l' := #[.val (.int i0), .val (.int i1), .val (.int (2 : Int32)), .val (.ref w1), .val (.int (0 : Int32)), .val (.int (0 : Int32)), .val (.int (0 : Int32))]) rfl ?_
        show Steps p.tables e below (T32.setTop (mkF m 67 #[.val (.int i0), .val (.int i1), .val (.int (2 : Int32)), .val (.ref w1), .val (.int (0 : Int32)), .val (.int (0 : Int32)), .val (.int (0 : Int32))] [])) _
        refine XS.iload X32.here hx rfl (hb hby at_67) rfl ?_
        show Steps p.tables e below (T32.setTop (mkF m 69 #[.val (.int i0), .val (.int i1), .val (.int (2 : Int32)), .val (.ref w1), .val (.int (0 : Int32)), .val (.int (0 : Int32)), .val (.int (0 : Int32))] [(.int (0 : Int32))])) _
        refine XS.iload X32.here hx rfl (hb hby at_69) rfl ?_
        show Steps p.tables e below (T32.setTop (mkF m 71 #[.val (.int i0), .val (.int i1), .val (.int (2 : Int32)), .val (.ref w1), .val (.int (0 : Int32)), .val (.int (0 : Int32)), .val (.int (0 : Int32))] [(.int (0 : Int32)), (.int (0 : Int32))])) _
        refine XS.icmpNo X32.here hx rfl (hb hby at_71) rfl (by decide) ?_
        show Steps p.tables e below (T32.setTop (mkF m 74 #[.val (.int i0), .val (.int i1), .val (.int (2 : Int32)), .val (.ref w1), .val (.int (0 : Int32)), .val (.int (0 : Int32)), .val (.int (0 : Int32))] [])) _
        refine XS.iconst X32.here hx rfl (hb hby at_74) ?_
        show Steps p.tables e below (T32.setTop (mkF m 75 #[.val (.int i0), .val (.int i1), .val (.int (2 : Int32)), .val (.ref w1), .val (.int (0 : Int32)), .val (.int (0 : Int32)), .val (.int (0 : Int32))] [(.int (1 : Int32))])) _
        refine XS.goto X32.here hx rfl (pc0 := 75) (pc' := 79) rfl (hb hby at_75) (by decide) (by decide) ?_
        show Steps p.tables e below (T32.setTop (mkF m 79 #[.val (.int i0), .val (.int i1), .val (.int (2 : Int32)), .val (.ref w1), .val (.int (0 : Int32)), .val (.int (0 : Int32)), .val (.int (0 : Int32))] [(.int (1 : Int32))])) _
        exact retN X32 hx (t := .boolean) Bd.returns (by simp) (hb hby at_79) hr
      · show Ql n0 _ T32.heap _
        exact ⟨rfl, N32⟩
    · obtain ⟨cq34, kq34, q34a, q34b, q34c⟩ := isOf hZ e26 (wE1.ext O0.2)
      obtain ⟨_, _, ⟨T34, L34, k34, n34⟩, -, X34, ⟨Lc34, hQ34, l34, y34, z34⟩, st34⟩ := X26.virtualBack hx (y := (⟨"com/example/seneschal/seneschal/model/EvaluationsSemantic", "stopsAfter", "(Z)Z"⟩ : MethodName)) (z := (⟨"com/example/seneschal/seneschal/model/EvaluationsSemantic", "stopsAfter", "(Z)Z"⟩ : MethodName)) hown (mvT hZ (hw _ (List.mem_of_getElem? (i := 8) rfl))) (mvT hZ (hw _ (List.mem_of_getElem? (i := 9) rfl))) (notFace_of_selects (args := #[]) (mvT hZ (hw _ (List.mem_of_getElem? (i := 11) rfl)))) (mvT hZ (hw _ (List.mem_of_getElem? (i := 11) rfl))) (mvT hZ (hw _ (List.mem_of_getElem? (i := 10) rfl))) (by decide) (backOf (W := 0) (rm12 l Z a0 hw [] w0 w1 w2 h0 n0 hWd O0) hZ (hw _ (List.mem_of_getElem? (i := 12) rfl)) (hw _ (List.mem_of_getElem? (i := 6) rfl)) (by decide) (by decide)) q34a q34c (g := (mkF m 28 #[.val (.int i0), .val (.int i1), .val (.int (2 : Int32)), .val (.ref w1), .val (.int (1 : Int32)), .unset, .unset] [(.int (1 : Int32)), (.ref w1)])) rfl (by rw [hml]; rfl) (Steps.refl _) (argsL := [(.int (1 : Int32))]) (rest := []) (lenOf pd2 rfl) rfl (by show 2 * 0 + _ ≤ _; exact Nat.le_of_eq rfl) (hb hby at_28) (fun _ _ => ⟨rfl, e26, (by decide : 0 + 0 ≤ _), (by decide : 0 + 0 ≤ _)⟩)
      dsimp only [Pt.U, Pt.locs, Pt.cells, Pt.slots] at X34 l34 y34 z34 st34 hQ34
      subst l34 y34 z34
      obtain ⟨rfl, N34q, e34⟩ := hQ34
      have N34 := Fr.app N26 N34q
      obtain ⟨fs, hr, hrun, hended, hWr, hsame⟩ := X34.leave (v := some (.int (1 : Int32))) (fun h => by rw [Bd.returns] at h; cases h)
      refine ⟨_, _, pre27 _ ?_, hrun, hended, _, _, rfl, ?_, ⟨_, rfl⟩, hWr, hsame.mono (Nat.le_of_ble_eq_true rfl) (Nat.le_of_ble_eq_true rfl)⟩
      · show Steps p.tables e below (T26.setTop (mkF m 14 #[.val (.int i0), .val (.int i1), .val (.int (2 : Int32)), .val (.ref w1), .unset, .unset, .unset] [(.int (1 : Int32)), (.int i1)])) _
        refine XS.iand X26.here hx rfl (hb hby at_14) rfl ?_
        show Steps p.tables e below (T26.setTop (mkF m 15 #[.val (.int i0), .val (.int i1), .val (.int (2 : Int32)), .val (.ref w1), .unset, .unset, .unset] [(.int (i1 &&& (1 : Int32)))])) _
        rw [hk29]
        show Steps p.tables e below (T26.setTop (mkF m 15 #[.val (.int i0), .val (.int i1), .val (.int (2 : Int32)), .val (.ref w1), .unset, .unset, .unset] [(.int (1 : Int32))])) _
        refine XS.ifNo X26.here hx rfl (hb hby at_15) rfl (by decide) ?_
        show Steps p.tables e below (T26.setTop (mkF m 18 #[.val (.int i0), .val (.int i1), .val (.int (2 : Int32)), .val (.ref w1), .unset, .unset, .unset] [])) _
        refine XS.iconst X26.here hx rfl (hb hby at_18) ?_
        show Steps p.tables e below (T26.setTop (mkF m 19 #[.val (.int i0), .val (.int i1), .val (.int (2 : Int32)), .val (.ref w1), .unset, .unset, .unset] [(.int (1 : Int32))])) _
        refine XS.goto X26.here hx rfl (pc0 := 19) (pc' := 23) rfl (hb hby at_19) (by decide) (by decide) ?_
        show Steps p.tables e below (T26.setTop (mkF m 23 #[.val (.int i0), .val (.int i1), .val (.int (2 : Int32)), .val (.ref w1), .unset, .unset, .unset] [(.int (1 : Int32))])) _
        refine XS.istore X26.here hx rfl (hb hby at_23) rfl (l' := #[.val (.int i0), .val (.int i1), .val (.int (2 : Int32)), .val (.ref w1), .val (.int (1 : Int32)), .unset, .unset]) rfl ?_
        show Steps p.tables e below (T26.setTop (mkF m 25 #[.val (.int i0), .val (.int i1), .val (.int (2 : Int32)), .val (.ref w1), .val (.int (1 : Int32)), .unset, .unset] [])) _
        refine XS.aloadN X26.here hx rfl (hb hby at_25) rfl rfl ?_
        show Steps p.tables e below (T26.setTop (mkF m 26 #[.val (.int i0), .val (.int i1), .val (.int (2 : Int32)), .val (.ref w1), .val (.int (1 : Int32)), .unset, .unset] [(.ref w1)])) _
        refine XS.iload X26.here hx rfl (hb hby at_26) rfl ?_
        show Steps p.tables e below (T26.setTop (mkF m 28 #[.val (.int i0), .val (.int i1), .val (.int (2 : Int32)), .val (.ref w1), .val (.int (1 : Int32)), .unset, .unset] [(.int (1 : Int32)), (.ref w1)])) _
        refine st34.trans ?_
        show Steps p.tables e below (T34.setTop (mkF m 31 #[.val (.int i0), .val (.int i1), .val (.int (2 : Int32)), .val (.ref w1), .val (.int (1 : Int32)), .unset, .unset] [(.int (1 : Int32))])) _
        refine XS.istore X34.here hx rfl (hb hby at_31) rfl (l' := #[.val (.int i0), .val (.int i1), .val (.int (2 : Int32)), .val (.ref w1), .val (.int (1 : Int32)), .val (.int (1 : Int32)), .unset]) rfl ?_
        show Steps p.tables e below (T34.setTop (mkF m 33 #[.val (.int i0), .val (.int i1), .val (.int (2 : Int32)), .val (.ref w1), .val (.int (1 : Int32)), .val (.int (1 : Int32)), .unset] [])) _
        refine XS.iloadN X34.here hx rfl (hb hby at_33) rfl ?_
        show Steps p.tables e below (T34.setTop (mkF m 34 #[.val (.int i0), .val (.int i1), .val (.int (2 : Int32)), .val (.ref w1), .val (.int (1 : Int32)), .val (.int (1 : Int32)), .unset] [(.int (2 : Int32))])) _
        refine XS.ifYes X34.here hx rfl (pc0 := 34) (pc' := 43) rfl (hb hby at_34) rfl (by decide) (by decide) (by decide) ?_
        show Steps p.tables e below (T34.setTop (mkF m 43 #[.val (.int i0), .val (.int i1), .val (.int (2 : Int32)), .val (.ref w1), .val (.int (1 : Int32)), .val (.int (1 : Int32)), .unset] [])) _
        refine XS.iloadN X34.here hx rfl (hb hby at_43) rfl ?_
        show Steps p.tables e below (T34.setTop (mkF m 44 #[.val (.int i0), .val (.int i1), .val (.int (2 : Int32)), .val (.ref w1), .val (.int (1 : Int32)), .val (.int (1 : Int32)), .unset] [(.int (2 : Int32))])) _
        refine XS.iconst X34.here hx rfl (hb hby at_44) ?_
        show Steps p.tables e below (T34.setTop (mkF m 45 #[.val (.int i0), .val (.int i1), .val (.int (2 : Int32)), .val (.ref w1), .val (.int (1 : Int32)), .val (.int (1 : Int32)), .unset] [(.int (1 : Int32)), (.int (2 : Int32))])) _
        refine XS.icmpYes X34.here hx rfl (pc0 := 45) (pc' := 63) rfl (hb hby at_45) rfl (by decide) (by decide) (by decide) ?_
        show Steps p.tables e below (T34.setTop (mkF m 63 #[.val (.int i0), .val (.int i1), .val (.int (2 : Int32)), .val (.ref w1), .val (.int (1 : Int32)), .val (.int (1 : Int32)), .unset] [])) _
        refine XS.iload X34.here hx rfl (hb hby at_63) rfl ?_
        show Steps p.tables e below (T34.setTop (mkF m 65 #[.val (.int i0), .val (.int i1), .val (.int (2 : Int32)), .val (.ref w1), .val (.int (1 : Int32)), .val (.int (1 : Int32)), .unset] [(.int (1 : Int32))])) _
        refine XS.istore X34.here hx rfl (hb hby at_65) rfl (l' := #[.val (.int i0), .val (.int i1), .val (.int (2 : Int32)), .val (.ref w1), .val (.int (1 : Int32)), .val (.int (1 : Int32)), .val (.int (1 : Int32))]) rfl ?_
        show Steps p.tables e below (T34.setTop (mkF m 67 #[.val (.int i0), .val (.int i1), .val (.int (2 : Int32)), .val (.ref w1), .val (.int (1 : Int32)), .val (.int (1 : Int32)), .val (.int (1 : Int32))] [])) _
        refine XS.iload X34.here hx rfl (hb hby at_67) rfl ?_
        show Steps p.tables e below (T34.setTop (mkF m 69 #[.val (.int i0), .val (.int i1), .val (.int (2 : Int32)), .val (.ref w1), .val (.int (1 : Int32)), .val (.int (1 : Int32)), .val (.int (1 : Int32))] [(.int (1 : Int32))])) _
        refine XS.iload X34.here hx rfl (hb hby at_69) rfl ?_
        show Steps p.tables e below (T34.setTop (mkF m 71 #[.val (.int i0), .val (.int i1), .val (.int (2 : Int32)), .val (.ref w1), .val (.int (1 : Int32)), .val (.int (1 : Int32)), .val (.int (1 : Int32))] [(.int (1 : Int32)), (.int (1 : Int32))])) _
        refine XS.icmpNo X34.here hx rfl (hb hby at_71) rfl (by decide) ?_
        show Steps p.tables e below (T34.setTop (mkF m 74 #[.val (.int i0), .val (.int i1), .val (.int (2 : Int32)), .val (.ref w1), .val (.int (1 : Int32)), .val (.int (1 : Int32)), .val (.int (1 : Int32))] [])) _
        refine XS.iconst X34.here hx rfl (hb hby at_74) ?_
        show Steps p.tables e below (T34.setTop (mkF m 75 #[.val (.int i0), .val (.int i1), .val (.int (2 : Int32)), .val (.ref w1), .val (.int (1 : Int32)), .val (.int (1 : Int32)), .val (.int (1 : Int32))] [(.int (1 : Int32))])) _
        refine XS.goto X34.here hx rfl (pc0 := 75) (pc' := 79) rfl (hb hby at_75) (by decide) (by decide) ?_
        show Steps p.tables e below (T34.setTop (mkF m 79 #[.val (.int i0), .val (.int i1), .val (.int (2 : Int32)), .val (.ref w1), .val (.int (1 : Int32)), .val (.int (1 : Int32)), .val (.int (1 : Int32))] [(.int (1 : Int32))])) _
        exact retN X34 hx (t := .boolean) Bd.returns (by simp) (hb hby at_79) hr
      · show Ql n0 _ T34.heap _
        exact ⟨rfl, N34⟩
set_option maxRecDepth 65536 in
set_option maxHeartbeats 40000000 in
theorem comes_1 {Post : Tables → Env → Array Value → State → Outcome → State → Prop} (hpost : ∀ tb e args s v u, (limb_1_1.after args s (.returned v) u = true ∧ limb_1_2.after args s (.returned v) u = true ∧ True) → FrameEnd s (.returned v) u (Jvm.fieldLocs frame_1_writes args s ++ Jvm.arrayLocs frame_1_arrays args s ++ Jvm.staticLocs frame_1_statics s) 0 0 → Post tb e args s (.returned v) u) :
    ArmFor flags0 classFile x code maxLocals ret World_1 tables_1 room_1 Calls_1 rest_1 Pre_1 Post := by
  intro l hfl _ _ p e ha hc hk s m args below hf hA hF happ hP
  obtain ⟨hcalls, hrest, hpre⟩ := hP
  obtain ⟨-, -, -, hnamed, -, -, -, hat⟩ := (Spec.applies_iff hf).mp happ
  obtain ⟨hg, hn⟩ := and_e (Cond.before_iff.mp (show (Jvm.Cond.and given_1 narrow_1).before args s = true from hpre))
  obtain ⟨gc, g0⟩ := and_e hg
  obtain ⟨ga0, g1⟩ := and_e g0
  obtain ⟨x0, x1, rfl⟩ : ∃ x0 x1 : Value, args = #[x0, x1] := by
    have hs : args.size = 2 := by simpa [Cond.value, given_1] using gc
    obtain ⟨L⟩ := args
    match L, hs with
    | [x0, x1], _ => exact ⟨x0, x1, rfl⟩
  have hw := fun d (hd : d ∈ tables_1) => atoms_spec (ws := Jvm.Cond.code x code maxLocals ret :: tables_1) hat d (List.mem_cons_of_mem _ hd)
  have hfit : Fit s := fun {y c} hc i hi => by
    obtain ⟨ha, rfl⟩ := Array.getElem?_eq_some_iff.mp hc
    have q := List.all_eq_true.mp ((Array.all_eq_true_iff_forall_mem.mp hF) _ (Array.getElem_mem ha)) i (List.mem_range.mpr hi)
    simpa [Array.getElem?_eq_getElem hi] using q
  obtain ⟨i0, ei0⟩ := is_v ga0
  obtain rfl : x0 = (.int i0) := Option.some.inj ei0
  obtain ⟨i1, ei1⟩ := is_v g1
  obtain rfl : x1 = (.int i1) := Option.some.inj ei1
  obtain ⟨c0, r0⟩ := and_e hn
  obtain ⟨c1, r1⟩ := and_e r0
  obtain ⟨c2, r2⟩ := and_e r1
  obtain ⟨c3, r3⟩ := and_e r2
  obtain ⟨c4, r4⟩ := and_e r3
  obtain ⟨w0, ev0⟩ := exa_v c0
  have wE0 : Exa s s.heap w0 "com/example/seneschal/seneschal/model/EvaluationsSemantic" := Exa.start ev0 c0
  have wS0 : Sta s s.heap "com/example/seneschal/seneschal/model/EvaluationsSemantic" "EXECUTE_ALL" "Lcom/example/seneschal/seneschal/model/EvaluationsSemantic;" (.ref w0) := Sta.start ev0 (Or.inr ⟨(hw _ (List.mem_of_getElem? (i := 6) rfl)), (hw _ (List.mem_of_getElem? (i := 7) rfl))⟩)
  obtain ⟨w1, ev1⟩ := exa_v c2
  have wE1 : Exa s s.heap w1 "com/example/seneschal/seneschal/model/EvaluationsSemantic" := Exa.start ev1 c2
  have wS1 : Sta s s.heap "com/example/seneschal/seneschal/model/EvaluationsSemantic" "PERMIT_ON_FIRST_PERMIT" "Lcom/example/seneschal/seneschal/model/EvaluationsSemantic;" (.ref w1) := Sta.start ev1 (Or.inr ⟨(hw _ (List.mem_of_getElem? (i := 6) rfl)), (hw _ (List.mem_of_getElem? (i := 23) rfl))⟩)
  obtain ⟨w2, ev2⟩ := exa_v c4
  have wE2 : Exa s s.heap w2 "com/example/seneschal/seneschal/model/EvaluationsSemantic" := Exa.start ev2 c4
  have wS2 : Sta s s.heap "com/example/seneschal/seneschal/model/EvaluationsSemantic" "DENY_ON_FIRST_DENY" "Lcom/example/seneschal/seneschal/model/EvaluationsSemantic;" (.ref w2) := Sta.start ev2 (Or.inr ⟨(hw _ (List.mem_of_getElem? (i := 6) rfl)), (hw _ (List.mem_of_getElem? (i := 25) rfl))⟩)
  have wF0_ordinal : Fld s s.heap w0 "java/lang/Enum" "ordinal" "I" (.int (0 : Int32)) := Fld.start ((fld_at ev0).symm.trans (eqv_i (Term.int_eval _) c1))
  have wF1_ordinal : Fld s s.heap w1 "java/lang/Enum" "ordinal" "I" (.int (2 : Int32)) := Fld.start ((fld_at ev1).symm.trans (eqv_i (Term.int_eval _) c3))
  have wF2_ordinal : Fld s s.heap w2 "java/lang/Enum" "ordinal" "I" (.int (1 : Int32)) := Fld.start ((fld_at ev2).symm.trans (eqv_i (Term.int_eval _) r4))
  have hWd : Wd s w0 w1 w2 := ⟨wS0, wE0, wS1, wE1, wS2, wE2, wF0_ordinal, wF1_ordinal, wF2_ordinal, trivial⟩
  obtain ⟨n, o, h1, h2, h3, _, L, rfl, ⟨rfl, N⟩, hq⟩ := rm0 l s _ hw tables_1 w0 w1 w2 i0 i1 s.heap s.heap.size hWd (Old.start s) p e ha hc hk s m _ below hf ((Spec.applies_iff_loose hf).mp happ).1 ⟨rfl, State.Warmed39.refl s, rfl⟩ trivial
  exact ⟨n, _, h1, h2, h3, hpost _ _ _ _ _ _ ⟨Cond.after_iff.mpr rfl, Cond.after_iff.mpr (eq_i res_at (Term.int_eval (1)) rfl), trivial⟩ ⟨hq.1, hq.2.1, (hq.2.2.sift fun y hy => Or.inr (N y hy)).mono (by decide) (by decide)⟩⟩
theorem main_1_1 : Claimed_1_1 := comes_1 fun _ _ _ _ _ _ h hF => ⟨h.1, hF⟩
theorem main_1_2 : Claimed_1_2 := comes_1 fun _ _ _ _ _ _ h hF => ⟨h.2.1, hF⟩
end Jvm.Pilot.@@N@@
namespace Jvm.Pilot.@@N@@
open Jvm Jvm.ClassFile Sem Op Lib Jvm.Free Jvm.Stand Jvm.Pilot.@@N@@.Jvm.D
/-! MADE BY PROGRAM (witnessworld.py) out of the Statement's table words and the real class files: 12 classes; the members and pool entries that the words name. The judged class is class 1, her method 2. -/
namespace start1
open Jvm.ClassFile
def u (s : String) : CpInfo := .utf8 (stringToUtf16 s)
/-- a pool by its gaps: so many unusable entries, then the entry; so many at the end -/
def gap : Nat → List CpInfo → List CpInfo
  | 0, r => r
  | n + 1, r => .unusable :: gap n r
def poolList (es : List (Nat × CpInfo)) (last : Nat) : List CpInfo := es.foldr (fun e r => gap e.1 (e.2 :: r)) (gap last [])
def pool (es : List (Nat × CpInfo)) (last : Nat) : Array CpInfo := ⟨poolList es last⟩
def fileOf (pool : Array CpInfo) (this : Nat) (attrs : Array Attribute := #[]) (ms : Array MethodInfo := #[]) (fl : Nat := 33) (sup : Nat := 0) (ifs : Array Nat := #[]) (fds : Array FieldInfo := #[]) : ClassFile where
  minorVersion := 0
  majorVersion := 65
  constantPool := pool
  accessFlags := fl
  thisClass := this
  superClass := sup
  interfaces := ifs
  fields := fds
  methods := ms
  attributes := attrs
def plain (name : String) (sup : Option ClassId) : Class where
  name := name
  kind := .ordinary
  loader := none
  accessFlags := 33
  super := sup
  interfaces := #[]
  cf := none
  fields := #[]
  methods := #[]
  instanceTypes := #[]
  staticTypes := #[]
  resolved := #[]
  callSites := []
  init := .initialized
  statics := none
  mirror := none

def pool0 : Array CpInfo := pool [(5, u "<init>"), (0, u "()V"), (1, .class_ 10), (1, u "java/lang/Object")] 113

def k0m0 : Method := { name := "<init>", desc := "()V", sig := { parameters := [], returnType := none }, accessFlags := 1, code := none }
/-- java/lang/Object -/
def k0 : Class := { plain "java/lang/Object" none with
  accessFlags := 33
  interfaces := #[]
  cf := some (fileOf pool0 8 #[] #[{ accessFlags := 1, nameIndex := 5, descriptorIndex := 6, attributes := #[] }] 33 0 #[] #[])
  fields := #[]
  methods := #[k0m0]
  instanceTypes := #[]
  staticTypes := #[]
  resolved := Array.replicate 124 none
  statics := none }

def pool1 : Array CpInfo := pool [(2, .class_ 4), (1, u "java/lang/Object"), (0, u "<init>"), (0, u "()V"), (0, .fieldref 8 9), (0, .class_ 10), (0, .nameAndType 11 12), (0, u "com/example/seneschal/seneschal/model/EvaluationsSemantic"), (0, u "EXECUTE_ALL"), (0, u "Lcom/example/seneschal/seneschal/model/EvaluationsSemantic;"), (0, .fieldref 8 14), (0, .nameAndType 15 12), (0, u "DENY_ON_FIRST_DENY"), (0, .fieldref 8 17), (0, .nameAndType 18 12), (0, u "PERMIT_ON_FIRST_PERMIT"), (0, .integer 2147483647), (0, .methodref 21 22), (0, .class_ 23), (0, .nameAndType 24 25), (0, u "com/example/seneschal/seneschal/model/EvaluationsSemanticStopsAfterPinLaw"), (0, u "pick"), (0, u "(I)Lcom/example/seneschal/seneschal/model/EvaluationsSemantic;"), (0, .methodref 8 27), (0, .nameAndType 28 29), (0, u "stopsAfter"), (0, u "(Z)Z"), (3, u "law"), (0, u "(II)Z")] 2

def k1m0 : Method := { name := "<init>", desc := "()V", sig := { parameters := [], returnType := none }, accessFlags := 2, code := none }
def k1c1 : Code := { maxStack := 2, maxLocals := 1, code := method_2_code, exceptionTable := #[], attributes := #[] }
def k1m1 : Method := { name := "pick", desc := "(I)Lcom/example/seneschal/seneschal/model/EvaluationsSemantic;", sig := { parameters := [.int], returnType := some (.object "com/example/seneschal/seneschal/model/EvaluationsSemantic") }, accessFlags := 10, code := some k1c1 }
def k1c2 : Code := { maxStack := 2, maxLocals := 7, code := code, exceptionTable := #[], attributes := #[] }
def k1m2 : Method := { name := "law", desc := "(II)Z", sig := { parameters := [.int, .int], returnType := some .boolean }, accessFlags := 9, code := some k1c2 }
/-- com/example/seneschal/seneschal/model/EvaluationsSemanticStopsAfterPinLaw -/
def k1 : Class := { plain "com/example/seneschal/seneschal/model/EvaluationsSemanticStopsAfterPinLaw" (some 0) with
  accessFlags := 49
  interfaces := #[]
  cf := some (fileOf pool1 21 #[] #[{ accessFlags := 2, nameIndex := 5, descriptorIndex := 6, attributes := #[] }, { accessFlags := 10, nameIndex := 24, descriptorIndex := 25, attributes := #[] }, { accessFlags := 9, nameIndex := 33, descriptorIndex := 34, attributes := #[] }] 49 2 #[] #[])
  fields := #[]
  methods := #[k1m0, k1m1, k1m2]
  instanceTypes := #[]
  staticTypes := #[]
  resolved := Array.replicate 37 none
  statics := none }

def pool2 : Array CpInfo := pool [(1, .class_ 2), (0, u "java/lang/constant/Constable"), (0, .class_ 4), (0, u "java/lang/Object")] 6

/-- java/lang/constant/Constable -/
def k2 : Class := { plain "java/lang/constant/Constable" (some 0) with
  accessFlags := 1537
  interfaces := #[]
  cf := some (fileOf pool2 1 #[] #[] 1537 3 #[] #[])
  fields := #[]
  methods := #[]
  instanceTypes := #[]
  staticTypes := #[]
  resolved := Array.replicate 11 none
  statics := none }

def pool3 : Array CpInfo := pool [(1, .class_ 2), (0, u "java/lang/Comparable"), (0, .class_ 4), (0, u "java/lang/Object")] 7

/-- java/lang/Comparable -/
def k3 : Class := { plain "java/lang/Comparable" (some 0) with
  accessFlags := 1537
  interfaces := #[]
  cf := some (fileOf pool3 1 #[] #[] 1537 3 #[] #[])
  fields := #[]
  methods := #[]
  instanceTypes := #[]
  staticTypes := #[]
  resolved := Array.replicate 12 none
  statics := none }

def pool4 : Array CpInfo := pool [(1, .class_ 2), (0, u "java/io/Serializable"), (0, .class_ 4), (0, u "java/lang/Object")] 2

/-- java/io/Serializable -/
def k4 : Class := { plain "java/io/Serializable" (some 0) with
  accessFlags := 1537
  interfaces := #[]
  cf := some (fileOf pool4 1 #[] #[] 1537 3 #[] #[])
  fields := #[]
  methods := #[]
  instanceTypes := #[]
  staticTypes := #[]
  resolved := Array.replicate 7 none
  statics := none }

def pool5 : Array CpInfo := pool [(2, .class_ 4), (1, u "java/lang/Enum"), (0, u "name"), (0, u "Ljava/lang/String;"), (0, .fieldref 2 8), (0, .nameAndType 9 10), (0, u "ordinal"), (0, u "I"), (1, .class_ 14), (1, u "java/lang/Object"), (4, u "hash"), (86, .class_ 108), (1, u "java/lang/Enum$EnumDesc"), (2, .class_ 112), (0, u "java/lang/constant/Constable"), (0, .class_ 114), (0, u "java/lang/Comparable"), (0, .class_ 116), (0, u "java/io/Serializable"), (9, u "()I")] 77

def k5c0 : Code := { maxStack := 1, maxLocals := 1, code := jdk_37_method_2_code, exceptionTable := #[], attributes := #[] }
def k5m0 : Method := { name := "ordinal", desc := "()I", sig := { parameters := [], returnType := some .int }, accessFlags := 17, code := some k5c0 }
/-- java/lang/Enum -/
def k5 : Class := { plain "java/lang/Enum" (some 0) with
  accessFlags := 1057
  interfaces := #[2, 3, 4]
  cf := some (fileOf pool5 2 #[.nestMembers #[106]] #[{ accessFlags := 17, nameIndex := 9, descriptorIndex := 126, attributes := #[] }] 1057 12 #[111, 113, 115] #[{ accessFlags := 18, nameIndex := 5, descriptorIndex := 6, attributes := #[] }, { accessFlags := 18, nameIndex := 9, descriptorIndex := 10, attributes := #[] }, { accessFlags := 2, nameIndex := 19, descriptorIndex := 10, attributes := #[] }])
  fields := #[{ name := "name", type := (.object "java/lang/String"), accessFlags := 18, slot := 0, constantValue := 0 }, { name := "ordinal", type := .int, accessFlags := 18, slot := 1, constantValue := 0 }, { name := "hash", type := .int, accessFlags := 2, slot := 2, constantValue := 0 }]
  methods := #[k5m0]
  instanceTypes := #[(.object "java/lang/String"), .int, .int]
  staticTypes := #[]
  resolved := Array.replicate 204 none
  statics := none }

def pool6 : Array CpInfo := pool [(1, .class_ 2), (0, u "com/example/seneschal/seneschal/model/EvaluationsSemantic"), (2, u "EXECUTE_ALL"), (0, u "Lcom/example/seneschal/seneschal/model/EvaluationsSemantic;"), (2, u "DENY_ON_FIRST_DENY"), (2, u "PERMIT_ON_FIRST_PERMIT"), (2, u "$VALUES"), (0, u "[Lcom/example/seneschal/seneschal/model/EvaluationsSemantic;"), (6, .class_ 25), (1, u "java/lang/Enum"), (8, u "spelling"), (0, u "Ljava/lang/String;"), (0, .methodref 1 37), (0, .nameAndType 38 39), (0, u "ordinal"), (0, u "()I"), (29, u "stopsAfter"), (0, u "(Z)Z")] 6

def k6c0 : Code := { maxStack := 4, maxLocals := 2, code := prog_36_method_5_code, exceptionTable := #[], attributes := #[] }
def k6m0 : Method := { name := "stopsAfter", desc := "(Z)Z", sig := { parameters := [.boolean], returnType := some .boolean }, accessFlags := 1, code := some k6c0 }
/-- com/example/seneschal/seneschal/model/EvaluationsSemantic -/
def k6 : Class := { plain "com/example/seneschal/seneschal/model/EvaluationsSemantic" (some 5) with
  accessFlags := 16433
  interfaces := #[]
  cf := some (fileOf pool6 1 #[] #[{ accessFlags := 1, nameIndex := 69, descriptorIndex := 70, attributes := #[] }] 16433 23 #[] #[{ accessFlags := 16409, nameIndex := 5, descriptorIndex := 6, attributes := #[] }, { accessFlags := 16409, nameIndex := 9, descriptorIndex := 6, attributes := #[] }, { accessFlags := 16409, nameIndex := 12, descriptorIndex := 6, attributes := #[] }, { accessFlags := 18, nameIndex := 34, descriptorIndex := 35, attributes := #[] }, { accessFlags := 4122, nameIndex := 15, descriptorIndex := 16, attributes := #[] }])
  fields := #[{ name := "EXECUTE_ALL", type := (.object "com/example/seneschal/seneschal/model/EvaluationsSemantic"), accessFlags := 16409, slot := 0, constantValue := 0 }, { name := "DENY_ON_FIRST_DENY", type := (.object "com/example/seneschal/seneschal/model/EvaluationsSemantic"), accessFlags := 16409, slot := 1, constantValue := 0 }, { name := "PERMIT_ON_FIRST_PERMIT", type := (.object "com/example/seneschal/seneschal/model/EvaluationsSemantic"), accessFlags := 16409, slot := 2, constantValue := 0 }, { name := "spelling", type := (.object "java/lang/String"), accessFlags := 18, slot := 3, constantValue := 0 }, { name := "$VALUES", type := (.array (.object "com/example/seneschal/seneschal/model/EvaluationsSemantic")), accessFlags := 4122, slot := 3, constantValue := 0 }]
  methods := #[k6m0]
  instanceTypes := #[(.object "java/lang/String"), .int, .int, (.object "java/lang/String")]
  staticTypes := #[(.object "com/example/seneschal/seneschal/model/EvaluationsSemantic"), (.object "com/example/seneschal/seneschal/model/EvaluationsSemantic"), (.object "com/example/seneschal/seneschal/model/EvaluationsSemantic"), (.array (.object "com/example/seneschal/seneschal/model/EvaluationsSemantic"))]
  resolved := Array.replicate 77 none
  statics := some 0 }

def pool7 : Array CpInfo := pool [(1, u "java/lang/Cloneable"), (0, .class_ 1), (0, u "java/lang/Object"), (0, .class_ 3)] 3

/-- java/lang/Cloneable -/
def k7 : Class := { plain "java/lang/Cloneable" (some 0) with
  accessFlags := 1537
  interfaces := #[]
  cf := some (fileOf pool7 2 #[] #[] 1537 4 #[] #[])
  fields := #[]
  methods := #[]
  instanceTypes := #[]
  staticTypes := #[]
  resolved := Array.replicate 8 none
  statics := none }

/-- the primitive byte -/
def k8 : Class := { plain "byte" none with kind := .primitive 'B', accessFlags := 0x411 }
/-- [B -/
def k9 : Class := { plain "[B" (some 0) with kind := .array 8 .byte, interfaces := #[7, 4], accessFlags := 1041 }

/-- the primitive int -/
def k10 : Class := { plain "int" none with kind := .primitive 'I', accessFlags := 0x411 }
/-- [I -/
def k11 : Class := { plain "[I" (some 0) with kind := .array 10 .int, interfaces := #[7, 4], accessFlags := 1041 }

def heap : Heap := #[{ cls := 6, slots := #[.ref 1, .ref 3, .ref 2, .null], vm := .statics 6 },
  { cls := 6, slots := #[.null, .int 0, .int 0, .null], vm := .none },
  { cls := 6, slots := #[.null, .int 2, .int 0, .null], vm := .none },
  { cls := 6, slots := #[.null, .int 1, .int 0, .null], vm := .none }]
def classes : Array Class := #[k0, k1, k2, k3, k4, k5, k6, k7, k8, k9, k10, k11]
def interned : List (Array UInt16 × Addr) := []
def slotsUsed : Nat := 16
def theMethod : MethodId := ⟨1, 2⟩
def args0 : Array Value := #[.int 5, .int 5]
def aboutOver (below : List Frame) : State where
  vm := { classes := classes, interned := interned.toArray }
  heap := heap
  slotsUsed := slotsUsed
  threads := #[{ frames := .invoking theMethod args0 :: below }]
def below0 : List Frame := [.native { method := ⟨0, 0⟩, args := #[] }]
def about1 : State := aboutOver below0
def p0 : Program := .bare "" "" ""
def e0 : Env := launch0.env 0 0 0
theorem w_frames : about1.frames = Frame.invoking theMethod args0 :: below0 := rfl
set_option maxRecDepth 65536 in
theorem w_args : argsFit about1.vm theMethod args0 = true := by decide +kernel
set_option maxRecDepth 65536 in
theorem w_heap : heapFits about1 = true := by decide +kernel
set_option maxRecDepth 65536 in
theorem w_runnable : about1.curStatus? = some .runnable := by decide +kernel
set_option maxRecDepth 65536 in
theorem w_alone : about1.alone = true := by decide +kernel
set_option maxRecDepth 65536 in
theorem w_named : about1.methodNamed? x = some theMethod := by decide +kernel
set_option maxRecDepth 65536 in
theorem w_hears : about1.hears theMethod below0 = true := by decide +kernel
set_option maxRecDepth 65536 in
theorem w_ripe : about1.ripe theMethod args0 below0 = true := by decide +kernel
theorem w_running : about1.status = .running := rfl
set_option maxRecDepth 65536 in
theorem w_room : about1.hasRoom e0.platform room_1 = true :=
  launch0.hasRoom_least _ room_1 (by decide +kernel) (by decide +kernel) (by decide +kernel) (by decide +kernel) (by decide +kernel) (by decide +kernel)
theorem allAtoms_all (ts : List Jvm.Cond) (a : Array Jvm.Value) (st : Jvm.State) : (allAtoms ts).before a st = ts.all (fun c => c.before a st) := by
  induction ts with
  | nil => rfl
  | cons c t ih =>
    show (Jvm.Cond.and c (allAtoms t)).before a st = _
    rw [Jvm.Cond.before_and, ih, List.all_cons]
def words1 : List Jvm.Cond := Jvm.Cond.code x code maxLocals ret :: tables_1
/-- a 'code' word, met by the world's own term for the bytes: nothing is compared byte by byte -/
theorem code_word {y : MethodName} {bytes : ByteArray} {mx : Nat} {rt : Option FieldType} {a : Array Value} {s : State} {m : MethodId} {meth : Method} {c : Code} (h1 : s.methodNamed? y = some m) (h2 : s.vm.method? m = some meth) (h3 : meth.code = some c) (h4 : c.code = bytes)
    (h5 : (c.maxLocals == mx && c.exceptionTable.isEmpty && decide (c.maxStack ≤ mostOperands) && decide (meth.sig.returnType = rt) && !meth.locks && decide (parseMethodDescriptor y.desc = some meth.sig)) = true) : (Jvm.Cond.code y bytes mx rt).before a s = true := by
  simp only [Bool.and_eq_true, beq_iff_eq, Bool.not_eq_true', decide_eq_true_eq] at h5
  obtain ⟨⟨⟨⟨⟨g1, g2⟩, g3⟩, g4⟩, g5⟩, g6⟩ := h5
  simp [Cond.before, Cond.holds, Cond.value, h1, h2, h3, h4, g1, g2, g3, g4, g5, g6]
def isCode : Jvm.Cond → Bool
  | .code _ _ _ _ => true
  | _ => false
theorem all_split {L : List Jvm.Cond} {P : Jvm.Cond → Bool} (h1 : L.all (fun c => isCode c || P c) = true) (h2 : ∀ c ∈ L.filter isCode, P c = true) : L.all P = true := by
  refine List.all_eq_true.mpr fun c hc => ?_
  have h := List.all_eq_true.mp h1 c hc
  rcases Bool.eq_false_or_eq_true (isCode c) with hi | hi
  · exact h2 c (List.mem_filter.mpr ⟨hc, hi⟩)
  · simpa [hi] using h
set_option maxRecDepth 65536 in
theorem w_c0 : (Jvm.Cond.code x code maxLocals ret).before args0 about1 = true := code_word (m := ⟨1, 2⟩) (meth := k1m2) (c := k1c2) (by decide +kernel) rfl rfl rfl (by decide +kernel)
set_option maxRecDepth 65536 in
theorem w_c1 : (Jvm.Cond.code ({ cls := "com/example/seneschal/seneschal/model/EvaluationsSemanticStopsAfterPinLaw", name := "pick", desc := "(I)Lcom/example/seneschal/seneschal/model/EvaluationsSemantic;" } : Jvm.MethodName) method_2_code (1 : Nat) (Option.some (Jvm.ClassFile.FieldType.object "com/example/seneschal/seneschal/model/EvaluationsSemantic"))).before args0 about1 = true := code_word (m := ⟨1, 1⟩) (meth := k1m1) (c := k1c1) (by decide +kernel) rfl rfl rfl (by decide +kernel)
set_option maxRecDepth 65536 in
theorem w_c2 : (Jvm.Cond.code ({ cls := "com/example/seneschal/seneschal/model/EvaluationsSemantic", name := "stopsAfter", desc := "(Z)Z" } : Jvm.MethodName) prog_36_method_5_code (2 : Nat) (Option.some Jvm.ClassFile.FieldType.boolean)).before args0 about1 = true := code_word (m := ⟨6, 0⟩) (meth := k6m0) (c := k6c0) (by decide +kernel) rfl rfl rfl (by decide +kernel)
set_option maxRecDepth 65536 in
theorem w_c3 : (Jvm.Cond.code ({ cls := "java/lang/Enum", name := "ordinal", desc := "()I" } : Jvm.MethodName) jdk_37_method_2_code (1 : Nat) (Option.some Jvm.ClassFile.FieldType.int)).before args0 about1 = true := code_word (m := ⟨5, 0⟩) (meth := k5m0) (c := k5c0) (by decide +kernel) rfl rfl rfl (by decide +kernel)
def codes1 : List Jvm.Cond := [Jvm.Cond.code x code maxLocals ret, Jvm.Cond.code ({ cls := "com/example/seneschal/seneschal/model/EvaluationsSemanticStopsAfterPinLaw", name := "pick", desc := "(I)Lcom/example/seneschal/seneschal/model/EvaluationsSemantic;" } : Jvm.MethodName) method_2_code (1 : Nat) (Option.some (Jvm.ClassFile.FieldType.object "com/example/seneschal/seneschal/model/EvaluationsSemantic")), Jvm.Cond.code ({ cls := "com/example/seneschal/seneschal/model/EvaluationsSemantic", name := "stopsAfter", desc := "(Z)Z" } : Jvm.MethodName) prog_36_method_5_code (2 : Nat) (Option.some Jvm.ClassFile.FieldType.boolean), Jvm.Cond.code ({ cls := "java/lang/Enum", name := "ordinal", desc := "()I" } : Jvm.MethodName) jdk_37_method_2_code (1 : Nat) (Option.some Jvm.ClassFile.FieldType.int)]
set_option maxRecDepth 65536 in
theorem codes_eq : words1.filter isCode = codes1 := rfl
theorem w_codes : ∀ c ∈ words1.filter isCode, c.before args0 about1 = true := by
  rw [codes_eq]
  intro c hc
  simp only [codes1, List.mem_cons, List.not_mem_nil, or_false] at hc
  rcases hc with rfl | rfl | rfl | rfl
  · exact w_c0
  · exact w_c1
  · exact w_c2
  · exact w_c3
set_option maxRecDepth 65536 in
theorem w_t1 : (words1.take 24).all (fun c => isCode c || c.before args0 about1) = true := by decide +kernel
set_option maxRecDepth 65536 in
theorem w_t2 : (words1.drop 24).all (fun c => isCode c || c.before args0 about1) = true := by decide +kernel
theorem w_tables : (allAtoms (Jvm.Cond.code x code maxLocals ret :: tables_1)).before args0 about1 = true := by
  rw [allAtoms_all]
  show words1.all (fun c => c.before args0 about1) = true
  refine all_split ?_ w_codes
  rw [← List.take_append_drop 24 words1, List.all_append, w_t1, w_t2]
  rfl
set_option maxRecDepth 65536 in
theorem w_case : (Jvm.Cond.and given_1 narrow_1).before args0 about1 = true := by decide +kernel
theorem w_applies : (headSpec (Jvm.Cond.code x code maxLocals ret :: tables_1) room_1).applies x e0.platform about1 = true :=
  (Spec.applies_iff w_frames).mpr ⟨w_running, w_runnable, w_alone, w_named, w_hears, w_ripe, w_room, w_tables⟩
theorem atStart : AtStart classFile x code maxLocals ret World_1 tables_1 room_1 Calls_1 rest_1 Pre_1 launch0 p0 e0 about1 theMethod args0 below0 :=
  ⟨lists_1, trivial, launch0.admits_env _ _ _, launch0.least_env, fairChoices_fair.cas, fairChoices_fair.clock, w_frames, w_args, w_heap, w_applies, trivial, trivial, w_case⟩
end start1
theorem witness_1 : WitnessClaimed_1 := ⟨start1.p0, start1.e0, start1.about1, start1.theMethod, start1.args0, start1.below0, start1.atStart⟩
end Jvm.Pilot.@@N@@
