import JvmDerived
import JvmDerived.Pilot.@@N@@Statement
import JvmDerived.Pilot.@@N@@Code
set_option linter.unusedVariables false
set_option linter.unusedSimpArgs false
namespace Jvm.Pilot.@@N@@
open Jvm Jvm.ClassFile Sem Op Lib Jvm.Free Jvm.Stand Jvm.LawKit Jvm.RoadKit Bundle Jvm.Pilot.@@N@@.Jvm.D
theorem own_ofNat {y : Int32} {n : Nat} (h : y.toBitVec.toNat = n) : y = Int32.ofNat n := by
  subst h
  apply Int32.toBitVec_inj.mp
  apply BitVec.eq_of_toNat_eq
  simp
theorem own_and_le (x m : Int32) : (x &&& m).toBitVec.toNat ≤ m.toBitVec.toNat := by
  rw [Int32.toBitVec_and, BitVec.toNat_and]; exact Nat.and_le_right
theorem own_nonneg (x : Int32) : 0 ≤ (x &&& (2147483647 : Int32)).toInt := by
  have h := own_and_le x 2147483647
  have e : (2147483647 : Int32).toBitVec.toNat = 2147483647 := by decide
  rw [e] at h
  have : (x &&& (2147483647 : Int32)).toInt = (x &&& (2147483647 : Int32)).toBitVec.toInt := rfl
  rw [this, BitVec.toInt_eq_toNat_cond, if_pos (by omega)]
  omega
theorem own_rem_8 (x : Int32) : ((x &&& (2147483647 : Int32)) % (8 : Int32)) = (0 : Int32) ∨ ((x &&& (2147483647 : Int32)) % (8 : Int32)) = (1 : Int32) ∨ ((x &&& (2147483647 : Int32)) % (8 : Int32)) = (2 : Int32) ∨ ((x &&& (2147483647 : Int32)) % (8 : Int32)) = (3 : Int32) ∨ ((x &&& (2147483647 : Int32)) % (8 : Int32)) = (4 : Int32) ∨ ((x &&& (2147483647 : Int32)) % (8 : Int32)) = (5 : Int32) ∨ ((x &&& (2147483647 : Int32)) % (8 : Int32)) = (6 : Int32) ∨ ((x &&& (2147483647 : Int32)) % (8 : Int32)) = (7 : Int32) := by
  have h := own_nonneg x
  generalize x &&& (2147483647 : Int32) = y at h ⊢
  have e : (y % (8 : Int32)).toInt = y.toInt.tmod 8 := by rw [Int32.toInt_mod]; rfl
  have e1 : y.toInt.tmod 8 = y.toInt % 8 := Int.tmod_eq_emod_of_nonneg h
  have q : (y % (8 : Int32)).toInt = 0 ∨ (y % (8 : Int32)).toInt = 1 ∨ (y % (8 : Int32)).toInt = 2 ∨ (y % (8 : Int32)).toInt = 3 ∨ (y % (8 : Int32)).toInt = 4 ∨ (y % (8 : Int32)).toInt = 5 ∨ (y % (8 : Int32)).toInt = 6 ∨ (y % (8 : Int32)).toInt = 7 := by omega
  rcases q with q | q | q | q | q | q | q | q
  · exact Or.inl (Int32.toInt_inj.mp (q.trans (by decide)))
  · exact Or.inr (Or.inl (Int32.toInt_inj.mp (q.trans (by decide))))
  · exact Or.inr (Or.inr (Or.inl (Int32.toInt_inj.mp (q.trans (by decide)))))
  · exact Or.inr (Or.inr (Or.inr (Or.inl (Int32.toInt_inj.mp (q.trans (by decide))))))
  · exact Or.inr (Or.inr (Or.inr (Or.inr (Or.inl (Int32.toInt_inj.mp (q.trans (by decide)))))))
  · exact Or.inr (Or.inr (Or.inr (Or.inr (Or.inr (Or.inl (Int32.toInt_inj.mp (q.trans (by decide))))))))
  · exact Or.inr (Or.inr (Or.inr (Or.inr (Or.inr (Or.inr (Or.inl (Int32.toInt_inj.mp (q.trans (by decide)))))))))
  · exact Or.inr (Or.inr (Or.inr (Or.inr (Or.inr (Or.inr (Or.inr (Int32.toInt_inj.mp (q.trans (by decide)))))))))
def Wd (Z : State) (w0 w1 w2 w3 w4 w5 w6 w7 : Addr) : Prop := Sta Z Z.heap "com/example/policy_to_map/policytomap/core/Mechanism" "NONE" "Lcom/example/policy_to_map/policytomap/core/Mechanism;" (.ref w0) ∧ Exa Z Z.heap w0 "com/example/policy_to_map/policytomap/core/Mechanism" ∧ Sta Z Z.heap "com/example/policy_to_map/policytomap/core/Mechanism" "ZOOM_IN" "Lcom/example/policy_to_map/policytomap/core/Mechanism;" (.ref w1) ∧ Exa Z Z.heap w1 "com/example/policy_to_map/policytomap/core/Mechanism" ∧ Sta Z Z.heap "com/example/policy_to_map/policytomap/core/Mechanism" "PIXELIZE" "Lcom/example/policy_to_map/policytomap/core/Mechanism;" (.ref w2) ∧ Exa Z Z.heap w2 "com/example/policy_to_map/policytomap/core/Mechanism" ∧ Sta Z Z.heap "com/example/policy_to_map/policytomap/core/Mechanism" "BLUR" "Lcom/example/policy_to_map/policytomap/core/Mechanism;" (.ref w3) ∧ Exa Z Z.heap w3 "com/example/policy_to_map/policytomap/core/Mechanism" ∧ Sta Z Z.heap "com/example/policy_to_map/policytomap/core/Mechanism" "MASK" "Lcom/example/policy_to_map/policytomap/core/Mechanism;" (.ref w4) ∧ Exa Z Z.heap w4 "com/example/policy_to_map/policytomap/core/Mechanism" ∧ Sta Z Z.heap "com/example/policy_to_map/policytomap/core/Mechanism" "PASTE" "Lcom/example/policy_to_map/policytomap/core/Mechanism;" (.ref w5) ∧ Exa Z Z.heap w5 "com/example/policy_to_map/policytomap/core/Mechanism" ∧ Sta Z Z.heap "com/example/policy_to_map/policytomap/core/Mechanism" "HIDE" "Lcom/example/policy_to_map/policytomap/core/Mechanism;" (.ref w6) ∧ Exa Z Z.heap w6 "com/example/policy_to_map/policytomap/core/Mechanism" ∧ Sta Z Z.heap "com/example/policy_to_map/policytomap/core/Mechanism" "REJECT_QUERY" "Lcom/example/policy_to_map/policytomap/core/Mechanism;" (.ref w7) ∧ Exa Z Z.heap w7 "com/example/policy_to_map/policytomap/core/Mechanism" ∧ Fld Z Z.heap w0 "java/lang/Enum" "ordinal" "I" (.int (0 : Int32)) ∧ Fld Z Z.heap w2 "java/lang/Enum" "ordinal" "I" (.int (2 : Int32)) ∧ Fld Z Z.heap w3 "java/lang/Enum" "ordinal" "I" (.int (3 : Int32)) ∧ Fld Z Z.heap w4 "java/lang/Enum" "ordinal" "I" (.int (4 : Int32)) ∧ Fld Z Z.heap w6 "java/lang/Enum" "ordinal" "I" (.int (6 : Int32)) ∧ Fld Z Z.heap w7 "java/lang/Enum" "ordinal" "I" (.int (7 : Int32)) ∧ Fld Z Z.heap w1 "java/lang/Enum" "ordinal" "I" (.int (1 : Int32)) ∧ Fld Z Z.heap w5 "java/lang/Enum" "ordinal" "I" (.int (5 : Int32)) ∧ True
def Qp (r : Option Value) (h0 : Heap) (n0 : Nat) (v : Option Value) (h : Heap) (L : List Loc) : Prop := v = r ∧ Fr n0 L ∧ h = h0
def Ql (n0 : Nat) (v : Option Value) (h : Heap) (L : List Loc) : Prop := v = some (.int (1 : Int32)) ∧ Fr n0 L
theorem d_prog_9_method_5_code_0 : decode prog_9_method_5_code 0 = .ok (.aload_n 0, 1) := by decide +kernel
theorem d_prog_9_method_5_code_1 : decode prog_9_method_5_code 1 = .ok (.getstatic 10, 3) := by decide +kernel
theorem d_prog_9_method_5_code_4 : decode prog_9_method_5_code 4 = .ok (.if_acmp .eq 17, 3) := by decide +kernel
theorem d_prog_9_method_5_code_7 : decode prog_9_method_5_code 7 = .ok (.aload_n 0, 1) := by decide +kernel
theorem d_prog_9_method_5_code_8 : decode prog_9_method_5_code 8 = .ok (.getstatic 13, 3) := by decide +kernel
theorem d_prog_9_method_5_code_11 : decode prog_9_method_5_code 11 = .ok (.if_acmp .eq 10, 3) := by decide +kernel
theorem d_prog_9_method_5_code_14 : decode prog_9_method_5_code 14 = .ok (.aload_n 0, 1) := by decide +kernel
theorem d_prog_9_method_5_code_15 : decode prog_9_method_5_code 15 = .ok (.getstatic 16, 3) := by decide +kernel
theorem d_prog_9_method_5_code_18 : decode prog_9_method_5_code 18 = .ok (.if_acmp .ne 7, 3) := by decide +kernel
theorem d_prog_9_method_5_code_25 : decode prog_9_method_5_code 25 = .ok (.iconst 0, 1) := by decide +kernel
theorem d_prog_9_method_5_code_26 : decode prog_9_method_5_code 26 = .ok (.ireturn, 1) := by decide +kernel
theorem pn0 : plainName "com/example/policy_to_map/policytomap/core/Mechanism" = true := by first | (simp [plainName, overriddenIn]; done) | decide +kernel
theorem ef0 (m : MethodId)   (w0 : Addr) : entryFrame m #[(.ref w0)] 1 = mkF m 0 #[.val (.ref w0)] [] := by first | (simp [entryFrame, mkF, argsToLocals, Value.category]; done) | rfl
set_option maxRecDepth 65536 in
set_option maxHeartbeats 40000000 in
theorem rm1 (l : Launch) (Z : State) (a0 : Array Value) (hw : ∀ d ∈ tables_1, d.before a0 Z = true) (ws : List Jvm.Cond) (w0 w1 w2 w3 w4 w5 w6 w7 : Addr) (h0 : Heap) (n0 : Nat) (hWd : Wd Z w0 w1 w2 w3 w4 w5 w6 w7) (O0 : Old Z n0 h0) :
    MetFree l (⟨"com/example/policy_to_map/policytomap/core/Mechanism", "isObscuring", "()Z"⟩ : MethodName) (head1 (Jvm.Cond.code (⟨"com/example/policy_to_map/policytomap/core/Mechanism", "isObscuring", "()Z"⟩ : MethodName) prog_9_method_5_code 1 (some .boolean) :: ws) ({ frames := 0, cells := 0, slots := 0, locals := 0 } : Room)) (fun a U => a = #[(.ref w0)] ∧ Z.Warmed39 U.vm ∧ U.heap = h0) (fun _ _ _ _ _ => True) (fun _ U o U' => ∃ v L, o = .returned v ∧ Qp (some (.int (0 : Int32))) h0 n0 v U'.heap L ∧ FrameEnd U o U' L ({ frames := 0, cells := 0, slots := 0, locals := 0 } : Room).cells ({ frames := 0, cells := 0, slots := 0, locals := 0 } : Room).slots) := by
  refine MetFree.of_bodySF (plainFor_of_name pn0) hisR ?_
  intro p e s m args below meth c s₁ Bd hml0 hP hK
  obtain ⟨rfl, hZ, hh⟩ := hP
  have hx := Bd.exec
  have hby := Bd.bytes
  have hml : c.maxLocals = 1 := hml0
  have hown : s.vm.findClass "com/example/policy_to_map/policytomap/core/Mechanism" = some m.cls := findClass_of_methodNamed Bd.named
  have hnm := (name_of_methodNamed Bd.named Bd.method).1
  have X0 : Stand p l e ({ frames := 0, cells := 0, slots := 0, locals := 0 } : Room) s m #[(.ref w0)] below meth c s₁ [] 0 0 := Stand.of_body Bd
  have e0 : s₁.heap = h0 := by rw [← hh, Bd.state]; rfl
  have N0 := Fr.nil n0
  obtain ⟨wS0, wE0, wS1, wE1, wS2, wE2, wS3, wE3, wS4, wE4, wS5, wE5, wS6, wE6, wS7, wE7, wF0_ordinal, wF2_ordinal, wF3_ordinal, wF4_ordinal, wF6_ordinal, wF7_ordinal, wF1_ordinal, wF5_ordinal, -⟩ := id hWd
  have pre0 : ∀ t, Steps p.tables e below (s₁.setTop (mkF m 0 #[.val (.ref w0)] [])) t → Steps p.tables e below (s₁.setTop (entryFrame m #[(.ref w0)] 1)) t := fun t k => castTop (ef0 m w0) k
  obtain ⟨T37, X37, e37, st37⟩ := getS2 X0 hx hZ hown (host := "") (Or.inl (hw _ (List.mem_of_getElem? (i := 27) rfl))) Via.refl e0 (wS2.ext O0.2) (g := (mkF m 1 #[.val (.ref w0)] [(.ref w0)])) rfl (hb hby d_prog_9_method_5_code_1)
  obtain ⟨T38, X38, e38, st38⟩ := getS2 X37 hx hZ hown (host := "") (Or.inl (hw _ (List.mem_of_getElem? (i := 28) rfl))) Via.refl e37 (wS3.ext O0.2) (g := (mkF m 8 #[.val (.ref w0)] [(.ref w0)])) rfl (hb hby d_prog_9_method_5_code_8)
  obtain ⟨T39, X39, e39, st39⟩ := getS2 X38 hx hZ hown (host := "") (Or.inl (hw _ (List.mem_of_getElem? (i := 29) rfl))) Via.refl e38 (wS4.ext O0.2) (g := (mkF m 15 #[.val (.ref w0)] [(.ref w0)])) rfl (hb hby d_prog_9_method_5_code_15)
  obtain ⟨fs, hr, hrun, hended, hWr, hsame⟩ := X39.leave (v := some (.int (0 : Int32))) (fun h => by rw [Bd.returns] at h; cases h)
  refine ⟨_, _, pre0 _ ?_, hrun, hended, _, _, rfl, ?_, ⟨_, rfl⟩, hWr, hsame.mono (Nat.le_of_ble_eq_true rfl) (Nat.le_of_ble_eq_true rfl)⟩
  · show Steps p.tables e below (s₁.setTop (mkF m 0 #[.val (.ref w0)] [])) _
    refine XS.aloadN X0.here hx rfl (hb hby d_prog_9_method_5_code_0) rfl rfl ?_
    show Steps p.tables e below (s₁.setTop (mkF m 1 #[.val (.ref w0)] [(.ref w0)])) _
    refine st37 _ ?_
    show Steps p.tables e below (T37.setTop (mkF m 4 #[.val (.ref w0)] [(.ref w2), (.ref w0)])) _
    refine Jvm.RoadKit.acmp (g := (mkF m 4 #[.val (.ref w0)] [(.ref w2), (.ref w0)])) X37 hx rfl rfl rfl (pc0 := 4) (pc' := 7) (same := false) rfl (hb hby d_prog_9_method_5_code_4) rfl (decide_eq_false fun q => (Fld.ne wF0_ordinal wF2_ordinal (fun q => absurd (Value.int.inj q) (by decide))) (Value.ref.inj q)) (by decide) (by decide) ?_
    show Steps p.tables e below (T37.setTop (mkF m 7 #[.val (.ref w0)] [])) _
    refine XS.aloadN X37.here hx rfl (hb hby d_prog_9_method_5_code_7) rfl rfl ?_
    show Steps p.tables e below (T37.setTop (mkF m 8 #[.val (.ref w0)] [(.ref w0)])) _
    refine st38 _ ?_
    show Steps p.tables e below (T38.setTop (mkF m 11 #[.val (.ref w0)] [(.ref w3), (.ref w0)])) _
    refine Jvm.RoadKit.acmp (g := (mkF m 11 #[.val (.ref w0)] [(.ref w3), (.ref w0)])) X38 hx rfl rfl rfl (pc0 := 11) (pc' := 14) (same := false) rfl (hb hby d_prog_9_method_5_code_11) rfl (decide_eq_false fun q => (Fld.ne wF0_ordinal wF3_ordinal (fun q => absurd (Value.int.inj q) (by decide))) (Value.ref.inj q)) (by decide) (by decide) ?_
    show Steps p.tables e below (T38.setTop (mkF m 14 #[.val (.ref w0)] [])) _
    refine XS.aloadN X38.here hx rfl (hb hby d_prog_9_method_5_code_14) rfl rfl ?_
    show Steps p.tables e below (T38.setTop (mkF m 15 #[.val (.ref w0)] [(.ref w0)])) _
    refine st39 _ ?_
    show Steps p.tables e below (T39.setTop (mkF m 18 #[.val (.ref w0)] [(.ref w4), (.ref w0)])) _
    refine Jvm.RoadKit.acmp (g := (mkF m 18 #[.val (.ref w0)] [(.ref w4), (.ref w0)])) X39 hx rfl rfl rfl (pc0 := 18) (pc' := 25) (same := false) rfl (hb hby d_prog_9_method_5_code_18) rfl (decide_eq_false fun q => (Fld.ne wF0_ordinal wF4_ordinal (fun q => absurd (Value.int.inj q) (by decide))) (Value.ref.inj q)) (by decide) (by decide) ?_
    show Steps p.tables e below (T39.setTop (mkF m 25 #[.val (.ref w0)] [])) _
    refine XS.iconst X39.here hx rfl (hb hby d_prog_9_method_5_code_25) ?_
    show Steps p.tables e below (T39.setTop (mkF m 26 #[.val (.ref w0)] [(.int (0 : Int32))])) _
    exact retN X39 hx (t := .boolean) Bd.returns (by simp) (hb hby d_prog_9_method_5_code_26) hr
  · show Qp (some (.int (0 : Int32))) h0 n0 _ T39.heap _
    rw [e39]
    exact ⟨rfl, N0, rfl⟩
theorem pd0 : parseMethodDescriptor "()Z" = some ⟨[], some .boolean⟩ := by decide +kernel
theorem ef1 (m : MethodId)   (w1 : Addr) : entryFrame m #[(.ref w1)] 1 = mkF m 0 #[.val (.ref w1)] [] := by first | (simp [entryFrame, mkF, argsToLocals, Value.category]; done) | rfl
set_option maxRecDepth 65536 in
set_option maxHeartbeats 40000000 in
theorem rm2 (l : Launch) (Z : State) (a0 : Array Value) (hw : ∀ d ∈ tables_1, d.before a0 Z = true) (ws : List Jvm.Cond) (w0 w1 w2 w3 w4 w5 w6 w7 : Addr) (h0 : Heap) (n0 : Nat) (hWd : Wd Z w0 w1 w2 w3 w4 w5 w6 w7) (O0 : Old Z n0 h0) :
    MetFree l (⟨"com/example/policy_to_map/policytomap/core/Mechanism", "isObscuring", "()Z"⟩ : MethodName) (head1 (Jvm.Cond.code (⟨"com/example/policy_to_map/policytomap/core/Mechanism", "isObscuring", "()Z"⟩ : MethodName) prog_9_method_5_code 1 (some .boolean) :: ws) ({ frames := 0, cells := 0, slots := 0, locals := 0 } : Room)) (fun a U => a = #[(.ref w1)] ∧ Z.Warmed39 U.vm ∧ U.heap = h0) (fun _ _ _ _ _ => True) (fun _ U o U' => ∃ v L, o = .returned v ∧ Qp (some (.int (0 : Int32))) h0 n0 v U'.heap L ∧ FrameEnd U o U' L ({ frames := 0, cells := 0, slots := 0, locals := 0 } : Room).cells ({ frames := 0, cells := 0, slots := 0, locals := 0 } : Room).slots) := by
  refine MetFree.of_bodySF (plainFor_of_name pn0) hisR ?_
  intro p e s m args below meth c s₁ Bd hml0 hP hK
  obtain ⟨rfl, hZ, hh⟩ := hP
  have hx := Bd.exec
  have hby := Bd.bytes
  have hml : c.maxLocals = 1 := hml0
  have hown : s.vm.findClass "com/example/policy_to_map/policytomap/core/Mechanism" = some m.cls := findClass_of_methodNamed Bd.named
  have hnm := (name_of_methodNamed Bd.named Bd.method).1
  have X0 : Stand p l e ({ frames := 0, cells := 0, slots := 0, locals := 0 } : Room) s m #[(.ref w1)] below meth c s₁ [] 0 0 := Stand.of_body Bd
  have e0 : s₁.heap = h0 := by rw [← hh, Bd.state]; rfl
  have N0 := Fr.nil n0
  obtain ⟨wS0, wE0, wS1, wE1, wS2, wE2, wS3, wE3, wS4, wE4, wS5, wE5, wS6, wE6, wS7, wE7, wF0_ordinal, wF2_ordinal, wF3_ordinal, wF4_ordinal, wF6_ordinal, wF7_ordinal, wF1_ordinal, wF5_ordinal, -⟩ := id hWd
  have pre0 : ∀ t, Steps p.tables e below (s₁.setTop (mkF m 0 #[.val (.ref w1)] [])) t → Steps p.tables e below (s₁.setTop (entryFrame m #[(.ref w1)] 1)) t := fun t k => castTop (ef1 m w1) k
  obtain ⟨T43, X43, e43, st43⟩ := getS2 X0 hx hZ hown (host := "") (Or.inl (hw _ (List.mem_of_getElem? (i := 27) rfl))) Via.refl e0 (wS2.ext O0.2) (g := (mkF m 1 #[.val (.ref w1)] [(.ref w1)])) rfl (hb hby d_prog_9_method_5_code_1)
  obtain ⟨T44, X44, e44, st44⟩ := getS2 X43 hx hZ hown (host := "") (Or.inl (hw _ (List.mem_of_getElem? (i := 28) rfl))) Via.refl e43 (wS3.ext O0.2) (g := (mkF m 8 #[.val (.ref w1)] [(.ref w1)])) rfl (hb hby d_prog_9_method_5_code_8)
  obtain ⟨T45, X45, e45, st45⟩ := getS2 X44 hx hZ hown (host := "") (Or.inl (hw _ (List.mem_of_getElem? (i := 29) rfl))) Via.refl e44 (wS4.ext O0.2) (g := (mkF m 15 #[.val (.ref w1)] [(.ref w1)])) rfl (hb hby d_prog_9_method_5_code_15)
  obtain ⟨fs, hr, hrun, hended, hWr, hsame⟩ := X45.leave (v := some (.int (0 : Int32))) (fun h => by rw [Bd.returns] at h; cases h)
  refine ⟨_, _, pre0 _ ?_, hrun, hended, _, _, rfl, ?_, ⟨_, rfl⟩, hWr, hsame.mono (Nat.le_of_ble_eq_true rfl) (Nat.le_of_ble_eq_true rfl)⟩
  · show Steps p.tables e below (s₁.setTop (mkF m 0 #[.val (.ref w1)] [])) _
    refine XS.aloadN X0.here hx rfl (hb hby d_prog_9_method_5_code_0) rfl rfl ?_
    show Steps p.tables e below (s₁.setTop (mkF m 1 #[.val (.ref w1)] [(.ref w1)])) _
    refine st43 _ ?_
    show Steps p.tables e below (T43.setTop (mkF m 4 #[.val (.ref w1)] [(.ref w2), (.ref w1)])) _
    refine Jvm.RoadKit.acmp (g := (mkF m 4 #[.val (.ref w1)] [(.ref w2), (.ref w1)])) X43 hx rfl rfl rfl (pc0 := 4) (pc' := 7) (same := false) rfl (hb hby d_prog_9_method_5_code_4) rfl (decide_eq_false fun q => (Fld.ne wF1_ordinal wF2_ordinal (fun q => absurd (Value.int.inj q) (by decide))) (Value.ref.inj q)) (by decide) (by decide) ?_
    show Steps p.tables e below (T43.setTop (mkF m 7 #[.val (.ref w1)] [])) _
    refine XS.aloadN X43.here hx rfl (hb hby d_prog_9_method_5_code_7) rfl rfl ?_
    show Steps p.tables e below (T43.setTop (mkF m 8 #[.val (.ref w1)] [(.ref w1)])) _
    refine st44 _ ?_
    show Steps p.tables e below (T44.setTop (mkF m 11 #[.val (.ref w1)] [(.ref w3), (.ref w1)])) _
    refine Jvm.RoadKit.acmp (g := (mkF m 11 #[.val (.ref w1)] [(.ref w3), (.ref w1)])) X44 hx rfl rfl rfl (pc0 := 11) (pc' := 14) (same := false) rfl (hb hby d_prog_9_method_5_code_11) rfl (decide_eq_false fun q => (Fld.ne wF1_ordinal wF3_ordinal (fun q => absurd (Value.int.inj q) (by decide))) (Value.ref.inj q)) (by decide) (by decide) ?_
    show Steps p.tables e below (T44.setTop (mkF m 14 #[.val (.ref w1)] [])) _
    refine XS.aloadN X44.here hx rfl (hb hby d_prog_9_method_5_code_14) rfl rfl ?_
    show Steps p.tables e below (T44.setTop (mkF m 15 #[.val (.ref w1)] [(.ref w1)])) _
    refine st45 _ ?_
    show Steps p.tables e below (T45.setTop (mkF m 18 #[.val (.ref w1)] [(.ref w4), (.ref w1)])) _
    refine Jvm.RoadKit.acmp (g := (mkF m 18 #[.val (.ref w1)] [(.ref w4), (.ref w1)])) X45 hx rfl rfl rfl (pc0 := 18) (pc' := 25) (same := false) rfl (hb hby d_prog_9_method_5_code_18) rfl (decide_eq_false fun q => (Fld.ne wF1_ordinal wF4_ordinal (fun q => absurd (Value.int.inj q) (by decide))) (Value.ref.inj q)) (by decide) (by decide) ?_
    show Steps p.tables e below (T45.setTop (mkF m 25 #[.val (.ref w1)] [])) _
    refine XS.iconst X45.here hx rfl (hb hby d_prog_9_method_5_code_25) ?_
    show Steps p.tables e below (T45.setTop (mkF m 26 #[.val (.ref w1)] [(.int (0 : Int32))])) _
    exact retN X45 hx (t := .boolean) Bd.returns (by simp) (hb hby d_prog_9_method_5_code_26) hr
  · show Qp (some (.int (0 : Int32))) h0 n0 _ T45.heap _
    rw [e45]
    exact ⟨rfl, N0, rfl⟩
theorem d_prog_9_method_5_code_21 : decode prog_9_method_5_code 21 = .ok (.iconst 1, 1) := by decide +kernel
theorem d_prog_9_method_5_code_22 : decode prog_9_method_5_code 22 = .ok (.goto 4, 3) := by decide +kernel
theorem ef2 (m : MethodId)   (w2 : Addr) : entryFrame m #[(.ref w2)] 1 = mkF m 0 #[.val (.ref w2)] [] := by first | (simp [entryFrame, mkF, argsToLocals, Value.category]; done) | rfl
set_option maxRecDepth 65536 in
set_option maxHeartbeats 40000000 in
theorem rm3 (l : Launch) (Z : State) (a0 : Array Value) (hw : ∀ d ∈ tables_1, d.before a0 Z = true) (ws : List Jvm.Cond) (w0 w1 w2 w3 w4 w5 w6 w7 : Addr) (h0 : Heap) (n0 : Nat) (hWd : Wd Z w0 w1 w2 w3 w4 w5 w6 w7) (O0 : Old Z n0 h0) :
    MetFree l (⟨"com/example/policy_to_map/policytomap/core/Mechanism", "isObscuring", "()Z"⟩ : MethodName) (head1 (Jvm.Cond.code (⟨"com/example/policy_to_map/policytomap/core/Mechanism", "isObscuring", "()Z"⟩ : MethodName) prog_9_method_5_code 1 (some .boolean) :: ws) ({ frames := 0, cells := 0, slots := 0, locals := 0 } : Room)) (fun a U => a = #[(.ref w2)] ∧ Z.Warmed39 U.vm ∧ U.heap = h0) (fun _ _ _ _ _ => True) (fun _ U o U' => ∃ v L, o = .returned v ∧ Qp (some (.int (1 : Int32))) h0 n0 v U'.heap L ∧ FrameEnd U o U' L ({ frames := 0, cells := 0, slots := 0, locals := 0 } : Room).cells ({ frames := 0, cells := 0, slots := 0, locals := 0 } : Room).slots) := by
  refine MetFree.of_bodySF (plainFor_of_name pn0) hisR ?_
  intro p e s m args below meth c s₁ Bd hml0 hP hK
  obtain ⟨rfl, hZ, hh⟩ := hP
  have hx := Bd.exec
  have hby := Bd.bytes
  have hml : c.maxLocals = 1 := hml0
  have hown : s.vm.findClass "com/example/policy_to_map/policytomap/core/Mechanism" = some m.cls := findClass_of_methodNamed Bd.named
  have hnm := (name_of_methodNamed Bd.named Bd.method).1
  have X0 : Stand p l e ({ frames := 0, cells := 0, slots := 0, locals := 0 } : Room) s m #[(.ref w2)] below meth c s₁ [] 0 0 := Stand.of_body Bd
  have e0 : s₁.heap = h0 := by rw [← hh, Bd.state]; rfl
  have N0 := Fr.nil n0
  obtain ⟨wS0, wE0, wS1, wE1, wS2, wE2, wS3, wE3, wS4, wE4, wS5, wE5, wS6, wE6, wS7, wE7, wF0_ordinal, wF2_ordinal, wF3_ordinal, wF4_ordinal, wF6_ordinal, wF7_ordinal, wF1_ordinal, wF5_ordinal, -⟩ := id hWd
  have pre0 : ∀ t, Steps p.tables e below (s₁.setTop (mkF m 0 #[.val (.ref w2)] [])) t → Steps p.tables e below (s₁.setTop (entryFrame m #[(.ref w2)] 1)) t := fun t k => castTop (ef2 m w2) k
  obtain ⟨T49, X49, e49, st49⟩ := getS2 X0 hx hZ hown (host := "") (Or.inl (hw _ (List.mem_of_getElem? (i := 27) rfl))) Via.refl e0 (wS2.ext O0.2) (g := (mkF m 1 #[.val (.ref w2)] [(.ref w2)])) rfl (hb hby d_prog_9_method_5_code_1)
  obtain ⟨fs, hr, hrun, hended, hWr, hsame⟩ := X49.leave (v := some (.int (1 : Int32))) (fun h => by rw [Bd.returns] at h; cases h)
  refine ⟨_, _, pre0 _ ?_, hrun, hended, _, _, rfl, ?_, ⟨_, rfl⟩, hWr, hsame.mono (Nat.le_of_ble_eq_true rfl) (Nat.le_of_ble_eq_true rfl)⟩
  · show Steps p.tables e below (s₁.setTop (mkF m 0 #[.val (.ref w2)] [])) _
    refine XS.aloadN X0.here hx rfl (hb hby d_prog_9_method_5_code_0) rfl rfl ?_
    show Steps p.tables e below (s₁.setTop (mkF m 1 #[.val (.ref w2)] [(.ref w2)])) _
    refine st49 _ ?_
    show Steps p.tables e below (T49.setTop (mkF m 4 #[.val (.ref w2)] [(.ref w2), (.ref w2)])) _
    refine Jvm.RoadKit.acmp (g := (mkF m 4 #[.val (.ref w2)] [(.ref w2), (.ref w2)])) X49 hx rfl rfl rfl (pc0 := 4) (pc' := 21) (same := true) rfl (hb hby d_prog_9_method_5_code_4) rfl (decide_eq_true rfl) (by decide) (by decide) ?_
    show Steps p.tables e below (T49.setTop (mkF m 21 #[.val (.ref w2)] [])) _
    refine XS.iconst X49.here hx rfl (hb hby d_prog_9_method_5_code_21) ?_
    show Steps p.tables e below (T49.setTop (mkF m 22 #[.val (.ref w2)] [(.int (1 : Int32))])) _
    refine XS.goto X49.here hx rfl (pc0 := 22) (pc' := 26) rfl (hb hby d_prog_9_method_5_code_22) (by decide) (by decide) ?_
    show Steps p.tables e below (T49.setTop (mkF m 26 #[.val (.ref w2)] [(.int (1 : Int32))])) _
    exact retN X49 hx (t := .boolean) Bd.returns (by simp) (hb hby d_prog_9_method_5_code_26) hr
  · show Qp (some (.int (1 : Int32))) h0 n0 _ T49.heap _
    rw [e49]
    exact ⟨rfl, N0, rfl⟩
theorem ef3 (m : MethodId)   (w3 : Addr) : entryFrame m #[(.ref w3)] 1 = mkF m 0 #[.val (.ref w3)] [] := by first | (simp [entryFrame, mkF, argsToLocals, Value.category]; done) | rfl
set_option maxRecDepth 65536 in
set_option maxHeartbeats 40000000 in
theorem rm4 (l : Launch) (Z : State) (a0 : Array Value) (hw : ∀ d ∈ tables_1, d.before a0 Z = true) (ws : List Jvm.Cond) (w0 w1 w2 w3 w4 w5 w6 w7 : Addr) (h0 : Heap) (n0 : Nat) (hWd : Wd Z w0 w1 w2 w3 w4 w5 w6 w7) (O0 : Old Z n0 h0) :
    MetFree l (⟨"com/example/policy_to_map/policytomap/core/Mechanism", "isObscuring", "()Z"⟩ : MethodName) (head1 (Jvm.Cond.code (⟨"com/example/policy_to_map/policytomap/core/Mechanism", "isObscuring", "()Z"⟩ : MethodName) prog_9_method_5_code 1 (some .boolean) :: ws) ({ frames := 0, cells := 0, slots := 0, locals := 0 } : Room)) (fun a U => a = #[(.ref w3)] ∧ Z.Warmed39 U.vm ∧ U.heap = h0) (fun _ _ _ _ _ => True) (fun _ U o U' => ∃ v L, o = .returned v ∧ Qp (some (.int (1 : Int32))) h0 n0 v U'.heap L ∧ FrameEnd U o U' L ({ frames := 0, cells := 0, slots := 0, locals := 0 } : Room).cells ({ frames := 0, cells := 0, slots := 0, locals := 0 } : Room).slots) := by
  refine MetFree.of_bodySF (plainFor_of_name pn0) hisR ?_
  intro p e s m args below meth c s₁ Bd hml0 hP hK
  obtain ⟨rfl, hZ, hh⟩ := hP
  have hx := Bd.exec
  have hby := Bd.bytes
  have hml : c.maxLocals = 1 := hml0
  have hown : s.vm.findClass "com/example/policy_to_map/policytomap/core/Mechanism" = some m.cls := findClass_of_methodNamed Bd.named
  have hnm := (name_of_methodNamed Bd.named Bd.method).1
  have X0 : Stand p l e ({ frames := 0, cells := 0, slots := 0, locals := 0 } : Room) s m #[(.ref w3)] below meth c s₁ [] 0 0 := Stand.of_body Bd
  have e0 : s₁.heap = h0 := by rw [← hh, Bd.state]; rfl
  have N0 := Fr.nil n0
  obtain ⟨wS0, wE0, wS1, wE1, wS2, wE2, wS3, wE3, wS4, wE4, wS5, wE5, wS6, wE6, wS7, wE7, wF0_ordinal, wF2_ordinal, wF3_ordinal, wF4_ordinal, wF6_ordinal, wF7_ordinal, wF1_ordinal, wF5_ordinal, -⟩ := id hWd
  have pre0 : ∀ t, Steps p.tables e below (s₁.setTop (mkF m 0 #[.val (.ref w3)] [])) t → Steps p.tables e below (s₁.setTop (entryFrame m #[(.ref w3)] 1)) t := fun t k => castTop (ef3 m w3) k
  obtain ⟨T53, X53, e53, st53⟩ := getS2 X0 hx hZ hown (host := "") (Or.inl (hw _ (List.mem_of_getElem? (i := 27) rfl))) Via.refl e0 (wS2.ext O0.2) (g := (mkF m 1 #[.val (.ref w3)] [(.ref w3)])) rfl (hb hby d_prog_9_method_5_code_1)
  obtain ⟨T54, X54, e54, st54⟩ := getS2 X53 hx hZ hown (host := "") (Or.inl (hw _ (List.mem_of_getElem? (i := 28) rfl))) Via.refl e53 (wS3.ext O0.2) (g := (mkF m 8 #[.val (.ref w3)] [(.ref w3)])) rfl (hb hby d_prog_9_method_5_code_8)
  obtain ⟨fs, hr, hrun, hended, hWr, hsame⟩ := X54.leave (v := some (.int (1 : Int32))) (fun h => by rw [Bd.returns] at h; cases h)
  refine ⟨_, _, pre0 _ ?_, hrun, hended, _, _, rfl, ?_, ⟨_, rfl⟩, hWr, hsame.mono (Nat.le_of_ble_eq_true rfl) (Nat.le_of_ble_eq_true rfl)⟩
  · show Steps p.tables e below (s₁.setTop (mkF m 0 #[.val (.ref w3)] [])) _
    refine XS.aloadN X0.here hx rfl (hb hby d_prog_9_method_5_code_0) rfl rfl ?_
    show Steps p.tables e below (s₁.setTop (mkF m 1 #[.val (.ref w3)] [(.ref w3)])) _
    refine st53 _ ?_
    show Steps p.tables e below (T53.setTop (mkF m 4 #[.val (.ref w3)] [(.ref w2), (.ref w3)])) _
    refine Jvm.RoadKit.acmp (g := (mkF m 4 #[.val (.ref w3)] [(.ref w2), (.ref w3)])) X53 hx rfl rfl rfl (pc0 := 4) (pc' := 7) (same := false) rfl (hb hby d_prog_9_method_5_code_4) rfl (decide_eq_false fun q => (Fld.ne wF3_ordinal wF2_ordinal (fun q => absurd (Value.int.inj q) (by decide))) (Value.ref.inj q)) (by decide) (by decide) ?_
    show Steps p.tables e below (T53.setTop (mkF m 7 #[.val (.ref w3)] [])) _
    refine XS.aloadN X53.here hx rfl (hb hby d_prog_9_method_5_code_7) rfl rfl ?_
    show Steps p.tables e below (T53.setTop (mkF m 8 #[.val (.ref w3)] [(.ref w3)])) _
    refine st54 _ ?_
    show Steps p.tables e below (T54.setTop (mkF m 11 #[.val (.ref w3)] [(.ref w3), (.ref w3)])) _
    refine Jvm.RoadKit.acmp (g := (mkF m 11 #[.val (.ref w3)] [(.ref w3), (.ref w3)])) X54 hx rfl rfl rfl (pc0 := 11) (pc' := 21) (same := true) rfl (hb hby d_prog_9_method_5_code_11) rfl (decide_eq_true rfl) (by decide) (by decide) ?_
    show Steps p.tables e below (T54.setTop (mkF m 21 #[.val (.ref w3)] [])) _
    refine XS.iconst X54.here hx rfl (hb hby d_prog_9_method_5_code_21) ?_
    show Steps p.tables e below (T54.setTop (mkF m 22 #[.val (.ref w3)] [(.int (1 : Int32))])) _
    refine XS.goto X54.here hx rfl (pc0 := 22) (pc' := 26) rfl (hb hby d_prog_9_method_5_code_22) (by decide) (by decide) ?_
    show Steps p.tables e below (T54.setTop (mkF m 26 #[.val (.ref w3)] [(.int (1 : Int32))])) _
    exact retN X54 hx (t := .boolean) Bd.returns (by simp) (hb hby d_prog_9_method_5_code_26) hr
  · show Qp (some (.int (1 : Int32))) h0 n0 _ T54.heap _
    rw [e54]
    exact ⟨rfl, N0, rfl⟩
theorem ef4 (m : MethodId)   (w4 : Addr) : entryFrame m #[(.ref w4)] 1 = mkF m 0 #[.val (.ref w4)] [] := by first | (simp [entryFrame, mkF, argsToLocals, Value.category]; done) | rfl
set_option maxRecDepth 65536 in
set_option maxHeartbeats 40000000 in
theorem rm5 (l : Launch) (Z : State) (a0 : Array Value) (hw : ∀ d ∈ tables_1, d.before a0 Z = true) (ws : List Jvm.Cond) (w0 w1 w2 w3 w4 w5 w6 w7 : Addr) (h0 : Heap) (n0 : Nat) (hWd : Wd Z w0 w1 w2 w3 w4 w5 w6 w7) (O0 : Old Z n0 h0) :
    MetFree l (⟨"com/example/policy_to_map/policytomap/core/Mechanism", "isObscuring", "()Z"⟩ : MethodName) (head1 (Jvm.Cond.code (⟨"com/example/policy_to_map/policytomap/core/Mechanism", "isObscuring", "()Z"⟩ : MethodName) prog_9_method_5_code 1 (some .boolean) :: ws) ({ frames := 0, cells := 0, slots := 0, locals := 0 } : Room)) (fun a U => a = #[(.ref w4)] ∧ Z.Warmed39 U.vm ∧ U.heap = h0) (fun _ _ _ _ _ => True) (fun _ U o U' => ∃ v L, o = .returned v ∧ Qp (some (.int (1 : Int32))) h0 n0 v U'.heap L ∧ FrameEnd U o U' L ({ frames := 0, cells := 0, slots := 0, locals := 0 } : Room).cells ({ frames := 0, cells := 0, slots := 0, locals := 0 } : Room).slots) := by
  refine MetFree.of_bodySF (plainFor_of_name pn0) hisR ?_
  intro p e s m args below meth c s₁ Bd hml0 hP hK
  obtain ⟨rfl, hZ, hh⟩ := hP
  have hx := Bd.exec
  have hby := Bd.bytes
  have hml : c.maxLocals = 1 := hml0
  have hown : s.vm.findClass "com/example/policy_to_map/policytomap/core/Mechanism" = some m.cls := findClass_of_methodNamed Bd.named
  have hnm := (name_of_methodNamed Bd.named Bd.method).1
  have X0 : Stand p l e ({ frames := 0, cells := 0, slots := 0, locals := 0 } : Room) s m #[(.ref w4)] below meth c s₁ [] 0 0 := Stand.of_body Bd
  have e0 : s₁.heap = h0 := by rw [← hh, Bd.state]; rfl
  have N0 := Fr.nil n0
  obtain ⟨wS0, wE0, wS1, wE1, wS2, wE2, wS3, wE3, wS4, wE4, wS5, wE5, wS6, wE6, wS7, wE7, wF0_ordinal, wF2_ordinal, wF3_ordinal, wF4_ordinal, wF6_ordinal, wF7_ordinal, wF1_ordinal, wF5_ordinal, -⟩ := id hWd
  have pre0 : ∀ t, Steps p.tables e below (s₁.setTop (mkF m 0 #[.val (.ref w4)] [])) t → Steps p.tables e below (s₁.setTop (entryFrame m #[(.ref w4)] 1)) t := fun t k => castTop (ef4 m w4) k
  obtain ⟨T58, X58, e58, st58⟩ := getS2 X0 hx hZ hown (host := "") (Or.inl (hw _ (List.mem_of_getElem? (i := 27) rfl))) Via.refl e0 (wS2.ext O0.2) (g := (mkF m 1 #[.val (.ref w4)] [(.ref w4)])) rfl (hb hby d_prog_9_method_5_code_1)
  obtain ⟨T59, X59, e59, st59⟩ := getS2 X58 hx hZ hown (host := "") (Or.inl (hw _ (List.mem_of_getElem? (i := 28) rfl))) Via.refl e58 (wS3.ext O0.2) (g := (mkF m 8 #[.val (.ref w4)] [(.ref w4)])) rfl (hb hby d_prog_9_method_5_code_8)
  obtain ⟨T60, X60, e60, st60⟩ := getS2 X59 hx hZ hown (host := "") (Or.inl (hw _ (List.mem_of_getElem? (i := 29) rfl))) Via.refl e59 (wS4.ext O0.2) (g := (mkF m 15 #[.val (.ref w4)] [(.ref w4)])) rfl (hb hby d_prog_9_method_5_code_15)
  obtain ⟨fs, hr, hrun, hended, hWr, hsame⟩ := X60.leave (v := some (.int (1 : Int32))) (fun h => by rw [Bd.returns] at h; cases h)
  refine ⟨_, _, pre0 _ ?_, hrun, hended, _, _, rfl, ?_, ⟨_, rfl⟩, hWr, hsame.mono (Nat.le_of_ble_eq_true rfl) (Nat.le_of_ble_eq_true rfl)⟩
  · show Steps p.tables e below (s₁.setTop (mkF m 0 #[.val (.ref w4)] [])) _
    refine XS.aloadN X0.here hx rfl (hb hby d_prog_9_method_5_code_0) rfl rfl ?_
    show Steps p.tables e below (s₁.setTop (mkF m 1 #[.val (.ref w4)] [(.ref w4)])) _
    refine st58 _ ?_
    show Steps p.tables e below (T58.setTop (mkF m 4 #[.val (.ref w4)] [(.ref w2), (.ref w4)])) _
    refine Jvm.RoadKit.acmp (g := (mkF m 4 #[.val (.ref w4)] [(.ref w2), (.ref w4)])) X58 hx rfl rfl rfl (pc0 := 4) (pc' := 7) (same := false) rfl (hb hby d_prog_9_method_5_code_4) rfl (decide_eq_false fun q => (Fld.ne wF4_ordinal wF2_ordinal (fun q => absurd (Value.int.inj q) (by decide))) (Value.ref.inj q)) (by decide) (by decide) ?_
    show Steps p.tables e below (T58.setTop (mkF m 7 #[.val (.ref w4)] [])) _
    refine XS.aloadN X58.here hx rfl (hb hby d_prog_9_method_5_code_7) rfl rfl ?_
    show Steps p.tables e below (T58.setTop (mkF m 8 #[.val (.ref w4)] [(.ref w4)])) _
    refine st59 _ ?_
    show Steps p.tables e below (T59.setTop (mkF m 11 #[.val (.ref w4)] [(.ref w3), (.ref w4)])) _
    refine Jvm.RoadKit.acmp (g := (mkF m 11 #[.val (.ref w4)] [(.ref w3), (.ref w4)])) X59 hx rfl rfl rfl (pc0 := 11) (pc' := 14) (same := false) rfl (hb hby d_prog_9_method_5_code_11) rfl (decide_eq_false fun q => (Fld.ne wF4_ordinal wF3_ordinal (fun q => absurd (Value.int.inj q) (by decide))) (Value.ref.inj q)) (by decide) (by decide) ?_
    show Steps p.tables e below (T59.setTop (mkF m 14 #[.val (.ref w4)] [])) _
    refine XS.aloadN X59.here hx rfl (hb hby d_prog_9_method_5_code_14) rfl rfl ?_
    show Steps p.tables e below (T59.setTop (mkF m 15 #[.val (.ref w4)] [(.ref w4)])) _
    refine st60 _ ?_
    show Steps p.tables e below (T60.setTop (mkF m 18 #[.val (.ref w4)] [(.ref w4), (.ref w4)])) _
    refine Jvm.RoadKit.acmp (g := (mkF m 18 #[.val (.ref w4)] [(.ref w4), (.ref w4)])) X60 hx rfl rfl rfl (pc0 := 18) (pc' := 21) (same := true) rfl (hb hby d_prog_9_method_5_code_18) rfl (decide_eq_true rfl) (by decide) (by decide) ?_
    show Steps p.tables e below (T60.setTop (mkF m 21 #[.val (.ref w4)] [])) _
    refine XS.iconst X60.here hx rfl (hb hby d_prog_9_method_5_code_21) ?_
    show Steps p.tables e below (T60.setTop (mkF m 22 #[.val (.ref w4)] [(.int (1 : Int32))])) _
    refine XS.goto X60.here hx rfl (pc0 := 22) (pc' := 26) rfl (hb hby d_prog_9_method_5_code_22) (by decide) (by decide) ?_
    show Steps p.tables e below (T60.setTop (mkF m 26 #[.val (.ref w4)] [(.int (1 : Int32))])) _
    exact retN X60 hx (t := .boolean) Bd.returns (by simp) (hb hby d_prog_9_method_5_code_26) hr
  · show Qp (some (.int (1 : Int32))) h0 n0 _ T60.heap _
    rw [e60]
    exact ⟨rfl, N0, rfl⟩
theorem ef5 (m : MethodId)   (w5 : Addr) : entryFrame m #[(.ref w5)] 1 = mkF m 0 #[.val (.ref w5)] [] := by first | (simp [entryFrame, mkF, argsToLocals, Value.category]; done) | rfl
set_option maxRecDepth 65536 in
set_option maxHeartbeats 40000000 in
theorem rm6 (l : Launch) (Z : State) (a0 : Array Value) (hw : ∀ d ∈ tables_1, d.before a0 Z = true) (ws : List Jvm.Cond) (w0 w1 w2 w3 w4 w5 w6 w7 : Addr) (h0 : Heap) (n0 : Nat) (hWd : Wd Z w0 w1 w2 w3 w4 w5 w6 w7) (O0 : Old Z n0 h0) :
    MetFree l (⟨"com/example/policy_to_map/policytomap/core/Mechanism", "isObscuring", "()Z"⟩ : MethodName) (head1 (Jvm.Cond.code (⟨"com/example/policy_to_map/policytomap/core/Mechanism", "isObscuring", "()Z"⟩ : MethodName) prog_9_method_5_code 1 (some .boolean) :: ws) ({ frames := 0, cells := 0, slots := 0, locals := 0 } : Room)) (fun a U => a = #[(.ref w5)] ∧ Z.Warmed39 U.vm ∧ U.heap = h0) (fun _ _ _ _ _ => True) (fun _ U o U' => ∃ v L, o = .returned v ∧ Qp (some (.int (0 : Int32))) h0 n0 v U'.heap L ∧ FrameEnd U o U' L ({ frames := 0, cells := 0, slots := 0, locals := 0 } : Room).cells ({ frames := 0, cells := 0, slots := 0, locals := 0 } : Room).slots) := by
  refine MetFree.of_bodySF (plainFor_of_name pn0) hisR ?_
  intro p e s m args below meth c s₁ Bd hml0 hP hK
  obtain ⟨rfl, hZ, hh⟩ := hP
  have hx := Bd.exec
  have hby := Bd.bytes
  have hml : c.maxLocals = 1 := hml0
  have hown : s.vm.findClass "com/example/policy_to_map/policytomap/core/Mechanism" = some m.cls := findClass_of_methodNamed Bd.named
  have hnm := (name_of_methodNamed Bd.named Bd.method).1
  have X0 : Stand p l e ({ frames := 0, cells := 0, slots := 0, locals := 0 } : Room) s m #[(.ref w5)] below meth c s₁ [] 0 0 := Stand.of_body Bd
  have e0 : s₁.heap = h0 := by rw [← hh, Bd.state]; rfl
  have N0 := Fr.nil n0
  obtain ⟨wS0, wE0, wS1, wE1, wS2, wE2, wS3, wE3, wS4, wE4, wS5, wE5, wS6, wE6, wS7, wE7, wF0_ordinal, wF2_ordinal, wF3_ordinal, wF4_ordinal, wF6_ordinal, wF7_ordinal, wF1_ordinal, wF5_ordinal, -⟩ := id hWd
  have pre0 : ∀ t, Steps p.tables e below (s₁.setTop (mkF m 0 #[.val (.ref w5)] [])) t → Steps p.tables e below (s₁.setTop (entryFrame m #[(.ref w5)] 1)) t := fun t k => castTop (ef5 m w5) k
  obtain ⟨T64, X64, e64, st64⟩ := getS2 X0 hx hZ hown (host := "") (Or.inl (hw _ (List.mem_of_getElem? (i := 27) rfl))) Via.refl e0 (wS2.ext O0.2) (g := (mkF m 1 #[.val (.ref w5)] [(.ref w5)])) rfl (hb hby d_prog_9_method_5_code_1)
  obtain ⟨T65, X65, e65, st65⟩ := getS2 X64 hx hZ hown (host := "") (Or.inl (hw _ (List.mem_of_getElem? (i := 28) rfl))) Via.refl e64 (wS3.ext O0.2) (g := (mkF m 8 #[.val (.ref w5)] [(.ref w5)])) rfl (hb hby d_prog_9_method_5_code_8)
  obtain ⟨T66, X66, e66, st66⟩ := getS2 X65 hx hZ hown (host := "") (Or.inl (hw _ (List.mem_of_getElem? (i := 29) rfl))) Via.refl e65 (wS4.ext O0.2) (g := (mkF m 15 #[.val (.ref w5)] [(.ref w5)])) rfl (hb hby d_prog_9_method_5_code_15)
  obtain ⟨fs, hr, hrun, hended, hWr, hsame⟩ := X66.leave (v := some (.int (0 : Int32))) (fun h => by rw [Bd.returns] at h; cases h)
  refine ⟨_, _, pre0 _ ?_, hrun, hended, _, _, rfl, ?_, ⟨_, rfl⟩, hWr, hsame.mono (Nat.le_of_ble_eq_true rfl) (Nat.le_of_ble_eq_true rfl)⟩
  · show Steps p.tables e below (s₁.setTop (mkF m 0 #[.val (.ref w5)] [])) _
    refine XS.aloadN X0.here hx rfl (hb hby d_prog_9_method_5_code_0) rfl rfl ?_
    show Steps p.tables e below (s₁.setTop (mkF m 1 #[.val (.ref w5)] [(.ref w5)])) _
    refine st64 _ ?_
    show Steps p.tables e below (T64.setTop (mkF m 4 #[.val (.ref w5)] [(.ref w2), (.ref w5)])) _
    refine Jvm.RoadKit.acmp (g := (mkF m 4 #[.val (.ref w5)] [(.ref w2), (.ref w5)])) X64 hx rfl rfl rfl (pc0 := 4) (pc' := 7) (same := false) rfl (hb hby d_prog_9_method_5_code_4) rfl (decide_eq_false fun q => (Fld.ne wF5_ordinal wF2_ordinal (fun q => absurd (Value.int.inj q) (by decide))) (Value.ref.inj q)) (by decide) (by decide) ?_
    show Steps p.tables e below (T64.setTop (mkF m 7 #[.val (.ref w5)] [])) _
    refine XS.aloadN X64.here hx rfl (hb hby d_prog_9_method_5_code_7) rfl rfl ?_
    show Steps p.tables e below (T64.setTop (mkF m 8 #[.val (.ref w5)] [(.ref w5)])) _
    refine st65 _ ?_
    show Steps p.tables e below (T65.setTop (mkF m 11 #[.val (.ref w5)] [(.ref w3), (.ref w5)])) _
    refine Jvm.RoadKit.acmp (g := (mkF m 11 #[.val (.ref w5)] [(.ref w3), (.ref w5)])) X65 hx rfl rfl rfl (pc0 := 11) (pc' := 14) (same := false) rfl (hb hby d_prog_9_method_5_code_11) rfl (decide_eq_false fun q => (Fld.ne wF5_ordinal wF3_ordinal (fun q => absurd (Value.int.inj q) (by decide))) (Value.ref.inj q)) (by decide) (by decide) ?_
    show Steps p.tables e below (T65.setTop (mkF m 14 #[.val (.ref w5)] [])) _
    refine XS.aloadN X65.here hx rfl (hb hby d_prog_9_method_5_code_14) rfl rfl ?_
    show Steps p.tables e below (T65.setTop (mkF m 15 #[.val (.ref w5)] [(.ref w5)])) _
    refine st66 _ ?_
    show Steps p.tables e below (T66.setTop (mkF m 18 #[.val (.ref w5)] [(.ref w4), (.ref w5)])) _
    refine Jvm.RoadKit.acmp (g := (mkF m 18 #[.val (.ref w5)] [(.ref w4), (.ref w5)])) X66 hx rfl rfl rfl (pc0 := 18) (pc' := 25) (same := false) rfl (hb hby d_prog_9_method_5_code_18) rfl (decide_eq_false fun q => (Fld.ne wF5_ordinal wF4_ordinal (fun q => absurd (Value.int.inj q) (by decide))) (Value.ref.inj q)) (by decide) (by decide) ?_
    show Steps p.tables e below (T66.setTop (mkF m 25 #[.val (.ref w5)] [])) _
    refine XS.iconst X66.here hx rfl (hb hby d_prog_9_method_5_code_25) ?_
    show Steps p.tables e below (T66.setTop (mkF m 26 #[.val (.ref w5)] [(.int (0 : Int32))])) _
    exact retN X66 hx (t := .boolean) Bd.returns (by simp) (hb hby d_prog_9_method_5_code_26) hr
  · show Qp (some (.int (0 : Int32))) h0 n0 _ T66.heap _
    rw [e66]
    exact ⟨rfl, N0, rfl⟩
theorem ef6 (m : MethodId)   (w6 : Addr) : entryFrame m #[(.ref w6)] 1 = mkF m 0 #[.val (.ref w6)] [] := by first | (simp [entryFrame, mkF, argsToLocals, Value.category]; done) | rfl
set_option maxRecDepth 65536 in
set_option maxHeartbeats 40000000 in
theorem rm7 (l : Launch) (Z : State) (a0 : Array Value) (hw : ∀ d ∈ tables_1, d.before a0 Z = true) (ws : List Jvm.Cond) (w0 w1 w2 w3 w4 w5 w6 w7 : Addr) (h0 : Heap) (n0 : Nat) (hWd : Wd Z w0 w1 w2 w3 w4 w5 w6 w7) (O0 : Old Z n0 h0) :
    MetFree l (⟨"com/example/policy_to_map/policytomap/core/Mechanism", "isObscuring", "()Z"⟩ : MethodName) (head1 (Jvm.Cond.code (⟨"com/example/policy_to_map/policytomap/core/Mechanism", "isObscuring", "()Z"⟩ : MethodName) prog_9_method_5_code 1 (some .boolean) :: ws) ({ frames := 0, cells := 0, slots := 0, locals := 0 } : Room)) (fun a U => a = #[(.ref w6)] ∧ Z.Warmed39 U.vm ∧ U.heap = h0) (fun _ _ _ _ _ => True) (fun _ U o U' => ∃ v L, o = .returned v ∧ Qp (some (.int (0 : Int32))) h0 n0 v U'.heap L ∧ FrameEnd U o U' L ({ frames := 0, cells := 0, slots := 0, locals := 0 } : Room).cells ({ frames := 0, cells := 0, slots := 0, locals := 0 } : Room).slots) := by
  refine MetFree.of_bodySF (plainFor_of_name pn0) hisR ?_
  intro p e s m args below meth c s₁ Bd hml0 hP hK
  obtain ⟨rfl, hZ, hh⟩ := hP
  have hx := Bd.exec
  have hby := Bd.bytes
  have hml : c.maxLocals = 1 := hml0
  have hown : s.vm.findClass "com/example/policy_to_map/policytomap/core/Mechanism" = some m.cls := findClass_of_methodNamed Bd.named
  have hnm := (name_of_methodNamed Bd.named Bd.method).1
  have X0 : Stand p l e ({ frames := 0, cells := 0, slots := 0, locals := 0 } : Room) s m #[(.ref w6)] below meth c s₁ [] 0 0 := Stand.of_body Bd
  have e0 : s₁.heap = h0 := by rw [← hh, Bd.state]; rfl
  have N0 := Fr.nil n0
  obtain ⟨wS0, wE0, wS1, wE1, wS2, wE2, wS3, wE3, wS4, wE4, wS5, wE5, wS6, wE6, wS7, wE7, wF0_ordinal, wF2_ordinal, wF3_ordinal, wF4_ordinal, wF6_ordinal, wF7_ordinal, wF1_ordinal, wF5_ordinal, -⟩ := id hWd
  have pre0 : ∀ t, Steps p.tables e below (s₁.setTop (mkF m 0 #[.val (.ref w6)] [])) t → Steps p.tables e below (s₁.setTop (entryFrame m #[(.ref w6)] 1)) t := fun t k => castTop (ef6 m w6) k
  obtain ⟨T70, X70, e70, st70⟩ := getS2 X0 hx hZ hown (host := "") (Or.inl (hw _ (List.mem_of_getElem? (i := 27) rfl))) Via.refl e0 (wS2.ext O0.2) (g := (mkF m 1 #[.val (.ref w6)] [(.ref w6)])) rfl (hb hby d_prog_9_method_5_code_1)
  obtain ⟨T71, X71, e71, st71⟩ := getS2 X70 hx hZ hown (host := "") (Or.inl (hw _ (List.mem_of_getElem? (i := 28) rfl))) Via.refl e70 (wS3.ext O0.2) (g := (mkF m 8 #[.val (.ref w6)] [(.ref w6)])) rfl (hb hby d_prog_9_method_5_code_8)
  obtain ⟨T72, X72, e72, st72⟩ := getS2 X71 hx hZ hown (host := "") (Or.inl (hw _ (List.mem_of_getElem? (i := 29) rfl))) Via.refl e71 (wS4.ext O0.2) (g := (mkF m 15 #[.val (.ref w6)] [(.ref w6)])) rfl (hb hby d_prog_9_method_5_code_15)
  obtain ⟨fs, hr, hrun, hended, hWr, hsame⟩ := X72.leave (v := some (.int (0 : Int32))) (fun h => by rw [Bd.returns] at h; cases h)
  refine ⟨_, _, pre0 _ ?_, hrun, hended, _, _, rfl, ?_, ⟨_, rfl⟩, hWr, hsame.mono (Nat.le_of_ble_eq_true rfl) (Nat.le_of_ble_eq_true rfl)⟩
  · show Steps p.tables e below (s₁.setTop (mkF m 0 #[.val (.ref w6)] [])) _
    refine XS.aloadN X0.here hx rfl (hb hby d_prog_9_method_5_code_0) rfl rfl ?_
    show Steps p.tables e below (s₁.setTop (mkF m 1 #[.val (.ref w6)] [(.ref w6)])) _
    refine st70 _ ?_
    show Steps p.tables e below (T70.setTop (mkF m 4 #[.val (.ref w6)] [(.ref w2), (.ref w6)])) _
    refine Jvm.RoadKit.acmp (g := (mkF m 4 #[.val (.ref w6)] [(.ref w2), (.ref w6)])) X70 hx rfl rfl rfl (pc0 := 4) (pc' := 7) (same := false) rfl (hb hby d_prog_9_method_5_code_4) rfl (decide_eq_false fun q => (Fld.ne wF6_ordinal wF2_ordinal (fun q => absurd (Value.int.inj q) (by decide))) (Value.ref.inj q)) (by decide) (by decide) ?_
    show Steps p.tables e below (T70.setTop (mkF m 7 #[.val (.ref w6)] [])) _
    refine XS.aloadN X70.here hx rfl (hb hby d_prog_9_method_5_code_7) rfl rfl ?_
    show Steps p.tables e below (T70.setTop (mkF m 8 #[.val (.ref w6)] [(.ref w6)])) _
    refine st71 _ ?_
    show Steps p.tables e below (T71.setTop (mkF m 11 #[.val (.ref w6)] [(.ref w3), (.ref w6)])) _
    refine Jvm.RoadKit.acmp (g := (mkF m 11 #[.val (.ref w6)] [(.ref w3), (.ref w6)])) X71 hx rfl rfl rfl (pc0 := 11) (pc' := 14) (same := false) rfl (hb hby d_prog_9_method_5_code_11) rfl (decide_eq_false fun q => (Fld.ne wF6_ordinal wF3_ordinal (fun q => absurd (Value.int.inj q) (by decide))) (Value.ref.inj q)) (by decide) (by decide) ?_
    show Steps p.tables e below (T71.setTop (mkF m 14 #[.val (.ref w6)] [])) _
    refine XS.aloadN X71.here hx rfl (hb hby d_prog_9_method_5_code_14) rfl rfl ?_
    show Steps p.tables e below (T71.setTop (mkF m 15 #[.val (.ref w6)] [(.ref w6)])) _
    refine st72 _ ?_
    show Steps p.tables e below (T72.setTop (mkF m 18 #[.val (.ref w6)] [(.ref w4), (.ref w6)])) _
    refine Jvm.RoadKit.acmp (g := (mkF m 18 #[.val (.ref w6)] [(.ref w4), (.ref w6)])) X72 hx rfl rfl rfl (pc0 := 18) (pc' := 25) (same := false) rfl (hb hby d_prog_9_method_5_code_18) rfl (decide_eq_false fun q => (Fld.ne wF6_ordinal wF4_ordinal (fun q => absurd (Value.int.inj q) (by decide))) (Value.ref.inj q)) (by decide) (by decide) ?_
    show Steps p.tables e below (T72.setTop (mkF m 25 #[.val (.ref w6)] [])) _
    refine XS.iconst X72.here hx rfl (hb hby d_prog_9_method_5_code_25) ?_
    show Steps p.tables e below (T72.setTop (mkF m 26 #[.val (.ref w6)] [(.int (0 : Int32))])) _
    exact retN X72 hx (t := .boolean) Bd.returns (by simp) (hb hby d_prog_9_method_5_code_26) hr
  · show Qp (some (.int (0 : Int32))) h0 n0 _ T72.heap _
    rw [e72]
    exact ⟨rfl, N0, rfl⟩
theorem ef7 (m : MethodId)   (w7 : Addr) : entryFrame m #[(.ref w7)] 1 = mkF m 0 #[.val (.ref w7)] [] := by first | (simp [entryFrame, mkF, argsToLocals, Value.category]; done) | rfl
set_option maxRecDepth 65536 in
set_option maxHeartbeats 40000000 in
theorem rm8 (l : Launch) (Z : State) (a0 : Array Value) (hw : ∀ d ∈ tables_1, d.before a0 Z = true) (ws : List Jvm.Cond) (w0 w1 w2 w3 w4 w5 w6 w7 : Addr) (h0 : Heap) (n0 : Nat) (hWd : Wd Z w0 w1 w2 w3 w4 w5 w6 w7) (O0 : Old Z n0 h0) :
    MetFree l (⟨"com/example/policy_to_map/policytomap/core/Mechanism", "isObscuring", "()Z"⟩ : MethodName) (head1 (Jvm.Cond.code (⟨"com/example/policy_to_map/policytomap/core/Mechanism", "isObscuring", "()Z"⟩ : MethodName) prog_9_method_5_code 1 (some .boolean) :: ws) ({ frames := 0, cells := 0, slots := 0, locals := 0 } : Room)) (fun a U => a = #[(.ref w7)] ∧ Z.Warmed39 U.vm ∧ U.heap = h0) (fun _ _ _ _ _ => True) (fun _ U o U' => ∃ v L, o = .returned v ∧ Qp (some (.int (0 : Int32))) h0 n0 v U'.heap L ∧ FrameEnd U o U' L ({ frames := 0, cells := 0, slots := 0, locals := 0 } : Room).cells ({ frames := 0, cells := 0, slots := 0, locals := 0 } : Room).slots) := by
  refine MetFree.of_bodySF (plainFor_of_name pn0) hisR ?_
  intro p e s m args below meth c s₁ Bd hml0 hP hK
  obtain ⟨rfl, hZ, hh⟩ := hP
  have hx := Bd.exec
  have hby := Bd.bytes
  have hml : c.maxLocals = 1 := hml0
  have hown : s.vm.findClass "com/example/policy_to_map/policytomap/core/Mechanism" = some m.cls := findClass_of_methodNamed Bd.named
  have hnm := (name_of_methodNamed Bd.named Bd.method).1
  have X0 : Stand p l e ({ frames := 0, cells := 0, slots := 0, locals := 0 } : Room) s m #[(.ref w7)] below meth c s₁ [] 0 0 := Stand.of_body Bd
  have e0 : s₁.heap = h0 := by rw [← hh, Bd.state]; rfl
  have N0 := Fr.nil n0
  obtain ⟨wS0, wE0, wS1, wE1, wS2, wE2, wS3, wE3, wS4, wE4, wS5, wE5, wS6, wE6, wS7, wE7, wF0_ordinal, wF2_ordinal, wF3_ordinal, wF4_ordinal, wF6_ordinal, wF7_ordinal, wF1_ordinal, wF5_ordinal, -⟩ := id hWd
  have pre0 : ∀ t, Steps p.tables e below (s₁.setTop (mkF m 0 #[.val (.ref w7)] [])) t → Steps p.tables e below (s₁.setTop (entryFrame m #[(.ref w7)] 1)) t := fun t k => castTop (ef7 m w7) k
  obtain ⟨T76, X76, e76, st76⟩ := getS2 X0 hx hZ hown (host := "") (Or.inl (hw _ (List.mem_of_getElem? (i := 27) rfl))) Via.refl e0 (wS2.ext O0.2) (g := (mkF m 1 #[.val (.ref w7)] [(.ref w7)])) rfl (hb hby d_prog_9_method_5_code_1)
  obtain ⟨T77, X77, e77, st77⟩ := getS2 X76 hx hZ hown (host := "") (Or.inl (hw _ (List.mem_of_getElem? (i := 28) rfl))) Via.refl e76 (wS3.ext O0.2) (g := (mkF m 8 #[.val (.ref w7)] [(.ref w7)])) rfl (hb hby d_prog_9_method_5_code_8)
  obtain ⟨T78, X78, e78, st78⟩ := getS2 X77 hx hZ hown (host := "") (Or.inl (hw _ (List.mem_of_getElem? (i := 29) rfl))) Via.refl e77 (wS4.ext O0.2) (g := (mkF m 15 #[.val (.ref w7)] [(.ref w7)])) rfl (hb hby d_prog_9_method_5_code_15)
  obtain ⟨fs, hr, hrun, hended, hWr, hsame⟩ := X78.leave (v := some (.int (0 : Int32))) (fun h => by rw [Bd.returns] at h; cases h)
  refine ⟨_, _, pre0 _ ?_, hrun, hended, _, _, rfl, ?_, ⟨_, rfl⟩, hWr, hsame.mono (Nat.le_of_ble_eq_true rfl) (Nat.le_of_ble_eq_true rfl)⟩
  · show Steps p.tables e below (s₁.setTop (mkF m 0 #[.val (.ref w7)] [])) _
    refine XS.aloadN X0.here hx rfl (hb hby d_prog_9_method_5_code_0) rfl rfl ?_
    show Steps p.tables e below (s₁.setTop (mkF m 1 #[.val (.ref w7)] [(.ref w7)])) _
    refine st76 _ ?_
    show Steps p.tables e below (T76.setTop (mkF m 4 #[.val (.ref w7)] [(.ref w2), (.ref w7)])) _
    refine Jvm.RoadKit.acmp (g := (mkF m 4 #[.val (.ref w7)] [(.ref w2), (.ref w7)])) X76 hx rfl rfl rfl (pc0 := 4) (pc' := 7) (same := false) rfl (hb hby d_prog_9_method_5_code_4) rfl (decide_eq_false fun q => (Fld.ne wF7_ordinal wF2_ordinal (fun q => absurd (Value.int.inj q) (by decide))) (Value.ref.inj q)) (by decide) (by decide) ?_
    show Steps p.tables e below (T76.setTop (mkF m 7 #[.val (.ref w7)] [])) _
    refine XS.aloadN X76.here hx rfl (hb hby d_prog_9_method_5_code_7) rfl rfl ?_
    show Steps p.tables e below (T76.setTop (mkF m 8 #[.val (.ref w7)] [(.ref w7)])) _
    refine st77 _ ?_
    show Steps p.tables e below (T77.setTop (mkF m 11 #[.val (.ref w7)] [(.ref w3), (.ref w7)])) _
    refine Jvm.RoadKit.acmp (g := (mkF m 11 #[.val (.ref w7)] [(.ref w3), (.ref w7)])) X77 hx rfl rfl rfl (pc0 := 11) (pc' := 14) (same := false) rfl (hb hby d_prog_9_method_5_code_11) rfl (decide_eq_false fun q => (Fld.ne wF7_ordinal wF3_ordinal (fun q => absurd (Value.int.inj q) (by decide))) (Value.ref.inj q)) (by decide) (by decide) ?_
    show Steps p.tables e below (T77.setTop (mkF m 14 #[.val (.ref w7)] [])) _
    refine XS.aloadN X77.here hx rfl (hb hby d_prog_9_method_5_code_14) rfl rfl ?_
    show Steps p.tables e below (T77.setTop (mkF m 15 #[.val (.ref w7)] [(.ref w7)])) _
    refine st78 _ ?_
    show Steps p.tables e below (T78.setTop (mkF m 18 #[.val (.ref w7)] [(.ref w4), (.ref w7)])) _
    refine Jvm.RoadKit.acmp (g := (mkF m 18 #[.val (.ref w7)] [(.ref w4), (.ref w7)])) X78 hx rfl rfl rfl (pc0 := 18) (pc' := 25) (same := false) rfl (hb hby d_prog_9_method_5_code_18) rfl (decide_eq_false fun q => (Fld.ne wF7_ordinal wF4_ordinal (fun q => absurd (Value.int.inj q) (by decide))) (Value.ref.inj q)) (by decide) (by decide) ?_
    show Steps p.tables e below (T78.setTop (mkF m 25 #[.val (.ref w7)] [])) _
    refine XS.iconst X78.here hx rfl (hb hby d_prog_9_method_5_code_25) ?_
    show Steps p.tables e below (T78.setTop (mkF m 26 #[.val (.ref w7)] [(.int (0 : Int32))])) _
    exact retN X78 hx (t := .boolean) Bd.returns (by simp) (hb hby d_prog_9_method_5_code_26) hr
  · show Qp (some (.int (0 : Int32))) h0 n0 _ T78.heap _
    rw [e78]
    exact ⟨rfl, N0, rfl⟩
theorem pn1 : plainName "com/example/policy_to_map/policytomap/core/MechanismIsObscuringPinLaw" = true := by first | (simp [plainName, overriddenIn]; done) | decide +kernel
theorem ef8 (m : MethodId) (i0 : Int32)   : entryFrame m #[(.int i0)] maxLocals = mkF m 0 #[.val (.int i0), .unset, .unset, .unset] [] := by first | (simp [entryFrame, mkF, argsToLocals, Value.category, maxLocals]; done) | rfl
set_option maxRecDepth 65536 in
set_option maxHeartbeats 40000000 in
theorem rm0 (l : Launch) (Z : State) (a0 : Array Value) (hw : ∀ d ∈ tables_1, d.before a0 Z = true) (ws : List Jvm.Cond) (w0 w1 w2 w3 w4 w5 w6 w7 : Addr) (i0 : Int32) (h0 : Heap) (n0 : Nat) (hWd : Wd Z w0 w1 w2 w3 w4 w5 w6 w7) (O0 : Old Z n0 h0) :
    MetFree l x (head1 (Jvm.Cond.code x code maxLocals ret :: ws) room_1) (fun a U => a = #[(.int i0)] ∧ Z.Warmed39 U.vm ∧ U.heap = h0) (fun _ _ _ _ _ => True) (fun _ U o U' => ∃ v L, o = .returned v ∧ Ql n0 v U'.heap L ∧ FrameEnd U o U' L room_1.cells room_1.slots) := by
  refine MetFree.of_bodySF (plainFor_of_name pn1) hisR ?_
  intro p e s m args below meth c s₁ Bd hml0 hP hK
  obtain ⟨rfl, hZ, hh⟩ := hP
  have hx := Bd.exec
  have hby := Bd.bytes
  have hml : c.maxLocals = 4 := hml0
  have hown : s.vm.findClass "com/example/policy_to_map/policytomap/core/MechanismIsObscuringPinLaw" = some m.cls := findClass_of_methodNamed Bd.named
  have hnm := (name_of_methodNamed Bd.named Bd.method).1
  have X0 : Stand p l e room_1 s m #[(.int i0)] below meth c s₁ [] 0 0 := Stand.of_body Bd
  have e0 : s₁.heap = h0 := by rw [← hh, Bd.state]; rfl
  have N0 := Fr.nil n0
  obtain ⟨wS0, wE0, wS1, wE1, wS2, wE2, wS3, wE3, wS4, wE4, wS5, wE5, wS6, wE6, wS7, wE7, wF0_ordinal, wF2_ordinal, wF3_ordinal, wF4_ordinal, wF6_ordinal, wF7_ordinal, wF1_ordinal, wF5_ordinal, -⟩ := id hWd
  have pre0 : ∀ t, Steps p.tables e below (s₁.setTop (mkF m 0 #[.val (.int i0), .unset, .unset, .unset] [])) t → Steps p.tables e below (s₁.setTop (entryFrame m #[(.int i0)] maxLocals)) t := fun t k => castTop (ef8 m i0) k
  obtain ⟨T1, h1, k1, X1, e1, E1, A1, O1, st1⟩ := newR X0 hx hZ hown (hw _ (List.mem_of_getElem? (i := 0) rfl)) (hw _ (List.mem_of_getElem? (i := 1) rfl)) e0 (g := (mkF m 2 #[.val (.int i0), .unset, .unset, .unset] [(.int (8 : Int32))])) rfl (hb hby at_2) rfl (by decide) (cap := 8) (by decide) (by decide) (by decide) (by decide)
  obtain ⟨b1, g1⟩ : ∃ z, z = h0.size := ⟨_, rfl⟩
  rw [← g1] at A1 st1
  have V1 : Arv Z h1 b1 k1 (.object "com/example/policy_to_map/policytomap/core/Mechanism") (8 : Int32) [.null, .null, .null, .null, .null, .null, .null, .null] .null := (Arv.new A1 (by decide)).pad (pad_rep [] .null 8)
  have g_b1 : n0 ≤ b1 := Nat.le_trans (Nat.le_trans (Nat.le_of_eq O0.1.symm) O0.2.1) (Nat.le_of_eq g1.symm)
  have O_1 : Old Z n0 h1 := O0.ext E1
  obtain ⟨T2, X2, e2, st2⟩ := getS2 X1 hx hZ hown (host := "") (Or.inl (hw _ (List.mem_of_getElem? (i := 2) rfl))) Via.refl e1 (wS0.ext O_1.2) (g := (mkF m 7 #[.val (.int i0), .unset, .unset, .unset] [(.int (0 : Int32)), (.ref b1), (.ref b1)])) rfl (hb hby at_7)
  obtain ⟨cl3, Ar3, q3, S3, M3, H3, G3⟩ := V1
  have hin3 : ¬ ((0 : Int32) < 0 ∨ cl3.slots.size ≤ ((0 : Int32)).toNatClampNeg) := inb_of S3 ⟨by decide, by decide⟩
  obtain ⟨T3, h3, X3, e3, W3, st3⟩ := stR X2 hx hZ e2 Ar3 (j := (0 : Int32)) hin3 rfl (Sto.ofV Ar3 q3 O1 (Ins.self (wE0.ext O_1.2))) (g := (mkF m 10 #[.val (.int i0), .unset, .unset, .unset] [(.ref w0), (.int (0 : Int32)), (.ref b1), (.ref b1)])) rfl rfl (hb hby at_10)
  have V3 : Arv Z h3 b1 k1 (.object "com/example/policy_to_map/policytomap/core/Mechanism") (8 : Int32) [(.ref w0), .null, .null, .null, .null, .null, .null, .null] .null := Arv.set Ar3 q3 S3 M3 H3 G3 rfl W3 0 rfl (Nat.le_of_ble_eq_true rfl)
  have N3 := Fr.snoc X3 N0 g_b1
  have O_3 : Old Z n0 h3 := O_1.wr W3 g_b1
  obtain ⟨T4, X4, e4, st4⟩ := getS2 X3 hx hZ hown (host := "") (Or.inl (hw _ (List.mem_of_getElem? (i := 6) rfl))) Via.refl e3 (wS1.ext O_3.2) (g := (mkF m 13 #[.val (.int i0), .unset, .unset, .unset] [(.int (1 : Int32)), (.ref b1), (.ref b1)])) rfl (hb hby at_13)
  obtain ⟨cl5, Ar5, q5, S5, M5, H5, G5⟩ := V3
  have hin5 : ¬ ((1 : Int32) < 0 ∨ cl5.slots.size ≤ ((1 : Int32)).toNatClampNeg) := inb_of S5 ⟨by decide, by decide⟩
  obtain ⟨T5, h5, X5, e5, W5, st5⟩ := stR X4 hx hZ e4 Ar5 (j := (1 : Int32)) hin5 rfl (Sto.ofV Ar5 q5 O1 (Ins.self (wE1.ext O_3.2))) (g := (mkF m 16 #[.val (.int i0), .unset, .unset, .unset] [(.ref w1), (.int (1 : Int32)), (.ref b1), (.ref b1)])) rfl rfl (hb hby at_16)
  have V5 : Arv Z h5 b1 k1 (.object "com/example/policy_to_map/policytomap/core/Mechanism") (8 : Int32) [(.ref w0), (.ref w1), .null, .null, .null, .null, .null, .null] .null := Arv.set Ar5 q5 S5 M5 H5 G5 rfl W5 1 rfl (Nat.le_of_ble_eq_true rfl)
  have N5 := Fr.snoc X5 N3 g_b1
  have O_5 : Old Z n0 h5 := O_3.wr W5 g_b1
  obtain ⟨T6, X6, e6, st6⟩ := getS2 X5 hx hZ hown (host := "") (Or.inl (hw _ (List.mem_of_getElem? (i := 8) rfl))) Via.refl e5 (wS2.ext O_5.2) (g := (mkF m 19 #[.val (.int i0), .unset, .unset, .unset] [(.int (2 : Int32)), (.ref b1), (.ref b1)])) rfl (hb hby at_19)
  obtain ⟨cl7, Ar7, q7, S7, M7, H7, G7⟩ := V5
  have hin7 : ¬ ((2 : Int32) < 0 ∨ cl7.slots.size ≤ ((2 : Int32)).toNatClampNeg) := inb_of S7 ⟨by decide, by decide⟩
  obtain ⟨T7, h7, X7, e7, W7, st7⟩ := stR X6 hx hZ e6 Ar7 (j := (2 : Int32)) hin7 rfl (Sto.ofV Ar7 q7 O1 (Ins.self (wE2.ext O_5.2))) (g := (mkF m 22 #[.val (.int i0), .unset, .unset, .unset] [(.ref w2), (.int (2 : Int32)), (.ref b1), (.ref b1)])) rfl rfl (hb hby at_22)
  have V7 : Arv Z h7 b1 k1 (.object "com/example/policy_to_map/policytomap/core/Mechanism") (8 : Int32) [(.ref w0), (.ref w1), (.ref w2), .null, .null, .null, .null, .null] .null := Arv.set Ar7 q7 S7 M7 H7 G7 rfl W7 2 rfl (Nat.le_of_ble_eq_true rfl)
  have N7 := Fr.snoc X7 N5 g_b1
  have O_7 : Old Z n0 h7 := O_5.wr W7 g_b1
  obtain ⟨T8, X8, e8, st8⟩ := getS2 X7 hx hZ hown (host := "") (Or.inl (hw _ (List.mem_of_getElem? (i := 10) rfl))) Via.refl e7 (wS3.ext O_7.2) (g := (mkF m 25 #[.val (.int i0), .unset, .unset, .unset] [(.int (3 : Int32)), (.ref b1), (.ref b1)])) rfl (hb hby at_25)
  obtain ⟨cl9, Ar9, q9, S9, M9, H9, G9⟩ := V7
  have hin9 : ¬ ((3 : Int32) < 0 ∨ cl9.slots.size ≤ ((3 : Int32)).toNatClampNeg) := inb_of S9 ⟨by decide, by decide⟩
  obtain ⟨T9, h9, X9, e9, W9, st9⟩ := stR X8 hx hZ e8 Ar9 (j := (3 : Int32)) hin9 rfl (Sto.ofV Ar9 q9 O1 (Ins.self (wE3.ext O_7.2))) (g := (mkF m 28 #[.val (.int i0), .unset, .unset, .unset] [(.ref w3), (.int (3 : Int32)), (.ref b1), (.ref b1)])) rfl rfl (hb hby at_28)
  have V9 : Arv Z h9 b1 k1 (.object "com/example/policy_to_map/policytomap/core/Mechanism") (8 : Int32) [(.ref w0), (.ref w1), (.ref w2), (.ref w3), .null, .null, .null, .null] .null := Arv.set Ar9 q9 S9 M9 H9 G9 rfl W9 3 rfl (Nat.le_of_ble_eq_true rfl)
  have N9 := Fr.snoc X9 N7 g_b1
  have O_9 : Old Z n0 h9 := O_7.wr W9 g_b1
  obtain ⟨T10, X10, e10, st10⟩ := getS2 X9 hx hZ hown (host := "") (Or.inl (hw _ (List.mem_of_getElem? (i := 12) rfl))) Via.refl e9 (wS4.ext O_9.2) (g := (mkF m 31 #[.val (.int i0), .unset, .unset, .unset] [(.int (4 : Int32)), (.ref b1), (.ref b1)])) rfl (hb hby at_31)
  obtain ⟨cl11, Ar11, q11, S11, M11, H11, G11⟩ := V9
  have hin11 : ¬ ((4 : Int32) < 0 ∨ cl11.slots.size ≤ ((4 : Int32)).toNatClampNeg) := inb_of S11 ⟨by decide, by decide⟩
  obtain ⟨T11, h11, X11, e11, W11, st11⟩ := stR X10 hx hZ e10 Ar11 (j := (4 : Int32)) hin11 rfl (Sto.ofV Ar11 q11 O1 (Ins.self (wE4.ext O_9.2))) (g := (mkF m 34 #[.val (.int i0), .unset, .unset, .unset] [(.ref w4), (.int (4 : Int32)), (.ref b1), (.ref b1)])) rfl rfl (hb hby at_34)
  have V11 : Arv Z h11 b1 k1 (.object "com/example/policy_to_map/policytomap/core/Mechanism") (8 : Int32) [(.ref w0), (.ref w1), (.ref w2), (.ref w3), (.ref w4), .null, .null, .null] .null := Arv.set Ar11 q11 S11 M11 H11 G11 rfl W11 4 rfl (Nat.le_of_ble_eq_true rfl)
  have N11 := Fr.snoc X11 N9 g_b1
  have O_11 : Old Z n0 h11 := O_9.wr W11 g_b1
  obtain ⟨T12, X12, e12, st12⟩ := getS2 X11 hx hZ hown (host := "") (Or.inl (hw _ (List.mem_of_getElem? (i := 14) rfl))) Via.refl e11 (wS5.ext O_11.2) (g := (mkF m 37 #[.val (.int i0), .unset, .unset, .unset] [(.int (5 : Int32)), (.ref b1), (.ref b1)])) rfl (hb hby at_37)
  obtain ⟨cl13, Ar13, q13, S13, M13, H13, G13⟩ := V11
  have hin13 : ¬ ((5 : Int32) < 0 ∨ cl13.slots.size ≤ ((5 : Int32)).toNatClampNeg) := inb_of S13 ⟨by decide, by decide⟩
  obtain ⟨T13, h13, X13, e13, W13, st13⟩ := stR X12 hx hZ e12 Ar13 (j := (5 : Int32)) hin13 rfl (Sto.ofV Ar13 q13 O1 (Ins.self (wE5.ext O_11.2))) (g := (mkF m 40 #[.val (.int i0), .unset, .unset, .unset] [(.ref w5), (.int (5 : Int32)), (.ref b1), (.ref b1)])) rfl rfl (hb hby at_40)
  have V13 : Arv Z h13 b1 k1 (.object "com/example/policy_to_map/policytomap/core/Mechanism") (8 : Int32) [(.ref w0), (.ref w1), (.ref w2), (.ref w3), (.ref w4), (.ref w5), .null, .null] .null := Arv.set Ar13 q13 S13 M13 H13 G13 rfl W13 5 rfl (Nat.le_of_ble_eq_true rfl)
  have N13 := Fr.snoc X13 N11 g_b1
  have O_13 : Old Z n0 h13 := O_11.wr W13 g_b1
  obtain ⟨T14, X14, e14, st14⟩ := getS2 X13 hx hZ hown (host := "") (Or.inl (hw _ (List.mem_of_getElem? (i := 16) rfl))) Via.refl e13 (wS6.ext O_13.2) (g := (mkF m 44 #[.val (.int i0), .unset, .unset, .unset] [(.int (6 : Int32)), (.ref b1), (.ref b1)])) rfl (hb hby at_44)
  obtain ⟨cl15, Ar15, q15, S15, M15, H15, G15⟩ := V13
  have hin15 : ¬ ((6 : Int32) < 0 ∨ cl15.slots.size ≤ ((6 : Int32)).toNatClampNeg) := inb_of S15 ⟨by decide, by decide⟩
  obtain ⟨T15, h15, X15, e15, W15, st15⟩ := stR X14 hx hZ e14 Ar15 (j := (6 : Int32)) hin15 rfl (Sto.ofV Ar15 q15 O1 (Ins.self (wE6.ext O_13.2))) (g := (mkF m 47 #[.val (.int i0), .unset, .unset, .unset] [(.ref w6), (.int (6 : Int32)), (.ref b1), (.ref b1)])) rfl rfl (hb hby at_47)
  have V15 : Arv Z h15 b1 k1 (.object "com/example/policy_to_map/policytomap/core/Mechanism") (8 : Int32) [(.ref w0), (.ref w1), (.ref w2), (.ref w3), (.ref w4), (.ref w5), (.ref w6), .null] .null := Arv.set Ar15 q15 S15 M15 H15 G15 rfl W15 6 rfl (Nat.le_of_ble_eq_true rfl)
  have N15 := Fr.snoc X15 N13 g_b1
  have O_15 : Old Z n0 h15 := O_13.wr W15 g_b1
  obtain ⟨T16, X16, e16, st16⟩ := getS2 X15 hx hZ hown (host := "") (Or.inl (hw _ (List.mem_of_getElem? (i := 18) rfl))) Via.refl e15 (wS7.ext O_15.2) (g := (mkF m 51 #[.val (.int i0), .unset, .unset, .unset] [(.int (7 : Int32)), (.ref b1), (.ref b1)])) rfl (hb hby at_51)
  obtain ⟨cl17, Ar17, q17, S17, M17, H17, G17⟩ := V15
  have hin17 : ¬ ((7 : Int32) < 0 ∨ cl17.slots.size ≤ ((7 : Int32)).toNatClampNeg) := inb_of S17 ⟨by decide, by decide⟩
  obtain ⟨T17, h17, X17, e17, W17, st17⟩ := stR X16 hx hZ e16 Ar17 (j := (7 : Int32)) hin17 rfl (Sto.ofV Ar17 q17 O1 (Ins.self (wE7.ext O_15.2))) (g := (mkF m 54 #[.val (.int i0), .unset, .unset, .unset] [(.ref w7), (.int (7 : Int32)), (.ref b1), (.ref b1)])) rfl rfl (hb hby at_54)
  have V17 : Arv Z h17 b1 k1 (.object "com/example/policy_to_map/policytomap/core/Mechanism") (8 : Int32) [(.ref w0), (.ref w1), (.ref w2), (.ref w3), (.ref w4), (.ref w5), (.ref w6), (.ref w7)] .null := Arv.set Ar17 q17 S17 M17 H17 G17 rfl W17 7 rfl (Nat.le_of_ble_eq_true rfl)
  have N17 := Fr.snoc X17 N15 g_b1
  have O_17 : Old Z n0 h17 := O_15.wr W17 g_b1
  obtain ⟨T18, h18, k18, X18, e18, E18, A18, st18⟩ := newP X17 hx hZ (hw _ (List.mem_of_getElem? (i := 20) rfl)) e17 (g := (mkF m 58 #[.val (.int i0), .val (.ref b1), .unset, .unset] [(.int (8 : Int32))])) rfl (hb hby at_58) rfl (by decide) (cap := 8) (by decide) (by decide) (by decide) (by decide)
  obtain ⟨b18, g18⟩ : ∃ z, z = h17.size := ⟨_, rfl⟩
  rw [← g18] at A18 st18
  have V18 : Arv Z h18 b18 k18 .boolean (8 : Int32) [(.int (0 : Int32)), (.int (0 : Int32)), (.int (0 : Int32)), (.int (0 : Int32)), (.int (0 : Int32)), (.int (0 : Int32)), (.int (0 : Int32)), (.int (0 : Int32))] (.int (0 : Int32)) := (Arv.new A18 (by decide)).pad (pad_rep [] (.int (0 : Int32)) 8)
  have g_b18 : n0 ≤ b18 := Nat.le_trans (Nat.le_trans (Nat.le_of_eq O_17.1.symm) O_17.2.1) (Nat.le_of_eq g18.symm)
  have ne_b1_b18 : b1 ≠ b18 := Nat.ne_of_lt (Nat.lt_of_lt_of_le V17.lt (Nat.le_of_eq g18.symm))
  have O_18 : Old Z n0 h18 := O_17.ext E18
  obtain ⟨cl19, Ar19, q19, S19, M19, H19, G19⟩ := V18
  have hin19 : ¬ ((0 : Int32) < 0 ∨ cl19.slots.size ≤ ((0 : Int32)).toNatClampNeg) := inb_of S19 ⟨by decide, by decide⟩
  obtain ⟨T19, h19, X19, e19, W19, st19⟩ := stZ X18 hx hZ e18 Ar19 (j := (0 : Int32)) hin19 (g := (mkF m 63 #[.val (.int i0), .val (.ref b1), .unset, .unset] [(.int (0 : Int32)), (.int (0 : Int32)), (.ref b18), (.ref b18)])) rfl rfl (hb hby at_63)
  have V19 : Arv Z h19 b18 k18 .boolean (8 : Int32) [(.int (0 : Int32)), (.int (0 : Int32)), (.int (0 : Int32)), (.int (0 : Int32)), (.int (0 : Int32)), (.int (0 : Int32)), (.int (0 : Int32)), (.int (0 : Int32))] (.int (0 : Int32)) := Arv.set Ar19 q19 S19 M19 H19 G19 rfl W19 0 rfl (Nat.le_of_ble_eq_true rfl)
  have N19 := Fr.snoc X19 N17 g_b18
  have O_19 : Old Z n0 h19 := O_18.wr W19 g_b18
  obtain ⟨cl20, Ar20, q20, S20, M20, H20, G20⟩ := V19
  have hin20 : ¬ ((1 : Int32) < 0 ∨ cl20.slots.size ≤ ((1 : Int32)).toNatClampNeg) := inb_of S20 ⟨by decide, by decide⟩
  obtain ⟨T20, h20, X20, e20, W20, st20⟩ := stZ X19 hx hZ e19 Ar20 (j := (1 : Int32)) hin20 (g := (mkF m 67 #[.val (.int i0), .val (.ref b1), .unset, .unset] [(.int (0 : Int32)), (.int (1 : Int32)), (.ref b18), (.ref b18)])) rfl rfl (hb hby at_67)
  have V20 : Arv Z h20 b18 k18 .boolean (8 : Int32) [(.int (0 : Int32)), (.int (0 : Int32)), (.int (0 : Int32)), (.int (0 : Int32)), (.int (0 : Int32)), (.int (0 : Int32)), (.int (0 : Int32)), (.int (0 : Int32))] (.int (0 : Int32)) := Arv.set Ar20 q20 S20 M20 H20 G20 rfl W20 1 rfl (Nat.le_of_ble_eq_true rfl)
  have N20 := Fr.snoc X20 N19 g_b18
  have O_20 : Old Z n0 h20 := O_19.wr W20 g_b18
  obtain ⟨cl21, Ar21, q21, S21, M21, H21, G21⟩ := V20
  have hin21 : ¬ ((2 : Int32) < 0 ∨ cl21.slots.size ≤ ((2 : Int32)).toNatClampNeg) := inb_of S21 ⟨by decide, by decide⟩
  obtain ⟨T21, h21, X21, e21, W21, st21⟩ := stZ X20 hx hZ e20 Ar21 (j := (2 : Int32)) hin21 (g := (mkF m 71 #[.val (.int i0), .val (.ref b1), .unset, .unset] [(.int (1 : Int32)), (.int (2 : Int32)), (.ref b18), (.ref b18)])) rfl rfl (hb hby at_71)
  have V21 : Arv Z h21 b18 k18 .boolean (8 : Int32) [(.int (0 : Int32)), (.int (0 : Int32)), (.int (1 : Int32)), (.int (0 : Int32)), (.int (0 : Int32)), (.int (0 : Int32)), (.int (0 : Int32)), (.int (0 : Int32))] (.int (0 : Int32)) := Arv.set Ar21 q21 S21 M21 H21 G21 rfl W21 2 rfl (Nat.le_of_ble_eq_true rfl)
  have N21 := Fr.snoc X21 N20 g_b18
  have O_21 : Old Z n0 h21 := O_20.wr W21 g_b18
  obtain ⟨cl22, Ar22, q22, S22, M22, H22, G22⟩ := V21
  have hin22 : ¬ ((3 : Int32) < 0 ∨ cl22.slots.size ≤ ((3 : Int32)).toNatClampNeg) := inb_of S22 ⟨by decide, by decide⟩
  obtain ⟨T22, h22, X22, e22, W22, st22⟩ := stZ X21 hx hZ e21 Ar22 (j := (3 : Int32)) hin22 (g := (mkF m 75 #[.val (.int i0), .val (.ref b1), .unset, .unset] [(.int (1 : Int32)), (.int (3 : Int32)), (.ref b18), (.ref b18)])) rfl rfl (hb hby at_75)
  have V22 : Arv Z h22 b18 k18 .boolean (8 : Int32) [(.int (0 : Int32)), (.int (0 : Int32)), (.int (1 : Int32)), (.int (1 : Int32)), (.int (0 : Int32)), (.int (0 : Int32)), (.int (0 : Int32)), (.int (0 : Int32))] (.int (0 : Int32)) := Arv.set Ar22 q22 S22 M22 H22 G22 rfl W22 3 rfl (Nat.le_of_ble_eq_true rfl)
  have N22 := Fr.snoc X22 N21 g_b18
  have O_22 : Old Z n0 h22 := O_21.wr W22 g_b18
  obtain ⟨cl23, Ar23, q23, S23, M23, H23, G23⟩ := V22
  have hin23 : ¬ ((4 : Int32) < 0 ∨ cl23.slots.size ≤ ((4 : Int32)).toNatClampNeg) := inb_of S23 ⟨by decide, by decide⟩
  obtain ⟨T23, h23, X23, e23, W23, st23⟩ := stZ X22 hx hZ e22 Ar23 (j := (4 : Int32)) hin23 (g := (mkF m 79 #[.val (.int i0), .val (.ref b1), .unset, .unset] [(.int (1 : Int32)), (.int (4 : Int32)), (.ref b18), (.ref b18)])) rfl rfl (hb hby at_79)
  have V23 : Arv Z h23 b18 k18 .boolean (8 : Int32) [(.int (0 : Int32)), (.int (0 : Int32)), (.int (1 : Int32)), (.int (1 : Int32)), (.int (1 : Int32)), (.int (0 : Int32)), (.int (0 : Int32)), (.int (0 : Int32))] (.int (0 : Int32)) := Arv.set Ar23 q23 S23 M23 H23 G23 rfl W23 4 rfl (Nat.le_of_ble_eq_true rfl)
  have N23 := Fr.snoc X23 N22 g_b18
  have O_23 : Old Z n0 h23 := O_22.wr W23 g_b18
  obtain ⟨cl24, Ar24, q24, S24, M24, H24, G24⟩ := V23
  have hin24 : ¬ ((5 : Int32) < 0 ∨ cl24.slots.size ≤ ((5 : Int32)).toNatClampNeg) := inb_of S24 ⟨by decide, by decide⟩
  obtain ⟨T24, h24, X24, e24, W24, st24⟩ := stZ X23 hx hZ e23 Ar24 (j := (5 : Int32)) hin24 (g := (mkF m 83 #[.val (.int i0), .val (.ref b1), .unset, .unset] [(.int (0 : Int32)), (.int (5 : Int32)), (.ref b18), (.ref b18)])) rfl rfl (hb hby at_83)
  have V24 : Arv Z h24 b18 k18 .boolean (8 : Int32) [(.int (0 : Int32)), (.int (0 : Int32)), (.int (1 : Int32)), (.int (1 : Int32)), (.int (1 : Int32)), (.int (0 : Int32)), (.int (0 : Int32)), (.int (0 : Int32))] (.int (0 : Int32)) := Arv.set Ar24 q24 S24 M24 H24 G24 rfl W24 5 rfl (Nat.le_of_ble_eq_true rfl)
  have N24 := Fr.snoc X24 N23 g_b18
  have O_24 : Old Z n0 h24 := O_23.wr W24 g_b18
  obtain ⟨cl25, Ar25, q25, S25, M25, H25, G25⟩ := V24
  have hin25 : ¬ ((6 : Int32) < 0 ∨ cl25.slots.size ≤ ((6 : Int32)).toNatClampNeg) := inb_of S25 ⟨by decide, by decide⟩
  obtain ⟨T25, h25, X25, e25, W25, st25⟩ := stZ X24 hx hZ e24 Ar25 (j := (6 : Int32)) hin25 (g := (mkF m 88 #[.val (.int i0), .val (.ref b1), .unset, .unset] [(.int (0 : Int32)), (.int (6 : Int32)), (.ref b18), (.ref b18)])) rfl rfl (hb hby at_88)
  have V25 : Arv Z h25 b18 k18 .boolean (8 : Int32) [(.int (0 : Int32)), (.int (0 : Int32)), (.int (1 : Int32)), (.int (1 : Int32)), (.int (1 : Int32)), (.int (0 : Int32)), (.int (0 : Int32)), (.int (0 : Int32))] (.int (0 : Int32)) := Arv.set Ar25 q25 S25 M25 H25 G25 rfl W25 6 rfl (Nat.le_of_ble_eq_true rfl)
  have N25 := Fr.snoc X25 N24 g_b18
  have O_25 : Old Z n0 h25 := O_24.wr W25 g_b18
  obtain ⟨cl26, Ar26, q26, S26, M26, H26, G26⟩ := V25
  have hin26 : ¬ ((7 : Int32) < 0 ∨ cl26.slots.size ≤ ((7 : Int32)).toNatClampNeg) := inb_of S26 ⟨by decide, by decide⟩
  obtain ⟨T26, h26, X26, e26, W26, st26⟩ := stZ X25 hx hZ e25 Ar26 (j := (7 : Int32)) hin26 (g := (mkF m 93 #[.val (.int i0), .val (.ref b1), .unset, .unset] [(.int (0 : Int32)), (.int (7 : Int32)), (.ref b18), (.ref b18)])) rfl rfl (hb hby at_93)
  have V26 : Arv Z h26 b18 k18 .boolean (8 : Int32) [(.int (0 : Int32)), (.int (0 : Int32)), (.int (1 : Int32)), (.int (1 : Int32)), (.int (1 : Int32)), (.int (0 : Int32)), (.int (0 : Int32)), (.int (0 : Int32))] (.int (0 : Int32)) := Arv.set Ar26 q26 S26 M26 H26 G26 rfl W26 7 rfl (Nat.le_of_ble_eq_true rfl)
  have N26 := Fr.snoc X26 N25 g_b18
  have O_26 : Old Z n0 h26 := O_25.wr W26 g_b18
  have pre27 : ∀ t, Steps p.tables e below (T26.setTop (mkF m 101 #[.val (.int i0), .val (.ref b1), .val (.ref b18), .unset] [(.int (8 : Int32)), (.int (i0 &&& (2147483647 : Int32)))])) t → Steps p.tables e below (s₁.setTop (entryFrame m #[(.int i0)] maxLocals)) t := by
    intro t k
    refine pre0 _ ?_
    show Steps p.tables e below (s₁.setTop (mkF m 0 #[.val (.int i0), .unset, .unset, .unset] [])) _
    refine XS.bipush X0.here hx rfl (hb hby at_0) ?_
    show Steps p.tables e below (s₁.setTop (mkF m 2 #[.val (.int i0), .unset, .unset, .unset] [(.int (8 : Int32))])) _
    refine st1 _ ?_
    show Steps p.tables e below (T1.setTop (mkF m 5 #[.val (.int i0), .unset, .unset, .unset] [(.ref b1)])) _
    refine XS.dup X1.here hx rfl (hb hby at_5) rfl rfl ?_
    show Steps p.tables e below (T1.setTop (mkF m 6 #[.val (.int i0), .unset, .unset, .unset] [(.ref b1), (.ref b1)])) _
    refine XS.iconst X1.here hx rfl (hb hby at_6) ?_
    show Steps p.tables e below (T1.setTop (mkF m 7 #[.val (.int i0), .unset, .unset, .unset] [(.int (0 : Int32)), (.ref b1), (.ref b1)])) _
    refine st2 _ ?_
    show Steps p.tables e below (T2.setTop (mkF m 10 #[.val (.int i0), .unset, .unset, .unset] [(.ref w0), (.int (0 : Int32)), (.ref b1), (.ref b1)])) _
    refine st3 _ ?_
    show Steps p.tables e below (T3.setTop (mkF m 11 #[.val (.int i0), .unset, .unset, .unset] [(.ref b1)])) _
    refine XS.dup X3.here hx rfl (hb hby at_11) rfl rfl ?_
    show Steps p.tables e below (T3.setTop (mkF m 12 #[.val (.int i0), .unset, .unset, .unset] [(.ref b1), (.ref b1)])) _
    refine XS.iconst X3.here hx rfl (hb hby at_12) ?_
    show Steps p.tables e below (T3.setTop (mkF m 13 #[.val (.int i0), .unset, .unset, .unset] [(.int (1 : Int32)), (.ref b1), (.ref b1)])) _
    refine st4 _ ?_
    show Steps p.tables e below (T4.setTop (mkF m 16 #[.val (.int i0), .unset, .unset, .unset] [(.ref w1), (.int (1 : Int32)), (.ref b1), (.ref b1)])) _
    refine st5 _ ?_
    show Steps p.tables e below (T5.setTop (mkF m 17 #[.val (.int i0), .unset, .unset, .unset] [(.ref b1)])) _
    refine XS.dup X5.here hx rfl (hb hby at_17) rfl rfl ?_
    show Steps p.tables e below (T5.setTop (mkF m 18 #[.val (.int i0), .unset, .unset, .unset] [(.ref b1), (.ref b1)])) _
    refine XS.iconst X5.here hx rfl (hb hby at_18) ?_
    show Steps p.tables e below (T5.setTop (mkF m 19 #[.val (.int i0), .unset, .unset, .unset] [(.int (2 : Int32)), (.ref b1), (.ref b1)])) _
    refine st6 _ ?_
    show Steps p.tables e below (T6.setTop (mkF m 22 #[.val (.int i0), .unset, .unset, .unset] [(.ref w2), (.int (2 : Int32)), (.ref b1), (.ref b1)])) _
    refine st7 _ ?_
    show Steps p.tables e below (T7.setTop (mkF m 23 #[.val (.int i0), .unset, .unset, .unset] [(.ref b1)])) _
    refine XS.dup X7.here hx rfl (hb hby at_23) rfl rfl ?_
    show Steps p.tables e below (T7.setTop (mkF m 24 #[.val (.int i0), .unset, .unset, .unset] [(.ref b1), (.ref b1)])) _
    refine XS.iconst X7.here hx rfl (hb hby at_24) ?_
    show Steps p.tables e below (T7.setTop (mkF m 25 #[.val (.int i0), .unset, .unset, .unset] [(.int (3 : Int32)), (.ref b1), (.ref b1)])) _
    refine st8 _ ?_
    show Steps p.tables e below (T8.setTop (mkF m 28 #[.val (.int i0), .unset, .unset, .unset] [(.ref w3), (.int (3 : Int32)), (.ref b1), (.ref b1)])) _
    refine st9 _ ?_
    show Steps p.tables e below (T9.setTop (mkF m 29 #[.val (.int i0), .unset, .unset, .unset] [(.ref b1)])) _
    refine XS.dup X9.here hx rfl (hb hby at_29) rfl rfl ?_
    show Steps p.tables e below (T9.setTop (mkF m 30 #[.val (.int i0), .unset, .unset, .unset] [(.ref b1), (.ref b1)])) _
    refine XS.iconst X9.here hx rfl (hb hby at_30) ?_
    show Steps p.tables e below (T9.setTop (mkF m 31 #[.val (.int i0), .unset, .unset, .unset] [(.int (4 : Int32)), (.ref b1), (.ref b1)])) _
    refine st10 _ ?_
    show Steps p.tables e below (T10.setTop (mkF m 34 #[.val (.int i0), .unset, .unset, .unset] [(.ref w4), (.int (4 : Int32)), (.ref b1), (.ref b1)])) _
    refine st11 _ ?_
    show Steps p.tables e below (T11.setTop (mkF m 35 #[.val (.int i0), .unset, .unset, .unset] [(.ref b1)])) _
    refine XS.dup X11.here hx rfl (hb hby at_35) rfl rfl ?_
    show Steps p.tables e below (T11.setTop (mkF m 36 #[.val (.int i0), .unset, .unset, .unset] [(.ref b1), (.ref b1)])) _
    refine XS.iconst X11.here hx rfl (hb hby at_36) ?_
    show Steps p.tables e below (T11.setTop (mkF m 37 #[.val (.int i0), .unset, .unset, .unset] [(.int (5 : Int32)), (.ref b1), (.ref b1)])) _
    refine st12 _ ?_
    show Steps p.tables e below (T12.setTop (mkF m 40 #[.val (.int i0), .unset, .unset, .unset] [(.ref w5), (.int (5 : Int32)), (.ref b1), (.ref b1)])) _
    refine st13 _ ?_
    show Steps p.tables e below (T13.setTop (mkF m 41 #[.val (.int i0), .unset, .unset, .unset] [(.ref b1)])) _
    refine XS.dup X13.here hx rfl (hb hby at_41) rfl rfl ?_
    show Steps p.tables e below (T13.setTop (mkF m 42 #[.val (.int i0), .unset, .unset, .unset] [(.ref b1), (.ref b1)])) _
    refine XS.bipush X13.here hx rfl (hb hby at_42) ?_
    show Steps p.tables e below (T13.setTop (mkF m 44 #[.val (.int i0), .unset, .unset, .unset] [(.int (6 : Int32)), (.ref b1), (.ref b1)])) _
    refine st14 _ ?_
    show Steps p.tables e below (T14.setTop (mkF m 47 #[.val (.int i0), .unset, .unset, .unset] [(.ref w6), (.int (6 : Int32)), (.ref b1), (.ref b1)])) _
    refine st15 _ ?_
    show Steps p.tables e below (T15.setTop (mkF m 48 #[.val (.int i0), .unset, .unset, .unset] [(.ref b1)])) _
    refine XS.dup X15.here hx rfl (hb hby at_48) rfl rfl ?_
    show Steps p.tables e below (T15.setTop (mkF m 49 #[.val (.int i0), .unset, .unset, .unset] [(.ref b1), (.ref b1)])) _
    refine XS.bipush X15.here hx rfl (hb hby at_49) ?_
    show Steps p.tables e below (T15.setTop (mkF m 51 #[.val (.int i0), .unset, .unset, .unset] [(.int (7 : Int32)), (.ref b1), (.ref b1)])) _
    refine st16 _ ?_
    show Steps p.tables e below (T16.setTop (mkF m 54 #[.val (.int i0), .unset, .unset, .unset] [(.ref w7), (.int (7 : Int32)), (.ref b1), (.ref b1)])) _
    refine st17 _ ?_
    show Steps p.tables e below (T17.setTop (mkF m 55 #[.val (.int i0), .unset, .unset, .unset] [(.ref b1)])) _
    refine XS.astoreN X17.here hx rfl (hb hby at_55) rfl rfl (l' := #[.val (.int i0), .val (.ref b1), .unset, .unset]) rfl ?_
    show Steps p.tables e below (T17.setTop (mkF m 56 #[.val (.int i0), .val (.ref b1), .unset, .unset] [])) _
    refine XS.bipush X17.here hx rfl (hb hby at_56) ?_
    show Steps p.tables e below (T17.setTop (mkF m 58 #[.val (.int i0), .val (.ref b1), .unset, .unset] [(.int (8 : Int32))])) _
    refine st18 _ ?_
    show Steps p.tables e below (T18.setTop (mkF m 60 #[.val (.int i0), .val (.ref b1), .unset, .unset] [(.ref b18)])) _
    refine XS.dup X18.here hx rfl (hb hby at_60) rfl rfl ?_
    show Steps p.tables e below (T18.setTop (mkF m 61 #[.val (.int i0), .val (.ref b1), .unset, .unset] [(.ref b18), (.ref b18)])) _
    refine XS.iconst X18.here hx rfl (hb hby at_61) ?_
    show Steps p.tables e below (T18.setTop (mkF m 62 #[.val (.int i0), .val (.ref b1), .unset, .unset] [(.int (0 : Int32)), (.ref b18), (.ref b18)])) _
    refine XS.iconst X18.here hx rfl (hb hby at_62) ?_
    show Steps p.tables e below (T18.setTop (mkF m 63 #[.val (.int i0), .val (.ref b1), .unset, .unset] [(.int (0 : Int32)), (.int (0 : Int32)), (.ref b18), (.ref b18)])) _
    refine st19 _ ?_
    show Steps p.tables e below (T19.setTop (mkF m 64 #[.val (.int i0), .val (.ref b1), .unset, .unset] [(.ref b18)])) _
    refine XS.dup X19.here hx rfl (hb hby at_64) rfl rfl ?_
    show Steps p.tables e below (T19.setTop (mkF m 65 #[.val (.int i0), .val (.ref b1), .unset, .unset] [(.ref b18), (.ref b18)])) _
    refine XS.iconst X19.here hx rfl (hb hby at_65) ?_
    show Steps p.tables e below (T19.setTop (mkF m 66 #[.val (.int i0), .val (.ref b1), .unset, .unset] [(.int (1 : Int32)), (.ref b18), (.ref b18)])) _
    refine XS.iconst X19.here hx rfl (hb hby at_66) ?_
    show Steps p.tables e below (T19.setTop (mkF m 67 #[.val (.int i0), .val (.ref b1), .unset, .unset] [(.int (0 : Int32)), (.int (1 : Int32)), (.ref b18), (.ref b18)])) _
    refine st20 _ ?_
    show Steps p.tables e below (T20.setTop (mkF m 68 #[.val (.int i0), .val (.ref b1), .unset, .unset] [(.ref b18)])) _
    refine XS.dup X20.here hx rfl (hb hby at_68) rfl rfl ?_
    show Steps p.tables e below (T20.setTop (mkF m 69 #[.val (.int i0), .val (.ref b1), .unset, .unset] [(.ref b18), (.ref b18)])) _
    refine XS.iconst X20.here hx rfl (hb hby at_69) ?_
    show Steps p.tables e below (T20.setTop (mkF m 70 #[.val (.int i0), .val (.ref b1), .unset, .unset] [(.int (2 : Int32)), (.ref b18), (.ref b18)])) _
    refine XS.iconst X20.here hx rfl (hb hby at_70) ?_
    show Steps p.tables e below (T20.setTop (mkF m 71 #[.val (.int i0), .val (.ref b1), .unset, .unset] [(.int (1 : Int32)), (.int (2 : Int32)), (.ref b18), (.ref b18)])) _
    refine st21 _ ?_
    show Steps p.tables e below (T21.setTop (mkF m 72 #[.val (.int i0), .val (.ref b1), .unset, .unset] [(.ref b18)])) _
    refine XS.dup X21.here hx rfl (hb hby at_72) rfl rfl ?_
    show Steps p.tables e below (T21.setTop (mkF m 73 #[.val (.int i0), .val (.ref b1), .unset, .unset] [(.ref b18), (.ref b18)])) _
    refine XS.iconst X21.here hx rfl (hb hby at_73) ?_
    show Steps p.tables e below (T21.setTop (mkF m 74 #[.val (.int i0), .val (.ref b1), .unset, .unset] [(.int (3 : Int32)), (.ref b18), (.ref b18)])) _
    refine XS.iconst X21.here hx rfl (hb hby at_74) ?_
    show Steps p.tables e below (T21.setTop (mkF m 75 #[.val (.int i0), .val (.ref b1), .unset, .unset] [(.int (1 : Int32)), (.int (3 : Int32)), (.ref b18), (.ref b18)])) _
    refine st22 _ ?_
    show Steps p.tables e below (T22.setTop (mkF m 76 #[.val (.int i0), .val (.ref b1), .unset, .unset] [(.ref b18)])) _
    refine XS.dup X22.here hx rfl (hb hby at_76) rfl rfl ?_
    show Steps p.tables e below (T22.setTop (mkF m 77 #[.val (.int i0), .val (.ref b1), .unset, .unset] [(.ref b18), (.ref b18)])) _
    refine XS.iconst X22.here hx rfl (hb hby at_77) ?_
    show Steps p.tables e below (T22.setTop (mkF m 78 #[.val (.int i0), .val (.ref b1), .unset, .unset] [(.int (4 : Int32)), (.ref b18), (.ref b18)])) _
    refine XS.iconst X22.here hx rfl (hb hby at_78) ?_
    show Steps p.tables e below (T22.setTop (mkF m 79 #[.val (.int i0), .val (.ref b1), .unset, .unset] [(.int (1 : Int32)), (.int (4 : Int32)), (.ref b18), (.ref b18)])) _
    refine st23 _ ?_
    show Steps p.tables e below (T23.setTop (mkF m 80 #[.val (.int i0), .val (.ref b1), .unset, .unset] [(.ref b18)])) _
    refine XS.dup X23.here hx rfl (hb hby at_80) rfl rfl ?_
    show Steps p.tables e below (T23.setTop (mkF m 81 #[.val (.int i0), .val (.ref b1), .unset, .unset] [(.ref b18), (.ref b18)])) _
    refine XS.iconst X23.here hx rfl (hb hby at_81) ?_
    show Steps p.tables e below (T23.setTop (mkF m 82 #[.val (.int i0), .val (.ref b1), .unset, .unset] [(.int (5 : Int32)), (.ref b18), (.ref b18)])) _
    refine XS.iconst X23.here hx rfl (hb hby at_82) ?_
    show Steps p.tables e below (T23.setTop (mkF m 83 #[.val (.int i0), .val (.ref b1), .unset, .unset] [(.int (0 : Int32)), (.int (5 : Int32)), (.ref b18), (.ref b18)])) _
    refine st24 _ ?_
    show Steps p.tables e below (T24.setTop (mkF m 84 #[.val (.int i0), .val (.ref b1), .unset, .unset] [(.ref b18)])) _
    refine XS.dup X24.here hx rfl (hb hby at_84) rfl rfl ?_
    show Steps p.tables e below (T24.setTop (mkF m 85 #[.val (.int i0), .val (.ref b1), .unset, .unset] [(.ref b18), (.ref b18)])) _
    refine XS.bipush X24.here hx rfl (hb hby at_85) ?_
    show Steps p.tables e below (T24.setTop (mkF m 87 #[.val (.int i0), .val (.ref b1), .unset, .unset] [(.int (6 : Int32)), (.ref b18), (.ref b18)])) _
    refine XS.iconst X24.here hx rfl (hb hby at_87) ?_
    show Steps p.tables e below (T24.setTop (mkF m 88 #[.val (.int i0), .val (.ref b1), .unset, .unset] [(.int (0 : Int32)), (.int (6 : Int32)), (.ref b18), (.ref b18)])) _
    refine st25 _ ?_
    show Steps p.tables e below (T25.setTop (mkF m 89 #[.val (.int i0), .val (.ref b1), .unset, .unset] [(.ref b18)])) _
    refine XS.dup X25.here hx rfl (hb hby at_89) rfl rfl ?_
    show Steps p.tables e below (T25.setTop (mkF m 90 #[.val (.int i0), .val (.ref b1), .unset, .unset] [(.ref b18), (.ref b18)])) _
    refine XS.bipush X25.here hx rfl (hb hby at_90) ?_
    show Steps p.tables e below (T25.setTop (mkF m 92 #[.val (.int i0), .val (.ref b1), .unset, .unset] [(.int (7 : Int32)), (.ref b18), (.ref b18)])) _
    refine XS.iconst X25.here hx rfl (hb hby at_92) ?_
    show Steps p.tables e below (T25.setTop (mkF m 93 #[.val (.int i0), .val (.ref b1), .unset, .unset] [(.int (0 : Int32)), (.int (7 : Int32)), (.ref b18), (.ref b18)])) _
    refine st26 _ ?_
    show Steps p.tables e below (T26.setTop (mkF m 94 #[.val (.int i0), .val (.ref b1), .unset, .unset] [(.ref b18)])) _
    refine XS.astoreN X26.here hx rfl (hb hby at_94) rfl rfl (l' := #[.val (.int i0), .val (.ref b1), .val (.ref b18), .unset]) rfl ?_
    show Steps p.tables e below (T26.setTop (mkF m 95 #[.val (.int i0), .val (.ref b1), .val (.ref b18), .unset] [])) _
    refine XS.iloadN X26.here hx rfl (hb hby at_95) rfl ?_
    show Steps p.tables e below (T26.setTop (mkF m 96 #[.val (.int i0), .val (.ref b1), .val (.ref b18), .unset] [(.int i0)])) _
    refine X26.ldcInt hx hown (mvT hZ (hw _ (List.mem_of_getElem? (i := 21) rfl))) (g := (mkF m 96 #[.val (.int i0), .val (.ref b1), .val (.ref b18), .unset] [(.int i0)])) rfl (hb hby at_96) _ ?_
    show Steps p.tables e below (T26.setTop (mkF m 98 #[.val (.int i0), .val (.ref b1), .val (.ref b18), .unset] [(.int (2147483647 : Int32)), (.int i0)])) _
    refine XS.iand X26.here hx rfl (hb hby at_98) rfl ?_
    show Steps p.tables e below (T26.setTop (mkF m 99 #[.val (.int i0), .val (.ref b1), .val (.ref b18), .unset] [(.int (i0 &&& (2147483647 : Int32)))])) _
    refine XS.bipush X26.here hx rfl (hb hby at_99) ?_
    show Steps p.tables e below (T26.setTop (mkF m 101 #[.val (.int i0), .val (.ref b1), .val (.ref b18), .unset] [(.int (8 : Int32)), (.int (i0 &&& (2147483647 : Int32)))])) _
    exact k
  rcases own_rem_8 i0 with hk28 | hk29 | hk30 | hk31 | hk32 | hk33 | hk34 | hk35
  · obtain ⟨cl36, Ar36, q36, S36, M36, H36, G36⟩ := (((((((((V17.ext E18).other W19 ne_b1_b18).other W20 ne_b1_b18).other W21 ne_b1_b18).other W22 ne_b1_b18).other W23 ne_b1_b18).other W24 ne_b1_b18).other W25 ne_b1_b18).other W26 ne_b1_b18)
    have hin36 : ¬ ((0 : Int32) < 0 ∨ cl36.slots.size ≤ ((0 : Int32)).toNatClampNeg) := inb_of S36 ⟨by decide, by decide⟩
    have hat36 : cl36.slots[((0 : Int32)).toNatClampNeg]? = some (.ref w0) := Has.at H36 hin36 rfl
    obtain ⟨cq40, kq40, q40a, q40b, q40c⟩ := isOf hZ e26 (wE0.ext O_26.2)
    obtain ⟨_, _, ⟨T40, L40, k40, n40⟩, -, X40, ⟨Lc40, hQ40, l40, y40, z40⟩, st40⟩ := X26.virtualBack hx (y := (⟨"com/example/policy_to_map/policytomap/core/Mechanism", "isObscuring", "()Z"⟩ : MethodName)) (z := (⟨"com/example/policy_to_map/policytomap/core/Mechanism", "isObscuring", "()Z"⟩ : MethodName)) hown (mvT hZ (hw _ (List.mem_of_getElem? (i := 22) rfl))) (mvT hZ (hw _ (List.mem_of_getElem? (i := 23) rfl))) (notFace_of_selects (args := #[]) (mvT hZ (hw _ (List.mem_of_getElem? (i := 25) rfl)))) (mvT hZ (hw _ (List.mem_of_getElem? (i := 25) rfl))) (mvT hZ (hw _ (List.mem_of_getElem? (i := 24) rfl))) (by decide) (backOf (W := 0) (rm1 l Z a0 hw [] w0 w1 w2 w3 w4 w5 w6 w7 h26 n0 hWd O_26) hZ (hw _ (List.mem_of_getElem? (i := 26) rfl)) (hw _ (List.mem_of_getElem? (i := 3) rfl)) (by decide) (by decide)) q40a q40c (g := (mkF m 106 #[.val (.int i0), .val (.ref b1), .val (.ref b18), .val (.int (0 : Int32))] [(.ref w0)])) rfl (by rw [hml]; rfl) (Steps.refl _) (argsL := []) (rest := []) (lenOf pd0 rfl) rfl (by show 2 * 0 + _ ≤ _; exact Nat.le_of_eq rfl) (hb hby at_106) (fun _ _ => ⟨rfl, e26, (by decide : 2 + 0 ≤ _), (by decide : 16 + 0 ≤ _)⟩)
    dsimp only [Pt.U, Pt.locs, Pt.cells, Pt.slots] at X40 l40 y40 z40 st40 hQ40
    subst l40 y40 z40
    obtain ⟨rfl, N40q, e40⟩ := hQ40
    have N40 := Fr.app N26 N40q
    obtain ⟨cl41, Ar41, q41, S41, M41, H41, G41⟩ := V26
    have hin41 : ¬ ((0 : Int32) < 0 ∨ cl41.slots.size ≤ ((0 : Int32)).toNatClampNeg) := inb_of S41 ⟨by decide, by decide⟩
    have hat41 : cl41.slots[((0 : Int32)).toNatClampNeg]? = some (.int (0 : Int32)) := Has.at H41 hin41 rfl
    obtain ⟨fs, hr, hrun, hended, hWr, hsame⟩ := X40.leave (v := some (.int (1 : Int32))) (fun h => by rw [Bd.returns] at h; cases h)
    refine ⟨_, _, pre27 _ ?_, hrun, hended, _, _, rfl, ?_, ⟨_, rfl⟩, hWr, hsame.mono (Nat.le_of_ble_eq_true rfl) (Nat.le_of_ble_eq_true rfl)⟩
    · show Steps p.tables e below (T26.setTop (mkF m 101 #[.val (.int i0), .val (.ref b1), .val (.ref b18), .unset] [(.int (8 : Int32)), (.int (i0 &&& (2147483647 : Int32)))])) _
      refine iremM X26 hx rfl (hb hby at_101) rfl (by decide) ?_
      show Steps p.tables e below (T26.setTop (mkF m 102 #[.val (.int i0), .val (.ref b1), .val (.ref b18), .unset] [(.int ((i0 &&& (2147483647 : Int32)) % (8 : Int32)))])) _
      rw [hk28]
      show Steps p.tables e below (T26.setTop (mkF m 102 #[.val (.int i0), .val (.ref b1), .val (.ref b18), .unset] [(.int (0 : Int32))])) _
      refine XS.istoreN X26.here hx rfl (hb hby at_102) rfl (l' := #[.val (.int i0), .val (.ref b1), .val (.ref b18), .val (.int (0 : Int32))]) rfl ?_
      show Steps p.tables e below (T26.setTop (mkF m 103 #[.val (.int i0), .val (.ref b1), .val (.ref b18), .val (.int (0 : Int32))] [])) _
      refine XS.aloadN X26.here hx rfl (hb hby at_103) rfl rfl ?_
      show Steps p.tables e below (T26.setTop (mkF m 104 #[.val (.int i0), .val (.ref b1), .val (.ref b18), .val (.int (0 : Int32))] [(.ref b1)])) _
      refine XS.iloadN X26.here hx rfl (hb hby at_104) rfl ?_
      show Steps p.tables e below (T26.setTop (mkF m 105 #[.val (.int i0), .val (.ref b1), .val (.ref b18), .val (.int (0 : Int32))] [(.int (0 : Int32)), (.ref b1)])) _
      refine X26.aaload hx (j := (0 : Int32)) (v := (.ref w0)) (by rw [e26]; exact Ar36.1) (State.isArrayOf_alike hZ.alike Ar36.2.1) rfl Ar36.2.2 hin36 hat36 (g := (mkF m 105 #[.val (.int i0), .val (.ref b1), .val (.ref b18), .val (.int (0 : Int32))] [(.int (0 : Int32)), (.ref b1)])) rfl rfl (hb hby at_105) _ ?_
      show Steps p.tables e below (T26.setTop (mkF m 106 #[.val (.int i0), .val (.ref b1), .val (.ref b18), .val (.int (0 : Int32))] [(.ref w0)])) _
      refine st40.trans ?_
      show Steps p.tables e below (T40.setTop (mkF m 109 #[.val (.int i0), .val (.ref b1), .val (.ref b18), .val (.int (0 : Int32))] [(.int (0 : Int32))])) _
      refine XS.aloadN X40.here hx rfl (hb hby at_109) rfl rfl ?_
      show Steps p.tables e below (T40.setTop (mkF m 110 #[.val (.int i0), .val (.ref b1), .val (.ref b18), .val (.int (0 : Int32))] [(.ref b18), (.int (0 : Int32))])) _
      refine XS.iloadN X40.here hx rfl (hb hby at_110) rfl ?_
      show Steps p.tables e below (T40.setTop (mkF m 111 #[.val (.int i0), .val (.ref b1), .val (.ref b18), .val (.int (0 : Int32))] [(.int (0 : Int32)), (.ref b18), (.int (0 : Int32))])) _
      refine X40.baloadBooleans hx (j := (0 : Int32)) (v := (.int (0 : Int32))) (by rw [e40]; exact Ar41.1) (State.isArrayOf_alike hZ.alike Ar41.2.1) Ar41.2.2 hin41 hat41 (g := (mkF m 111 #[.val (.int i0), .val (.ref b1), .val (.ref b18), .val (.int (0 : Int32))] [(.int (0 : Int32)), (.ref b18), (.int (0 : Int32))])) rfl rfl (hb hby at_111) _ ?_
      show Steps p.tables e below (T40.setTop (mkF m 112 #[.val (.int i0), .val (.ref b1), .val (.ref b18), .val (.int (0 : Int32))] [(.int (0 : Int32)), (.int (0 : Int32))])) _
      refine XS.icmpNo X40.here hx rfl (hb hby at_112) rfl (by decide) ?_
      show Steps p.tables e below (T40.setTop (mkF m 115 #[.val (.int i0), .val (.ref b1), .val (.ref b18), .val (.int (0 : Int32))] [])) _
      refine XS.iconst X40.here hx rfl (hb hby at_115) ?_
      show Steps p.tables e below (T40.setTop (mkF m 116 #[.val (.int i0), .val (.ref b1), .val (.ref b18), .val (.int (0 : Int32))] [(.int (1 : Int32))])) _
      refine XS.goto X40.here hx rfl (pc0 := 116) (pc' := 120) rfl (hb hby at_116) (by decide) (by decide) ?_
      show Steps p.tables e below (T40.setTop (mkF m 120 #[.val (.int i0), .val (.ref b1), .val (.ref b18), .val (.int (0 : Int32))] [(.int (1 : Int32))])) _
      exact retN X40 hx (t := .boolean) Bd.returns (by simp) (hb hby at_120) hr
    · show Ql n0 _ T40.heap _
      exact ⟨rfl, N40⟩
  · obtain ⟨cl42, Ar42, q42, S42, M42, H42, G42⟩ := (((((((((V17.ext E18).other W19 ne_b1_b18).other W20 ne_b1_b18).other W21 ne_b1_b18).other W22 ne_b1_b18).other W23 ne_b1_b18).other W24 ne_b1_b18).other W25 ne_b1_b18).other W26 ne_b1_b18)
    have hin42 : ¬ ((1 : Int32) < 0 ∨ cl42.slots.size ≤ ((1 : Int32)).toNatClampNeg) := inb_of S42 ⟨by decide, by decide⟩
    have hat42 : cl42.slots[((1 : Int32)).toNatClampNeg]? = some (.ref w1) := Has.at H42 hin42 rfl
    obtain ⟨cq46, kq46, q46a, q46b, q46c⟩ := isOf hZ e26 (wE1.ext O_26.2)
    obtain ⟨_, _, ⟨T46, L46, k46, n46⟩, -, X46, ⟨Lc46, hQ46, l46, y46, z46⟩, st46⟩ := X26.virtualBack hx (y := (⟨"com/example/policy_to_map/policytomap/core/Mechanism", "isObscuring", "()Z"⟩ : MethodName)) (z := (⟨"com/example/policy_to_map/policytomap/core/Mechanism", "isObscuring", "()Z"⟩ : MethodName)) hown (mvT hZ (hw _ (List.mem_of_getElem? (i := 22) rfl))) (mvT hZ (hw _ (List.mem_of_getElem? (i := 23) rfl))) (notFace_of_selects (args := #[]) (mvT hZ (hw _ (List.mem_of_getElem? (i := 25) rfl)))) (mvT hZ (hw _ (List.mem_of_getElem? (i := 25) rfl))) (mvT hZ (hw _ (List.mem_of_getElem? (i := 24) rfl))) (by decide) (backOf (W := 0) (rm2 l Z a0 hw [] w0 w1 w2 w3 w4 w5 w6 w7 h26 n0 hWd O_26) hZ (hw _ (List.mem_of_getElem? (i := 26) rfl)) (hw _ (List.mem_of_getElem? (i := 3) rfl)) (by decide) (by decide)) q46a q46c (g := (mkF m 106 #[.val (.int i0), .val (.ref b1), .val (.ref b18), .val (.int (1 : Int32))] [(.ref w1)])) rfl (by rw [hml]; rfl) (Steps.refl _) (argsL := []) (rest := []) (lenOf pd0 rfl) rfl (by show 2 * 0 + _ ≤ _; exact Nat.le_of_eq rfl) (hb hby at_106) (fun _ _ => ⟨rfl, e26, (by decide : 2 + 0 ≤ _), (by decide : 16 + 0 ≤ _)⟩)
    dsimp only [Pt.U, Pt.locs, Pt.cells, Pt.slots] at X46 l46 y46 z46 st46 hQ46
    subst l46 y46 z46
    obtain ⟨rfl, N46q, e46⟩ := hQ46
    have N46 := Fr.app N26 N46q
    obtain ⟨cl47, Ar47, q47, S47, M47, H47, G47⟩ := V26
    have hin47 : ¬ ((1 : Int32) < 0 ∨ cl47.slots.size ≤ ((1 : Int32)).toNatClampNeg) := inb_of S47 ⟨by decide, by decide⟩
    have hat47 : cl47.slots[((1 : Int32)).toNatClampNeg]? = some (.int (0 : Int32)) := Has.at H47 hin47 rfl
    obtain ⟨fs, hr, hrun, hended, hWr, hsame⟩ := X46.leave (v := some (.int (1 : Int32))) (fun h => by rw [Bd.returns] at h; cases h)
    refine ⟨_, _, pre27 _ ?_, hrun, hended, _, _, rfl, ?_, ⟨_, rfl⟩, hWr, hsame.mono (Nat.le_of_ble_eq_true rfl) (Nat.le_of_ble_eq_true rfl)⟩
    · show Steps p.tables e below (T26.setTop (mkF m 101 #[.val (.int i0), .val (.ref b1), .val (.ref b18), .unset] [(.int (8 : Int32)), (.int (i0 &&& (2147483647 : Int32)))])) _
      refine iremM X26 hx rfl (hb hby at_101) rfl (by decide) ?_
      show Steps p.tables e below (T26.setTop (mkF m 102 #[.val (.int i0), .val (.ref b1), .val (.ref b18), .unset] [(.int ((i0 &&& (2147483647 : Int32)) % (8 : Int32)))])) _
      rw [hk29]
      show Steps p.tables e below (T26.setTop (mkF m 102 #[.val (.int i0), .val (.ref b1), .val (.ref b18), .unset] [(.int (1 : Int32))])) _
      refine XS.istoreN X26.here hx rfl (hb hby at_102) rfl (l' := #[.val (.int i0), .val (.ref b1), .val (.ref b18), .val (.int (1 : Int32))]) rfl ?_
      show Steps p.tables e below (T26.setTop (mkF m 103 #[.val (.int i0), .val (.ref b1), .val (.ref b18), .val (.int (1 : Int32))] [])) _
      refine XS.aloadN X26.here hx rfl (hb hby at_103) rfl rfl ?_
      show Steps p.tables e below (T26.setTop (mkF m 104 #[.val (.int i0), .val (.ref b1), .val (.ref b18), .val (.int (1 : Int32))] [(.ref b1)])) _
      refine XS.iloadN X26.here hx rfl (hb hby at_104) rfl ?_
      show Steps p.tables e below (T26.setTop (mkF m 105 #[.val (.int i0), .val (.ref b1), .val (.ref b18), .val (.int (1 : Int32))] [(.int (1 : Int32)), (.ref b1)])) _
      refine X26.aaload hx (j := (1 : Int32)) (v := (.ref w1)) (by rw [e26]; exact Ar42.1) (State.isArrayOf_alike hZ.alike Ar42.2.1) rfl Ar42.2.2 hin42 hat42 (g := (mkF m 105 #[.val (.int i0), .val (.ref b1), .val (.ref b18), .val (.int (1 : Int32))] [(.int (1 : Int32)), (.ref b1)])) rfl rfl (hb hby at_105) _ ?_
      show Steps p.tables e below (T26.setTop (mkF m 106 #[.val (.int i0), .val (.ref b1), .val (.ref b18), .val (.int (1 : Int32))] [(.ref w1)])) _
      refine st46.trans ?_
      show Steps p.tables e below (T46.setTop (mkF m 109 #[.val (.int i0), .val (.ref b1), .val (.ref b18), .val (.int (1 : Int32))] [(.int (0 : Int32))])) _
      refine XS.aloadN X46.here hx rfl (hb hby at_109) rfl rfl ?_
      show Steps p.tables e below (T46.setTop (mkF m 110 #[.val (.int i0), .val (.ref b1), .val (.ref b18), .val (.int (1 : Int32))] [(.ref b18), (.int (0 : Int32))])) _
      refine XS.iloadN X46.here hx rfl (hb hby at_110) rfl ?_
      show Steps p.tables e below (T46.setTop (mkF m 111 #[.val (.int i0), .val (.ref b1), .val (.ref b18), .val (.int (1 : Int32))] [(.int (1 : Int32)), (.ref b18), (.int (0 : Int32))])) _
      refine X46.baloadBooleans hx (j := (1 : Int32)) (v := (.int (0 : Int32))) (by rw [e46]; exact Ar47.1) (State.isArrayOf_alike hZ.alike Ar47.2.1) Ar47.2.2 hin47 hat47 (g := (mkF m 111 #[.val (.int i0), .val (.ref b1), .val (.ref b18), .val (.int (1 : Int32))] [(.int (1 : Int32)), (.ref b18), (.int (0 : Int32))])) rfl rfl (hb hby at_111) _ ?_
      show Steps p.tables e below (T46.setTop (mkF m 112 #[.val (.int i0), .val (.ref b1), .val (.ref b18), .val (.int (1 : Int32))] [(.int (0 : Int32)), (.int (0 : Int32))])) _
      refine XS.icmpNo X46.here hx rfl (hb hby at_112) rfl (by decide) ?_
      show Steps p.tables e below (T46.setTop (mkF m 115 #[.val (.int i0), .val (.ref b1), .val (.ref b18), .val (.int (1 : Int32))] [])) _
      refine XS.iconst X46.here hx rfl (hb hby at_115) ?_
      show Steps p.tables e below (T46.setTop (mkF m 116 #[.val (.int i0), .val (.ref b1), .val (.ref b18), .val (.int (1 : Int32))] [(.int (1 : Int32))])) _
      refine XS.goto X46.here hx rfl (pc0 := 116) (pc' := 120) rfl (hb hby at_116) (by decide) (by decide) ?_
      show Steps p.tables e below (T46.setTop (mkF m 120 #[.val (.int i0), .val (.ref b1), .val (.ref b18), .val (.int (1 : Int32))] [(.int (1 : Int32))])) _
      exact retN X46 hx (t := .boolean) Bd.returns (by simp) (hb hby at_120) hr
    · show Ql n0 _ T46.heap _
      exact ⟨rfl, N46⟩
  · obtain ⟨cl48, Ar48, q48, S48, M48, H48, G48⟩ := (((((((((V17.ext E18).other W19 ne_b1_b18).other W20 ne_b1_b18).other W21 ne_b1_b18).other W22 ne_b1_b18).other W23 ne_b1_b18).other W24 ne_b1_b18).other W25 ne_b1_b18).other W26 ne_b1_b18)
    have hin48 : ¬ ((2 : Int32) < 0 ∨ cl48.slots.size ≤ ((2 : Int32)).toNatClampNeg) := inb_of S48 ⟨by decide, by decide⟩
    have hat48 : cl48.slots[((2 : Int32)).toNatClampNeg]? = some (.ref w2) := Has.at H48 hin48 rfl
    obtain ⟨cq50, kq50, q50a, q50b, q50c⟩ := isOf hZ e26 (wE2.ext O_26.2)
    obtain ⟨_, _, ⟨T50, L50, k50, n50⟩, -, X50, ⟨Lc50, hQ50, l50, y50, z50⟩, st50⟩ := X26.virtualBack hx (y := (⟨"com/example/policy_to_map/policytomap/core/Mechanism", "isObscuring", "()Z"⟩ : MethodName)) (z := (⟨"com/example/policy_to_map/policytomap/core/Mechanism", "isObscuring", "()Z"⟩ : MethodName)) hown (mvT hZ (hw _ (List.mem_of_getElem? (i := 22) rfl))) (mvT hZ (hw _ (List.mem_of_getElem? (i := 23) rfl))) (notFace_of_selects (args := #[]) (mvT hZ (hw _ (List.mem_of_getElem? (i := 25) rfl)))) (mvT hZ (hw _ (List.mem_of_getElem? (i := 25) rfl))) (mvT hZ (hw _ (List.mem_of_getElem? (i := 24) rfl))) (by decide) (backOf (W := 0) (rm3 l Z a0 hw [] w0 w1 w2 w3 w4 w5 w6 w7 h26 n0 hWd O_26) hZ (hw _ (List.mem_of_getElem? (i := 26) rfl)) (hw _ (List.mem_of_getElem? (i := 3) rfl)) (by decide) (by decide)) q50a q50c (g := (mkF m 106 #[.val (.int i0), .val (.ref b1), .val (.ref b18), .val (.int (2 : Int32))] [(.ref w2)])) rfl (by rw [hml]; rfl) (Steps.refl _) (argsL := []) (rest := []) (lenOf pd0 rfl) rfl (by show 2 * 0 + _ ≤ _; exact Nat.le_of_eq rfl) (hb hby at_106) (fun _ _ => ⟨rfl, e26, (by decide : 2 + 0 ≤ _), (by decide : 16 + 0 ≤ _)⟩)
    dsimp only [Pt.U, Pt.locs, Pt.cells, Pt.slots] at X50 l50 y50 z50 st50 hQ50
    subst l50 y50 z50
    obtain ⟨rfl, N50q, e50⟩ := hQ50
    have N50 := Fr.app N26 N50q
    obtain ⟨cl51, Ar51, q51, S51, M51, H51, G51⟩ := V26
    have hin51 : ¬ ((2 : Int32) < 0 ∨ cl51.slots.size ≤ ((2 : Int32)).toNatClampNeg) := inb_of S51 ⟨by decide, by decide⟩
    have hat51 : cl51.slots[((2 : Int32)).toNatClampNeg]? = some (.int (1 : Int32)) := Has.at H51 hin51 rfl
    obtain ⟨fs, hr, hrun, hended, hWr, hsame⟩ := X50.leave (v := some (.int (1 : Int32))) (fun h => by rw [Bd.returns] at h; cases h)
    refine ⟨_, _, pre27 _ ?_, hrun, hended, _, _, rfl, ?_, ⟨_, rfl⟩, hWr, hsame.mono (Nat.le_of_ble_eq_true rfl) (Nat.le_of_ble_eq_true rfl)⟩
    · show Steps p.tables e below (T26.setTop (mkF m 101 #[.val (.int i0), .val (.ref b1), .val (.ref b18), .unset] [(.int (8 : Int32)), (.int (i0 &&& (2147483647 : Int32)))])) _
      refine iremM X26 hx rfl (hb hby at_101) rfl (by decide) ?_
      show Steps p.tables e below (T26.setTop (mkF m 102 #[.val (.int i0), .val (.ref b1), .val (.ref b18), .unset] [(.int ((i0 &&& (2147483647 : Int32)) % (8 : Int32)))])) _
      rw [hk30]
      show Steps p.tables e below (T26.setTop (mkF m 102 #[.val (.int i0), .val (.ref b1), .val (.ref b18), .unset] [(.int (2 : Int32))])) _
      refine XS.istoreN X26.here hx rfl (hb hby at_102) rfl (l' := #[.val (.int i0), .val (.ref b1), .val (.ref b18), .val (.int (2 : Int32))]) rfl ?_
      show Steps p.tables e below (T26.setTop (mkF m 103 #[.val (.int i0), .val (.ref b1), .val (.ref b18), .val (.int (2 : Int32))] [])) _
      refine XS.aloadN X26.here hx rfl (hb hby at_103) rfl rfl ?_
      show Steps p.tables e below (T26.setTop (mkF m 104 #[.val (.int i0), .val (.ref b1), .val (.ref b18), .val (.int (2 : Int32))] [(.ref b1)])) _
      refine XS.iloadN X26.here hx rfl (hb hby at_104) rfl ?_
      show Steps p.tables e below (T26.setTop (mkF m 105 #[.val (.int i0), .val (.ref b1), .val (.ref b18), .val (.int (2 : Int32))] [(.int (2 : Int32)), (.ref b1)])) _
      refine X26.aaload hx (j := (2 : Int32)) (v := (.ref w2)) (by rw [e26]; exact Ar48.1) (State.isArrayOf_alike hZ.alike Ar48.2.1) rfl Ar48.2.2 hin48 hat48 (g := (mkF m 105 #[.val (.int i0), .val (.ref b1), .val (.ref b18), .val (.int (2 : Int32))] [(.int (2 : Int32)), (.ref b1)])) rfl rfl (hb hby at_105) _ ?_
      show Steps p.tables e below (T26.setTop (mkF m 106 #[.val (.int i0), .val (.ref b1), .val (.ref b18), .val (.int (2 : Int32))] [(.ref w2)])) _
      refine st50.trans ?_
      show Steps p.tables e below (T50.setTop (mkF m 109 #[.val (.int i0), .val (.ref b1), .val (.ref b18), .val (.int (2 : Int32))] [(.int (1 : Int32))])) _
      refine XS.aloadN X50.here hx rfl (hb hby at_109) rfl rfl ?_
      show Steps p.tables e below (T50.setTop (mkF m 110 #[.val (.int i0), .val (.ref b1), .val (.ref b18), .val (.int (2 : Int32))] [(.ref b18), (.int (1 : Int32))])) _
      refine XS.iloadN X50.here hx rfl (hb hby at_110) rfl ?_
      show Steps p.tables e below (T50.setTop (mkF m 111 #[.val (.int i0), .val (.ref b1), .val (.ref b18), .val (.int (2 : Int32))] [(.int (2 : Int32)), (.ref b18), (.int (1 : Int32))])) _
      refine X50.baloadBooleans hx (j := (2 : Int32)) (v := (.int (1 : Int32))) (by rw [e50]; exact Ar51.1) (State.isArrayOf_alike hZ.alike Ar51.2.1) Ar51.2.2 hin51 hat51 (g := (mkF m 111 #[.val (.int i0), .val (.ref b1), .val (.ref b18), .val (.int (2 : Int32))] [(.int (2 : Int32)), (.ref b18), (.int (1 : Int32))])) rfl rfl (hb hby at_111) _ ?_
      show Steps p.tables e below (T50.setTop (mkF m 112 #[.val (.int i0), .val (.ref b1), .val (.ref b18), .val (.int (2 : Int32))] [(.int (1 : Int32)), (.int (1 : Int32))])) _
      refine XS.icmpNo X50.here hx rfl (hb hby at_112) rfl (by decide) ?_
      show Steps p.tables e below (T50.setTop (mkF m 115 #[.val (.int i0), .val (.ref b1), .val (.ref b18), .val (.int (2 : Int32))] [])) _
      refine XS.iconst X50.here hx rfl (hb hby at_115) ?_
      show Steps p.tables e below (T50.setTop (mkF m 116 #[.val (.int i0), .val (.ref b1), .val (.ref b18), .val (.int (2 : Int32))] [(.int (1 : Int32))])) _
      refine XS.goto X50.here hx rfl (pc0 := 116) (pc' := 120) rfl (hb hby at_116) (by decide) (by decide) ?_
      show Steps p.tables e below (T50.setTop (mkF m 120 #[.val (.int i0), .val (.ref b1), .val (.ref b18), .val (.int (2 : Int32))] [(.int (1 : Int32))])) _
      exact retN X50 hx (t := .boolean) Bd.returns (by simp) (hb hby at_120) hr
    · show Ql n0 _ T50.heap _
      exact ⟨rfl, N50⟩
  · obtain ⟨cl52, Ar52, q52, S52, M52, H52, G52⟩ := (((((((((V17.ext E18).other W19 ne_b1_b18).other W20 ne_b1_b18).other W21 ne_b1_b18).other W22 ne_b1_b18).other W23 ne_b1_b18).other W24 ne_b1_b18).other W25 ne_b1_b18).other W26 ne_b1_b18)
    have hin52 : ¬ ((3 : Int32) < 0 ∨ cl52.slots.size ≤ ((3 : Int32)).toNatClampNeg) := inb_of S52 ⟨by decide, by decide⟩
    have hat52 : cl52.slots[((3 : Int32)).toNatClampNeg]? = some (.ref w3) := Has.at H52 hin52 rfl
    obtain ⟨cq55, kq55, q55a, q55b, q55c⟩ := isOf hZ e26 (wE3.ext O_26.2)
    obtain ⟨_, _, ⟨T55, L55, k55, n55⟩, -, X55, ⟨Lc55, hQ55, l55, y55, z55⟩, st55⟩ := X26.virtualBack hx (y := (⟨"com/example/policy_to_map/policytomap/core/Mechanism", "isObscuring", "()Z"⟩ : MethodName)) (z := (⟨"com/example/policy_to_map/policytomap/core/Mechanism", "isObscuring", "()Z"⟩ : MethodName)) hown (mvT hZ (hw _ (List.mem_of_getElem? (i := 22) rfl))) (mvT hZ (hw _ (List.mem_of_getElem? (i := 23) rfl))) (notFace_of_selects (args := #[]) (mvT hZ (hw _ (List.mem_of_getElem? (i := 25) rfl)))) (mvT hZ (hw _ (List.mem_of_getElem? (i := 25) rfl))) (mvT hZ (hw _ (List.mem_of_getElem? (i := 24) rfl))) (by decide) (backOf (W := 0) (rm4 l Z a0 hw [] w0 w1 w2 w3 w4 w5 w6 w7 h26 n0 hWd O_26) hZ (hw _ (List.mem_of_getElem? (i := 26) rfl)) (hw _ (List.mem_of_getElem? (i := 3) rfl)) (by decide) (by decide)) q55a q55c (g := (mkF m 106 #[.val (.int i0), .val (.ref b1), .val (.ref b18), .val (.int (3 : Int32))] [(.ref w3)])) rfl (by rw [hml]; rfl) (Steps.refl _) (argsL := []) (rest := []) (lenOf pd0 rfl) rfl (by show 2 * 0 + _ ≤ _; exact Nat.le_of_eq rfl) (hb hby at_106) (fun _ _ => ⟨rfl, e26, (by decide : 2 + 0 ≤ _), (by decide : 16 + 0 ≤ _)⟩)
    dsimp only [Pt.U, Pt.locs, Pt.cells, Pt.slots] at X55 l55 y55 z55 st55 hQ55
    subst l55 y55 z55
    obtain ⟨rfl, N55q, e55⟩ := hQ55
    have N55 := Fr.app N26 N55q
    obtain ⟨cl56, Ar56, q56, S56, M56, H56, G56⟩ := V26
    have hin56 : ¬ ((3 : Int32) < 0 ∨ cl56.slots.size ≤ ((3 : Int32)).toNatClampNeg) := inb_of S56 ⟨by decide, by decide⟩
    have hat56 : cl56.slots[((3 : Int32)).toNatClampNeg]? = some (.int (1 : Int32)) := Has.at H56 hin56 rfl
    obtain ⟨fs, hr, hrun, hended, hWr, hsame⟩ := X55.leave (v := some (.int (1 : Int32))) (fun h => by rw [Bd.returns] at h; cases h)
    refine ⟨_, _, pre27 _ ?_, hrun, hended, _, _, rfl, ?_, ⟨_, rfl⟩, hWr, hsame.mono (Nat.le_of_ble_eq_true rfl) (Nat.le_of_ble_eq_true rfl)⟩
    · show Steps p.tables e below (T26.setTop (mkF m 101 #[.val (.int i0), .val (.ref b1), .val (.ref b18), .unset] [(.int (8 : Int32)), (.int (i0 &&& (2147483647 : Int32)))])) _
      refine iremM X26 hx rfl (hb hby at_101) rfl (by decide) ?_
      show Steps p.tables e below (T26.setTop (mkF m 102 #[.val (.int i0), .val (.ref b1), .val (.ref b18), .unset] [(.int ((i0 &&& (2147483647 : Int32)) % (8 : Int32)))])) _
      rw [hk31]
      show Steps p.tables e below (T26.setTop (mkF m 102 #[.val (.int i0), .val (.ref b1), .val (.ref b18), .unset] [(.int (3 : Int32))])) _
      refine XS.istoreN X26.here hx rfl (hb hby at_102) rfl (l' := #[.val (.int i0), .val (.ref b1), .val (.ref b18), .val (.int (3 : Int32))]) rfl ?_
      show Steps p.tables e below (T26.setTop (mkF m 103 #[.val (.int i0), .val (.ref b1), .val (.ref b18), .val (.int (3 : Int32))] [])) _
      refine XS.aloadN X26.here hx rfl (hb hby at_103) rfl rfl ?_
      show Steps p.tables e below (T26.setTop (mkF m 104 #[.val (.int i0), .val (.ref b1), .val (.ref b18), .val (.int (3 : Int32))] [(.ref b1)])) _
      refine XS.iloadN X26.here hx rfl (hb hby at_104) rfl ?_
      show Steps p.tables e below (T26.setTop (mkF m 105 #[.val (.int i0), .val (.ref b1), .val (.ref b18), .val (.int (3 : Int32))] [(.int (3 : Int32)), (.ref b1)])) _
      refine X26.aaload hx (j := (3 : Int32)) (v := (.ref w3)) (by rw [e26]; exact Ar52.1) (State.isArrayOf_alike hZ.alike Ar52.2.1) rfl Ar52.2.2 hin52 hat52 (g := (mkF m 105 #[.val (.int i0), .val (.ref b1), .val (.ref b18), .val (.int (3 : Int32))] [(.int (3 : Int32)), (.ref b1)])) rfl rfl (hb hby at_105) _ ?_
      show Steps p.tables e below (T26.setTop (mkF m 106 #[.val (.int i0), .val (.ref b1), .val (.ref b18), .val (.int (3 : Int32))] [(.ref w3)])) _
      refine st55.trans ?_
      show Steps p.tables e below (T55.setTop (mkF m 109 #[.val (.int i0), .val (.ref b1), .val (.ref b18), .val (.int (3 : Int32))] [(.int (1 : Int32))])) _
      refine XS.aloadN X55.here hx rfl (hb hby at_109) rfl rfl ?_
      show Steps p.tables e below (T55.setTop (mkF m 110 #[.val (.int i0), .val (.ref b1), .val (.ref b18), .val (.int (3 : Int32))] [(.ref b18), (.int (1 : Int32))])) _
      refine XS.iloadN X55.here hx rfl (hb hby at_110) rfl ?_
      show Steps p.tables e below (T55.setTop (mkF m 111 #[.val (.int i0), .val (.ref b1), .val (.ref b18), .val (.int (3 : Int32))] [(.int (3 : Int32)), (.ref b18), (.int (1 : Int32))])) _
      refine X55.baloadBooleans hx (j := (3 : Int32)) (v := (.int (1 : Int32))) (by rw [e55]; exact Ar56.1) (State.isArrayOf_alike hZ.alike Ar56.2.1) Ar56.2.2 hin56 hat56 (g := (mkF m 111 #[.val (.int i0), .val (.ref b1), .val (.ref b18), .val (.int (3 : Int32))] [(.int (3 : Int32)), (.ref b18), (.int (1 : Int32))])) rfl rfl (hb hby at_111) _ ?_
      show Steps p.tables e below (T55.setTop (mkF m 112 #[.val (.int i0), .val (.ref b1), .val (.ref b18), .val (.int (3 : Int32))] [(.int (1 : Int32)), (.int (1 : Int32))])) _
      refine XS.icmpNo X55.here hx rfl (hb hby at_112) rfl (by decide) ?_
      show Steps p.tables e below (T55.setTop (mkF m 115 #[.val (.int i0), .val (.ref b1), .val (.ref b18), .val (.int (3 : Int32))] [])) _
      refine XS.iconst X55.here hx rfl (hb hby at_115) ?_
      show Steps p.tables e below (T55.setTop (mkF m 116 #[.val (.int i0), .val (.ref b1), .val (.ref b18), .val (.int (3 : Int32))] [(.int (1 : Int32))])) _
      refine XS.goto X55.here hx rfl (pc0 := 116) (pc' := 120) rfl (hb hby at_116) (by decide) (by decide) ?_
      show Steps p.tables e below (T55.setTop (mkF m 120 #[.val (.int i0), .val (.ref b1), .val (.ref b18), .val (.int (3 : Int32))] [(.int (1 : Int32))])) _
      exact retN X55 hx (t := .boolean) Bd.returns (by simp) (hb hby at_120) hr
    · show Ql n0 _ T55.heap _
      exact ⟨rfl, N55⟩
  · obtain ⟨cl57, Ar57, q57, S57, M57, H57, G57⟩ := (((((((((V17.ext E18).other W19 ne_b1_b18).other W20 ne_b1_b18).other W21 ne_b1_b18).other W22 ne_b1_b18).other W23 ne_b1_b18).other W24 ne_b1_b18).other W25 ne_b1_b18).other W26 ne_b1_b18)
    have hin57 : ¬ ((4 : Int32) < 0 ∨ cl57.slots.size ≤ ((4 : Int32)).toNatClampNeg) := inb_of S57 ⟨by decide, by decide⟩
    have hat57 : cl57.slots[((4 : Int32)).toNatClampNeg]? = some (.ref w4) := Has.at H57 hin57 rfl
    obtain ⟨cq61, kq61, q61a, q61b, q61c⟩ := isOf hZ e26 (wE4.ext O_26.2)
    obtain ⟨_, _, ⟨T61, L61, k61, n61⟩, -, X61, ⟨Lc61, hQ61, l61, y61, z61⟩, st61⟩ := X26.virtualBack hx (y := (⟨"com/example/policy_to_map/policytomap/core/Mechanism", "isObscuring", "()Z"⟩ : MethodName)) (z := (⟨"com/example/policy_to_map/policytomap/core/Mechanism", "isObscuring", "()Z"⟩ : MethodName)) hown (mvT hZ (hw _ (List.mem_of_getElem? (i := 22) rfl))) (mvT hZ (hw _ (List.mem_of_getElem? (i := 23) rfl))) (notFace_of_selects (args := #[]) (mvT hZ (hw _ (List.mem_of_getElem? (i := 25) rfl)))) (mvT hZ (hw _ (List.mem_of_getElem? (i := 25) rfl))) (mvT hZ (hw _ (List.mem_of_getElem? (i := 24) rfl))) (by decide) (backOf (W := 0) (rm5 l Z a0 hw [] w0 w1 w2 w3 w4 w5 w6 w7 h26 n0 hWd O_26) hZ (hw _ (List.mem_of_getElem? (i := 26) rfl)) (hw _ (List.mem_of_getElem? (i := 3) rfl)) (by decide) (by decide)) q61a q61c (g := (mkF m 106 #[.val (.int i0), .val (.ref b1), .val (.ref b18), .val (.int (4 : Int32))] [(.ref w4)])) rfl (by rw [hml]; rfl) (Steps.refl _) (argsL := []) (rest := []) (lenOf pd0 rfl) rfl (by show 2 * 0 + _ ≤ _; exact Nat.le_of_eq rfl) (hb hby at_106) (fun _ _ => ⟨rfl, e26, (by decide : 2 + 0 ≤ _), (by decide : 16 + 0 ≤ _)⟩)
    dsimp only [Pt.U, Pt.locs, Pt.cells, Pt.slots] at X61 l61 y61 z61 st61 hQ61
    subst l61 y61 z61
    obtain ⟨rfl, N61q, e61⟩ := hQ61
    have N61 := Fr.app N26 N61q
    obtain ⟨cl62, Ar62, q62, S62, M62, H62, G62⟩ := V26
    have hin62 : ¬ ((4 : Int32) < 0 ∨ cl62.slots.size ≤ ((4 : Int32)).toNatClampNeg) := inb_of S62 ⟨by decide, by decide⟩
    have hat62 : cl62.slots[((4 : Int32)).toNatClampNeg]? = some (.int (1 : Int32)) := Has.at H62 hin62 rfl
    obtain ⟨fs, hr, hrun, hended, hWr, hsame⟩ := X61.leave (v := some (.int (1 : Int32))) (fun h => by rw [Bd.returns] at h; cases h)
    refine ⟨_, _, pre27 _ ?_, hrun, hended, _, _, rfl, ?_, ⟨_, rfl⟩, hWr, hsame.mono (Nat.le_of_ble_eq_true rfl) (Nat.le_of_ble_eq_true rfl)⟩
    · show Steps p.tables e below (T26.setTop (mkF m 101 #[.val (.int i0), .val (.ref b1), .val (.ref b18), .unset] [(.int (8 : Int32)), (.int (i0 &&& (2147483647 : Int32)))])) _
      refine iremM X26 hx rfl (hb hby at_101) rfl (by decide) ?_
      show Steps p.tables e below (T26.setTop (mkF m 102 #[.val (.int i0), .val (.ref b1), .val (.ref b18), .unset] [(.int ((i0 &&& (2147483647 : Int32)) % (8 : Int32)))])) _
      rw [hk32]
      show Steps p.tables e below (T26.setTop (mkF m 102 #[.val (.int i0), .val (.ref b1), .val (.ref b18), .unset] [(.int (4 : Int32))])) _
      refine XS.istoreN X26.here hx rfl (hb hby at_102) rfl (l' := #[.val (.int i0), .val (.ref b1), .val (.ref b18), .val (.int (4 : Int32))]) rfl ?_
      show Steps p.tables e below (T26.setTop (mkF m 103 #[.val (.int i0), .val (.ref b1), .val (.ref b18), .val (.int (4 : Int32))] [])) _
      refine XS.aloadN X26.here hx rfl (hb hby at_103) rfl rfl ?_
      show Steps p.tables e below (T26.setTop (mkF m 104 #[.val (.int i0), .val (.ref b1), .val (.ref b18), .val (.int (4 : Int32))] [(.ref b1)])) _
      refine XS.iloadN X26.here hx rfl (hb hby at_104) rfl ?_
      show Steps p.tables e below (T26.setTop (mkF m 105 #[.val (.int i0), .val (.ref b1), .val (.ref b18), .val (.int (4 : Int32))] [(.int (4 : Int32)), (.ref b1)])) _
      refine X26.aaload hx (j := (4 : Int32)) (v := (.ref w4)) (by rw [e26]; exact Ar57.1) (State.isArrayOf_alike hZ.alike Ar57.2.1) rfl Ar57.2.2 hin57 hat57 (g := (mkF m 105 #[.val (.int i0), .val (.ref b1), .val (.ref b18), .val (.int (4 : Int32))] [(.int (4 : Int32)), (.ref b1)])) rfl rfl (hb hby at_105) _ ?_
      show Steps p.tables e below (T26.setTop (mkF m 106 #[.val (.int i0), .val (.ref b1), .val (.ref b18), .val (.int (4 : Int32))] [(.ref w4)])) _
      refine st61.trans ?_
      show Steps p.tables e below (T61.setTop (mkF m 109 #[.val (.int i0), .val (.ref b1), .val (.ref b18), .val (.int (4 : Int32))] [(.int (1 : Int32))])) _
      refine XS.aloadN X61.here hx rfl (hb hby at_109) rfl rfl ?_
      show Steps p.tables e below (T61.setTop (mkF m 110 #[.val (.int i0), .val (.ref b1), .val (.ref b18), .val (.int (4 : Int32))] [(.ref b18), (.int (1 : Int32))])) _
      refine XS.iloadN X61.here hx rfl (hb hby at_110) rfl ?_
      show Steps p.tables e below (T61.setTop (mkF m 111 #[.val (.int i0), .val (.ref b1), .val (.ref b18), .val (.int (4 : Int32))] [(.int (4 : Int32)), (.ref b18), (.int (1 : Int32))])) _
      refine X61.baloadBooleans hx (j := (4 : Int32)) (v := (.int (1 : Int32))) (by rw [e61]; exact Ar62.1) (State.isArrayOf_alike hZ.alike Ar62.2.1) Ar62.2.2 hin62 hat62 (g := (mkF m 111 #[.val (.int i0), .val (.ref b1), .val (.ref b18), .val (.int (4 : Int32))] [(.int (4 : Int32)), (.ref b18), (.int (1 : Int32))])) rfl rfl (hb hby at_111) _ ?_
      show Steps p.tables e below (T61.setTop (mkF m 112 #[.val (.int i0), .val (.ref b1), .val (.ref b18), .val (.int (4 : Int32))] [(.int (1 : Int32)), (.int (1 : Int32))])) _
      refine XS.icmpNo X61.here hx rfl (hb hby at_112) rfl (by decide) ?_
      show Steps p.tables e below (T61.setTop (mkF m 115 #[.val (.int i0), .val (.ref b1), .val (.ref b18), .val (.int (4 : Int32))] [])) _
      refine XS.iconst X61.here hx rfl (hb hby at_115) ?_
      show Steps p.tables e below (T61.setTop (mkF m 116 #[.val (.int i0), .val (.ref b1), .val (.ref b18), .val (.int (4 : Int32))] [(.int (1 : Int32))])) _
      refine XS.goto X61.here hx rfl (pc0 := 116) (pc' := 120) rfl (hb hby at_116) (by decide) (by decide) ?_
      show Steps p.tables e below (T61.setTop (mkF m 120 #[.val (.int i0), .val (.ref b1), .val (.ref b18), .val (.int (4 : Int32))] [(.int (1 : Int32))])) _
      exact retN X61 hx (t := .boolean) Bd.returns (by simp) (hb hby at_120) hr
    · show Ql n0 _ T61.heap _
      exact ⟨rfl, N61⟩
  · obtain ⟨cl63, Ar63, q63, S63, M63, H63, G63⟩ := (((((((((V17.ext E18).other W19 ne_b1_b18).other W20 ne_b1_b18).other W21 ne_b1_b18).other W22 ne_b1_b18).other W23 ne_b1_b18).other W24 ne_b1_b18).other W25 ne_b1_b18).other W26 ne_b1_b18)
    have hin63 : ¬ ((5 : Int32) < 0 ∨ cl63.slots.size ≤ ((5 : Int32)).toNatClampNeg) := inb_of S63 ⟨by decide, by decide⟩
    have hat63 : cl63.slots[((5 : Int32)).toNatClampNeg]? = some (.ref w5) := Has.at H63 hin63 rfl
    obtain ⟨cq67, kq67, q67a, q67b, q67c⟩ := isOf hZ e26 (wE5.ext O_26.2)
    obtain ⟨_, _, ⟨T67, L67, k67, n67⟩, -, X67, ⟨Lc67, hQ67, l67, y67, z67⟩, st67⟩ := X26.virtualBack hx (y := (⟨"com/example/policy_to_map/policytomap/core/Mechanism", "isObscuring", "()Z"⟩ : MethodName)) (z := (⟨"com/example/policy_to_map/policytomap/core/Mechanism", "isObscuring", "()Z"⟩ : MethodName)) hown (mvT hZ (hw _ (List.mem_of_getElem? (i := 22) rfl))) (mvT hZ (hw _ (List.mem_of_getElem? (i := 23) rfl))) (notFace_of_selects (args := #[]) (mvT hZ (hw _ (List.mem_of_getElem? (i := 25) rfl)))) (mvT hZ (hw _ (List.mem_of_getElem? (i := 25) rfl))) (mvT hZ (hw _ (List.mem_of_getElem? (i := 24) rfl))) (by decide) (backOf (W := 0) (rm6 l Z a0 hw [] w0 w1 w2 w3 w4 w5 w6 w7 h26 n0 hWd O_26) hZ (hw _ (List.mem_of_getElem? (i := 26) rfl)) (hw _ (List.mem_of_getElem? (i := 3) rfl)) (by decide) (by decide)) q67a q67c (g := (mkF m 106 #[.val (.int i0), .val (.ref b1), .val (.ref b18), .val (.int (5 : Int32))] [(.ref w5)])) rfl (by rw [hml]; rfl) (Steps.refl _) (argsL := []) (rest := []) (lenOf pd0 rfl) rfl (by show 2 * 0 + _ ≤ _; exact Nat.le_of_eq rfl) (hb hby at_106) (fun _ _ => ⟨rfl, e26, (by decide : 2 + 0 ≤ _), (by decide : 16 + 0 ≤ _)⟩)
    dsimp only [Pt.U, Pt.locs, Pt.cells, Pt.slots] at X67 l67 y67 z67 st67 hQ67
    subst l67 y67 z67
    obtain ⟨rfl, N67q, e67⟩ := hQ67
    have N67 := Fr.app N26 N67q
    obtain ⟨cl68, Ar68, q68, S68, M68, H68, G68⟩ := V26
    have hin68 : ¬ ((5 : Int32) < 0 ∨ cl68.slots.size ≤ ((5 : Int32)).toNatClampNeg) := inb_of S68 ⟨by decide, by decide⟩
    have hat68 : cl68.slots[((5 : Int32)).toNatClampNeg]? = some (.int (0 : Int32)) := Has.at H68 hin68 rfl
    obtain ⟨fs, hr, hrun, hended, hWr, hsame⟩ := X67.leave (v := some (.int (1 : Int32))) (fun h => by rw [Bd.returns] at h; cases h)
    refine ⟨_, _, pre27 _ ?_, hrun, hended, _, _, rfl, ?_, ⟨_, rfl⟩, hWr, hsame.mono (Nat.le_of_ble_eq_true rfl) (Nat.le_of_ble_eq_true rfl)⟩
    · show Steps p.tables e below (T26.setTop (mkF m 101 #[.val (.int i0), .val (.ref b1), .val (.ref b18), .unset] [(.int (8 : Int32)), (.int (i0 &&& (2147483647 : Int32)))])) _
      refine iremM X26 hx rfl (hb hby at_101) rfl (by decide) ?_
      show Steps p.tables e below (T26.setTop (mkF m 102 #[.val (.int i0), .val (.ref b1), .val (.ref b18), .unset] [(.int ((i0 &&& (2147483647 : Int32)) % (8 : Int32)))])) _
      rw [hk33]
      show Steps p.tables e below (T26.setTop (mkF m 102 #[.val (.int i0), .val (.ref b1), .val (.ref b18), .unset] [(.int (5 : Int32))])) _
      refine XS.istoreN X26.here hx rfl (hb hby at_102) rfl (l' := #[.val (.int i0), .val (.ref b1), .val (.ref b18), .val (.int (5 : Int32))]) rfl ?_
      show Steps p.tables e below (T26.setTop (mkF m 103 #[.val (.int i0), .val (.ref b1), .val (.ref b18), .val (.int (5 : Int32))] [])) _
      refine XS.aloadN X26.here hx rfl (hb hby at_103) rfl rfl ?_
      show Steps p.tables e below (T26.setTop (mkF m 104 #[.val (.int i0), .val (.ref b1), .val (.ref b18), .val (.int (5 : Int32))] [(.ref b1)])) _
      refine XS.iloadN X26.here hx rfl (hb hby at_104) rfl ?_
      show Steps p.tables e below (T26.setTop (mkF m 105 #[.val (.int i0), .val (.ref b1), .val (.ref b18), .val (.int (5 : Int32))] [(.int (5 : Int32)), (.ref b1)])) _
      refine X26.aaload hx (j := (5 : Int32)) (v := (.ref w5)) (by rw [e26]; exact Ar63.1) (State.isArrayOf_alike hZ.alike Ar63.2.1) rfl Ar63.2.2 hin63 hat63 (g := (mkF m 105 #[.val (.int i0), .val (.ref b1), .val (.ref b18), .val (.int (5 : Int32))] [(.int (5 : Int32)), (.ref b1)])) rfl rfl (hb hby at_105) _ ?_
      show Steps p.tables e below (T26.setTop (mkF m 106 #[.val (.int i0), .val (.ref b1), .val (.ref b18), .val (.int (5 : Int32))] [(.ref w5)])) _
      refine st67.trans ?_
      show Steps p.tables e below (T67.setTop (mkF m 109 #[.val (.int i0), .val (.ref b1), .val (.ref b18), .val (.int (5 : Int32))] [(.int (0 : Int32))])) _
      refine XS.aloadN X67.here hx rfl (hb hby at_109) rfl rfl ?_
      show Steps p.tables e below (T67.setTop (mkF m 110 #[.val (.int i0), .val (.ref b1), .val (.ref b18), .val (.int (5 : Int32))] [(.ref b18), (.int (0 : Int32))])) _
      refine XS.iloadN X67.here hx rfl (hb hby at_110) rfl ?_
      show Steps p.tables e below (T67.setTop (mkF m 111 #[.val (.int i0), .val (.ref b1), .val (.ref b18), .val (.int (5 : Int32))] [(.int (5 : Int32)), (.ref b18), (.int (0 : Int32))])) _
      refine X67.baloadBooleans hx (j := (5 : Int32)) (v := (.int (0 : Int32))) (by rw [e67]; exact Ar68.1) (State.isArrayOf_alike hZ.alike Ar68.2.1) Ar68.2.2 hin68 hat68 (g := (mkF m 111 #[.val (.int i0), .val (.ref b1), .val (.ref b18), .val (.int (5 : Int32))] [(.int (5 : Int32)), (.ref b18), (.int (0 : Int32))])) rfl rfl (hb hby at_111) _ ?_
      show Steps p.tables e below (T67.setTop (mkF m 112 #[.val (.int i0), .val (.ref b1), .val (.ref b18), .val (.int (5 : Int32))] [(.int (0 : Int32)), (.int (0 : Int32))])) _
      refine XS.icmpNo X67.here hx rfl (hb hby at_112) rfl (by decide) ?_
      show Steps p.tables e below (T67.setTop (mkF m 115 #[.val (.int i0), .val (.ref b1), .val (.ref b18), .val (.int (5 : Int32))] [])) _
      refine XS.iconst X67.here hx rfl (hb hby at_115) ?_
      show Steps p.tables e below (T67.setTop (mkF m 116 #[.val (.int i0), .val (.ref b1), .val (.ref b18), .val (.int (5 : Int32))] [(.int (1 : Int32))])) _
      refine XS.goto X67.here hx rfl (pc0 := 116) (pc' := 120) rfl (hb hby at_116) (by decide) (by decide) ?_
      show Steps p.tables e below (T67.setTop (mkF m 120 #[.val (.int i0), .val (.ref b1), .val (.ref b18), .val (.int (5 : Int32))] [(.int (1 : Int32))])) _
      exact retN X67 hx (t := .boolean) Bd.returns (by simp) (hb hby at_120) hr
    · show Ql n0 _ T67.heap _
      exact ⟨rfl, N67⟩
  · obtain ⟨cl69, Ar69, q69, S69, M69, H69, G69⟩ := (((((((((V17.ext E18).other W19 ne_b1_b18).other W20 ne_b1_b18).other W21 ne_b1_b18).other W22 ne_b1_b18).other W23 ne_b1_b18).other W24 ne_b1_b18).other W25 ne_b1_b18).other W26 ne_b1_b18)
    have hin69 : ¬ ((6 : Int32) < 0 ∨ cl69.slots.size ≤ ((6 : Int32)).toNatClampNeg) := inb_of S69 ⟨by decide, by decide⟩
    have hat69 : cl69.slots[((6 : Int32)).toNatClampNeg]? = some (.ref w6) := Has.at H69 hin69 rfl
    obtain ⟨cq73, kq73, q73a, q73b, q73c⟩ := isOf hZ e26 (wE6.ext O_26.2)
    obtain ⟨_, _, ⟨T73, L73, k73, n73⟩, -, X73, ⟨Lc73, hQ73, l73, y73, z73⟩, st73⟩ := X26.virtualBack hx (y := (⟨"com/example/policy_to_map/policytomap/core/Mechanism", "isObscuring", "()Z"⟩ : MethodName)) (z := (⟨"com/example/policy_to_map/policytomap/core/Mechanism", "isObscuring", "()Z"⟩ : MethodName)) hown (mvT hZ (hw _ (List.mem_of_getElem? (i := 22) rfl))) (mvT hZ (hw _ (List.mem_of_getElem? (i := 23) rfl))) (notFace_of_selects (args := #[]) (mvT hZ (hw _ (List.mem_of_getElem? (i := 25) rfl)))) (mvT hZ (hw _ (List.mem_of_getElem? (i := 25) rfl))) (mvT hZ (hw _ (List.mem_of_getElem? (i := 24) rfl))) (by decide) (backOf (W := 0) (rm7 l Z a0 hw [] w0 w1 w2 w3 w4 w5 w6 w7 h26 n0 hWd O_26) hZ (hw _ (List.mem_of_getElem? (i := 26) rfl)) (hw _ (List.mem_of_getElem? (i := 3) rfl)) (by decide) (by decide)) q73a q73c (g := (mkF m 106 #[.val (.int i0), .val (.ref b1), .val (.ref b18), .val (.int (6 : Int32))] [(.ref w6)])) rfl (by rw [hml]; rfl) (Steps.refl _) (argsL := []) (rest := []) (lenOf pd0 rfl) rfl (by show 2 * 0 + _ ≤ _; exact Nat.le_of_eq rfl) (hb hby at_106) (fun _ _ => ⟨rfl, e26, (by decide : 2 + 0 ≤ _), (by decide : 16 + 0 ≤ _)⟩)
    dsimp only [Pt.U, Pt.locs, Pt.cells, Pt.slots] at X73 l73 y73 z73 st73 hQ73
    subst l73 y73 z73
    obtain ⟨rfl, N73q, e73⟩ := hQ73
    have N73 := Fr.app N26 N73q
    obtain ⟨cl74, Ar74, q74, S74, M74, H74, G74⟩ := V26
    have hin74 : ¬ ((6 : Int32) < 0 ∨ cl74.slots.size ≤ ((6 : Int32)).toNatClampNeg) := inb_of S74 ⟨by decide, by decide⟩
    have hat74 : cl74.slots[((6 : Int32)).toNatClampNeg]? = some (.int (0 : Int32)) := Has.at H74 hin74 rfl
    obtain ⟨fs, hr, hrun, hended, hWr, hsame⟩ := X73.leave (v := some (.int (1 : Int32))) (fun h => by rw [Bd.returns] at h; cases h)
    refine ⟨_, _, pre27 _ ?_, hrun, hended, _, _, rfl, ?_, ⟨_, rfl⟩, hWr, hsame.mono (Nat.le_of_ble_eq_true rfl) (Nat.le_of_ble_eq_true rfl)⟩
    · show Steps p.tables e below (T26.setTop (mkF m 101 #[.val (.int i0), .val (.ref b1), .val (.ref b18), .unset] [(.int (8 : Int32)), (.int (i0 &&& (2147483647 : Int32)))])) _
      refine iremM X26 hx rfl (hb hby at_101) rfl (by decide) ?_
      show Steps p.tables e below (T26.setTop (mkF m 102 #[.val (.int i0), .val (.ref b1), .val (.ref b18), .unset] [(.int ((i0 &&& (2147483647 : Int32)) % (8 : Int32)))])) _
      rw [hk34]
      show Steps p.tables e below (T26.setTop (mkF m 102 #[.val (.int i0), .val (.ref b1), .val (.ref b18), .unset] [(.int (6 : Int32))])) _
      refine XS.istoreN X26.here hx rfl (hb hby at_102) rfl (l' := #[.val (.int i0), .val (.ref b1), .val (.ref b18), .val (.int (6 : Int32))]) rfl ?_
      show Steps p.tables e below (T26.setTop (mkF m 103 #[.val (.int i0), .val (.ref b1), .val (.ref b18), .val (.int (6 : Int32))] [])) _
      refine XS.aloadN X26.here hx rfl (hb hby at_103) rfl rfl ?_
      show Steps p.tables e below (T26.setTop (mkF m 104 #[.val (.int i0), .val (.ref b1), .val (.ref b18), .val (.int (6 : Int32))] [(.ref b1)])) _
      refine XS.iloadN X26.here hx rfl (hb hby at_104) rfl ?_
      show Steps p.tables e below (T26.setTop (mkF m 105 #[.val (.int i0), .val (.ref b1), .val (.ref b18), .val (.int (6 : Int32))] [(.int (6 : Int32)), (.ref b1)])) _
      refine X26.aaload hx (j := (6 : Int32)) (v := (.ref w6)) (by rw [e26]; exact Ar69.1) (State.isArrayOf_alike hZ.alike Ar69.2.1) rfl Ar69.2.2 hin69 hat69 (g := (mkF m 105 #[.val (.int i0), .val (.ref b1), .val (.ref b18), .val (.int (6 : Int32))] [(.int (6 : Int32)), (.ref b1)])) rfl rfl (hb hby at_105) _ ?_
      show Steps p.tables e below (T26.setTop (mkF m 106 #[.val (.int i0), .val (.ref b1), .val (.ref b18), .val (.int (6 : Int32))] [(.ref w6)])) _
      refine st73.trans ?_
      show Steps p.tables e below (T73.setTop (mkF m 109 #[.val (.int i0), .val (.ref b1), .val (.ref b18), .val (.int (6 : Int32))] [(.int (0 : Int32))])) _
      refine XS.aloadN X73.here hx rfl (hb hby at_109) rfl rfl ?_
      show Steps p.tables e below (T73.setTop (mkF m 110 #[.val (.int i0), .val (.ref b1), .val (.ref b18), .val (.int (6 : Int32))] [(.ref b18), (.int (0 : Int32))])) _
      refine XS.iloadN X73.here hx rfl (hb hby at_110) rfl ?_
      show Steps p.tables e below (T73.setTop (mkF m 111 #[.val (.int i0), .val (.ref b1), .val (.ref b18), .val (.int (6 : Int32))] [(.int (6 : Int32)), (.ref b18), (.int (0 : Int32))])) _
      refine X73.baloadBooleans hx (j := (6 : Int32)) (v := (.int (0 : Int32))) (by rw [e73]; exact Ar74.1) (State.isArrayOf_alike hZ.alike Ar74.2.1) Ar74.2.2 hin74 hat74 (g := (mkF m 111 #[.val (.int i0), .val (.ref b1), .val (.ref b18), .val (.int (6 : Int32))] [(.int (6 : Int32)), (.ref b18), (.int (0 : Int32))])) rfl rfl (hb hby at_111) _ ?_
      show Steps p.tables e below (T73.setTop (mkF m 112 #[.val (.int i0), .val (.ref b1), .val (.ref b18), .val (.int (6 : Int32))] [(.int (0 : Int32)), (.int (0 : Int32))])) _
      refine XS.icmpNo X73.here hx rfl (hb hby at_112) rfl (by decide) ?_
      show Steps p.tables e below (T73.setTop (mkF m 115 #[.val (.int i0), .val (.ref b1), .val (.ref b18), .val (.int (6 : Int32))] [])) _
      refine XS.iconst X73.here hx rfl (hb hby at_115) ?_
      show Steps p.tables e below (T73.setTop (mkF m 116 #[.val (.int i0), .val (.ref b1), .val (.ref b18), .val (.int (6 : Int32))] [(.int (1 : Int32))])) _
      refine XS.goto X73.here hx rfl (pc0 := 116) (pc' := 120) rfl (hb hby at_116) (by decide) (by decide) ?_
      show Steps p.tables e below (T73.setTop (mkF m 120 #[.val (.int i0), .val (.ref b1), .val (.ref b18), .val (.int (6 : Int32))] [(.int (1 : Int32))])) _
      exact retN X73 hx (t := .boolean) Bd.returns (by simp) (hb hby at_120) hr
    · show Ql n0 _ T73.heap _
      exact ⟨rfl, N73⟩
  · obtain ⟨cl75, Ar75, q75, S75, M75, H75, G75⟩ := (((((((((V17.ext E18).other W19 ne_b1_b18).other W20 ne_b1_b18).other W21 ne_b1_b18).other W22 ne_b1_b18).other W23 ne_b1_b18).other W24 ne_b1_b18).other W25 ne_b1_b18).other W26 ne_b1_b18)
    have hin75 : ¬ ((7 : Int32) < 0 ∨ cl75.slots.size ≤ ((7 : Int32)).toNatClampNeg) := inb_of S75 ⟨by decide, by decide⟩
    have hat75 : cl75.slots[((7 : Int32)).toNatClampNeg]? = some (.ref w7) := Has.at H75 hin75 rfl
    obtain ⟨cq79, kq79, q79a, q79b, q79c⟩ := isOf hZ e26 (wE7.ext O_26.2)
    obtain ⟨_, _, ⟨T79, L79, k79, n79⟩, -, X79, ⟨Lc79, hQ79, l79, y79, z79⟩, st79⟩ := X26.virtualBack hx (y := (⟨"com/example/policy_to_map/policytomap/core/Mechanism", "isObscuring", "()Z"⟩ : MethodName)) (z := (⟨"com/example/policy_to_map/policytomap/core/Mechanism", "isObscuring", "()Z"⟩ : MethodName)) hown (mvT hZ (hw _ (List.mem_of_getElem? (i := 22) rfl))) (mvT hZ (hw _ (List.mem_of_getElem? (i := 23) rfl))) (notFace_of_selects (args := #[]) (mvT hZ (hw _ (List.mem_of_getElem? (i := 25) rfl)))) (mvT hZ (hw _ (List.mem_of_getElem? (i := 25) rfl))) (mvT hZ (hw _ (List.mem_of_getElem? (i := 24) rfl))) (by decide) (backOf (W := 0) (rm8 l Z a0 hw [] w0 w1 w2 w3 w4 w5 w6 w7 h26 n0 hWd O_26) hZ (hw _ (List.mem_of_getElem? (i := 26) rfl)) (hw _ (List.mem_of_getElem? (i := 3) rfl)) (by decide) (by decide)) q79a q79c (g := (mkF m 106 #[.val (.int i0), .val (.ref b1), .val (.ref b18), .val (.int (7 : Int32))] [(.ref w7)])) rfl (by rw [hml]; rfl) (Steps.refl _) (argsL := []) (rest := []) (lenOf pd0 rfl) rfl (by show 2 * 0 + _ ≤ _; exact Nat.le_of_eq rfl) (hb hby at_106) (fun _ _ => ⟨rfl, e26, (by decide : 2 + 0 ≤ _), (by decide : 16 + 0 ≤ _)⟩)
    dsimp only [Pt.U, Pt.locs, Pt.cells, Pt.slots] at X79 l79 y79 z79 st79 hQ79
    subst l79 y79 z79
    obtain ⟨rfl, N79q, e79⟩ := hQ79
    have N79 := Fr.app N26 N79q
    obtain ⟨cl80, Ar80, q80, S80, M80, H80, G80⟩ := V26
    have hin80 : ¬ ((7 : Int32) < 0 ∨ cl80.slots.size ≤ ((7 : Int32)).toNatClampNeg) := inb_of S80 ⟨by decide, by decide⟩
    have hat80 : cl80.slots[((7 : Int32)).toNatClampNeg]? = some (.int (0 : Int32)) := Has.at H80 hin80 rfl
    obtain ⟨fs, hr, hrun, hended, hWr, hsame⟩ := X79.leave (v := some (.int (1 : Int32))) (fun h => by rw [Bd.returns] at h; cases h)
    refine ⟨_, _, pre27 _ ?_, hrun, hended, _, _, rfl, ?_, ⟨_, rfl⟩, hWr, hsame.mono (Nat.le_of_ble_eq_true rfl) (Nat.le_of_ble_eq_true rfl)⟩
    · show Steps p.tables e below (T26.setTop (mkF m 101 #[.val (.int i0), .val (.ref b1), .val (.ref b18), .unset] [(.int (8 : Int32)), (.int (i0 &&& (2147483647 : Int32)))])) _
      refine iremM X26 hx rfl (hb hby at_101) rfl (by decide) ?_
      show Steps p.tables e below (T26.setTop (mkF m 102 #[.val (.int i0), .val (.ref b1), .val (.ref b18), .unset] [(.int ((i0 &&& (2147483647 : Int32)) % (8 : Int32)))])) _
      rw [hk35]
      show Steps p.tables e below (T26.setTop (mkF m 102 #[.val (.int i0), .val (.ref b1), .val (.ref b18), .unset] [(.int (7 : Int32))])) _
      refine XS.istoreN X26.here hx rfl (hb hby at_102) rfl (l' := #[.val (.int i0), .val (.ref b1), .val (.ref b18), .val (.int (7 : Int32))]) rfl ?_
      show Steps p.tables e below (T26.setTop (mkF m 103 #[.val (.int i0), .val (.ref b1), .val (.ref b18), .val (.int (7 : Int32))] [])) _
      refine XS.aloadN X26.here hx rfl (hb hby at_103) rfl rfl ?_
      show Steps p.tables e below (T26.setTop (mkF m 104 #[.val (.int i0), .val (.ref b1), .val (.ref b18), .val (.int (7 : Int32))] [(.ref b1)])) _
      refine XS.iloadN X26.here hx rfl (hb hby at_104) rfl ?_
      show Steps p.tables e below (T26.setTop (mkF m 105 #[.val (.int i0), .val (.ref b1), .val (.ref b18), .val (.int (7 : Int32))] [(.int (7 : Int32)), (.ref b1)])) _
      refine X26.aaload hx (j := (7 : Int32)) (v := (.ref w7)) (by rw [e26]; exact Ar75.1) (State.isArrayOf_alike hZ.alike Ar75.2.1) rfl Ar75.2.2 hin75 hat75 (g := (mkF m 105 #[.val (.int i0), .val (.ref b1), .val (.ref b18), .val (.int (7 : Int32))] [(.int (7 : Int32)), (.ref b1)])) rfl rfl (hb hby at_105) _ ?_
      show Steps p.tables e below (T26.setTop (mkF m 106 #[.val (.int i0), .val (.ref b1), .val (.ref b18), .val (.int (7 : Int32))] [(.ref w7)])) _
      refine st79.trans ?_
      show Steps p.tables e below (T79.setTop (mkF m 109 #[.val (.int i0), .val (.ref b1), .val (.ref b18), .val (.int (7 : Int32))] [(.int (0 : Int32))])) _
      refine XS.aloadN X79.here hx rfl (hb hby at_109) rfl rfl ?_
      show Steps p.tables e below (T79.setTop (mkF m 110 #[.val (.int i0), .val (.ref b1), .val (.ref b18), .val (.int (7 : Int32))] [(.ref b18), (.int (0 : Int32))])) _
      refine XS.iloadN X79.here hx rfl (hb hby at_110) rfl ?_
      show Steps p.tables e below (T79.setTop (mkF m 111 #[.val (.int i0), .val (.ref b1), .val (.ref b18), .val (.int (7 : Int32))] [(.int (7 : Int32)), (.ref b18), (.int (0 : Int32))])) _
      refine X79.baloadBooleans hx (j := (7 : Int32)) (v := (.int (0 : Int32))) (by rw [e79]; exact Ar80.1) (State.isArrayOf_alike hZ.alike Ar80.2.1) Ar80.2.2 hin80 hat80 (g := (mkF m 111 #[.val (.int i0), .val (.ref b1), .val (.ref b18), .val (.int (7 : Int32))] [(.int (7 : Int32)), (.ref b18), (.int (0 : Int32))])) rfl rfl (hb hby at_111) _ ?_
      show Steps p.tables e below (T79.setTop (mkF m 112 #[.val (.int i0), .val (.ref b1), .val (.ref b18), .val (.int (7 : Int32))] [(.int (0 : Int32)), (.int (0 : Int32))])) _
      refine XS.icmpNo X79.here hx rfl (hb hby at_112) rfl (by decide) ?_
      show Steps p.tables e below (T79.setTop (mkF m 115 #[.val (.int i0), .val (.ref b1), .val (.ref b18), .val (.int (7 : Int32))] [])) _
      refine XS.iconst X79.here hx rfl (hb hby at_115) ?_
      show Steps p.tables e below (T79.setTop (mkF m 116 #[.val (.int i0), .val (.ref b1), .val (.ref b18), .val (.int (7 : Int32))] [(.int (1 : Int32))])) _
      refine XS.goto X79.here hx rfl (pc0 := 116) (pc' := 120) rfl (hb hby at_116) (by decide) (by decide) ?_
      show Steps p.tables e below (T79.setTop (mkF m 120 #[.val (.int i0), .val (.ref b1), .val (.ref b18), .val (.int (7 : Int32))] [(.int (1 : Int32))])) _
      exact retN X79 hx (t := .boolean) Bd.returns (by simp) (hb hby at_120) hr
    · show Ql n0 _ T79.heap _
      exact ⟨rfl, N79⟩
set_option maxRecDepth 65536 in
set_option maxHeartbeats 40000000 in
theorem comes_1 {Post : Tables → Env → Array Value → State → Outcome → State → Prop} (hpost : ∀ tb e args s v u, (limb_1_1.after args s (.returned v) u = true ∧ limb_1_2.after args s (.returned v) u = true ∧ True) → FrameEnd s (.returned v) u (Jvm.fieldLocs frame_1_writes args s ++ Jvm.arrayLocs frame_1_arrays args s ++ Jvm.staticLocs frame_1_statics s) 16 128 → Post tb e args s (.returned v) u) :
    ArmFor flags0 classFile x code maxLocals ret World_1 tables_1 room_1 Calls_1 rest_1 Pre_1 Post := by
  intro l hfl _ _ p e ha hc hk s m args below hf hA hF happ hP
  obtain ⟨hcalls, hrest, hpre⟩ := hP
  obtain ⟨-, -, -, hnamed, -, -, -, hat⟩ := (Spec.applies_iff hf).mp happ
  obtain ⟨hg, hn⟩ := and_e (Cond.before_iff.mp (show (Jvm.Cond.and given_1 narrow_1).before args s = true from hpre))
  obtain ⟨gc, g0⟩ := and_e hg
  obtain ⟨x0, rfl⟩ : ∃ x0 : Value, args = #[x0] := by
    have hs : args.size = 1 := by simpa [Cond.value, given_1] using gc
    obtain ⟨L⟩ := args
    match L, hs with
    | [x0], _ => exact ⟨x0, rfl⟩
  have hw := fun d (hd : d ∈ tables_1) => atoms_spec (ws := Jvm.Cond.code x code maxLocals ret :: tables_1) hat d (List.mem_cons_of_mem _ hd)
  have hfit : Fit s := fun {y c} hc i hi => by
    obtain ⟨ha, rfl⟩ := Array.getElem?_eq_some_iff.mp hc
    have q := List.all_eq_true.mp ((Array.all_eq_true_iff_forall_mem.mp hF) _ (Array.getElem_mem ha)) i (List.mem_range.mpr hi)
    simpa [Array.getElem?_eq_getElem hi] using q
  obtain ⟨i0, ei0⟩ := is_v g0
  obtain rfl : x0 = (.int i0) := Option.some.inj ei0
  obtain ⟨c0, r0⟩ := and_e hn
  obtain ⟨c1, r1⟩ := and_e r0
  obtain ⟨c2, r2⟩ := and_e r1
  obtain ⟨c3, r3⟩ := and_e r2
  obtain ⟨c4, r4⟩ := and_e r3
  obtain ⟨c5, r5⟩ := and_e r4
  obtain ⟨c6, r6⟩ := and_e r5
  obtain ⟨c7, r7⟩ := and_e r6
  obtain ⟨c8, r8⟩ := and_e r7
  obtain ⟨c9, r9⟩ := and_e r8
  obtain ⟨c10, r10⟩ := and_e r9
  obtain ⟨c11, r11⟩ := and_e r10
  obtain ⟨c12, r12⟩ := and_e r11
  obtain ⟨c13, r13⟩ := and_e r12
  obtain ⟨c14, r14⟩ := and_e r13
  obtain ⟨w0, ev0⟩ := exa_v c0
  have wE0 : Exa s s.heap w0 "com/example/policy_to_map/policytomap/core/Mechanism" := Exa.start ev0 c0
  have wS0 : Sta s s.heap "com/example/policy_to_map/policytomap/core/Mechanism" "NONE" "Lcom/example/policy_to_map/policytomap/core/Mechanism;" (.ref w0) := Sta.start ev0 (Or.inr ⟨(hw _ (List.mem_of_getElem? (i := 3) rfl)), (hw _ (List.mem_of_getElem? (i := 4) rfl))⟩)
  obtain ⟨w1, ev1⟩ := exa_v c1
  have wE1 : Exa s s.heap w1 "com/example/policy_to_map/policytomap/core/Mechanism" := Exa.start ev1 c1
  have wS1 : Sta s s.heap "com/example/policy_to_map/policytomap/core/Mechanism" "ZOOM_IN" "Lcom/example/policy_to_map/policytomap/core/Mechanism;" (.ref w1) := Sta.start ev1 (Or.inr ⟨(hw _ (List.mem_of_getElem? (i := 3) rfl)), (hw _ (List.mem_of_getElem? (i := 7) rfl))⟩)
  obtain ⟨w2, ev2⟩ := exa_v c2
  have wE2 : Exa s s.heap w2 "com/example/policy_to_map/policytomap/core/Mechanism" := Exa.start ev2 c2
  have wS2 : Sta s s.heap "com/example/policy_to_map/policytomap/core/Mechanism" "PIXELIZE" "Lcom/example/policy_to_map/policytomap/core/Mechanism;" (.ref w2) := Sta.start ev2 (Or.inr ⟨(hw _ (List.mem_of_getElem? (i := 3) rfl)), (hw _ (List.mem_of_getElem? (i := 9) rfl))⟩)
  obtain ⟨w3, ev3⟩ := exa_v c3
  have wE3 : Exa s s.heap w3 "com/example/policy_to_map/policytomap/core/Mechanism" := Exa.start ev3 c3
  have wS3 : Sta s s.heap "com/example/policy_to_map/policytomap/core/Mechanism" "BLUR" "Lcom/example/policy_to_map/policytomap/core/Mechanism;" (.ref w3) := Sta.start ev3 (Or.inr ⟨(hw _ (List.mem_of_getElem? (i := 3) rfl)), (hw _ (List.mem_of_getElem? (i := 11) rfl))⟩)
  obtain ⟨w4, ev4⟩ := exa_v c4
  have wE4 : Exa s s.heap w4 "com/example/policy_to_map/policytomap/core/Mechanism" := Exa.start ev4 c4
  have wS4 : Sta s s.heap "com/example/policy_to_map/policytomap/core/Mechanism" "MASK" "Lcom/example/policy_to_map/policytomap/core/Mechanism;" (.ref w4) := Sta.start ev4 (Or.inr ⟨(hw _ (List.mem_of_getElem? (i := 3) rfl)), (hw _ (List.mem_of_getElem? (i := 13) rfl))⟩)
  obtain ⟨w5, ev5⟩ := exa_v c5
  have wE5 : Exa s s.heap w5 "com/example/policy_to_map/policytomap/core/Mechanism" := Exa.start ev5 c5
  have wS5 : Sta s s.heap "com/example/policy_to_map/policytomap/core/Mechanism" "PASTE" "Lcom/example/policy_to_map/policytomap/core/Mechanism;" (.ref w5) := Sta.start ev5 (Or.inr ⟨(hw _ (List.mem_of_getElem? (i := 3) rfl)), (hw _ (List.mem_of_getElem? (i := 15) rfl))⟩)
  obtain ⟨w6, ev6⟩ := exa_v c6
  have wE6 : Exa s s.heap w6 "com/example/policy_to_map/policytomap/core/Mechanism" := Exa.start ev6 c6
  have wS6 : Sta s s.heap "com/example/policy_to_map/policytomap/core/Mechanism" "HIDE" "Lcom/example/policy_to_map/policytomap/core/Mechanism;" (.ref w6) := Sta.start ev6 (Or.inr ⟨(hw _ (List.mem_of_getElem? (i := 3) rfl)), (hw _ (List.mem_of_getElem? (i := 17) rfl))⟩)
  obtain ⟨w7, ev7⟩ := exa_v c7
  have wE7 : Exa s s.heap w7 "com/example/policy_to_map/policytomap/core/Mechanism" := Exa.start ev7 c7
  have wS7 : Sta s s.heap "com/example/policy_to_map/policytomap/core/Mechanism" "REJECT_QUERY" "Lcom/example/policy_to_map/policytomap/core/Mechanism;" (.ref w7) := Sta.start ev7 (Or.inr ⟨(hw _ (List.mem_of_getElem? (i := 3) rfl)), (hw _ (List.mem_of_getElem? (i := 19) rfl))⟩)
  have wF0_ordinal : Fld s s.heap w0 "java/lang/Enum" "ordinal" "I" (.int (0 : Int32)) := Fld.start ((fld_at ev0).symm.trans (eqv_i (Term.int_eval _) c8))
  have wF2_ordinal : Fld s s.heap w2 "java/lang/Enum" "ordinal" "I" (.int (2 : Int32)) := Fld.start ((fld_at ev2).symm.trans (eqv_i (Term.int_eval _) c9))
  have wF3_ordinal : Fld s s.heap w3 "java/lang/Enum" "ordinal" "I" (.int (3 : Int32)) := Fld.start ((fld_at ev3).symm.trans (eqv_i (Term.int_eval _) c10))
  have wF4_ordinal : Fld s s.heap w4 "java/lang/Enum" "ordinal" "I" (.int (4 : Int32)) := Fld.start ((fld_at ev4).symm.trans (eqv_i (Term.int_eval _) c11))
  have wF6_ordinal : Fld s s.heap w6 "java/lang/Enum" "ordinal" "I" (.int (6 : Int32)) := Fld.start ((fld_at ev6).symm.trans (eqv_i (Term.int_eval _) c12))
  have wF7_ordinal : Fld s s.heap w7 "java/lang/Enum" "ordinal" "I" (.int (7 : Int32)) := Fld.start ((fld_at ev7).symm.trans (eqv_i (Term.int_eval _) c13))
  have wF1_ordinal : Fld s s.heap w1 "java/lang/Enum" "ordinal" "I" (.int (1 : Int32)) := Fld.start ((fld_at ev1).symm.trans (eqv_i (Term.int_eval _) c14))
  have wF5_ordinal : Fld s s.heap w5 "java/lang/Enum" "ordinal" "I" (.int (5 : Int32)) := Fld.start ((fld_at ev5).symm.trans (eqv_i (Term.int_eval _) r14))
  have hWd : Wd s w0 w1 w2 w3 w4 w5 w6 w7 := ⟨wS0, wE0, wS1, wE1, wS2, wE2, wS3, wE3, wS4, wE4, wS5, wE5, wS6, wE6, wS7, wE7, wF0_ordinal, wF2_ordinal, wF3_ordinal, wF4_ordinal, wF6_ordinal, wF7_ordinal, wF1_ordinal, wF5_ordinal, trivial⟩
  obtain ⟨n, o, h1, h2, h3, _, L, rfl, ⟨rfl, N⟩, hq⟩ := rm0 l s _ hw tables_1 w0 w1 w2 w3 w4 w5 w6 w7 i0 s.heap s.heap.size hWd (Old.start s) p e ha hc hk s m _ below hf ((Spec.applies_iff_loose hf).mp happ).1 ⟨rfl, State.Warmed39.refl s, rfl⟩ trivial
  exact ⟨n, _, h1, h2, h3, hpost _ _ _ _ _ _ ⟨Cond.after_iff.mpr rfl, Cond.after_iff.mpr (eq_i res_at (Term.int_eval (1)) rfl), trivial⟩ ⟨hq.1, hq.2.1, (hq.2.2.sift fun y hy => Or.inr (N y hy)).mono (by decide) (by decide)⟩⟩
theorem main_1_1 : Claimed_1_1 := comes_1 fun _ _ _ _ _ _ h hF => ⟨h.1, hF⟩
theorem main_1_2 : Claimed_1_2 := comes_1 fun _ _ _ _ _ _ h hF => ⟨h.2.1, hF⟩
end Jvm.Pilot.@@N@@
namespace Jvm.Pilot.@@N@@
open Jvm Jvm.ClassFile Sem Op Lib Jvm.Free Jvm.Stand Jvm.Pilot.@@N@@.Jvm.D
/-! MADE BY PROGRAM (witnessworld.py) out of the Statement's table words and the real class files: 15 classes; the members and pool entries that the words name. The judged class is class 1, her method 1. -/
namespace start1
open Jvm.ClassFile
def u (s : String) : CpInfo := .utf8 (stringToUtf16 s)
/-- a pool by its gaps: so many unusable entries, then the entry; so many at the end -/
def gap : Nat → List CpInfo → List CpInfo
  | 0, r => r
  | n + 1, r => .unusable :: gap n r
def poolList (es : List (Nat × CpInfo)) (last : Nat) : List CpInfo := es.foldr (fun e r => gap e.1 (e.2 :: r)) (gap last [])
def pool (es : List (Nat × CpInfo)) (last : Nat) : Array CpInfo := ⟨poolList es last⟩
def fileOf (pool : Array CpInfo) (this : Nat) (attrs : Array Attribute := #[]) (ms : Array MethodInfo := #[]) (fl : Nat := 33) (sup : Nat := 0) (ifs : Array Nat := #[]) (fds : Array FieldInfo := #[]) : ClassFile where
  minorVersion := 0
  majorVersion := 65
  constantPool := pool
  accessFlags := fl
  thisClass := this
  superClass := sup
  interfaces := ifs
  fields := fds
  methods := ms
  attributes := attrs
def plain (name : String) (sup : Option ClassId) : Class where
  name := name
  kind := .ordinary
  loader := none
  accessFlags := 33
  super := sup
  interfaces := #[]
  cf := none
  fields := #[]
  methods := #[]
  instanceTypes := #[]
  staticTypes := #[]
  resolved := #[]
  callSites := []
  init := .initialized
  statics := none
  mirror := none

def pool0 : Array CpInfo := pool [(5, u "<init>"), (0, u "()V"), (1, .class_ 10), (1, u "java/lang/Object")] 113

def k0m0 : Method := { name := "<init>", desc := "()V", sig := { parameters := [], returnType := none }, accessFlags := 1, code := none }
/-- java/lang/Object -/
def k0 : Class := { plain "java/lang/Object" none with
  accessFlags := 33
  interfaces := #[]
  cf := some (fileOf pool0 8 #[] #[{ accessFlags := 1, nameIndex := 5, descriptorIndex := 6, attributes := #[] }] 33 0 #[] #[])
  fields := #[]
  methods := #[k0m0]
  instanceTypes := #[]
  staticTypes := #[]
  resolved := Array.replicate 124 none
  statics := none }

def pool1 : Array CpInfo := pool [(2, .class_ 4), (1, u "java/lang/Object"), (0, u "<init>"), (0, u "()V"), (0, .class_ 8), (0, u "com/example/policy_to_map/policytomap/core/Mechanism"), (0, .fieldref 7 10), (0, .nameAndType 11 12), (0, u "NONE"), (0, u "Lcom/example/policy_to_map/policytomap/core/Mechanism;"), (0, .fieldref 7 14), (0, .nameAndType 15 12), (0, u "ZOOM_IN"), (0, .fieldref 7 17), (0, .nameAndType 18 12), (0, u "PIXELIZE"), (0, .fieldref 7 20), (0, .nameAndType 21 12), (0, u "BLUR"), (0, .fieldref 7 23), (0, .nameAndType 24 12), (0, u "MASK"), (0, .fieldref 7 26), (0, .nameAndType 27 12), (0, u "PASTE"), (0, .fieldref 7 29), (0, .nameAndType 30 12), (0, u "HIDE"), (0, .fieldref 7 32), (0, .nameAndType 33 12), (0, u "REJECT_QUERY"), (0, .integer 2147483647), (0, .methodref 7 36), (0, .nameAndType 37 38), (0, u "isObscuring"), (0, u "()Z"), (0, .class_ 40), (0, u "com/example/policy_to_map/policytomap/core/MechanismIsObscuringPinLaw"), (2, u "law"), (0, u "(I)Z")] 7

def k1m0 : Method := { name := "<init>", desc := "()V", sig := { parameters := [], returnType := none }, accessFlags := 1, code := none }
def k1c1 : Code := { maxStack := 4, maxLocals := 4, code := code, exceptionTable := #[], attributes := #[] }
def k1m1 : Method := { name := "law", desc := "(I)Z", sig := { parameters := [.int], returnType := some .boolean }, accessFlags := 9, code := some k1c1 }
/-- com/example/policy_to_map/policytomap/core/MechanismIsObscuringPinLaw -/
def k1 : Class := { plain "com/example/policy_to_map/policytomap/core/MechanismIsObscuringPinLaw" (some 0) with
  accessFlags := 49
  interfaces := #[]
  cf := some (fileOf pool1 39 #[] #[{ accessFlags := 1, nameIndex := 5, descriptorIndex := 6, attributes := #[] }, { accessFlags := 9, nameIndex := 43, descriptorIndex := 44, attributes := #[] }] 49 2 #[] #[])
  fields := #[]
  methods := #[k1m0, k1m1]
  instanceTypes := #[]
  staticTypes := #[]
  resolved := Array.replicate 52 none
  statics := none }

def pool2 : Array CpInfo := pool [(1, .class_ 2), (0, u "java/lang/constant/Constable"), (0, .class_ 4), (0, u "java/lang/Object")] 6

/-- java/lang/constant/Constable -/
def k2 : Class := { plain "java/lang/constant/Constable" (some 0) with
  accessFlags := 1537
  interfaces := #[]
  cf := some (fileOf pool2 1 #[] #[] 1537 3 #[] #[])
  fields := #[]
  methods := #[]
  instanceTypes := #[]
  staticTypes := #[]
  resolved := Array.replicate 11 none
  statics := none }

def pool3 : Array CpInfo := pool [(1, .class_ 2), (0, u "java/lang/Comparable"), (0, .class_ 4), (0, u "java/lang/Object")] 7

/-- java/lang/Comparable -/
def k3 : Class := { plain "java/lang/Comparable" (some 0) with
  accessFlags := 1537
  interfaces := #[]
  cf := some (fileOf pool3 1 #[] #[] 1537 3 #[] #[])
  fields := #[]
  methods := #[]
  instanceTypes := #[]
  staticTypes := #[]
  resolved := Array.replicate 12 none
  statics := none }

def pool4 : Array CpInfo := pool [(1, .class_ 2), (0, u "java/io/Serializable"), (0, .class_ 4), (0, u "java/lang/Object")] 2

/-- java/io/Serializable -/
def k4 : Class := { plain "java/io/Serializable" (some 0) with
  accessFlags := 1537
  interfaces := #[]
  cf := some (fileOf pool4 1 #[] #[] 1537 3 #[] #[])
  fields := #[]
  methods := #[]
  instanceTypes := #[]
  staticTypes := #[]
  resolved := Array.replicate 7 none
  statics := none }

def pool5 : Array CpInfo := pool [(2, .class_ 4), (1, u "java/lang/Enum"), (0, u "name"), (0, u "Ljava/lang/String;"), (2, u "ordinal"), (0, u "I"), (1, .class_ 14), (1, u "java/lang/Object"), (4, u "hash"), (86, .class_ 108), (1, u "java/lang/Enum$EnumDesc"), (2, .class_ 112), (0, u "java/lang/constant/Constable"), (0, .class_ 114), (0, u "java/lang/Comparable"), (0, .class_ 116), (0, u "java/io/Serializable")] 87

/-- java/lang/Enum -/
def k5 : Class := { plain "java/lang/Enum" (some 0) with
  accessFlags := 1057
  interfaces := #[2, 3, 4]
  cf := some (fileOf pool5 2 #[.nestMembers #[106]] #[] 1057 12 #[111, 113, 115] #[{ accessFlags := 18, nameIndex := 5, descriptorIndex := 6, attributes := #[] }, { accessFlags := 18, nameIndex := 9, descriptorIndex := 10, attributes := #[] }, { accessFlags := 2, nameIndex := 19, descriptorIndex := 10, attributes := #[] }])
  fields := #[{ name := "name", type := (.object "java/lang/String"), accessFlags := 18, slot := 0, constantValue := 0 }, { name := "ordinal", type := .int, accessFlags := 18, slot := 1, constantValue := 0 }, { name := "hash", type := .int, accessFlags := 2, slot := 2, constantValue := 0 }]
  methods := #[]
  instanceTypes := #[(.object "java/lang/String"), .int, .int]
  staticTypes := #[]
  resolved := Array.replicate 204 none
  statics := none }

def pool6 : Array CpInfo := pool [(1, .class_ 2), (0, u "com/example/policy_to_map/policytomap/core/Mechanism"), (2, u "NONE"), (0, u "Lcom/example/policy_to_map/policytomap/core/Mechanism;"), (2, u "ZOOM_IN"), (0, .fieldref 1 11), (0, .nameAndType 12 6), (0, u "PIXELIZE"), (0, .fieldref 1 14), (0, .nameAndType 15 6), (0, u "BLUR"), (0, .fieldref 1 17), (0, .nameAndType 18 6), (0, u "MASK"), (2, u "PASTE"), (2, u "HIDE"), (2, u "REJECT_QUERY"), (2, u "$VALUES"), (0, u "[Lcom/example/policy_to_map/policytomap/core/Mechanism;"), (6, .class_ 40), (1, u "java/lang/Enum"), (74, u "isObscuring"), (0, u "()Z")] 27

def k6c0 : Code := { maxStack := 2, maxLocals := 1, code := prog_9_method_5_code, exceptionTable := #[], attributes := #[] }
def k6m0 : Method := { name := "isObscuring", desc := "()Z", sig := { parameters := [], returnType := some .boolean }, accessFlags := 1, code := some k6c0 }
/-- com/example/policy_to_map/policytomap/core/Mechanism -/
def k6 : Class := { plain "com/example/policy_to_map/policytomap/core/Mechanism" (some 5) with
  accessFlags := 16433
  interfaces := #[]
  cf := some (fileOf pool6 1 #[] #[{ accessFlags := 1, nameIndex := 115, descriptorIndex := 116, attributes := #[] }] 16433 38 #[] #[{ accessFlags := 16409, nameIndex := 5, descriptorIndex := 6, attributes := #[] }, { accessFlags := 16409, nameIndex := 9, descriptorIndex := 6, attributes := #[] }, { accessFlags := 16409, nameIndex := 12, descriptorIndex := 6, attributes := #[] }, { accessFlags := 16409, nameIndex := 15, descriptorIndex := 6, attributes := #[] }, { accessFlags := 16409, nameIndex := 18, descriptorIndex := 6, attributes := #[] }, { accessFlags := 16409, nameIndex := 21, descriptorIndex := 6, attributes := #[] }, { accessFlags := 16409, nameIndex := 24, descriptorIndex := 6, attributes := #[] }, { accessFlags := 16409, nameIndex := 27, descriptorIndex := 6, attributes := #[] }, { accessFlags := 4122, nameIndex := 30, descriptorIndex := 31, attributes := #[] }])
  fields := #[{ name := "NONE", type := (.object "com/example/policy_to_map/policytomap/core/Mechanism"), accessFlags := 16409, slot := 0, constantValue := 0 }, { name := "ZOOM_IN", type := (.object "com/example/policy_to_map/policytomap/core/Mechanism"), accessFlags := 16409, slot := 1, constantValue := 0 }, { name := "PIXELIZE", type := (.object "com/example/policy_to_map/policytomap/core/Mechanism"), accessFlags := 16409, slot := 2, constantValue := 0 }, { name := "BLUR", type := (.object "com/example/policy_to_map/policytomap/core/Mechanism"), accessFlags := 16409, slot := 3, constantValue := 0 }, { name := "MASK", type := (.object "com/example/policy_to_map/policytomap/core/Mechanism"), accessFlags := 16409, slot := 4, constantValue := 0 }, { name := "PASTE", type := (.object "com/example/policy_to_map/policytomap/core/Mechanism"), accessFlags := 16409, slot := 5, constantValue := 0 }, { name := "HIDE", type := (.object "com/example/policy_to_map/policytomap/core/Mechanism"), accessFlags := 16409, slot := 6, constantValue := 0 }, { name := "REJECT_QUERY", type := (.object "com/example/policy_to_map/policytomap/core/Mechanism"), accessFlags := 16409, slot := 7, constantValue := 0 }, { name := "$VALUES", type := (.array (.object "com/example/policy_to_map/policytomap/core/Mechanism")), accessFlags := 4122, slot := 8, constantValue := 0 }]
  methods := #[k6m0]
  instanceTypes := #[(.object "java/lang/String"), .int, .int]
  staticTypes := #[(.object "com/example/policy_to_map/policytomap/core/Mechanism"), (.object "com/example/policy_to_map/policytomap/core/Mechanism"), (.object "com/example/policy_to_map/policytomap/core/Mechanism"), (.object "com/example/policy_to_map/policytomap/core/Mechanism"), (.object "com/example/policy_to_map/policytomap/core/Mechanism"), (.object "com/example/policy_to_map/policytomap/core/Mechanism"), (.object "com/example/policy_to_map/policytomap/core/Mechanism"), (.object "com/example/policy_to_map/policytomap/core/Mechanism"), (.array (.object "com/example/policy_to_map/policytomap/core/Mechanism"))]
  resolved := Array.replicate 144 none
  statics := some 0 }

def pool7 : Array CpInfo := pool [(1, u "java/lang/Cloneable"), (0, .class_ 1), (0, u "java/lang/Object"), (0, .class_ 3)] 3

/-- java/lang/Cloneable -/
def k7 : Class := { plain "java/lang/Cloneable" (some 0) with
  accessFlags := 1537
  interfaces := #[]
  cf := some (fileOf pool7 2 #[] #[] 1537 4 #[] #[])
  fields := #[]
  methods := #[]
  instanceTypes := #[]
  staticTypes := #[]
  resolved := Array.replicate 8 none
  statics := none }

/-- the primitive boolean -/
def k8 : Class := { plain "boolean" none with kind := .primitive 'Z', accessFlags := 0x411 }
/-- [Z -/
def k9 : Class := { plain "[Z" (some 0) with kind := .array 8 .boolean, interfaces := #[7, 4], accessFlags := 1041 }

/-- the primitive byte -/
def k10 : Class := { plain "byte" none with kind := .primitive 'B', accessFlags := 0x411 }
/-- [B -/
def k11 : Class := { plain "[B" (some 0) with kind := .array 10 .byte, interfaces := #[7, 4], accessFlags := 1041 }

/-- the primitive int -/
def k12 : Class := { plain "int" none with kind := .primitive 'I', accessFlags := 0x411 }
/-- [I -/
def k13 : Class := { plain "[I" (some 0) with kind := .array 12 .int, interfaces := #[7, 4], accessFlags := 1041 }

/-- [Lcom/example/policy_to_map/policytomap/core/Mechanism; -/
def k14 : Class := { plain "[Lcom/example/policy_to_map/policytomap/core/Mechanism;" (some 0) with kind := .array 6 (.object "com/example/policy_to_map/policytomap/core/Mechanism"), interfaces := #[7, 4], accessFlags := 1041 }

def heap : Heap := #[{ cls := 6, slots := #[.ref 1, .ref 2, .ref 3, .ref 4, .ref 5, .ref 6, .ref 7, .ref 8, .null], vm := .statics 6 },
  { cls := 6, slots := #[.null, .int 0, .int 0], vm := .none },
  { cls := 6, slots := #[.null, .int 1, .int 0], vm := .none },
  { cls := 6, slots := #[.null, .int 2, .int 0], vm := .none },
  { cls := 6, slots := #[.null, .int 3, .int 0], vm := .none },
  { cls := 6, slots := #[.null, .int 4, .int 0], vm := .none },
  { cls := 6, slots := #[.null, .int 5, .int 0], vm := .none },
  { cls := 6, slots := #[.null, .int 6, .int 0], vm := .none },
  { cls := 6, slots := #[.null, .int 7, .int 0], vm := .none }]
def classes : Array Class := #[k0, k1, k2, k3, k4, k5, k6, k7, k8, k9, k10, k11, k12, k13, k14]
def interned : List (Array UInt16 × Addr) := []
def slotsUsed : Nat := 33
def theMethod : MethodId := ⟨1, 1⟩
def args0 : Array Value := #[.int 5]
def aboutOver (below : List Frame) : State where
  vm := { classes := classes, interned := interned.toArray }
  heap := heap
  slotsUsed := slotsUsed
  threads := #[{ frames := .invoking theMethod args0 :: below }]
def below0 : List Frame := [.native { method := ⟨0, 0⟩, args := #[] }]
def about1 : State := aboutOver below0
def p0 : Program := .bare "" "" ""
def e0 : Env := launch0.env 0 0 0
theorem w_frames : about1.frames = Frame.invoking theMethod args0 :: below0 := rfl
set_option maxRecDepth 65536 in
theorem w_args : argsFit about1.vm theMethod args0 = true := by decide +kernel
set_option maxRecDepth 65536 in
theorem w_heap : heapFits about1 = true := by decide +kernel
set_option maxRecDepth 65536 in
theorem w_runnable : about1.curStatus? = some .runnable := by decide +kernel
set_option maxRecDepth 65536 in
theorem w_alone : about1.alone = true := by decide +kernel
set_option maxRecDepth 65536 in
theorem w_named : about1.methodNamed? x = some theMethod := by decide +kernel
set_option maxRecDepth 65536 in
theorem w_hears : about1.hears theMethod below0 = true := by decide +kernel
set_option maxRecDepth 65536 in
theorem w_ripe : about1.ripe theMethod args0 below0 = true := by decide +kernel
theorem w_running : about1.status = .running := rfl
set_option maxRecDepth 65536 in
theorem w_room : about1.hasRoom e0.platform room_1 = true :=
  launch0.hasRoom_least _ room_1 (by decide +kernel) (by decide +kernel) (by decide +kernel) (by decide +kernel) (by decide +kernel) (by decide +kernel)
theorem allAtoms_all (ts : List Jvm.Cond) (a : Array Jvm.Value) (st : Jvm.State) : (allAtoms ts).before a st = ts.all (fun c => c.before a st) := by
  induction ts with
  | nil => rfl
  | cons c t ih =>
    show (Jvm.Cond.and c (allAtoms t)).before a st = _
    rw [Jvm.Cond.before_and, ih, List.all_cons]
def words1 : List Jvm.Cond := Jvm.Cond.code x code maxLocals ret :: tables_1
/-- a 'code' word, met by the world's own term for the bytes: nothing is compared byte by byte -/
theorem code_word {y : MethodName} {bytes : ByteArray} {mx : Nat} {rt : Option FieldType} {a : Array Value} {s : State} {m : MethodId} {meth : Method} {c : Code} (h1 : s.methodNamed? y = some m) (h2 : s.vm.method? m = some meth) (h3 : meth.code = some c) (h4 : c.code = bytes)
    (h5 : (c.maxLocals == mx && c.exceptionTable.isEmpty && decide (c.maxStack ≤ mostOperands) && decide (meth.sig.returnType = rt) && !meth.locks && decide (parseMethodDescriptor y.desc = some meth.sig)) = true) : (Jvm.Cond.code y bytes mx rt).before a s = true := by
  simp only [Bool.and_eq_true, beq_iff_eq, Bool.not_eq_true', decide_eq_true_eq] at h5
  obtain ⟨⟨⟨⟨⟨g1, g2⟩, g3⟩, g4⟩, g5⟩, g6⟩ := h5
  simp [Cond.before, Cond.holds, Cond.value, h1, h2, h3, h4, g1, g2, g3, g4, g5, g6]
def isCode : Jvm.Cond → Bool
  | .code _ _ _ _ => true
  | _ => false
theorem all_split {L : List Jvm.Cond} {P : Jvm.Cond → Bool} (h1 : L.all (fun c => isCode c || P c) = true) (h2 : ∀ c ∈ L.filter isCode, P c = true) : L.all P = true := by
  refine List.all_eq_true.mpr fun c hc => ?_
  have h := List.all_eq_true.mp h1 c hc
  rcases Bool.eq_false_or_eq_true (isCode c) with hi | hi
  · exact h2 c (List.mem_filter.mpr ⟨hc, hi⟩)
  · simpa [hi] using h
set_option maxRecDepth 65536 in
theorem w_c0 : (Jvm.Cond.code x code maxLocals ret).before args0 about1 = true := code_word (m := ⟨1, 1⟩) (meth := k1m1) (c := k1c1) (by decide +kernel) rfl rfl rfl (by decide +kernel)
set_option maxRecDepth 65536 in
theorem w_c1 : (Jvm.Cond.code ({ cls := "com/example/policy_to_map/policytomap/core/Mechanism", name := "isObscuring", desc := "()Z" } : Jvm.MethodName) prog_9_method_5_code (1 : Nat) (Option.some Jvm.ClassFile.FieldType.boolean)).before args0 about1 = true := code_word (m := ⟨6, 0⟩) (meth := k6m0) (c := k6c0) (by decide +kernel) rfl rfl rfl (by decide +kernel)
def codes1 : List Jvm.Cond := [Jvm.Cond.code x code maxLocals ret, Jvm.Cond.code ({ cls := "com/example/policy_to_map/policytomap/core/Mechanism", name := "isObscuring", desc := "()Z" } : Jvm.MethodName) prog_9_method_5_code (1 : Nat) (Option.some Jvm.ClassFile.FieldType.boolean)]
set_option maxRecDepth 65536 in
theorem codes_eq : words1.filter isCode = codes1 := rfl
theorem w_codes : ∀ c ∈ words1.filter isCode, c.before args0 about1 = true := by
  rw [codes_eq]
  intro c hc
  simp only [codes1, List.mem_cons, List.not_mem_nil, or_false] at hc
  rcases hc with rfl | rfl
  · exact w_c0
  · exact w_c1
set_option maxRecDepth 65536 in
theorem w_t1 : (words1.take 24).all (fun c => isCode c || c.before args0 about1) = true := by decide +kernel
set_option maxRecDepth 65536 in
theorem w_t2 : (words1.drop 24).all (fun c => isCode c || c.before args0 about1) = true := by decide +kernel
theorem w_tables : (allAtoms (Jvm.Cond.code x code maxLocals ret :: tables_1)).before args0 about1 = true := by
  rw [allAtoms_all]
  show words1.all (fun c => c.before args0 about1) = true
  refine all_split ?_ w_codes
  rw [← List.take_append_drop 24 words1, List.all_append, w_t1, w_t2]
  rfl
set_option maxRecDepth 65536 in
theorem w_case : (Jvm.Cond.and given_1 narrow_1).before args0 about1 = true := by decide +kernel
theorem w_applies : (headSpec (Jvm.Cond.code x code maxLocals ret :: tables_1) room_1).applies x e0.platform about1 = true :=
  (Spec.applies_iff w_frames).mpr ⟨w_running, w_runnable, w_alone, w_named, w_hears, w_ripe, w_room, w_tables⟩
theorem atStart : AtStart classFile x code maxLocals ret World_1 tables_1 room_1 Calls_1 rest_1 Pre_1 launch0 p0 e0 about1 theMethod args0 below0 :=
  ⟨lists_1, trivial, launch0.admits_env _ _ _, launch0.least_env, fairChoices_fair.cas, fairChoices_fair.clock, w_frames, w_args, w_heap, w_applies, trivial, trivial, w_case⟩
end start1
theorem witness_1 : WitnessClaimed_1 := ⟨start1.p0, start1.e0, start1.about1, start1.theMethod, start1.args0, start1.below0, start1.atStart⟩
end Jvm.Pilot.@@N@@
