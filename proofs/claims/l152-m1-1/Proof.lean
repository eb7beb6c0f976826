import JvmDerived
import JvmDerived.Pilot.@@N@@Statement
import JvmDerived.Pilot.@@N@@Code
set_option linter.unusedVariables false
set_option linter.unusedSimpArgs false
namespace Jvm.Pilot.@@N@@
open Jvm Jvm.ClassFile Sem Op Lib Jvm.Free Jvm.Stand Jvm.LawKit Jvm.RoadKit Bundle Jvm.Pilot.@@N@@.Jvm.D
theorem own_ofNat {y : Int32} {n : Nat} (h : y.toBitVec.toNat = n) : y = Int32.ofNat n := by
  subst h
  apply Int32.toBitVec_inj.mp
  apply BitVec.eq_of_toNat_eq
  simp
theorem own_and_le (x m : Int32) : (x &&& m).toBitVec.toNat ≤ m.toBitVec.toNat := by
  rw [Int32.toBitVec_and, BitVec.toNat_and]; exact Nat.and_le_right
theorem own_nonneg (x : Int32) : 0 ≤ (x &&& (2147483647 : Int32)).toInt := by
  have h := own_and_le x 2147483647
  have e : (2147483647 : Int32).toBitVec.toNat = 2147483647 := by decide
  rw [e] at h
  have : (x &&& (2147483647 : Int32)).toInt = (x &&& (2147483647 : Int32)).toBitVec.toInt := rfl
  rw [this, BitVec.toInt_eq_toNat_cond, if_pos (by omega)]
  omega
theorem own_rem_3 (x : Int32) : ((x &&& (2147483647 : Int32)) % (3 : Int32)) = (0 : Int32) ∨ ((x &&& (2147483647 : Int32)) % (3 : Int32)) = (1 : Int32) ∨ ((x &&& (2147483647 : Int32)) % (3 : Int32)) = (2 : Int32) := by
  have h := own_nonneg x
  generalize x &&& (2147483647 : Int32) = y at h ⊢
  have e : (y % (3 : Int32)).toInt = y.toInt.tmod 3 := by rw [Int32.toInt_mod]; rfl
  have e1 : y.toInt.tmod 3 = y.toInt % 3 := Int.tmod_eq_emod_of_nonneg h
  have q : (y % (3 : Int32)).toInt = 0 ∨ (y % (3 : Int32)).toInt = 1 ∨ (y % (3 : Int32)).toInt = 2 := by omega
  rcases q with q | q | q
  · exact Or.inl (Int32.toInt_inj.mp (q.trans (by decide)))
  · exact Or.inr (Or.inl (Int32.toInt_inj.mp (q.trans (by decide))))
  · exact Or.inr (Or.inr (Int32.toInt_inj.mp (q.trans (by decide))))
def Wd (Z : State) (w0 w1 w2 : Addr) : Prop := Sta Z Z.heap "com/example/policy_to_map/policytomap/core/Truth" "TRUE" "Lcom/example/policy_to_map/policytomap/core/Truth;" (.ref w0) ∧ Exa Z Z.heap w0 "com/example/policy_to_map/policytomap/core/Truth" ∧ Sta Z Z.heap "com/example/policy_to_map/policytomap/core/Truth" "FALSE" "Lcom/example/policy_to_map/policytomap/core/Truth;" (.ref w1) ∧ Exa Z Z.heap w1 "com/example/policy_to_map/policytomap/core/Truth" ∧ Sta Z Z.heap "com/example/policy_to_map/policytomap/core/Truth" "INDETERMINATE" "Lcom/example/policy_to_map/policytomap/core/Truth;" (.ref w2) ∧ Exa Z Z.heap w2 "com/example/policy_to_map/policytomap/core/Truth" ∧ Fld Z Z.heap w1 "java/lang/Enum" "ordinal" "I" (.int (1 : Int32)) ∧ Fld Z Z.heap w0 "java/lang/Enum" "ordinal" "I" (.int (0 : Int32)) ∧ Fld Z Z.heap w2 "java/lang/Enum" "ordinal" "I" (.int (2 : Int32)) ∧ True
def Qp (r : Option Value) (h0 : Heap) (n0 : Nat) (v : Option Value) (h : Heap) (L : List Loc) : Prop := v = r ∧ Fr n0 L ∧ h = h0
def Ql (n0 : Nat) (v : Option Value) (h : Heap) (L : List Loc) : Prop := v = some (.int (1 : Int32)) ∧ Fr n0 L
theorem d_prog_12_method_7_code_0 : decode prog_12_method_7_code 0 = .ok (.aload_n 0, 1) := by decide +kernel
theorem d_prog_12_method_7_code_1 : decode prog_12_method_7_code 1 = .ok (.getstatic 3, 3) := by decide +kernel
theorem d_prog_12_method_7_code_4 : decode prog_12_method_7_code 4 = .ok (.if_acmp .ne 9, 3) := by decide +kernel
theorem d_prog_12_method_7_code_7 : decode prog_12_method_7_code 7 = .ok (.getstatic 7, 3) := by decide +kernel
theorem d_prog_12_method_7_code_10 : decode prog_12_method_7_code 10 = .ok (.goto 19, 3) := by decide +kernel
theorem d_prog_12_method_7_code_29 : decode prog_12_method_7_code 29 = .ok (.areturn, 1) := by decide +kernel
theorem pn0 : plainName "com/example/policy_to_map/policytomap/core/Truth" = true := by first | (simp [plainName, overriddenIn]; done) | decide +kernel
theorem ef0 (m : MethodId)   (w0 : Addr) : entryFrame m #[(.ref w0)] 1 = mkF m 0 #[.val (.ref w0)] [] := by first | (simp [entryFrame, mkF, argsToLocals, Value.category]; done) | rfl
set_option maxRecDepth 65536 in
set_option maxHeartbeats 40000000 in
theorem rm1 (l : Launch) (Z : State) (a0 : Array Value) (hw : ∀ d ∈ tables_1, d.before a0 Z = true) (ws : List Jvm.Cond) (w0 w1 w2 : Addr) (h0 : Heap) (n0 : Nat) (hWd : Wd Z w0 w1 w2) (O0 : Old Z n0 h0) :
    MetFree l (⟨"com/example/policy_to_map/policytomap/core/Truth", "not", "()Lcom/example/policy_to_map/policytomap/core/Truth;"⟩ : MethodName) (head1 (Jvm.Cond.code (⟨"com/example/policy_to_map/policytomap/core/Truth", "not", "()Lcom/example/policy_to_map/policytomap/core/Truth;"⟩ : MethodName) prog_12_method_7_code 1 (some (.object "com/example/policy_to_map/policytomap/core/Truth")) :: ws) ({ frames := 0, cells := 0, slots := 0, locals := 0 } : Room)) (fun a U => a = #[(.ref w0)] ∧ Z.Warmed39 U.vm ∧ U.heap = h0) (fun _ _ _ _ _ => True) (fun _ U o U' => ∃ v L, o = .returned v ∧ Qp (some (.ref w1)) h0 n0 v U'.heap L ∧ FrameEnd U o U' L ({ frames := 0, cells := 0, slots := 0, locals := 0 } : Room).cells ({ frames := 0, cells := 0, slots := 0, locals := 0 } : Room).slots) := by
  refine MetFree.of_bodySF (plainFor_of_name pn0) hisR ?_
  intro p e s m args below meth c s₁ Bd hml0 hP hK
  obtain ⟨rfl, hZ, hh⟩ := hP
  have hx := Bd.exec
  have hby := Bd.bytes
  have hml : c.maxLocals = 1 := hml0
  have hown : s.vm.findClass "com/example/policy_to_map/policytomap/core/Truth" = some m.cls := findClass_of_methodNamed Bd.named
  have hnm := (name_of_methodNamed Bd.named Bd.method).1
  have X0 : Stand p l e ({ frames := 0, cells := 0, slots := 0, locals := 0 } : Room) s m #[(.ref w0)] below meth c s₁ [] 0 0 := Stand.of_body Bd
  have e0 : s₁.heap = h0 := by rw [← hh, Bd.state]; rfl
  have N0 := Fr.nil n0
  obtain ⟨wS0, wE0, wS1, wE1, wS2, wE2, wF1_ordinal, wF0_ordinal, wF2_ordinal, -⟩ := id hWd
  have pre0 : ∀ t, Steps p.tables e below (s₁.setTop (mkF m 0 #[.val (.ref w0)] [])) t → Steps p.tables e below (s₁.setTop (entryFrame m #[(.ref w0)] 1)) t := fun t k => castTop (ef0 m w0) k
  obtain ⟨T6, X6, e6, st6⟩ := getS2 X0 hx hZ hown (host := "") (Or.inl (hw _ (List.mem_of_getElem? (i := 9) rfl))) Via.refl e0 (wS0.ext O0.2) (g := (mkF m 1 #[.val (.ref w0)] [(.ref w0)])) rfl (hb hby d_prog_12_method_7_code_1)
  obtain ⟨T7, X7, e7, st7⟩ := getS2 X6 hx hZ hown (host := "") (Or.inl (hw _ (List.mem_of_getElem? (i := 10) rfl))) Via.refl e6 (wS1.ext O0.2) (g := (mkF m 7 #[.val (.ref w0)] [])) rfl (hb hby d_prog_12_method_7_code_7)
  obtain ⟨fs, hr, hrun, hended, hWr, hsame⟩ := X7.leave (v := some (.ref w1)) (fun h => by rw [Bd.returns] at h; cases h)
  refine ⟨_, _, pre0 _ ?_, hrun, hended, _, _, rfl, ?_, ⟨_, rfl⟩, hWr, hsame.mono (Nat.le_of_ble_eq_true rfl) (Nat.le_of_ble_eq_true rfl)⟩
  · show Steps p.tables e below (s₁.setTop (mkF m 0 #[.val (.ref w0)] [])) _
    refine XS.aloadN X0.here hx rfl (hb hby d_prog_12_method_7_code_0) rfl rfl ?_
    show Steps p.tables e below (s₁.setTop (mkF m 1 #[.val (.ref w0)] [(.ref w0)])) _
    refine st6 _ ?_
    show Steps p.tables e below (T6.setTop (mkF m 4 #[.val (.ref w0)] [(.ref w0), (.ref w0)])) _
    refine Jvm.RoadKit.acmp (g := (mkF m 4 #[.val (.ref w0)] [(.ref w0), (.ref w0)])) X6 hx rfl rfl rfl (pc0 := 4) (pc' := 7) (same := true) rfl (hb hby d_prog_12_method_7_code_4) rfl (decide_eq_true rfl) (by decide) (by decide) ?_
    show Steps p.tables e below (T6.setTop (mkF m 7 #[.val (.ref w0)] [])) _
    refine st7 _ ?_
    show Steps p.tables e below (T7.setTop (mkF m 10 #[.val (.ref w0)] [(.ref w1)])) _
    refine XS.goto X7.here hx rfl (pc0 := 10) (pc' := 29) rfl (hb hby d_prog_12_method_7_code_10) (by decide) (by decide) ?_
    show Steps p.tables e below (T7.setTop (mkF m 29 #[.val (.ref w0)] [(.ref w1)])) _
    exact retOut X7 hx (t := (.object "com/example/policy_to_map/policytomap/core/Truth")) (i := .areturn) Bd.returns rfl (Or.inr (Or.inr (Or.inr (Or.inr ⟨rfl, rfl, rfl⟩)))) (hb hby d_prog_12_method_7_code_29) hr
  · show Qp (some (.ref w1)) h0 n0 _ T7.heap _
    rw [e7]
    exact ⟨rfl, N0, rfl⟩
theorem pd0 : parseMethodDescriptor "()Lcom/example/policy_to_map/policytomap/core/Truth;" = some ⟨[], some (.object "com/example/policy_to_map/policytomap/core/Truth")⟩ := by decide +kernel
theorem d_prog_12_method_7_code_13 : decode prog_12_method_7_code 13 = .ok (.aload_n 0, 1) := by decide +kernel
theorem d_prog_12_method_7_code_14 : decode prog_12_method_7_code 14 = .ok (.getstatic 7, 3) := by decide +kernel
theorem d_prog_12_method_7_code_17 : decode prog_12_method_7_code 17 = .ok (.if_acmp .ne 9, 3) := by decide +kernel
theorem d_prog_12_method_7_code_20 : decode prog_12_method_7_code 20 = .ok (.getstatic 3, 3) := by decide +kernel
theorem d_prog_12_method_7_code_23 : decode prog_12_method_7_code 23 = .ok (.goto 6, 3) := by decide +kernel
theorem ef1 (m : MethodId)   (w1 : Addr) : entryFrame m #[(.ref w1)] 1 = mkF m 0 #[.val (.ref w1)] [] := by first | (simp [entryFrame, mkF, argsToLocals, Value.category]; done) | rfl
set_option maxRecDepth 65536 in
set_option maxHeartbeats 40000000 in
theorem rm2 (l : Launch) (Z : State) (a0 : Array Value) (hw : ∀ d ∈ tables_1, d.before a0 Z = true) (ws : List Jvm.Cond) (w0 w1 w2 : Addr) (h0 : Heap) (n0 : Nat) (hWd : Wd Z w0 w1 w2) (O0 : Old Z n0 h0) :
    MetFree l (⟨"com/example/policy_to_map/policytomap/core/Truth", "not", "()Lcom/example/policy_to_map/policytomap/core/Truth;"⟩ : MethodName) (head1 (Jvm.Cond.code (⟨"com/example/policy_to_map/policytomap/core/Truth", "not", "()Lcom/example/policy_to_map/policytomap/core/Truth;"⟩ : MethodName) prog_12_method_7_code 1 (some (.object "com/example/policy_to_map/policytomap/core/Truth")) :: ws) ({ frames := 0, cells := 0, slots := 0, locals := 0 } : Room)) (fun a U => a = #[(.ref w1)] ∧ Z.Warmed39 U.vm ∧ U.heap = h0) (fun _ _ _ _ _ => True) (fun _ U o U' => ∃ v L, o = .returned v ∧ Qp (some (.ref w0)) h0 n0 v U'.heap L ∧ FrameEnd U o U' L ({ frames := 0, cells := 0, slots := 0, locals := 0 } : Room).cells ({ frames := 0, cells := 0, slots := 0, locals := 0 } : Room).slots) := by
  refine MetFree.of_bodySF (plainFor_of_name pn0) hisR ?_
  intro p e s m args below meth c s₁ Bd hml0 hP hK
  obtain ⟨rfl, hZ, hh⟩ := hP
  have hx := Bd.exec
  have hby := Bd.bytes
  have hml : c.maxLocals = 1 := hml0
  have hown : s.vm.findClass "com/example/policy_to_map/policytomap/core/Truth" = some m.cls := findClass_of_methodNamed Bd.named
  have hnm := (name_of_methodNamed Bd.named Bd.method).1
  have X0 : Stand p l e ({ frames := 0, cells := 0, slots := 0, locals := 0 } : Room) s m #[(.ref w1)] below meth c s₁ [] 0 0 := Stand.of_body Bd
  have e0 : s₁.heap = h0 := by rw [← hh, Bd.state]; rfl
  have N0 := Fr.nil n0
  obtain ⟨wS0, wE0, wS1, wE1, wS2, wE2, wF1_ordinal, wF0_ordinal, wF2_ordinal, -⟩ := id hWd
  have pre0 : ∀ t, Steps p.tables e below (s₁.setTop (mkF m 0 #[.val (.ref w1)] [])) t → Steps p.tables e below (s₁.setTop (entryFrame m #[(.ref w1)] 1)) t := fun t k => castTop (ef1 m w1) k
  obtain ⟨T9, X9, e9, st9⟩ := getS2 X0 hx hZ hown (host := "") (Or.inl (hw _ (List.mem_of_getElem? (i := 9) rfl))) Via.refl e0 (wS0.ext O0.2) (g := (mkF m 1 #[.val (.ref w1)] [(.ref w1)])) rfl (hb hby d_prog_12_method_7_code_1)
  obtain ⟨T10, X10, e10, st10⟩ := getS2 X9 hx hZ hown (host := "") (Or.inl (hw _ (List.mem_of_getElem? (i := 10) rfl))) Via.refl e9 (wS1.ext O0.2) (g := (mkF m 14 #[.val (.ref w1)] [(.ref w1)])) rfl (hb hby d_prog_12_method_7_code_14)
  obtain ⟨T11, X11, e11, st11⟩ := getS2 X10 hx hZ hown (host := "") (Or.inl (hw _ (List.mem_of_getElem? (i := 9) rfl))) Via.refl e10 (wS0.ext O0.2) (g := (mkF m 20 #[.val (.ref w1)] [])) rfl (hb hby d_prog_12_method_7_code_20)
  obtain ⟨fs, hr, hrun, hended, hWr, hsame⟩ := X11.leave (v := some (.ref w0)) (fun h => by rw [Bd.returns] at h; cases h)
  refine ⟨_, _, pre0 _ ?_, hrun, hended, _, _, rfl, ?_, ⟨_, rfl⟩, hWr, hsame.mono (Nat.le_of_ble_eq_true rfl) (Nat.le_of_ble_eq_true rfl)⟩
  · show Steps p.tables e below (s₁.setTop (mkF m 0 #[.val (.ref w1)] [])) _
    refine XS.aloadN X0.here hx rfl (hb hby d_prog_12_method_7_code_0) rfl rfl ?_
    show Steps p.tables e below (s₁.setTop (mkF m 1 #[.val (.ref w1)] [(.ref w1)])) _
    refine st9 _ ?_
    show Steps p.tables e below (T9.setTop (mkF m 4 #[.val (.ref w1)] [(.ref w0), (.ref w1)])) _
    refine Jvm.RoadKit.acmp (g := (mkF m 4 #[.val (.ref w1)] [(.ref w0), (.ref w1)])) X9 hx rfl rfl rfl (pc0 := 4) (pc' := 13) (same := false) rfl (hb hby d_prog_12_method_7_code_4) rfl (decide_eq_false fun q => (Fld.ne wF1_ordinal wF0_ordinal (fun q => absurd (Value.int.inj q) (by decide))) (Value.ref.inj q)) (by decide) (by decide) ?_
    show Steps p.tables e below (T9.setTop (mkF m 13 #[.val (.ref w1)] [])) _
    refine XS.aloadN X9.here hx rfl (hb hby d_prog_12_method_7_code_13) rfl rfl ?_
    show Steps p.tables e below (T9.setTop (mkF m 14 #[.val (.ref w1)] [(.ref w1)])) _
    refine st10 _ ?_
    show Steps p.tables e below (T10.setTop (mkF m 17 #[.val (.ref w1)] [(.ref w1), (.ref w1)])) _
    refine Jvm.RoadKit.acmp (g := (mkF m 17 #[.val (.ref w1)] [(.ref w1), (.ref w1)])) X10 hx rfl rfl rfl (pc0 := 17) (pc' := 20) (same := true) rfl (hb hby d_prog_12_method_7_code_17) rfl (decide_eq_true rfl) (by decide) (by decide) ?_
    show Steps p.tables e below (T10.setTop (mkF m 20 #[.val (.ref w1)] [])) _
    refine st11 _ ?_
    show Steps p.tables e below (T11.setTop (mkF m 23 #[.val (.ref w1)] [(.ref w0)])) _
    refine XS.goto X11.here hx rfl (pc0 := 23) (pc' := 29) rfl (hb hby d_prog_12_method_7_code_23) (by decide) (by decide) ?_
    show Steps p.tables e below (T11.setTop (mkF m 29 #[.val (.ref w1)] [(.ref w0)])) _
    exact retOut X11 hx (t := (.object "com/example/policy_to_map/policytomap/core/Truth")) (i := .areturn) Bd.returns rfl (Or.inr (Or.inr (Or.inr (Or.inr ⟨rfl, rfl, rfl⟩)))) (hb hby d_prog_12_method_7_code_29) hr
  · show Qp (some (.ref w0)) h0 n0 _ T11.heap _
    rw [e11]
    exact ⟨rfl, N0, rfl⟩
theorem d_prog_12_method_4_code_0 : decode prog_12_method_4_code 0 = .ok (.iload_n 0, 1) := by decide +kernel
theorem d_prog_12_method_4_code_1 : decode prog_12_method_4_code 1 = .ok (.ifCond .eq 9, 3) := by decide +kernel
theorem d_prog_12_method_4_code_10 : decode prog_12_method_4_code 10 = .ok (.getstatic 7, 3) := by decide +kernel
theorem d_prog_12_method_4_code_13 : decode prog_12_method_4_code 13 = .ok (.areturn, 1) := by decide +kernel
theorem ef2 (m : MethodId)    : entryFrame m #[(.int (0 : Int32))] 1 = mkF m 0 #[.val (.int (0 : Int32))] [] := by first | (simp [entryFrame, mkF, argsToLocals, Value.category]; done) | rfl
set_option maxRecDepth 65536 in
set_option maxHeartbeats 40000000 in
theorem rm3 (l : Launch) (Z : State) (a0 : Array Value) (hw : ∀ d ∈ tables_1, d.before a0 Z = true) (ws : List Jvm.Cond) (w0 w1 w2 : Addr) (h0 : Heap) (n0 : Nat) (hWd : Wd Z w0 w1 w2) (O0 : Old Z n0 h0) :
    MetFree l (⟨"com/example/policy_to_map/policytomap/core/Truth", "of", "(Z)Lcom/example/policy_to_map/policytomap/core/Truth;"⟩ : MethodName) (head1 (Jvm.Cond.code (⟨"com/example/policy_to_map/policytomap/core/Truth", "of", "(Z)Lcom/example/policy_to_map/policytomap/core/Truth;"⟩ : MethodName) prog_12_method_4_code 1 (some (.object "com/example/policy_to_map/policytomap/core/Truth")) :: ws) ({ frames := 0, cells := 0, slots := 0, locals := 0 } : Room)) (fun a U => a = #[(.int (0 : Int32))] ∧ Z.Warmed39 U.vm ∧ U.heap = h0) (fun _ _ _ _ _ => True) (fun _ U o U' => ∃ v L, o = .returned v ∧ Qp (some (.ref w1)) h0 n0 v U'.heap L ∧ FrameEnd U o U' L ({ frames := 0, cells := 0, slots := 0, locals := 0 } : Room).cells ({ frames := 0, cells := 0, slots := 0, locals := 0 } : Room).slots) := by
  refine MetFree.of_bodySF (plainFor_of_name pn0) hisR ?_
  intro p e s m args below meth c s₁ Bd hml0 hP hK
  obtain ⟨rfl, hZ, hh⟩ := hP
  have hx := Bd.exec
  have hby := Bd.bytes
  have hml : c.maxLocals = 1 := hml0
  have hown : s.vm.findClass "com/example/policy_to_map/policytomap/core/Truth" = some m.cls := findClass_of_methodNamed Bd.named
  have hnm := (name_of_methodNamed Bd.named Bd.method).1
  have X0 : Stand p l e ({ frames := 0, cells := 0, slots := 0, locals := 0 } : Room) s m #[(.int (0 : Int32))] below meth c s₁ [] 0 0 := Stand.of_body Bd
  have e0 : s₁.heap = h0 := by rw [← hh, Bd.state]; rfl
  have N0 := Fr.nil n0
  obtain ⟨wS0, wE0, wS1, wE1, wS2, wE2, wF1_ordinal, wF0_ordinal, wF2_ordinal, -⟩ := id hWd
  have pre0 : ∀ t, Steps p.tables e below (s₁.setTop (mkF m 0 #[.val (.int (0 : Int32))] [])) t → Steps p.tables e below (s₁.setTop (entryFrame m #[(.int (0 : Int32))] 1)) t := fun t k => castTop (ef2 m ) k
  obtain ⟨T13, X13, e13, st13⟩ := getS2 X0 hx hZ hown (host := "") (Or.inl (hw _ (List.mem_of_getElem? (i := 10) rfl))) Via.refl e0 (wS1.ext O0.2) (g := (mkF m 10 #[.val (.int (0 : Int32))] [])) rfl (hb hby d_prog_12_method_4_code_10)
  obtain ⟨fs, hr, hrun, hended, hWr, hsame⟩ := X13.leave (v := some (.ref w1)) (fun h => by rw [Bd.returns] at h; cases h)
  refine ⟨_, _, pre0 _ ?_, hrun, hended, _, _, rfl, ?_, ⟨_, rfl⟩, hWr, hsame.mono (Nat.le_of_ble_eq_true rfl) (Nat.le_of_ble_eq_true rfl)⟩
  · show Steps p.tables e below (s₁.setTop (mkF m 0 #[.val (.int (0 : Int32))] [])) _
    refine XS.iloadN X0.here hx rfl (hb hby d_prog_12_method_4_code_0) rfl ?_
    show Steps p.tables e below (s₁.setTop (mkF m 1 #[.val (.int (0 : Int32))] [(.int (0 : Int32))])) _
    refine XS.ifYes X0.here hx rfl (pc0 := 1) (pc' := 10) rfl (hb hby d_prog_12_method_4_code_1) rfl (by decide) (by decide) (by decide) ?_
    show Steps p.tables e below (s₁.setTop (mkF m 10 #[.val (.int (0 : Int32))] [])) _
    refine st13 _ ?_
    show Steps p.tables e below (T13.setTop (mkF m 13 #[.val (.int (0 : Int32))] [(.ref w1)])) _
    exact retOut X13 hx (t := (.object "com/example/policy_to_map/policytomap/core/Truth")) (i := .areturn) Bd.returns rfl (Or.inr (Or.inr (Or.inr (Or.inr ⟨rfl, rfl, rfl⟩)))) (hb hby d_prog_12_method_4_code_13) hr
  · show Qp (some (.ref w1)) h0 n0 _ T13.heap _
    rw [e13]
    exact ⟨rfl, N0, rfl⟩
theorem pd1 : parseMethodDescriptor "(Z)Lcom/example/policy_to_map/policytomap/core/Truth;" = some ⟨[.boolean], some (.object "com/example/policy_to_map/policytomap/core/Truth")⟩ := by decide +kernel
theorem d_prog_12_method_4_code_4 : decode prog_12_method_4_code 4 = .ok (.getstatic 3, 3) := by decide +kernel
theorem d_prog_12_method_4_code_7 : decode prog_12_method_4_code 7 = .ok (.goto 6, 3) := by decide +kernel
theorem ef3 (m : MethodId)    : entryFrame m #[(.int (1 : Int32))] 1 = mkF m 0 #[.val (.int (1 : Int32))] [] := by first | (simp [entryFrame, mkF, argsToLocals, Value.category]; done) | rfl
set_option maxRecDepth 65536 in
set_option maxHeartbeats 40000000 in
theorem rm4 (l : Launch) (Z : State) (a0 : Array Value) (hw : ∀ d ∈ tables_1, d.before a0 Z = true) (ws : List Jvm.Cond) (w0 w1 w2 : Addr) (h0 : Heap) (n0 : Nat) (hWd : Wd Z w0 w1 w2) (O0 : Old Z n0 h0) :
    MetFree l (⟨"com/example/policy_to_map/policytomap/core/Truth", "of", "(Z)Lcom/example/policy_to_map/policytomap/core/Truth;"⟩ : MethodName) (head1 (Jvm.Cond.code (⟨"com/example/policy_to_map/policytomap/core/Truth", "of", "(Z)Lcom/example/policy_to_map/policytomap/core/Truth;"⟩ : MethodName) prog_12_method_4_code 1 (some (.object "com/example/policy_to_map/policytomap/core/Truth")) :: ws) ({ frames := 0, cells := 0, slots := 0, locals := 0 } : Room)) (fun a U => a = #[(.int (1 : Int32))] ∧ Z.Warmed39 U.vm ∧ U.heap = h0) (fun _ _ _ _ _ => True) (fun _ U o U' => ∃ v L, o = .returned v ∧ Qp (some (.ref w0)) h0 n0 v U'.heap L ∧ FrameEnd U o U' L ({ frames := 0, cells := 0, slots := 0, locals := 0 } : Room).cells ({ frames := 0, cells := 0, slots := 0, locals := 0 } : Room).slots) := by
  refine MetFree.of_bodySF (plainFor_of_name pn0) hisR ?_
  intro p e s m args below meth c s₁ Bd hml0 hP hK
  obtain ⟨rfl, hZ, hh⟩ := hP
  have hx := Bd.exec
  have hby := Bd.bytes
  have hml : c.maxLocals = 1 := hml0
  have hown : s.vm.findClass "com/example/policy_to_map/policytomap/core/Truth" = some m.cls := findClass_of_methodNamed Bd.named
  have hnm := (name_of_methodNamed Bd.named Bd.method).1
  have X0 : Stand p l e ({ frames := 0, cells := 0, slots := 0, locals := 0 } : Room) s m #[(.int (1 : Int32))] below meth c s₁ [] 0 0 := Stand.of_body Bd
  have e0 : s₁.heap = h0 := by rw [← hh, Bd.state]; rfl
  have N0 := Fr.nil n0
  obtain ⟨wS0, wE0, wS1, wE1, wS2, wE2, wF1_ordinal, wF0_ordinal, wF2_ordinal, -⟩ := id hWd
  have pre0 : ∀ t, Steps p.tables e below (s₁.setTop (mkF m 0 #[.val (.int (1 : Int32))] [])) t → Steps p.tables e below (s₁.setTop (entryFrame m #[(.int (1 : Int32))] 1)) t := fun t k => castTop (ef3 m ) k
  obtain ⟨T18, X18, e18, st18⟩ := getS2 X0 hx hZ hown (host := "") (Or.inl (hw _ (List.mem_of_getElem? (i := 9) rfl))) Via.refl e0 (wS0.ext O0.2) (g := (mkF m 4 #[.val (.int (1 : Int32))] [])) rfl (hb hby d_prog_12_method_4_code_4)
  obtain ⟨fs, hr, hrun, hended, hWr, hsame⟩ := X18.leave (v := some (.ref w0)) (fun h => by rw [Bd.returns] at h; cases h)
  refine ⟨_, _, pre0 _ ?_, hrun, hended, _, _, rfl, ?_, ⟨_, rfl⟩, hWr, hsame.mono (Nat.le_of_ble_eq_true rfl) (Nat.le_of_ble_eq_true rfl)⟩
  · show Steps p.tables e below (s₁.setTop (mkF m 0 #[.val (.int (1 : Int32))] [])) _
    refine XS.iloadN X0.here hx rfl (hb hby d_prog_12_method_4_code_0) rfl ?_
    show Steps p.tables e below (s₁.setTop (mkF m 1 #[.val (.int (1 : Int32))] [(.int (1 : Int32))])) _
    refine XS.ifNo X0.here hx rfl (hb hby d_prog_12_method_4_code_1) rfl (by decide) ?_
    show Steps p.tables e below (s₁.setTop (mkF m 4 #[.val (.int (1 : Int32))] [])) _
    refine st18 _ ?_
    show Steps p.tables e below (T18.setTop (mkF m 7 #[.val (.int (1 : Int32))] [(.ref w0)])) _
    refine XS.goto X18.here hx rfl (pc0 := 7) (pc' := 13) rfl (hb hby d_prog_12_method_4_code_7) (by decide) (by decide) ?_
    show Steps p.tables e below (T18.setTop (mkF m 13 #[.val (.int (1 : Int32))] [(.ref w0)])) _
    exact retOut X18 hx (t := (.object "com/example/policy_to_map/policytomap/core/Truth")) (i := .areturn) Bd.returns rfl (Or.inr (Or.inr (Or.inr (Or.inr ⟨rfl, rfl, rfl⟩)))) (hb hby d_prog_12_method_4_code_13) hr
  · show Qp (some (.ref w0)) h0 n0 _ T18.heap _
    rw [e18]
    exact ⟨rfl, N0, rfl⟩
theorem d_prog_12_method_7_code_26 : decode prog_12_method_7_code 26 = .ok (.getstatic 10, 3) := by decide +kernel
theorem ef4 (m : MethodId)   (w2 : Addr) : entryFrame m #[(.ref w2)] 1 = mkF m 0 #[.val (.ref w2)] [] := by first | (simp [entryFrame, mkF, argsToLocals, Value.category]; done) | rfl
set_option maxRecDepth 65536 in
set_option maxHeartbeats 40000000 in
theorem rm5 (l : Launch) (Z : State) (a0 : Array Value) (hw : ∀ d ∈ tables_1, d.before a0 Z = true) (ws : List Jvm.Cond) (w0 w1 w2 : Addr) (h0 : Heap) (n0 : Nat) (hWd : Wd Z w0 w1 w2) (O0 : Old Z n0 h0) :
    MetFree l (⟨"com/example/policy_to_map/policytomap/core/Truth", "not", "()Lcom/example/policy_to_map/policytomap/core/Truth;"⟩ : MethodName) (head1 (Jvm.Cond.code (⟨"com/example/policy_to_map/policytomap/core/Truth", "not", "()Lcom/example/policy_to_map/policytomap/core/Truth;"⟩ : MethodName) prog_12_method_7_code 1 (some (.object "com/example/policy_to_map/policytomap/core/Truth")) :: ws) ({ frames := 0, cells := 0, slots := 0, locals := 0 } : Room)) (fun a U => a = #[(.ref w2)] ∧ Z.Warmed39 U.vm ∧ U.heap = h0) (fun _ _ _ _ _ => True) (fun _ U o U' => ∃ v L, o = .returned v ∧ Qp (some (.ref w2)) h0 n0 v U'.heap L ∧ FrameEnd U o U' L ({ frames := 0, cells := 0, slots := 0, locals := 0 } : Room).cells ({ frames := 0, cells := 0, slots := 0, locals := 0 } : Room).slots) := by
  refine MetFree.of_bodySF (plainFor_of_name pn0) hisR ?_
  intro p e s m args below meth c s₁ Bd hml0 hP hK
  obtain ⟨rfl, hZ, hh⟩ := hP
  have hx := Bd.exec
  have hby := Bd.bytes
  have hml : c.maxLocals = 1 := hml0
  have hown : s.vm.findClass "com/example/policy_to_map/policytomap/core/Truth" = some m.cls := findClass_of_methodNamed Bd.named
  have hnm := (name_of_methodNamed Bd.named Bd.method).1
  have X0 : Stand p l e ({ frames := 0, cells := 0, slots := 0, locals := 0 } : Room) s m #[(.ref w2)] below meth c s₁ [] 0 0 := Stand.of_body Bd
  have e0 : s₁.heap = h0 := by rw [← hh, Bd.state]; rfl
  have N0 := Fr.nil n0
  obtain ⟨wS0, wE0, wS1, wE1, wS2, wE2, wF1_ordinal, wF0_ordinal, wF2_ordinal, -⟩ := id hWd
  have pre0 : ∀ t, Steps p.tables e below (s₁.setTop (mkF m 0 #[.val (.ref w2)] [])) t → Steps p.tables e below (s₁.setTop (entryFrame m #[(.ref w2)] 1)) t := fun t k => castTop (ef4 m w2) k
  obtain ⟨T21, X21, e21, st21⟩ := getS2 X0 hx hZ hown (host := "") (Or.inl (hw _ (List.mem_of_getElem? (i := 9) rfl))) Via.refl e0 (wS0.ext O0.2) (g := (mkF m 1 #[.val (.ref w2)] [(.ref w2)])) rfl (hb hby d_prog_12_method_7_code_1)
  obtain ⟨T22, X22, e22, st22⟩ := getS2 X21 hx hZ hown (host := "") (Or.inl (hw _ (List.mem_of_getElem? (i := 10) rfl))) Via.refl e21 (wS1.ext O0.2) (g := (mkF m 14 #[.val (.ref w2)] [(.ref w2)])) rfl (hb hby d_prog_12_method_7_code_14)
  obtain ⟨T23, X23, e23, st23⟩ := getS2 X22 hx hZ hown (host := "") (Or.inl (hw _ (List.mem_of_getElem? (i := 17) rfl))) Via.refl e22 (wS2.ext O0.2) (g := (mkF m 26 #[.val (.ref w2)] [])) rfl (hb hby d_prog_12_method_7_code_26)
  obtain ⟨fs, hr, hrun, hended, hWr, hsame⟩ := X23.leave (v := some (.ref w2)) (fun h => by rw [Bd.returns] at h; cases h)
  refine ⟨_, _, pre0 _ ?_, hrun, hended, _, _, rfl, ?_, ⟨_, rfl⟩, hWr, hsame.mono (Nat.le_of_ble_eq_true rfl) (Nat.le_of_ble_eq_true rfl)⟩
  · show Steps p.tables e below (s₁.setTop (mkF m 0 #[.val (.ref w2)] [])) _
    refine XS.aloadN X0.here hx rfl (hb hby d_prog_12_method_7_code_0) rfl rfl ?_
    show Steps p.tables e below (s₁.setTop (mkF m 1 #[.val (.ref w2)] [(.ref w2)])) _
    refine st21 _ ?_
    show Steps p.tables e below (T21.setTop (mkF m 4 #[.val (.ref w2)] [(.ref w0), (.ref w2)])) _
    refine Jvm.RoadKit.acmp (g := (mkF m 4 #[.val (.ref w2)] [(.ref w0), (.ref w2)])) X21 hx rfl rfl rfl (pc0 := 4) (pc' := 13) (same := false) rfl (hb hby d_prog_12_method_7_code_4) rfl (decide_eq_false fun q => (Fld.ne wF2_ordinal wF0_ordinal (fun q => absurd (Value.int.inj q) (by decide))) (Value.ref.inj q)) (by decide) (by decide) ?_
    show Steps p.tables e below (T21.setTop (mkF m 13 #[.val (.ref w2)] [])) _
    refine XS.aloadN X21.here hx rfl (hb hby d_prog_12_method_7_code_13) rfl rfl ?_
    show Steps p.tables e below (T21.setTop (mkF m 14 #[.val (.ref w2)] [(.ref w2)])) _
    refine st22 _ ?_
    show Steps p.tables e below (T22.setTop (mkF m 17 #[.val (.ref w2)] [(.ref w1), (.ref w2)])) _
    refine Jvm.RoadKit.acmp (g := (mkF m 17 #[.val (.ref w2)] [(.ref w1), (.ref w2)])) X22 hx rfl rfl rfl (pc0 := 17) (pc' := 26) (same := false) rfl (hb hby d_prog_12_method_7_code_17) rfl (decide_eq_false fun q => (Fld.ne wF2_ordinal wF1_ordinal (fun q => absurd (Value.int.inj q) (by decide))) (Value.ref.inj q)) (by decide) (by decide) ?_
    show Steps p.tables e below (T22.setTop (mkF m 26 #[.val (.ref w2)] [])) _
    refine st23 _ ?_
    show Steps p.tables e below (T23.setTop (mkF m 29 #[.val (.ref w2)] [(.ref w2)])) _
    exact retOut X23 hx (t := (.object "com/example/policy_to_map/policytomap/core/Truth")) (i := .areturn) Bd.returns rfl (Or.inr (Or.inr (Or.inr (Or.inr ⟨rfl, rfl, rfl⟩)))) (hb hby d_prog_12_method_7_code_29) hr
  · show Qp (some (.ref w2)) h0 n0 _ T23.heap _
    rw [e23]
    exact ⟨rfl, N0, rfl⟩
theorem pn1 : plainName "com/example/policy_to_map/policytomap/core/TruthNotPinLaw" = true := by first | (simp [plainName, overriddenIn]; done) | decide +kernel
theorem ef5 (m : MethodId) (i0 : Int32)   : entryFrame m #[(.int i0)] maxLocals = mkF m 0 #[.val (.int i0), .unset, .unset, .unset, .unset] [] := by first | (simp [entryFrame, mkF, argsToLocals, Value.category, maxLocals]; done) | rfl
set_option maxRecDepth 65536 in
set_option maxHeartbeats 40000000 in
theorem rm0 (l : Launch) (Z : State) (a0 : Array Value) (hw : ∀ d ∈ tables_1, d.before a0 Z = true) (ws : List Jvm.Cond) (w0 w1 w2 : Addr) (i0 : Int32) (h0 : Heap) (n0 : Nat) (hWd : Wd Z w0 w1 w2) (O0 : Old Z n0 h0) :
    MetFree l x (head1 (Jvm.Cond.code x code maxLocals ret :: ws) room_1) (fun a U => a = #[(.int i0)] ∧ Z.Warmed39 U.vm ∧ U.heap = h0) (fun _ _ _ _ _ => True) (fun _ U o U' => ∃ v L, o = .returned v ∧ Ql n0 v U'.heap L ∧ FrameEnd U o U' L room_1.cells room_1.slots) := by
  refine MetFree.of_bodySF (plainFor_of_name pn1) hisR ?_
  intro p e s m args below meth c s₁ Bd hml0 hP hK
  obtain ⟨rfl, hZ, hh⟩ := hP
  have hx := Bd.exec
  have hby := Bd.bytes
  have hml : c.maxLocals = 5 := hml0
  have hown : s.vm.findClass "com/example/policy_to_map/policytomap/core/TruthNotPinLaw" = some m.cls := findClass_of_methodNamed Bd.named
  have hnm := (name_of_methodNamed Bd.named Bd.method).1
  have X0 : Stand p l e room_1 s m #[(.int i0)] below meth c s₁ [] 0 0 := Stand.of_body Bd
  have e0 : s₁.heap = h0 := by rw [← hh, Bd.state]; rfl
  have N0 := Fr.nil n0
  obtain ⟨wS0, wE0, wS1, wE1, wS2, wE2, wF1_ordinal, wF0_ordinal, wF2_ordinal, -⟩ := id hWd
  have pre0 : ∀ t, Steps p.tables e below (s₁.setTop (mkF m 0 #[.val (.int i0), .unset, .unset, .unset, .unset] [])) t → Steps p.tables e below (s₁.setTop (entryFrame m #[(.int i0)] maxLocals)) t := fun t k => castTop (ef5 m i0) k
  have pre1 : ∀ t, Steps p.tables e below (s₁.setTop (mkF m 5 #[.val (.int i0), .unset, .unset, .unset, .unset] [(.int (3 : Int32)), (.int (i0 &&& (2147483647 : Int32)))])) t → Steps p.tables e below (s₁.setTop (entryFrame m #[(.int i0)] maxLocals)) t := by
    intro t k
    refine pre0 _ ?_
    show Steps p.tables e below (s₁.setTop (mkF m 0 #[.val (.int i0), .unset, .unset, .unset, .unset] [])) _
    refine XS.iloadN X0.here hx rfl (hb hby at_0) rfl ?_
    show Steps p.tables e below (s₁.setTop (mkF m 1 #[.val (.int i0), .unset, .unset, .unset, .unset] [(.int i0)])) _
    refine X0.ldcInt hx hown (mvT hZ (hw _ (List.mem_of_getElem? (i := 0) rfl))) (g := (mkF m 1 #[.val (.int i0), .unset, .unset, .unset, .unset] [(.int i0)])) rfl (hb hby at_1) _ ?_
    show Steps p.tables e below (s₁.setTop (mkF m 3 #[.val (.int i0), .unset, .unset, .unset, .unset] [(.int (2147483647 : Int32)), (.int i0)])) _
    refine XS.iand X0.here hx rfl (hb hby at_3) rfl ?_
    show Steps p.tables e below (s₁.setTop (mkF m 4 #[.val (.int i0), .unset, .unset, .unset, .unset] [(.int (i0 &&& (2147483647 : Int32)))])) _
    refine XS.iconst X0.here hx rfl (hb hby at_4) ?_
    show Steps p.tables e below (s₁.setTop (mkF m 5 #[.val (.int i0), .unset, .unset, .unset, .unset] [(.int (3 : Int32)), (.int (i0 &&& (2147483647 : Int32)))])) _
    exact k
  rcases own_rem_3 i0 with hk2 | hk3 | hk4
  · obtain ⟨T5, X5, e5, st5⟩ := getS2 X0 hx hZ hown (host := "") (Or.inl (hw _ (List.mem_of_getElem? (i := 1) rfl))) Via.refl e0 (wS0.ext O0.2) (g := (mkF m 11 #[.val (.int i0), .val (.int (0 : Int32)), .unset, .unset, .unset] [])) rfl (hb hby at_11)
    obtain ⟨cq8, kq8, q8a, q8b, q8c⟩ := isOf hZ e5 (wE0.ext O0.2)
    obtain ⟨_, _, ⟨T8, L8, k8, n8⟩, -, X8, ⟨Lc8, hQ8, l8, y8, z8⟩, st8⟩ := X5.virtualBack hx (y := (⟨"com/example/policy_to_map/policytomap/core/Truth", "not", "()Lcom/example/policy_to_map/policytomap/core/Truth;"⟩ : MethodName)) (z := (⟨"com/example/policy_to_map/policytomap/core/Truth", "not", "()Lcom/example/policy_to_map/policytomap/core/Truth;"⟩ : MethodName)) hown (mvT hZ (hw _ (List.mem_of_getElem? (i := 4) rfl))) (mvT hZ (hw _ (List.mem_of_getElem? (i := 5) rfl))) (notFace_of_selects (args := #[]) (mvT hZ (hw _ (List.mem_of_getElem? (i := 7) rfl)))) (mvT hZ (hw _ (List.mem_of_getElem? (i := 7) rfl))) (mvT hZ (hw _ (List.mem_of_getElem? (i := 6) rfl))) (by decide) (backOf (W := 0) (rm1 l Z a0 hw [] w0 w1 w2 h0 n0 hWd O0) hZ (hw _ (List.mem_of_getElem? (i := 8) rfl)) (hw _ (List.mem_of_getElem? (i := 2) rfl)) (by decide) (by decide)) q8a q8c (g := (mkF m 33 #[.val (.int i0), .val (.int (0 : Int32)), .val (.ref w0), .unset, .unset] [(.ref w0)])) rfl (by rw [hml]; rfl) (Steps.refl _) (argsL := []) (rest := []) (lenOf pd0 rfl) rfl (by show 2 * 0 + _ ≤ _; exact Nat.le_of_eq rfl) (hb hby at_33) (fun _ _ => ⟨rfl, e5, (by decide : 0 + 0 ≤ _), (by decide : 0 + 0 ≤ _)⟩)
    dsimp only [Pt.U, Pt.locs, Pt.cells, Pt.slots] at X8 l8 y8 z8 st8 hQ8
    subst l8 y8 z8
    obtain ⟨rfl, N8q, e8⟩ := hQ8
    have N8 := Fr.app N0 N8q
    obtain ⟨cq12, kq12, q12a, q12b, q12c⟩ := isOf hZ e8 (wE1.ext O0.2)
    obtain ⟨_, _, ⟨T12, L12, k12, n12⟩, -, X12, ⟨Lc12, hQ12, l12, y12, z12⟩, st12⟩ := X8.virtualBack hx (y := (⟨"com/example/policy_to_map/policytomap/core/Truth", "not", "()Lcom/example/policy_to_map/policytomap/core/Truth;"⟩ : MethodName)) (z := (⟨"com/example/policy_to_map/policytomap/core/Truth", "not", "()Lcom/example/policy_to_map/policytomap/core/Truth;"⟩ : MethodName)) hown (mvT hZ (hw _ (List.mem_of_getElem? (i := 4) rfl))) (mvT hZ (hw _ (List.mem_of_getElem? (i := 5) rfl))) (notFace_of_selects (args := #[]) (mvT hZ (hw _ (List.mem_of_getElem? (i := 7) rfl)))) (mvT hZ (hw _ (List.mem_of_getElem? (i := 7) rfl))) (mvT hZ (hw _ (List.mem_of_getElem? (i := 6) rfl))) (by decide) (backOf (W := 0) (rm2 l Z a0 hw [] w0 w1 w2 h0 n0 hWd O0) hZ (hw _ (List.mem_of_getElem? (i := 8) rfl)) (hw _ (List.mem_of_getElem? (i := 2) rfl)) (by decide) (by decide)) q12a q12c (g := (mkF m 38 #[.val (.int i0), .val (.int (0 : Int32)), .val (.ref w0), .val (.ref w1), .unset] [(.ref w1)])) rfl (by rw [hml]; rfl) (Steps.refl _) (argsL := []) (rest := []) (lenOf pd0 rfl) rfl (by show 2 * 0 + _ ≤ _; exact Nat.le_of_eq rfl) (hb hby at_38) (fun _ _ => ⟨rfl, e8, (by decide : 0 + 0 ≤ _), (by decide : 0 + 0 ≤ _)⟩)
    dsimp only [Pt.U, Pt.locs, Pt.cells, Pt.slots] at X12 l12 y12 z12 st12 hQ12
    subst l12 y12 z12
    obtain ⟨rfl, N12q, e12⟩ := hQ12
    have N12 := Fr.app N8 N12q
    obtain ⟨_, _, ⟨T14, L14, k14, n14⟩, -, X14, ⟨Lc14, hQ14, l14, y14, z14⟩, st14⟩ := Jvm.LawKit.callS X12 hx (y := (⟨"com/example/policy_to_map/policytomap/core/Truth", "of", "(Z)Lcom/example/policy_to_map/policytomap/core/Truth;"⟩ : MethodName)) hown (mvT hZ (hw _ (List.mem_of_getElem? (i := 12) rfl))) (mvT hZ (hw _ (List.mem_of_getElem? (i := 13) rfl))) (mvT hZ (hw _ (List.mem_of_getElem? (i := 2) rfl))) (mvT hZ (hw _ (List.mem_of_getElem? (i := 14) rfl))) (by decide) (backOf (W := 1) (rm3 l Z a0 hw [] w0 w1 w2 h0 n0 hWd O0) hZ (hw _ (List.mem_of_getElem? (i := 14) rfl)) (hw _ (List.mem_of_getElem? (i := 2) rfl)) (by decide) (by decide)) (g := (mkF m 74 #[.val (.int i0), .val (.int (0 : Int32)), .val (.ref w0), .val (.ref w1), .val (.int (1 : Int32))] [(.int (0 : Int32)), (.ref w1)])) rfl (by rw [hml]; rfl) (argsL := [(.int (0 : Int32))]) (rest := [(.ref w1)]) (lenOf pd1 rfl) rfl (by show 2 * 0 + _ ≤ _; exact Nat.le_of_eq rfl) (hb hby at_74) (fun _ _ => ⟨rfl, e12, (by decide : 0 + 0 ≤ _), (by decide : 0 + 0 ≤ _)⟩)
    dsimp only [Pt.U, Pt.locs, Pt.cells, Pt.slots] at X14 l14 y14 z14 st14 hQ14
    subst l14 y14 z14
    obtain ⟨rfl, N14q, e14⟩ := hQ14
    have N14 := Fr.app N12 N14q
    obtain ⟨fs, hr, hrun, hended, hWr, hsame⟩ := X14.leave (v := some (.int (1 : Int32))) (fun h => by rw [Bd.returns] at h; cases h)
    refine ⟨_, _, pre1 _ ?_, hrun, hended, _, _, rfl, ?_, ⟨_, rfl⟩, hWr, hsame.mono (Nat.le_of_ble_eq_true rfl) (Nat.le_of_ble_eq_true rfl)⟩
    · show Steps p.tables e below (s₁.setTop (mkF m 5 #[.val (.int i0), .unset, .unset, .unset, .unset] [(.int (3 : Int32)), (.int (i0 &&& (2147483647 : Int32)))])) _
      refine iremM X0 hx rfl (hb hby at_5) rfl (by decide) ?_
      show Steps p.tables e below (s₁.setTop (mkF m 6 #[.val (.int i0), .unset, .unset, .unset, .unset] [(.int ((i0 &&& (2147483647 : Int32)) % (3 : Int32)))])) _
      rw [hk2]
      show Steps p.tables e below (s₁.setTop (mkF m 6 #[.val (.int i0), .unset, .unset, .unset, .unset] [(.int (0 : Int32))])) _
      refine XS.istoreN X0.here hx rfl (hb hby at_6) rfl (l' := #[.val (.int i0), .val (.int (0 : Int32)), .unset, .unset, .unset]) rfl ?_
      show Steps p.tables e below (s₁.setTop (mkF m 7 #[.val (.int i0), .val (.int (0 : Int32)), .unset, .unset, .unset] [])) _
      refine XS.iloadN X0.here hx rfl (hb hby at_7) rfl ?_
      show Steps p.tables e below (s₁.setTop (mkF m 8 #[.val (.int i0), .val (.int (0 : Int32)), .unset, .unset, .unset] [(.int (0 : Int32))])) _
      refine XS.ifNo X0.here hx rfl (hb hby at_8) rfl (by decide) ?_
      show Steps p.tables e below (s₁.setTop (mkF m 11 #[.val (.int i0), .val (.int (0 : Int32)), .unset, .unset, .unset] [])) _
      refine st5 _ ?_
      show Steps p.tables e below (T5.setTop (mkF m 14 #[.val (.int i0), .val (.int (0 : Int32)), .unset, .unset, .unset] [(.ref w0)])) _
      refine XS.goto X5.here hx rfl (pc0 := 14) (pc' := 31) rfl (hb hby at_14) (by decide) (by decide) ?_
      show Steps p.tables e below (T5.setTop (mkF m 31 #[.val (.int i0), .val (.int (0 : Int32)), .unset, .unset, .unset] [(.ref w0)])) _
      refine XS.astoreN X5.here hx rfl (hb hby at_31) rfl rfl (l' := #[.val (.int i0), .val (.int (0 : Int32)), .val (.ref w0), .unset, .unset]) rfl ?_
      show Steps p.tables e below (T5.setTop (mkF m 32 #[.val (.int i0), .val (.int (0 : Int32)), .val (.ref w0), .unset, .unset] [])) _
      refine XS.aloadN X5.here hx rfl (hb hby at_32) rfl rfl ?_
      show Steps p.tables e below (T5.setTop (mkF m 33 #[.val (.int i0), .val (.int (0 : Int32)), .val (.ref w0), .unset, .unset] [(.ref w0)])) _
      refine st8.trans ?_
      show Steps p.tables e below (T8.setTop (mkF m 36 #[.val (.int i0), .val (.int (0 : Int32)), .val (.ref w0), .unset, .unset] [(.ref w1)])) _
      refine XS.astoreN X8.here hx rfl (hb hby at_36) rfl rfl (l' := #[.val (.int i0), .val (.int (0 : Int32)), .val (.ref w0), .val (.ref w1), .unset]) rfl ?_
      show Steps p.tables e below (T8.setTop (mkF m 37 #[.val (.int i0), .val (.int (0 : Int32)), .val (.ref w0), .val (.ref w1), .unset] [])) _
      refine XS.aloadN X8.here hx rfl (hb hby at_37) rfl rfl ?_
      show Steps p.tables e below (T8.setTop (mkF m 38 #[.val (.int i0), .val (.int (0 : Int32)), .val (.ref w0), .val (.ref w1), .unset] [(.ref w1)])) _
      refine st12.trans ?_
      show Steps p.tables e below (T12.setTop (mkF m 41 #[.val (.int i0), .val (.int (0 : Int32)), .val (.ref w0), .val (.ref w1), .unset] [(.ref w0)])) _
      refine XS.aloadN X12.here hx rfl (hb hby at_41) rfl rfl ?_
      show Steps p.tables e below (T12.setTop (mkF m 42 #[.val (.int i0), .val (.int (0 : Int32)), .val (.ref w0), .val (.ref w1), .unset] [(.ref w0), (.ref w0)])) _
      refine Jvm.RoadKit.acmp (g := (mkF m 42 #[.val (.int i0), .val (.int (0 : Int32)), .val (.ref w0), .val (.ref w1), .unset] [(.ref w0), (.ref w0)])) X12 hx rfl rfl rfl (pc0 := 42) (pc' := 47) (same := true) rfl (hb hby at_42) rfl (decide_eq_true rfl) (by decide) (by decide) ?_
      show Steps p.tables e below (T12.setTop (mkF m 47 #[.val (.int i0), .val (.int (0 : Int32)), .val (.ref w0), .val (.ref w1), .unset] [])) _
      refine XS.iloadN X12.here hx rfl (hb hby at_47) rfl ?_
      show Steps p.tables e below (T12.setTop (mkF m 48 #[.val (.int i0), .val (.int (0 : Int32)), .val (.ref w0), .val (.ref w1), .unset] [(.int (0 : Int32))])) _
      refine XS.iconst X12.here hx rfl (hb hby at_48) ?_
      show Steps p.tables e below (T12.setTop (mkF m 49 #[.val (.int i0), .val (.int (0 : Int32)), .val (.ref w0), .val (.ref w1), .unset] [(.int (2 : Int32)), (.int (0 : Int32))])) _
      refine XS.icmpNo X12.here hx rfl (hb hby at_49) rfl (by decide) ?_
      show Steps p.tables e below (T12.setTop (mkF m 52 #[.val (.int i0), .val (.int (0 : Int32)), .val (.ref w0), .val (.ref w1), .unset] [])) _
      refine XS.iloadN X12.here hx rfl (hb hby at_52) rfl ?_
      show Steps p.tables e below (T12.setTop (mkF m 53 #[.val (.int i0), .val (.int (0 : Int32)), .val (.ref w0), .val (.ref w1), .unset] [(.int (0 : Int32))])) _
      refine XS.ifNo X12.here hx rfl (hb hby at_53) rfl (by decide) ?_
      show Steps p.tables e below (T12.setTop (mkF m 56 #[.val (.int i0), .val (.int (0 : Int32)), .val (.ref w0), .val (.ref w1), .unset] [])) _
      refine XS.iconst X12.here hx rfl (hb hby at_56) ?_
      show Steps p.tables e below (T12.setTop (mkF m 57 #[.val (.int i0), .val (.int (0 : Int32)), .val (.ref w0), .val (.ref w1), .unset] [(.int (1 : Int32))])) _
      refine XS.goto X12.here hx rfl (pc0 := 57) (pc' := 61) rfl (hb hby at_57) (by decide) (by decide) ?_
      show Steps p.tables e below (T12.setTop (mkF m 61 #[.val (.int i0), .val (.int (0 : Int32)), .val (.ref w0), .val (.ref w1), .unset] [(.int (1 : Int32))])) _
      refine XS.istore X12.here hx rfl (hb hby at_61) rfl (l' := #[.val (.int i0), .val (.int (0 : Int32)), .val (.ref w0), .val (.ref w1), .val (.int (1 : Int32))]) rfl ?_
      show Steps p.tables e below (T12.setTop (mkF m 63 #[.val (.int i0), .val (.int (0 : Int32)), .val (.ref w0), .val (.ref w1), .val (.int (1 : Int32))] [])) _
      refine XS.aloadN X12.here hx rfl (hb hby at_63) rfl rfl ?_
      show Steps p.tables e below (T12.setTop (mkF m 64 #[.val (.int i0), .val (.int (0 : Int32)), .val (.ref w0), .val (.ref w1), .val (.int (1 : Int32))] [(.ref w1)])) _
      refine XS.iload X12.here hx rfl (hb hby at_64) rfl ?_
      show Steps p.tables e below (T12.setTop (mkF m 66 #[.val (.int i0), .val (.int (0 : Int32)), .val (.ref w0), .val (.ref w1), .val (.int (1 : Int32))] [(.int (1 : Int32)), (.ref w1)])) _
      refine XS.ifYes X12.here hx rfl (pc0 := 66) (pc' := 73) rfl (hb hby at_66) rfl (by decide) (by decide) (by decide) ?_
      show Steps p.tables e below (T12.setTop (mkF m 73 #[.val (.int i0), .val (.int (0 : Int32)), .val (.ref w0), .val (.ref w1), .val (.int (1 : Int32))] [(.ref w1)])) _
      refine XS.iconst X12.here hx rfl (hb hby at_73) ?_
      show Steps p.tables e below (T12.setTop (mkF m 74 #[.val (.int i0), .val (.int (0 : Int32)), .val (.ref w0), .val (.ref w1), .val (.int (1 : Int32))] [(.int (0 : Int32)), (.ref w1)])) _
      refine st14 _ ?_
      show Steps p.tables e below (T14.setTop (mkF m 77 #[.val (.int i0), .val (.int (0 : Int32)), .val (.ref w0), .val (.ref w1), .val (.int (1 : Int32))] [(.ref w1), (.ref w1)])) _
      refine Jvm.RoadKit.acmp (g := (mkF m 77 #[.val (.int i0), .val (.int (0 : Int32)), .val (.ref w0), .val (.ref w1), .val (.int (1 : Int32))] [(.ref w1), (.ref w1)])) X14 hx rfl rfl rfl (pc0 := 77) (pc' := 80) (same := true) rfl (hb hby at_77) rfl (decide_eq_true rfl) (by decide) (by decide) ?_
      show Steps p.tables e below (T14.setTop (mkF m 80 #[.val (.int i0), .val (.int (0 : Int32)), .val (.ref w0), .val (.ref w1), .val (.int (1 : Int32))] [])) _
      refine XS.iconst X14.here hx rfl (hb hby at_80) ?_
      show Steps p.tables e below (T14.setTop (mkF m 81 #[.val (.int i0), .val (.int (0 : Int32)), .val (.ref w0), .val (.ref w1), .val (.int (1 : Int32))] [(.int (1 : Int32))])) _
      refine XS.goto X14.here hx rfl (pc0 := 81) (pc' := 85) rfl (hb hby at_81) (by decide) (by decide) ?_
      show Steps p.tables e below (T14.setTop (mkF m 85 #[.val (.int i0), .val (.int (0 : Int32)), .val (.ref w0), .val (.ref w1), .val (.int (1 : Int32))] [(.int (1 : Int32))])) _
      exact retN X14 hx (t := .boolean) Bd.returns (by simp) (hb hby at_85) hr
    · show Ql n0 _ T14.heap _
      exact ⟨rfl, N14⟩
  · obtain ⟨T15, X15, e15, st15⟩ := getS2 X0 hx hZ hown (host := "") (Or.inl (hw _ (List.mem_of_getElem? (i := 18) rfl))) Via.refl e0 (wS1.ext O0.2) (g := (mkF m 22 #[.val (.int i0), .val (.int (1 : Int32)), .unset, .unset, .unset] [])) rfl (hb hby at_22)
    obtain ⟨cq16, kq16, q16a, q16b, q16c⟩ := isOf hZ e15 (wE1.ext O0.2)
    obtain ⟨_, _, ⟨T16, L16, k16, n16⟩, -, X16, ⟨Lc16, hQ16, l16, y16, z16⟩, st16⟩ := X15.virtualBack hx (y := (⟨"com/example/policy_to_map/policytomap/core/Truth", "not", "()Lcom/example/policy_to_map/policytomap/core/Truth;"⟩ : MethodName)) (z := (⟨"com/example/policy_to_map/policytomap/core/Truth", "not", "()Lcom/example/policy_to_map/policytomap/core/Truth;"⟩ : MethodName)) hown (mvT hZ (hw _ (List.mem_of_getElem? (i := 4) rfl))) (mvT hZ (hw _ (List.mem_of_getElem? (i := 5) rfl))) (notFace_of_selects (args := #[]) (mvT hZ (hw _ (List.mem_of_getElem? (i := 7) rfl)))) (mvT hZ (hw _ (List.mem_of_getElem? (i := 7) rfl))) (mvT hZ (hw _ (List.mem_of_getElem? (i := 6) rfl))) (by decide) (backOf (W := 0) (rm2 l Z a0 hw [] w0 w1 w2 h0 n0 hWd O0) hZ (hw _ (List.mem_of_getElem? (i := 8) rfl)) (hw _ (List.mem_of_getElem? (i := 2) rfl)) (by decide) (by decide)) q16a q16c (g := (mkF m 33 #[.val (.int i0), .val (.int (1 : Int32)), .val (.ref w1), .unset, .unset] [(.ref w1)])) rfl (by rw [hml]; rfl) (Steps.refl _) (argsL := []) (rest := []) (lenOf pd0 rfl) rfl (by show 2 * 0 + _ ≤ _; exact Nat.le_of_eq rfl) (hb hby at_33) (fun _ _ => ⟨rfl, e15, (by decide : 0 + 0 ≤ _), (by decide : 0 + 0 ≤ _)⟩)
    dsimp only [Pt.U, Pt.locs, Pt.cells, Pt.slots] at X16 l16 y16 z16 st16 hQ16
    subst l16 y16 z16
    obtain ⟨rfl, N16q, e16⟩ := hQ16
    have N16 := Fr.app N0 N16q
    obtain ⟨cq17, kq17, q17a, q17b, q17c⟩ := isOf hZ e16 (wE0.ext O0.2)
    obtain ⟨_, _, ⟨T17, L17, k17, n17⟩, -, X17, ⟨Lc17, hQ17, l17, y17, z17⟩, st17⟩ := X16.virtualBack hx (y := (⟨"com/example/policy_to_map/policytomap/core/Truth", "not", "()Lcom/example/policy_to_map/policytomap/core/Truth;"⟩ : MethodName)) (z := (⟨"com/example/policy_to_map/policytomap/core/Truth", "not", "()Lcom/example/policy_to_map/policytomap/core/Truth;"⟩ : MethodName)) hown (mvT hZ (hw _ (List.mem_of_getElem? (i := 4) rfl))) (mvT hZ (hw _ (List.mem_of_getElem? (i := 5) rfl))) (notFace_of_selects (args := #[]) (mvT hZ (hw _ (List.mem_of_getElem? (i := 7) rfl)))) (mvT hZ (hw _ (List.mem_of_getElem? (i := 7) rfl))) (mvT hZ (hw _ (List.mem_of_getElem? (i := 6) rfl))) (by decide) (backOf (W := 0) (rm1 l Z a0 hw [] w0 w1 w2 h0 n0 hWd O0) hZ (hw _ (List.mem_of_getElem? (i := 8) rfl)) (hw _ (List.mem_of_getElem? (i := 2) rfl)) (by decide) (by decide)) q17a q17c (g := (mkF m 38 #[.val (.int i0), .val (.int (1 : Int32)), .val (.ref w1), .val (.ref w0), .unset] [(.ref w0)])) rfl (by rw [hml]; rfl) (Steps.refl _) (argsL := []) (rest := []) (lenOf pd0 rfl) rfl (by show 2 * 0 + _ ≤ _; exact Nat.le_of_eq rfl) (hb hby at_38) (fun _ _ => ⟨rfl, e16, (by decide : 0 + 0 ≤ _), (by decide : 0 + 0 ≤ _)⟩)
    dsimp only [Pt.U, Pt.locs, Pt.cells, Pt.slots] at X17 l17 y17 z17 st17 hQ17
    subst l17 y17 z17
    obtain ⟨rfl, N17q, e17⟩ := hQ17
    have N17 := Fr.app N16 N17q
    obtain ⟨_, _, ⟨T19, L19, k19, n19⟩, -, X19, ⟨Lc19, hQ19, l19, y19, z19⟩, st19⟩ := Jvm.LawKit.callS X17 hx (y := (⟨"com/example/policy_to_map/policytomap/core/Truth", "of", "(Z)Lcom/example/policy_to_map/policytomap/core/Truth;"⟩ : MethodName)) hown (mvT hZ (hw _ (List.mem_of_getElem? (i := 12) rfl))) (mvT hZ (hw _ (List.mem_of_getElem? (i := 13) rfl))) (mvT hZ (hw _ (List.mem_of_getElem? (i := 2) rfl))) (mvT hZ (hw _ (List.mem_of_getElem? (i := 14) rfl))) (by decide) (backOf (W := 1) (rm4 l Z a0 hw [] w0 w1 w2 h0 n0 hWd O0) hZ (hw _ (List.mem_of_getElem? (i := 14) rfl)) (hw _ (List.mem_of_getElem? (i := 2) rfl)) (by decide) (by decide)) (g := (mkF m 74 #[.val (.int i0), .val (.int (1 : Int32)), .val (.ref w1), .val (.ref w0), .val (.int (0 : Int32))] [(.int (1 : Int32)), (.ref w0)])) rfl (by rw [hml]; rfl) (argsL := [(.int (1 : Int32))]) (rest := [(.ref w0)]) (lenOf pd1 rfl) rfl (by show 2 * 0 + _ ≤ _; exact Nat.le_of_eq rfl) (hb hby at_74) (fun _ _ => ⟨rfl, e17, (by decide : 0 + 0 ≤ _), (by decide : 0 + 0 ≤ _)⟩)
    dsimp only [Pt.U, Pt.locs, Pt.cells, Pt.slots] at X19 l19 y19 z19 st19 hQ19
    subst l19 y19 z19
    obtain ⟨rfl, N19q, e19⟩ := hQ19
    have N19 := Fr.app N17 N19q
    obtain ⟨fs, hr, hrun, hended, hWr, hsame⟩ := X19.leave (v := some (.int (1 : Int32))) (fun h => by rw [Bd.returns] at h; cases h)
    refine ⟨_, _, pre1 _ ?_, hrun, hended, _, _, rfl, ?_, ⟨_, rfl⟩, hWr, hsame.mono (Nat.le_of_ble_eq_true rfl) (Nat.le_of_ble_eq_true rfl)⟩
    · show Steps p.tables e below (s₁.setTop (mkF m 5 #[.val (.int i0), .unset, .unset, .unset, .unset] [(.int (3 : Int32)), (.int (i0 &&& (2147483647 : Int32)))])) _
      refine iremM X0 hx rfl (hb hby at_5) rfl (by decide) ?_
      show Steps p.tables e below (s₁.setTop (mkF m 6 #[.val (.int i0), .unset, .unset, .unset, .unset] [(.int ((i0 &&& (2147483647 : Int32)) % (3 : Int32)))])) _
      rw [hk3]
      show Steps p.tables e below (s₁.setTop (mkF m 6 #[.val (.int i0), .unset, .unset, .unset, .unset] [(.int (1 : Int32))])) _
      refine XS.istoreN X0.here hx rfl (hb hby at_6) rfl (l' := #[.val (.int i0), .val (.int (1 : Int32)), .unset, .unset, .unset]) rfl ?_
      show Steps p.tables e below (s₁.setTop (mkF m 7 #[.val (.int i0), .val (.int (1 : Int32)), .unset, .unset, .unset] [])) _
      refine XS.iloadN X0.here hx rfl (hb hby at_7) rfl ?_
      show Steps p.tables e below (s₁.setTop (mkF m 8 #[.val (.int i0), .val (.int (1 : Int32)), .unset, .unset, .unset] [(.int (1 : Int32))])) _
      refine XS.ifYes X0.here hx rfl (pc0 := 8) (pc' := 17) rfl (hb hby at_8) rfl (by decide) (by decide) (by decide) ?_
      show Steps p.tables e below (s₁.setTop (mkF m 17 #[.val (.int i0), .val (.int (1 : Int32)), .unset, .unset, .unset] [])) _
      refine XS.iloadN X0.here hx rfl (hb hby at_17) rfl ?_
      show Steps p.tables e below (s₁.setTop (mkF m 18 #[.val (.int i0), .val (.int (1 : Int32)), .unset, .unset, .unset] [(.int (1 : Int32))])) _
      refine XS.iconst X0.here hx rfl (hb hby at_18) ?_
      show Steps p.tables e below (s₁.setTop (mkF m 19 #[.val (.int i0), .val (.int (1 : Int32)), .unset, .unset, .unset] [(.int (1 : Int32)), (.int (1 : Int32))])) _
      refine XS.icmpNo X0.here hx rfl (hb hby at_19) rfl (by decide) ?_
      show Steps p.tables e below (s₁.setTop (mkF m 22 #[.val (.int i0), .val (.int (1 : Int32)), .unset, .unset, .unset] [])) _
      refine st15 _ ?_
      show Steps p.tables e below (T15.setTop (mkF m 25 #[.val (.int i0), .val (.int (1 : Int32)), .unset, .unset, .unset] [(.ref w1)])) _
      refine XS.goto X15.here hx rfl (pc0 := 25) (pc' := 31) rfl (hb hby at_25) (by decide) (by decide) ?_
      show Steps p.tables e below (T15.setTop (mkF m 31 #[.val (.int i0), .val (.int (1 : Int32)), .unset, .unset, .unset] [(.ref w1)])) _
      refine XS.astoreN X15.here hx rfl (hb hby at_31) rfl rfl (l' := #[.val (.int i0), .val (.int (1 : Int32)), .val (.ref w1), .unset, .unset]) rfl ?_
      show Steps p.tables e below (T15.setTop (mkF m 32 #[.val (.int i0), .val (.int (1 : Int32)), .val (.ref w1), .unset, .unset] [])) _
      refine XS.aloadN X15.here hx rfl (hb hby at_32) rfl rfl ?_
      show Steps p.tables e below (T15.setTop (mkF m 33 #[.val (.int i0), .val (.int (1 : Int32)), .val (.ref w1), .unset, .unset] [(.ref w1)])) _
      refine st16.trans ?_
      show Steps p.tables e below (T16.setTop (mkF m 36 #[.val (.int i0), .val (.int (1 : Int32)), .val (.ref w1), .unset, .unset] [(.ref w0)])) _
      refine XS.astoreN X16.here hx rfl (hb hby at_36) rfl rfl (l' := #[.val (.int i0), .val (.int (1 : Int32)), .val (.ref w1), .val (.ref w0), .unset]) rfl ?_
      show Steps p.tables e below (T16.setTop (mkF m 37 #[.val (.int i0), .val (.int (1 : Int32)), .val (.ref w1), .val (.ref w0), .unset] [])) _
      refine XS.aloadN X16.here hx rfl (hb hby at_37) rfl rfl ?_
      show Steps p.tables e below (T16.setTop (mkF m 38 #[.val (.int i0), .val (.int (1 : Int32)), .val (.ref w1), .val (.ref w0), .unset] [(.ref w0)])) _
      refine st17.trans ?_
      show Steps p.tables e below (T17.setTop (mkF m 41 #[.val (.int i0), .val (.int (1 : Int32)), .val (.ref w1), .val (.ref w0), .unset] [(.ref w1)])) _
      refine XS.aloadN X17.here hx rfl (hb hby at_41) rfl rfl ?_
      show Steps p.tables e below (T17.setTop (mkF m 42 #[.val (.int i0), .val (.int (1 : Int32)), .val (.ref w1), .val (.ref w0), .unset] [(.ref w1), (.ref w1)])) _
      refine Jvm.RoadKit.acmp (g := (mkF m 42 #[.val (.int i0), .val (.int (1 : Int32)), .val (.ref w1), .val (.ref w0), .unset] [(.ref w1), (.ref w1)])) X17 hx rfl rfl rfl (pc0 := 42) (pc' := 47) (same := true) rfl (hb hby at_42) rfl (decide_eq_true rfl) (by decide) (by decide) ?_
      show Steps p.tables e below (T17.setTop (mkF m 47 #[.val (.int i0), .val (.int (1 : Int32)), .val (.ref w1), .val (.ref w0), .unset] [])) _
      refine XS.iloadN X17.here hx rfl (hb hby at_47) rfl ?_
      show Steps p.tables e below (T17.setTop (mkF m 48 #[.val (.int i0), .val (.int (1 : Int32)), .val (.ref w1), .val (.ref w0), .unset] [(.int (1 : Int32))])) _
      refine XS.iconst X17.here hx rfl (hb hby at_48) ?_
      show Steps p.tables e below (T17.setTop (mkF m 49 #[.val (.int i0), .val (.int (1 : Int32)), .val (.ref w1), .val (.ref w0), .unset] [(.int (2 : Int32)), (.int (1 : Int32))])) _
      refine XS.icmpNo X17.here hx rfl (hb hby at_49) rfl (by decide) ?_
      show Steps p.tables e below (T17.setTop (mkF m 52 #[.val (.int i0), .val (.int (1 : Int32)), .val (.ref w1), .val (.ref w0), .unset] [])) _
      refine XS.iloadN X17.here hx rfl (hb hby at_52) rfl ?_
      show Steps p.tables e below (T17.setTop (mkF m 53 #[.val (.int i0), .val (.int (1 : Int32)), .val (.ref w1), .val (.ref w0), .unset] [(.int (1 : Int32))])) _
      refine XS.ifYes X17.here hx rfl (pc0 := 53) (pc' := 60) rfl (hb hby at_53) rfl (by decide) (by decide) (by decide) ?_
      show Steps p.tables e below (T17.setTop (mkF m 60 #[.val (.int i0), .val (.int (1 : Int32)), .val (.ref w1), .val (.ref w0), .unset] [])) _
      refine XS.iconst X17.here hx rfl (hb hby at_60) ?_
      show Steps p.tables e below (T17.setTop (mkF m 61 #[.val (.int i0), .val (.int (1 : Int32)), .val (.ref w1), .val (.ref w0), .unset] [(.int (0 : Int32))])) _
      refine XS.istore X17.here hx rfl (hb hby at_61) rfl (l' := #[.val (.int i0), .val (.int (1 : Int32)), .val (.ref w1), .val (.ref w0), .val (.int (0 : Int32))]) rfl ?_
      show Steps p.tables e below (T17.setTop (mkF m 63 #[.val (.int i0), .val (.int (1 : Int32)), .val (.ref w1), .val (.ref w0), .val (.int (0 : Int32))] [])) _
      refine XS.aloadN X17.here hx rfl (hb hby at_63) rfl rfl ?_
      show Steps p.tables e below (T17.setTop (mkF m 64 #[.val (.int i0), .val (.int (1 : Int32)), .val (.ref w1), .val (.ref w0), .val (.int (0 : Int32))] [(.ref w0)])) _
      refine XS.iload X17.here hx rfl (hb hby at_64) rfl ?_
      show Steps p.tables e below (T17.setTop (mkF m 66 #[.val (.int i0), .val (.int (1 : Int32)), .val (.ref w1), .val (.ref w0), .val (.int (0 : Int32))] [(.int (0 : Int32)), (.ref w0)])) _
      refine XS.ifNo X17.here hx rfl (hb hby at_66) rfl (by decide) ?_
      show Steps p.tables e below (T17.setTop (mkF m 69 #[.val (.int i0), .val (.int (1 : Int32)), .val (.ref w1), .val (.ref w0), .val (.int (0 : Int32))] [(.ref w0)])) _
      refine XS.iconst X17.here hx rfl (hb hby at_69) ?_
      show Steps p.tables e below (T17.setTop (mkF m 70 #[.val (.int i0), .val (.int (1 : Int32)), .val (.ref w1), .val (.ref w0), .val (.int (0 : Int32))] [(.int (1 : Int32)), (.ref w0)])) _
      refine XS.goto X17.here hx rfl (pc0 := 70) (pc' := 74) rfl (hb hby at_70) (by decide) (by decide) ?_
      show Steps p.tables e below (T17.setTop (mkF m 74 #[.val (.int i0), .val (.int (1 : Int32)), .val (.ref w1), .val (.ref w0), .val (.int (0 : Int32))] [(.int (1 : Int32)), (.ref w0)])) _
      refine st19 _ ?_
      show Steps p.tables e below (T19.setTop (mkF m 77 #[.val (.int i0), .val (.int (1 : Int32)), .val (.ref w1), .val (.ref w0), .val (.int (0 : Int32))] [(.ref w0), (.ref w0)])) _
      refine Jvm.RoadKit.acmp (g := (mkF m 77 #[.val (.int i0), .val (.int (1 : Int32)), .val (.ref w1), .val (.ref w0), .val (.int (0 : Int32))] [(.ref w0), (.ref w0)])) X19 hx rfl rfl rfl (pc0 := 77) (pc' := 80) (same := true) rfl (hb hby at_77) rfl (decide_eq_true rfl) (by decide) (by decide) ?_
      show Steps p.tables e below (T19.setTop (mkF m 80 #[.val (.int i0), .val (.int (1 : Int32)), .val (.ref w1), .val (.ref w0), .val (.int (0 : Int32))] [])) _
      refine XS.iconst X19.here hx rfl (hb hby at_80) ?_
      show Steps p.tables e below (T19.setTop (mkF m 81 #[.val (.int i0), .val (.int (1 : Int32)), .val (.ref w1), .val (.ref w0), .val (.int (0 : Int32))] [(.int (1 : Int32))])) _
      refine XS.goto X19.here hx rfl (pc0 := 81) (pc' := 85) rfl (hb hby at_81) (by decide) (by decide) ?_
      show Steps p.tables e below (T19.setTop (mkF m 85 #[.val (.int i0), .val (.int (1 : Int32)), .val (.ref w1), .val (.ref w0), .val (.int (0 : Int32))] [(.int (1 : Int32))])) _
      exact retN X19 hx (t := .boolean) Bd.returns (by simp) (hb hby at_85) hr
    · show Ql n0 _ T19.heap _
      exact ⟨rfl, N19⟩
  · obtain ⟨T20, X20, e20, st20⟩ := getS2 X0 hx hZ hown (host := "") (Or.inl (hw _ (List.mem_of_getElem? (i := 15) rfl))) Via.refl e0 (wS2.ext O0.2) (g := (mkF m 28 #[.val (.int i0), .val (.int (2 : Int32)), .unset, .unset, .unset] [])) rfl (hb hby at_28)
    obtain ⟨cq24, kq24, q24a, q24b, q24c⟩ := isOf hZ e20 (wE2.ext O0.2)
    obtain ⟨_, _, ⟨T24, L24, k24, n24⟩, -, X24, ⟨Lc24, hQ24, l24, y24, z24⟩, st24⟩ := X20.virtualBack hx (y := (⟨"com/example/policy_to_map/policytomap/core/Truth", "not", "()Lcom/example/policy_to_map/policytomap/core/Truth;"⟩ : MethodName)) (z := (⟨"com/example/policy_to_map/policytomap/core/Truth", "not", "()Lcom/example/policy_to_map/policytomap/core/Truth;"⟩ : MethodName)) hown (mvT hZ (hw _ (List.mem_of_getElem? (i := 4) rfl))) (mvT hZ (hw _ (List.mem_of_getElem? (i := 5) rfl))) (notFace_of_selects (args := #[]) (mvT hZ (hw _ (List.mem_of_getElem? (i := 7) rfl)))) (mvT hZ (hw _ (List.mem_of_getElem? (i := 7) rfl))) (mvT hZ (hw _ (List.mem_of_getElem? (i := 6) rfl))) (by decide) (backOf (W := 0) (rm5 l Z a0 hw [] w0 w1 w2 h0 n0 hWd O0) hZ (hw _ (List.mem_of_getElem? (i := 8) rfl)) (hw _ (List.mem_of_getElem? (i := 2) rfl)) (by decide) (by decide)) q24a q24c (g := (mkF m 33 #[.val (.int i0), .val (.int (2 : Int32)), .val (.ref w2), .unset, .unset] [(.ref w2)])) rfl (by rw [hml]; rfl) (Steps.refl _) (argsL := []) (rest := []) (lenOf pd0 rfl) rfl (by show 2 * 0 + _ ≤ _; exact Nat.le_of_eq rfl) (hb hby at_33) (fun _ _ => ⟨rfl, e20, (by decide : 0 + 0 ≤ _), (by decide : 0 + 0 ≤ _)⟩)
    dsimp only [Pt.U, Pt.locs, Pt.cells, Pt.slots] at X24 l24 y24 z24 st24 hQ24
    subst l24 y24 z24
    obtain ⟨rfl, N24q, e24⟩ := hQ24
    have N24 := Fr.app N0 N24q
    obtain ⟨cq25, kq25, q25a, q25b, q25c⟩ := isOf hZ e24 (wE2.ext O0.2)
    obtain ⟨_, _, ⟨T25, L25, k25, n25⟩, -, X25, ⟨Lc25, hQ25, l25, y25, z25⟩, st25⟩ := X24.virtualBack hx (y := (⟨"com/example/policy_to_map/policytomap/core/Truth", "not", "()Lcom/example/policy_to_map/policytomap/core/Truth;"⟩ : MethodName)) (z := (⟨"com/example/policy_to_map/policytomap/core/Truth", "not", "()Lcom/example/policy_to_map/policytomap/core/Truth;"⟩ : MethodName)) hown (mvT hZ (hw _ (List.mem_of_getElem? (i := 4) rfl))) (mvT hZ (hw _ (List.mem_of_getElem? (i := 5) rfl))) (notFace_of_selects (args := #[]) (mvT hZ (hw _ (List.mem_of_getElem? (i := 7) rfl)))) (mvT hZ (hw _ (List.mem_of_getElem? (i := 7) rfl))) (mvT hZ (hw _ (List.mem_of_getElem? (i := 6) rfl))) (by decide) (backOf (W := 0) (rm5 l Z a0 hw [] w0 w1 w2 h0 n0 hWd O0) hZ (hw _ (List.mem_of_getElem? (i := 8) rfl)) (hw _ (List.mem_of_getElem? (i := 2) rfl)) (by decide) (by decide)) q25a q25c (g := (mkF m 38 #[.val (.int i0), .val (.int (2 : Int32)), .val (.ref w2), .val (.ref w2), .unset] [(.ref w2)])) rfl (by rw [hml]; rfl) (Steps.refl _) (argsL := []) (rest := []) (lenOf pd0 rfl) rfl (by show 2 * 0 + _ ≤ _; exact Nat.le_of_eq rfl) (hb hby at_38) (fun _ _ => ⟨rfl, e24, (by decide : 0 + 0 ≤ _), (by decide : 0 + 0 ≤ _)⟩)
    dsimp only [Pt.U, Pt.locs, Pt.cells, Pt.slots] at X25 l25 y25 z25 st25 hQ25
    subst l25 y25 z25
    obtain ⟨rfl, N25q, e25⟩ := hQ25
    have N25 := Fr.app N24 N25q
    obtain ⟨T26, X26, e26, st26⟩ := getS2 X25 hx hZ hown (host := "") (Or.inl (hw _ (List.mem_of_getElem? (i := 15) rfl))) Via.refl e25 (wS2.ext O0.2) (g := (mkF m 87 #[.val (.int i0), .val (.int (2 : Int32)), .val (.ref w2), .val (.ref w2), .unset] [(.ref w2)])) rfl (hb hby at_87)
    obtain ⟨fs, hr, hrun, hended, hWr, hsame⟩ := X26.leave (v := some (.int (1 : Int32))) (fun h => by rw [Bd.returns] at h; cases h)
    refine ⟨_, _, pre1 _ ?_, hrun, hended, _, _, rfl, ?_, ⟨_, rfl⟩, hWr, hsame.mono (Nat.le_of_ble_eq_true rfl) (Nat.le_of_ble_eq_true rfl)⟩
    · show Steps p.tables e below (s₁.setTop (mkF m 5 #[.val (.int i0), .unset, .unset, .unset, .unset] [(.int (3 : Int32)), (.int (i0 &&& (2147483647 : Int32)))])) _
      refine iremM X0 hx rfl (hb hby at_5) rfl (by decide) ?_
      show Steps p.tables e below (s₁.setTop (mkF m 6 #[.val (.int i0), .unset, .unset, .unset, .unset] [(.int ((i0 &&& (2147483647 : Int32)) % (3 : Int32)))])) _
      rw [hk4]
      show Steps p.tables e below (s₁.setTop (mkF m 6 #[.val (.int i0), .unset, .unset, .unset, .unset] [(.int (2 : Int32))])) _
      refine XS.istoreN X0.here hx rfl (hb hby at_6) rfl (l' := #[.val (.int i0), .val (.int (2 : Int32)), .unset, .unset, .unset]) rfl ?_
      show Steps p.tables e below (s₁.setTop (mkF m 7 #[.val (.int i0), .val (.int (2 : Int32)), .unset, .unset, .unset] [])) _
      refine XS.iloadN X0.here hx rfl (hb hby at_7) rfl ?_
      show Steps p.tables e below (s₁.setTop (mkF m 8 #[.val (.int i0), .val (.int (2 : Int32)), .unset, .unset, .unset] [(.int (2 : Int32))])) _
      refine XS.ifYes X0.here hx rfl (pc0 := 8) (pc' := 17) rfl (hb hby at_8) rfl (by decide) (by decide) (by decide) ?_
      show Steps p.tables e below (s₁.setTop (mkF m 17 #[.val (.int i0), .val (.int (2 : Int32)), .unset, .unset, .unset] [])) _
      refine XS.iloadN X0.here hx rfl (hb hby at_17) rfl ?_
      show Steps p.tables e below (s₁.setTop (mkF m 18 #[.val (.int i0), .val (.int (2 : Int32)), .unset, .unset, .unset] [(.int (2 : Int32))])) _
      refine XS.iconst X0.here hx rfl (hb hby at_18) ?_
      show Steps p.tables e below (s₁.setTop (mkF m 19 #[.val (.int i0), .val (.int (2 : Int32)), .unset, .unset, .unset] [(.int (1 : Int32)), (.int (2 : Int32))])) _
      refine XS.icmpYes X0.here hx rfl (pc0 := 19) (pc' := 28) rfl (hb hby at_19) rfl (by decide) (by decide) (by decide) ?_
      show Steps p.tables e below (s₁.setTop (mkF m 28 #[.val (.int i0), .val (.int (2 : Int32)), .unset, .unset, .unset] [])) _
      refine st20 _ ?_
      show Steps p.tables e below (T20.setTop (mkF m 31 #[.val (.int i0), .val (.int (2 : Int32)), .unset, .unset, .unset] [(.ref w2)])) _
      refine XS.astoreN X20.here hx rfl (hb hby at_31) rfl rfl (l' := #[.val (.int i0), .val (.int (2 : Int32)), .val (.ref w2), .unset, .unset]) rfl ?_
      show Steps p.tables e below (T20.setTop (mkF m 32 #[.val (.int i0), .val (.int (2 : Int32)), .val (.ref w2), .unset, .unset] [])) _
      refine XS.aloadN X20.here hx rfl (hb hby at_32) rfl rfl ?_
      show Steps p.tables e below (T20.setTop (mkF m 33 #[.val (.int i0), .val (.int (2 : Int32)), .val (.ref w2), .unset, .unset] [(.ref w2)])) _
      refine st24.trans ?_
      show Steps p.tables e below (T24.setTop (mkF m 36 #[.val (.int i0), .val (.int (2 : Int32)), .val (.ref w2), .unset, .unset] [(.ref w2)])) _
      refine XS.astoreN X24.here hx rfl (hb hby at_36) rfl rfl (l' := #[.val (.int i0), .val (.int (2 : Int32)), .val (.ref w2), .val (.ref w2), .unset]) rfl ?_
      show Steps p.tables e below (T24.setTop (mkF m 37 #[.val (.int i0), .val (.int (2 : Int32)), .val (.ref w2), .val (.ref w2), .unset] [])) _
      refine XS.aloadN X24.here hx rfl (hb hby at_37) rfl rfl ?_
      show Steps p.tables e below (T24.setTop (mkF m 38 #[.val (.int i0), .val (.int (2 : Int32)), .val (.ref w2), .val (.ref w2), .unset] [(.ref w2)])) _
      refine st25.trans ?_
      show Steps p.tables e below (T25.setTop (mkF m 41 #[.val (.int i0), .val (.int (2 : Int32)), .val (.ref w2), .val (.ref w2), .unset] [(.ref w2)])) _
      refine XS.aloadN X25.here hx rfl (hb hby at_41) rfl rfl ?_
      show Steps p.tables e below (T25.setTop (mkF m 42 #[.val (.int i0), .val (.int (2 : Int32)), .val (.ref w2), .val (.ref w2), .unset] [(.ref w2), (.ref w2)])) _
      refine Jvm.RoadKit.acmp (g := (mkF m 42 #[.val (.int i0), .val (.int (2 : Int32)), .val (.ref w2), .val (.ref w2), .unset] [(.ref w2), (.ref w2)])) X25 hx rfl rfl rfl (pc0 := 42) (pc' := 47) (same := true) rfl (hb hby at_42) rfl (decide_eq_true rfl) (by decide) (by decide) ?_
      show Steps p.tables e below (T25.setTop (mkF m 47 #[.val (.int i0), .val (.int (2 : Int32)), .val (.ref w2), .val (.ref w2), .unset] [])) _
      refine XS.iloadN X25.here hx rfl (hb hby at_47) rfl ?_
      show Steps p.tables e below (T25.setTop (mkF m 48 #[.val (.int i0), .val (.int (2 : Int32)), .val (.ref w2), .val (.ref w2), .unset] [(.int (2 : Int32))])) _
      refine XS.iconst X25.here hx rfl (hb hby at_48) ?_
      show Steps p.tables e below (T25.setTop (mkF m 49 #[.val (.int i0), .val (.int (2 : Int32)), .val (.ref w2), .val (.ref w2), .unset] [(.int (2 : Int32)), (.int (2 : Int32))])) _
      refine XS.icmpYes X25.here hx rfl (pc0 := 49) (pc' := 86) rfl (hb hby at_49) rfl (by decide) (by decide) (by decide) ?_
      show Steps p.tables e below (T25.setTop (mkF m 86 #[.val (.int i0), .val (.int (2 : Int32)), .val (.ref w2), .val (.ref w2), .unset] [])) _
      refine XS.aloadN X25.here hx rfl (hb hby at_86) rfl rfl ?_
      show Steps p.tables e below (T25.setTop (mkF m 87 #[.val (.int i0), .val (.int (2 : Int32)), .val (.ref w2), .val (.ref w2), .unset] [(.ref w2)])) _
      refine st26 _ ?_
      show Steps p.tables e below (T26.setTop (mkF m 90 #[.val (.int i0), .val (.int (2 : Int32)), .val (.ref w2), .val (.ref w2), .unset] [(.ref w2), (.ref w2)])) _
      refine Jvm.RoadKit.acmp (g := (mkF m 90 #[.val (.int i0), .val (.int (2 : Int32)), .val (.ref w2), .val (.ref w2), .unset] [(.ref w2), (.ref w2)])) X26 hx rfl rfl rfl (pc0 := 90) (pc' := 93) (same := true) rfl (hb hby at_90) rfl (decide_eq_true rfl) (by decide) (by decide) ?_
      show Steps p.tables e below (T26.setTop (mkF m 93 #[.val (.int i0), .val (.int (2 : Int32)), .val (.ref w2), .val (.ref w2), .unset] [])) _
      refine XS.iconst X26.here hx rfl (hb hby at_93) ?_
      show Steps p.tables e below (T26.setTop (mkF m 94 #[.val (.int i0), .val (.int (2 : Int32)), .val (.ref w2), .val (.ref w2), .unset] [(.int (1 : Int32))])) _
      refine XS.goto X26.here hx rfl (pc0 := 94) (pc' := 98) rfl (hb hby at_94) (by decide) (by decide) ?_
      show Steps p.tables e below (T26.setTop (mkF m 98 #[.val (.int i0), .val (.int (2 : Int32)), .val (.ref w2), .val (.ref w2), .unset] [(.int (1 : Int32))])) _
      exact retN X26 hx (t := .boolean) Bd.returns (by simp) (hb hby at_98) hr
    · show Ql n0 _ T26.heap _
      exact ⟨rfl, N25⟩
set_option maxRecDepth 65536 in
set_option maxHeartbeats 40000000 in
theorem comes_1 {Post : Tables → Env → Array Value → State → Outcome → State → Prop} (hpost : ∀ tb e args s v u, (limb_1_1.after args s (.returned v) u = true ∧ limb_1_2.after args s (.returned v) u = true ∧ True) → FrameEnd s (.returned v) u (Jvm.fieldLocs frame_1_writes args s ++ Jvm.arrayLocs frame_1_arrays args s ++ Jvm.staticLocs frame_1_statics s) 0 0 → Post tb e args s (.returned v) u) :
    ArmFor flags0 classFile x code maxLocals ret World_1 tables_1 room_1 Calls_1 rest_1 Pre_1 Post := by
  intro l hfl _ _ p e ha hc hk s m args below hf hA hF happ hP
  obtain ⟨hcalls, hrest, hpre⟩ := hP
  obtain ⟨-, -, -, hnamed, -, -, -, hat⟩ := (Spec.applies_iff hf).mp happ
  obtain ⟨hg, hn⟩ := and_e (Cond.before_iff.mp (show (Jvm.Cond.and given_1 narrow_1).before args s = true from hpre))
  obtain ⟨gc, g0⟩ := and_e hg
  obtain ⟨x0, rfl⟩ : ∃ x0 : Value, args = #[x0] := by
    have hs : args.size = 1 := by simpa [Cond.value, given_1] using gc
    obtain ⟨L⟩ := args
    match L, hs with
    | [x0], _ => exact ⟨x0, rfl⟩
  have hw := fun d (hd : d ∈ tables_1) => atoms_spec (ws := Jvm.Cond.code x code maxLocals ret :: tables_1) hat d (List.mem_cons_of_mem _ hd)
  have hfit : Fit s := fun {y c} hc i hi => by
    obtain ⟨ha, rfl⟩ := Array.getElem?_eq_some_iff.mp hc
    have q := List.all_eq_true.mp ((Array.all_eq_true_iff_forall_mem.mp hF) _ (Array.getElem_mem ha)) i (List.mem_range.mpr hi)
    simpa [Array.getElem?_eq_getElem hi] using q
  obtain ⟨i0, ei0⟩ := is_v g0
  obtain rfl : x0 = (.int i0) := Option.some.inj ei0
  obtain ⟨c0, r0⟩ := and_e hn
  obtain ⟨c1, r1⟩ := and_e r0
  obtain ⟨c2, r2⟩ := and_e r1
  obtain ⟨c3, r3⟩ := and_e r2
  obtain ⟨c4, r4⟩ := and_e r3
  obtain ⟨w0, ev0⟩ := exa_v c0
  have wE0 : Exa s s.heap w0 "com/example/policy_to_map/policytomap/core/Truth" := Exa.start ev0 c0
  have wS0 : Sta s s.heap "com/example/policy_to_map/policytomap/core/Truth" "TRUE" "Lcom/example/policy_to_map/policytomap/core/Truth;" (.ref w0) := Sta.start ev0 (Or.inr ⟨(hw _ (List.mem_of_getElem? (i := 2) rfl)), (hw _ (List.mem_of_getElem? (i := 3) rfl))⟩)
  obtain ⟨w1, ev1⟩ := exa_v c1
  have wE1 : Exa s s.heap w1 "com/example/policy_to_map/policytomap/core/Truth" := Exa.start ev1 c1
  have wS1 : Sta s s.heap "com/example/policy_to_map/policytomap/core/Truth" "FALSE" "Lcom/example/policy_to_map/policytomap/core/Truth;" (.ref w1) := Sta.start ev1 (Or.inr ⟨(hw _ (List.mem_of_getElem? (i := 2) rfl)), (hw _ (List.mem_of_getElem? (i := 11) rfl))⟩)
  obtain ⟨w2, ev2⟩ := exa_v c4
  have wE2 : Exa s s.heap w2 "com/example/policy_to_map/policytomap/core/Truth" := Exa.start ev2 c4
  have wS2 : Sta s s.heap "com/example/policy_to_map/policytomap/core/Truth" "INDETERMINATE" "Lcom/example/policy_to_map/policytomap/core/Truth;" (.ref w2) := Sta.start ev2 (Or.inr ⟨(hw _ (List.mem_of_getElem? (i := 2) rfl)), (hw _ (List.mem_of_getElem? (i := 16) rfl))⟩)
  have wF1_ordinal : Fld s s.heap w1 "java/lang/Enum" "ordinal" "I" (.int (1 : Int32)) := Fld.start ((fld_at ev1).symm.trans (eqv_i (Term.int_eval _) c2))
  have wF0_ordinal : Fld s s.heap w0 "java/lang/Enum" "ordinal" "I" (.int (0 : Int32)) := Fld.start ((fld_at ev0).symm.trans (eqv_i (Term.int_eval _) c3))
  have wF2_ordinal : Fld s s.heap w2 "java/lang/Enum" "ordinal" "I" (.int (2 : Int32)) := Fld.start ((fld_at ev2).symm.trans (eqv_i (Term.int_eval _) r4))
  have hWd : Wd s w0 w1 w2 := ⟨wS0, wE0, wS1, wE1, wS2, wE2, wF1_ordinal, wF0_ordinal, wF2_ordinal, trivial⟩
  obtain ⟨n, o, h1, h2, h3, _, L, rfl, ⟨rfl, N⟩, hq⟩ := rm0 l s _ hw tables_1 w0 w1 w2 i0 s.heap s.heap.size hWd (Old.start s) p e ha hc hk s m _ below hf ((Spec.applies_iff_loose hf).mp happ).1 ⟨rfl, State.Warmed39.refl s, rfl⟩ trivial
  exact ⟨n, _, h1, h2, h3, hpost _ _ _ _ _ _ ⟨Cond.after_iff.mpr rfl, Cond.after_iff.mpr (eq_i res_at (Term.int_eval (1)) rfl), trivial⟩ ⟨hq.1, hq.2.1, (hq.2.2.sift fun y hy => Or.inr (N y hy)).mono (by decide) (by decide)⟩⟩
theorem main_1_1 : Claimed_1_1 := comes_1 fun _ _ _ _ _ _ h hF => ⟨h.1, hF⟩
theorem main_1_2 : Claimed_1_2 := comes_1 fun _ _ _ _ _ _ h hF => ⟨h.2.1, hF⟩
end Jvm.Pilot.@@N@@
namespace Jvm.Pilot.@@N@@
open Jvm Jvm.ClassFile Sem Op Lib Jvm.Free Jvm.Stand Jvm.Pilot.@@N@@.Jvm.D
/-! MADE BY PROGRAM (witnessworld.py) out of the Statement's table words and the real class files: 12 classes; the members and pool entries that the words name. The judged class is class 1, her method 1. -/
namespace start1
open Jvm.ClassFile
def u (s : String) : CpInfo := .utf8 (stringToUtf16 s)
/-- a pool by its gaps: so many unusable entries, then the entry; so many at the end -/
def gap : Nat → List CpInfo → List CpInfo
  | 0, r => r
  | n + 1, r => .unusable :: gap n r
def poolList (es : List (Nat × CpInfo)) (last : Nat) : List CpInfo := es.foldr (fun e r => gap e.1 (e.2 :: r)) (gap last [])
def pool (es : List (Nat × CpInfo)) (last : Nat) : Array CpInfo := ⟨poolList es last⟩
def fileOf (pool : Array CpInfo) (this : Nat) (attrs : Array Attribute := #[]) (ms : Array MethodInfo := #[]) (fl : Nat := 33) (sup : Nat := 0) (ifs : Array Nat := #[]) (fds : Array FieldInfo := #[]) : ClassFile where
  minorVersion := 0
  majorVersion := 65
  constantPool := pool
  accessFlags := fl
  thisClass := this
  superClass := sup
  interfaces := ifs
  fields := fds
  methods := ms
  attributes := attrs
def plain (name : String) (sup : Option ClassId) : Class where
  name := name
  kind := .ordinary
  loader := none
  accessFlags := 33
  super := sup
  interfaces := #[]
  cf := none
  fields := #[]
  methods := #[]
  instanceTypes := #[]
  staticTypes := #[]
  resolved := #[]
  callSites := []
  init := .initialized
  statics := none
  mirror := none

def pool0 : Array CpInfo := pool [(5, u "<init>"), (0, u "()V"), (1, .class_ 10), (1, u "java/lang/Object")] 113

def k0m0 : Method := { name := "<init>", desc := "()V", sig := { parameters := [], returnType := none }, accessFlags := 1, code := none }
/-- java/lang/Object -/
def k0 : Class := { plain "java/lang/Object" none with
  accessFlags := 33
  interfaces := #[]
  cf := some (fileOf pool0 8 #[] #[{ accessFlags := 1, nameIndex := 5, descriptorIndex := 6, attributes := #[] }] 33 0 #[] #[])
  fields := #[]
  methods := #[k0m0]
  instanceTypes := #[]
  staticTypes := #[]
  resolved := Array.replicate 124 none
  statics := none }

def pool1 : Array CpInfo := pool [(2, .class_ 4), (1, u "java/lang/Object"), (0, u "<init>"), (0, u "()V"), (0, .integer 2147483647), (0, .fieldref 9 10), (0, .class_ 11), (0, .nameAndType 12 13), (0, u "com/example/policy_to_map/policytomap/core/Truth"), (0, u "TRUE"), (0, u "Lcom/example/policy_to_map/policytomap/core/Truth;"), (0, .fieldref 9 15), (0, .nameAndType 16 13), (0, u "FALSE"), (0, .fieldref 9 18), (0, .nameAndType 19 13), (0, u "INDETERMINATE"), (0, .methodref 9 21), (0, .nameAndType 22 23), (0, u "not"), (0, u "()Lcom/example/policy_to_map/policytomap/core/Truth;"), (0, .methodref 9 25), (0, .nameAndType 26 27), (0, u "of"), (0, u "(Z)Lcom/example/policy_to_map/policytomap/core/Truth;"), (0, .class_ 29), (0, u "com/example/policy_to_map/policytomap/core/TruthNotPinLaw"), (2, u "law"), (0, u "(I)Z")] 3

def k1m0 : Method := { name := "<init>", desc := "()V", sig := { parameters := [], returnType := none }, accessFlags := 2, code := none }
def k1c1 : Code := { maxStack := 2, maxLocals := 5, code := code, exceptionTable := #[], attributes := #[] }
def k1m1 : Method := { name := "law", desc := "(I)Z", sig := { parameters := [.int], returnType := some .boolean }, accessFlags := 9, code := some k1c1 }
/-- com/example/policy_to_map/policytomap/core/TruthNotPinLaw -/
def k1 : Class := { plain "com/example/policy_to_map/policytomap/core/TruthNotPinLaw" (some 0) with
  accessFlags := 49
  interfaces := #[]
  cf := some (fileOf pool1 28 #[] #[{ accessFlags := 2, nameIndex := 5, descriptorIndex := 6, attributes := #[] }, { accessFlags := 9, nameIndex := 32, descriptorIndex := 33, attributes := #[] }] 49 2 #[] #[])
  fields := #[]
  methods := #[k1m0, k1m1]
  instanceTypes := #[]
  staticTypes := #[]
  resolved := Array.replicate 37 none
  statics := none }

def pool2 : Array CpInfo := pool [(1, .class_ 2), (0, u "java/lang/constant/Constable"), (0, .class_ 4), (0, u "java/lang/Object")] 6

/-- java/lang/constant/Constable -/
def k2 : Class := { plain "java/lang/constant/Constable" (some 0) with
  accessFlags := 1537
  interfaces := #[]
  cf := some (fileOf pool2 1 #[] #[] 1537 3 #[] #[])
  fields := #[]
  methods := #[]
  instanceTypes := #[]
  staticTypes := #[]
  resolved := Array.replicate 11 none
  statics := none }

def pool3 : Array CpInfo := pool [(1, .class_ 2), (0, u "java/lang/Comparable"), (0, .class_ 4), (0, u "java/lang/Object")] 7

/-- java/lang/Comparable -/
def k3 : Class := { plain "java/lang/Comparable" (some 0) with
  accessFlags := 1537
  interfaces := #[]
  cf := some (fileOf pool3 1 #[] #[] 1537 3 #[] #[])
  fields := #[]
  methods := #[]
  instanceTypes := #[]
  staticTypes := #[]
  resolved := Array.replicate 12 none
  statics := none }

def pool4 : Array CpInfo := pool [(1, .class_ 2), (0, u "java/io/Serializable"), (0, .class_ 4), (0, u "java/lang/Object")] 2

/-- java/io/Serializable -/
def k4 : Class := { plain "java/io/Serializable" (some 0) with
  accessFlags := 1537
  interfaces := #[]
  cf := some (fileOf pool4 1 #[] #[] 1537 3 #[] #[])
  fields := #[]
  methods := #[]
  instanceTypes := #[]
  staticTypes := #[]
  resolved := Array.replicate 7 none
  statics := none }

def pool5 : Array CpInfo := pool [(2, .class_ 4), (1, u "java/lang/Enum"), (0, u "name"), (0, u "Ljava/lang/String;"), (2, u "ordinal"), (0, u "I"), (1, .class_ 14), (1, u "java/lang/Object"), (4, u "hash"), (86, .class_ 108), (1, u "java/lang/Enum$EnumDesc"), (2, .class_ 112), (0, u "java/lang/constant/Constable"), (0, .class_ 114), (0, u "java/lang/Comparable"), (0, .class_ 116), (0, u "java/io/Serializable")] 87

/-- java/lang/Enum -/
def k5 : Class := { plain "java/lang/Enum" (some 0) with
  accessFlags := 1057
  interfaces := #[2, 3, 4]
  cf := some (fileOf pool5 2 #[.nestMembers #[106]] #[] 1057 12 #[111, 113, 115] #[{ accessFlags := 18, nameIndex := 5, descriptorIndex := 6, attributes := #[] }, { accessFlags := 18, nameIndex := 9, descriptorIndex := 10, attributes := #[] }, { accessFlags := 2, nameIndex := 19, descriptorIndex := 10, attributes := #[] }])
  fields := #[{ name := "name", type := (.object "java/lang/String"), accessFlags := 18, slot := 0, constantValue := 0 }, { name := "ordinal", type := .int, accessFlags := 18, slot := 1, constantValue := 0 }, { name := "hash", type := .int, accessFlags := 2, slot := 2, constantValue := 0 }]
  methods := #[]
  instanceTypes := #[(.object "java/lang/String"), .int, .int]
  staticTypes := #[]
  resolved := Array.replicate 204 none
  statics := none }

def pool6 : Array CpInfo := pool [(1, .class_ 2), (0, u "com/example/policy_to_map/policytomap/core/Truth"), (0, .fieldref 1 4), (0, .nameAndType 5 6), (0, u "TRUE"), (0, u "Lcom/example/policy_to_map/policytomap/core/Truth;"), (0, .fieldref 1 8), (0, .nameAndType 9 6), (0, u "FALSE"), (0, .fieldref 1 11), (0, .nameAndType 12 6), (0, u "INDETERMINATE"), (2, u "$VALUES"), (0, u "[Lcom/example/policy_to_map/policytomap/core/Truth;"), (6, .class_ 25), (1, u "java/lang/Enum"), (26, u "of"), (0, u "(Z)Lcom/example/policy_to_map/policytomap/core/Truth;"), (5, u "not"), (0, u "()Lcom/example/policy_to_map/policytomap/core/Truth;")] 4

def k6c0 : Code := { maxStack := 1, maxLocals := 1, code := prog_12_method_4_code, exceptionTable := #[], attributes := #[] }
def k6m0 : Method := { name := "of", desc := "(Z)Lcom/example/policy_to_map/policytomap/core/Truth;", sig := { parameters := [.boolean], returnType := some (.object "com/example/policy_to_map/policytomap/core/Truth") }, accessFlags := 9, code := some k6c0 }
def k6c1 : Code := { maxStack := 2, maxLocals := 1, code := prog_12_method_7_code, exceptionTable := #[], attributes := #[] }
def k6m1 : Method := { name := "not", desc := "()Lcom/example/policy_to_map/policytomap/core/Truth;", sig := { parameters := [], returnType := some (.object "com/example/policy_to_map/policytomap/core/Truth") }, accessFlags := 1, code := some k6c1 }
/-- com/example/policy_to_map/policytomap/core/Truth -/
def k6 : Class := { plain "com/example/policy_to_map/policytomap/core/Truth" (some 5) with
  accessFlags := 16433
  interfaces := #[]
  cf := some (fileOf pool6 1 #[] #[{ accessFlags := 9, nameIndex := 52, descriptorIndex := 53, attributes := #[] }, { accessFlags := 1, nameIndex := 59, descriptorIndex := 60, attributes := #[] }] 16433 23 #[] #[{ accessFlags := 16409, nameIndex := 5, descriptorIndex := 6, attributes := #[] }, { accessFlags := 16409, nameIndex := 9, descriptorIndex := 6, attributes := #[] }, { accessFlags := 16409, nameIndex := 12, descriptorIndex := 6, attributes := #[] }, { accessFlags := 4122, nameIndex := 15, descriptorIndex := 16, attributes := #[] }])
  fields := #[{ name := "TRUE", type := (.object "com/example/policy_to_map/policytomap/core/Truth"), accessFlags := 16409, slot := 0, constantValue := 0 }, { name := "FALSE", type := (.object "com/example/policy_to_map/policytomap/core/Truth"), accessFlags := 16409, slot := 1, constantValue := 0 }, { name := "INDETERMINATE", type := (.object "com/example/policy_to_map/policytomap/core/Truth"), accessFlags := 16409, slot := 2, constantValue := 0 }, { name := "$VALUES", type := (.array (.object "com/example/policy_to_map/policytomap/core/Truth")), accessFlags := 4122, slot := 3, constantValue := 0 }]
  methods := #[k6m0, k6m1]
  instanceTypes := #[(.object "java/lang/String"), .int, .int]
  staticTypes := #[(.object "com/example/policy_to_map/policytomap/core/Truth"), (.object "com/example/policy_to_map/policytomap/core/Truth"), (.object "com/example/policy_to_map/policytomap/core/Truth"), (.array (.object "com/example/policy_to_map/policytomap/core/Truth"))]
  resolved := Array.replicate 65 none
  statics := some 0 }

def pool7 : Array CpInfo := pool [(1, u "java/lang/Cloneable"), (0, .class_ 1), (0, u "java/lang/Object"), (0, .class_ 3)] 3

/-- java/lang/Cloneable -/
def k7 : Class := { plain "java/lang/Cloneable" (some 0) with
  accessFlags := 1537
  interfaces := #[]
  cf := some (fileOf pool7 2 #[] #[] 1537 4 #[] #[])
  fields := #[]
  methods := #[]
  instanceTypes := #[]
  staticTypes := #[]
  resolved := Array.replicate 8 none
  statics := none }

/-- the primitive byte -/
def k8 : Class := { plain "byte" none with kind := .primitive 'B', accessFlags := 0x411 }
/-- [B -/
def k9 : Class := { plain "[B" (some 0) with kind := .array 8 .byte, interfaces := #[7, 4], accessFlags := 1041 }

/-- the primitive int -/
def k10 : Class := { plain "int" none with kind := .primitive 'I', accessFlags := 0x411 }
/-- [I -/
def k11 : Class := { plain "[I" (some 0) with kind := .array 10 .int, interfaces := #[7, 4], accessFlags := 1041 }

def heap : Heap := #[{ cls := 6, slots := #[.ref 1, .ref 2, .ref 3, .null], vm := .statics 6 },
  { cls := 6, slots := #[.null, .int 0, .int 0], vm := .none },
  { cls := 6, slots := #[.null, .int 1, .int 0], vm := .none },
  { cls := 6, slots := #[.null, .int 2, .int 0], vm := .none }]
def classes : Array Class := #[k0, k1, k2, k3, k4, k5, k6, k7, k8, k9, k10, k11]
def interned : List (Array UInt16 × Addr) := []
def slotsUsed : Nat := 13
def theMethod : MethodId := ⟨1, 1⟩
def args0 : Array Value := #[.int 5]
def aboutOver (below : List Frame) : State where
  vm := { classes := classes, interned := interned.toArray }
  heap := heap
  slotsUsed := slotsUsed
  threads := #[{ frames := .invoking theMethod args0 :: below }]
def below0 : List Frame := [.native { method := ⟨0, 0⟩, args := #[] }]
def about1 : State := aboutOver below0
def p0 : Program := .bare "" "" ""
def e0 : Env := launch0.env 0 0 0
theorem w_frames : about1.frames = Frame.invoking theMethod args0 :: below0 := rfl
set_option maxRecDepth 65536 in
theorem w_args : argsFit about1.vm theMethod args0 = true := by decide +kernel
set_option maxRecDepth 65536 in
theorem w_heap : heapFits about1 = true := by decide +kernel
set_option maxRecDepth 65536 in
theorem w_runnable : about1.curStatus? = some .runnable := by decide +kernel
set_option maxRecDepth 65536 in
theorem w_alone : about1.alone = true := by decide +kernel
set_option maxRecDepth 65536 in
theorem w_named : about1.methodNamed? x = some theMethod := by decide +kernel
set_option maxRecDepth 65536 in
theorem w_hears : about1.hears theMethod below0 = true := by decide +kernel
set_option maxRecDepth 65536 in
theorem w_ripe : about1.ripe theMethod args0 below0 = true := by decide +kernel
theorem w_running : about1.status = .running := rfl
set_option maxRecDepth 65536 in
theorem w_room : about1.hasRoom e0.platform room_1 = true :=
  launch0.hasRoom_least _ room_1 (by decide +kernel) (by decide +kernel) (by decide +kernel) (by decide +kernel) (by decide +kernel) (by decide +kernel)
theorem allAtoms_all (ts : List Jvm.Cond) (a : Array Jvm.Value) (st : Jvm.State) : (allAtoms ts).before a st = ts.all (fun c => c.before a st) := by
  induction ts with
  | nil => rfl
  | cons c t ih =>
    show (Jvm.Cond.and c (allAtoms t)).before a st = _
    rw [Jvm.Cond.before_and, ih, List.all_cons]
def words1 : List Jvm.Cond := Jvm.Cond.code x code maxLocals ret :: tables_1
/-- a 'code' word, met by the world's own term for the bytes: nothing is compared byte by byte -/
theorem code_word {y : MethodName} {bytes : ByteArray} {mx : Nat} {rt : Option FieldType} {a : Array Value} {s : State} {m : MethodId} {meth : Method} {c : Code} (h1 : s.methodNamed? y = some m) (h2 : s.vm.method? m = some meth) (h3 : meth.code = some c) (h4 : c.code = bytes)
    (h5 : (c.maxLocals == mx && c.exceptionTable.isEmpty && decide (c.maxStack ≤ mostOperands) && decide (meth.sig.returnType = rt) && !meth.locks && decide (parseMethodDescriptor y.desc = some meth.sig)) = true) : (Jvm.Cond.code y bytes mx rt).before a s = true := by
  simp only [Bool.and_eq_true, beq_iff_eq, Bool.not_eq_true', decide_eq_true_eq] at h5
  obtain ⟨⟨⟨⟨⟨g1, g2⟩, g3⟩, g4⟩, g5⟩, g6⟩ := h5
  simp [Cond.before, Cond.holds, Cond.value, h1, h2, h3, h4, g1, g2, g3, g4, g5, g6]
def isCode : Jvm.Cond → Bool
  | .code _ _ _ _ => true
  | _ => false
theorem all_split {L : List Jvm.Cond} {P : Jvm.Cond → Bool} (h1 : L.all (fun c => isCode c || P c) = true) (h2 : ∀ c ∈ L.filter isCode, P c = true) : L.all P = true := by
  refine List.all_eq_true.mpr fun c hc => ?_
  have h := List.all_eq_true.mp h1 c hc
  rcases Bool.eq_false_or_eq_true (isCode c) with hi | hi
  · exact h2 c (List.mem_filter.mpr ⟨hc, hi⟩)
  · simpa [hi] using h
set_option maxRecDepth 65536 in
theorem w_c0 : (Jvm.Cond.code x code maxLocals ret).before args0 about1 = true := code_word (m := ⟨1, 1⟩) (meth := k1m1) (c := k1c1) (by decide +kernel) rfl rfl rfl (by decide +kernel)
set_option maxRecDepth 65536 in
theorem w_c1 : (Jvm.Cond.code ({ cls := "com/example/policy_to_map/policytomap/core/Truth", name := "not", desc := "()Lcom/example/policy_to_map/policytomap/core/Truth;" } : Jvm.MethodName) prog_12_method_7_code (1 : Nat) (Option.some (Jvm.ClassFile.FieldType.object "com/example/policy_to_map/policytomap/core/Truth"))).before args0 about1 = true := code_word (m := ⟨6, 1⟩) (meth := k6m1) (c := k6c1) (by decide +kernel) rfl rfl rfl (by decide +kernel)
set_option maxRecDepth 65536 in
theorem w_c2 : (Jvm.Cond.code ({ cls := "com/example/policy_to_map/policytomap/core/Truth", name := "of", desc := "(Z)Lcom/example/policy_to_map/policytomap/core/Truth;" } : Jvm.MethodName) prog_12_method_4_code (1 : Nat) (Option.some (Jvm.ClassFile.FieldType.object "com/example/policy_to_map/policytomap/core/Truth"))).before args0 about1 = true := code_word (m := ⟨6, 0⟩) (meth := k6m0) (c := k6c0) (by decide +kernel) rfl rfl rfl (by decide +kernel)
def codes1 : List Jvm.Cond := [Jvm.Cond.code x code maxLocals ret, Jvm.Cond.code ({ cls := "com/example/policy_to_map/policytomap/core/Truth", name := "not", desc := "()Lcom/example/policy_to_map/policytomap/core/Truth;" } : Jvm.MethodName) prog_12_method_7_code (1 : Nat) (Option.some (Jvm.ClassFile.FieldType.object "com/example/policy_to_map/policytomap/core/Truth")), Jvm.Cond.code ({ cls := "com/example/policy_to_map/policytomap/core/Truth", name := "of", desc := "(Z)Lcom/example/policy_to_map/policytomap/core/Truth;" } : Jvm.MethodName) prog_12_method_4_code (1 : Nat) (Option.some (Jvm.ClassFile.FieldType.object "com/example/policy_to_map/policytomap/core/Truth"))]
set_option maxRecDepth 65536 in
theorem codes_eq : words1.filter isCode = codes1 := rfl
theorem w_codes : ∀ c ∈ words1.filter isCode, c.before args0 about1 = true := by
  rw [codes_eq]
  intro c hc
  simp only [codes1, List.mem_cons, List.not_mem_nil, or_false] at hc
  rcases hc with rfl | rfl | rfl
  · exact w_c0
  · exact w_c1
  · exact w_c2
set_option maxRecDepth 65536 in
theorem w_t1 : words1.all (fun c => isCode c || c.before args0 about1) = true := by decide +kernel
theorem w_tables : (allAtoms (Jvm.Cond.code x code maxLocals ret :: tables_1)).before args0 about1 = true := by
  rw [allAtoms_all]
  show words1.all (fun c => c.before args0 about1) = true
  refine all_split ?_ w_codes
  rw [w_t1]
set_option maxRecDepth 65536 in
theorem w_case : (Jvm.Cond.and given_1 narrow_1).before args0 about1 = true := by decide +kernel
theorem w_applies : (headSpec (Jvm.Cond.code x code maxLocals ret :: tables_1) room_1).applies x e0.platform about1 = true :=
  (Spec.applies_iff w_frames).mpr ⟨w_running, w_runnable, w_alone, w_named, w_hears, w_ripe, w_room, w_tables⟩
theorem atStart : AtStart classFile x code maxLocals ret World_1 tables_1 room_1 Calls_1 rest_1 Pre_1 launch0 p0 e0 about1 theMethod args0 below0 :=
  ⟨lists_1, trivial, launch0.admits_env _ _ _, launch0.least_env, fairChoices_fair.cas, fairChoices_fair.clock, w_frames, w_args, w_heap, w_applies, trivial, trivial, w_case⟩
end start1
theorem witness_1 : WitnessClaimed_1 := ⟨start1.p0, start1.e0, start1.about1, start1.theMethod, start1.args0, start1.below0, start1.atStart⟩
end Jvm.Pilot.@@N@@
