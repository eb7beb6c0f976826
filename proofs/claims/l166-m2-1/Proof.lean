import JvmDerived
import JvmDerived.Pilot.@@N@@Statement
import JvmDerived.Pilot.@@N@@Code
set_option linter.unusedVariables false
set_option linter.unusedSimpArgs false
namespace Jvm.Pilot.@@N@@
open Jvm Jvm.ClassFile Sem Op Lib Jvm.Free Jvm.Stand Jvm.LawKit Jvm.RoadKit Bundle Jvm.Pilot.@@N@@.Jvm.D
theorem own_ofNat {y : Int32} {n : Nat} (h : y.toBitVec.toNat = n) : y = Int32.ofNat n := by
  subst h
  apply Int32.toBitVec_inj.mp
  apply BitVec.eq_of_toNat_eq
  simp
theorem own_and_le (x m : Int32) : (x &&& m).toBitVec.toNat ≤ m.toBitVec.toNat := by
  rw [Int32.toBitVec_and, BitVec.toNat_and]; exact Nat.and_le_right
theorem own_nonneg (x : Int32) : 0 ≤ (x &&& (2147483647 : Int32)).toInt := by
  have h := own_and_le x 2147483647
  have e : (2147483647 : Int32).toBitVec.toNat = 2147483647 := by decide
  rw [e] at h
  have : (x &&& (2147483647 : Int32)).toInt = (x &&& (2147483647 : Int32)).toBitVec.toInt := rfl
  rw [this, BitVec.toInt_eq_toNat_cond, if_pos (by omega)]
  omega
theorem own_rem_6 (x : Int32) : ((x &&& (2147483647 : Int32)) % (6 : Int32)) = (0 : Int32) ∨ ((x &&& (2147483647 : Int32)) % (6 : Int32)) = (1 : Int32) ∨ ((x &&& (2147483647 : Int32)) % (6 : Int32)) = (2 : Int32) ∨ ((x &&& (2147483647 : Int32)) % (6 : Int32)) = (3 : Int32) ∨ ((x &&& (2147483647 : Int32)) % (6 : Int32)) = (4 : Int32) ∨ ((x &&& (2147483647 : Int32)) % (6 : Int32)) = (5 : Int32) := by
  have h := own_nonneg x
  generalize x &&& (2147483647 : Int32) = y at h ⊢
  have e : (y % (6 : Int32)).toInt = y.toInt.tmod 6 := by rw [Int32.toInt_mod]; rfl
  have e1 : y.toInt.tmod 6 = y.toInt % 6 := Int.tmod_eq_emod_of_nonneg h
  have q : (y % (6 : Int32)).toInt = 0 ∨ (y % (6 : Int32)).toInt = 1 ∨ (y % (6 : Int32)).toInt = 2 ∨ (y % (6 : Int32)).toInt = 3 ∨ (y % (6 : Int32)).toInt = 4 ∨ (y % (6 : Int32)).toInt = 5 := by omega
  rcases q with q | q | q | q | q | q
  · exact Or.inl (Int32.toInt_inj.mp (q.trans (by decide)))
  · exact Or.inr (Or.inl (Int32.toInt_inj.mp (q.trans (by decide))))
  · exact Or.inr (Or.inr (Or.inl (Int32.toInt_inj.mp (q.trans (by decide)))))
  · exact Or.inr (Or.inr (Or.inr (Or.inl (Int32.toInt_inj.mp (q.trans (by decide))))))
  · exact Or.inr (Or.inr (Or.inr (Or.inr (Or.inl (Int32.toInt_inj.mp (q.trans (by decide)))))))
  · exact Or.inr (Or.inr (Or.inr (Or.inr (Or.inr (Int32.toInt_inj.mp (q.trans (by decide)))))))
theorem own_m30 (x : Int32) : 0 ≤ (x &&& (1073741823 : Int32)).toInt ∧ (x &&& (1073741823 : Int32)).toInt ≤ 1073741823 := by
  have h := own_and_le x 1073741823
  have e : (1073741823 : Int32).toBitVec.toNat = 1073741823 := by decide
  rw [e] at h
  have : (x &&& (1073741823 : Int32)).toInt = (x &&& (1073741823 : Int32)).toBitVec.toInt := rfl
  rw [this, BitVec.toInt_eq_toNat_cond, if_pos (by omega)]
  omega
theorem own_below (x : Int32) : ((-1 : Int32) - (x &&& (1073741823 : Int32))) < (0 : Int32) ∧ ¬ ((0 : Int32) < ((-1 : Int32) - (x &&& (1073741823 : Int32)))) ∧ ¬ (((-1 : Int32) - (x &&& (1073741823 : Int32))) = (0 : Int32)) := by
  obtain ⟨h1, h2⟩ := own_m30 x
  generalize x &&& (1073741823 : Int32) = y at h1 h2 ⊢
  have e0 : (0 : Int32).toInt = 0 := by decide
  have e1 : (-1 : Int32).toInt = -1 := by decide
  have e : ((-1 : Int32) - y).toInt = -1 - y.toInt := by
    rw [Int32.toInt_sub, e1, Int.bmod_eq_of_le (by omega) (by omega)]
  simp only [Int32.lt_iff_toInt_lt, ← Int32.toInt_inj, e0, e]
  omega
theorem own_above (x : Int32) : ¬ (((1 : Int32) + (x &&& (1073741823 : Int32))) < (0 : Int32)) ∧ (0 : Int32) < ((1 : Int32) + (x &&& (1073741823 : Int32))) ∧ ¬ (((1 : Int32) + (x &&& (1073741823 : Int32))) = (0 : Int32)) := by
  obtain ⟨h1, h2⟩ := own_m30 x
  generalize x &&& (1073741823 : Int32) = y at h1 h2 ⊢
  have e0 : (0 : Int32).toInt = 0 := by decide
  have e1 : (1 : Int32).toInt = 1 := by decide
  have e : ((1 : Int32) + y).toInt = 1 + y.toInt := by
    rw [Int32.toInt_add, e1, Int.bmod_eq_of_le (by omega) (by omega)]
  simp only [Int32.lt_iff_toInt_lt, ← Int32.toInt_inj, e0, e]
  omega
def Wd (Z : State) (w0 w1 w2 w3 w4 w5 : Addr) : Prop := (Sta Z Z.heap "com/example/libgate/libgate/Condition$Operator" "LESS" "Lcom/example/libgate/libgate/Condition$Operator;" (.ref w0)) ∧ (Exa Z Z.heap w0 "com/example/libgate/libgate/Condition$Operator") ∧ (Sta Z Z.heap "com/example/libgate/libgate/Condition$Operator" "EQUAL" "Lcom/example/libgate/libgate/Condition$Operator;" (.ref w1)) ∧ (Exa Z Z.heap w1 "com/example/libgate/libgate/Condition$Operator") ∧ (Sta Z Z.heap "com/example/libgate/libgate/Condition$Operator" "NOT_EQUAL" "Lcom/example/libgate/libgate/Condition$Operator;" (.ref w2)) ∧ (Exa Z Z.heap w2 "com/example/libgate/libgate/Condition$Operator") ∧ (Sta Z Z.heap "com/example/libgate/libgate/Condition$Operator" "LESS_OR_EQUAL" "Lcom/example/libgate/libgate/Condition$Operator;" (.ref w3)) ∧ (Exa Z Z.heap w3 "com/example/libgate/libgate/Condition$Operator") ∧ (Sta Z Z.heap "com/example/libgate/libgate/Condition$Operator" "GREATER" "Lcom/example/libgate/libgate/Condition$Operator;" (.ref w4)) ∧ (Exa Z Z.heap w4 "com/example/libgate/libgate/Condition$Operator") ∧ (Sta Z Z.heap "com/example/libgate/libgate/Condition$Operator" "GREATER_OR_EQUAL" "Lcom/example/libgate/libgate/Condition$Operator;" (.ref w5)) ∧ (Exa Z Z.heap w5 "com/example/libgate/libgate/Condition$Operator") ∧ (Fld Z Z.heap w0 "java/lang/Enum" "ordinal" "I" (.int (0 : Int32))) ∧ (Fld Z Z.heap w1 "java/lang/Enum" "ordinal" "I" (.int (4 : Int32))) ∧ (Fld Z Z.heap w2 "java/lang/Enum" "ordinal" "I" (.int (5 : Int32))) ∧ (Fld Z Z.heap w3 "java/lang/Enum" "ordinal" "I" (.int (1 : Int32))) ∧ (Fld Z Z.heap w4 "java/lang/Enum" "ordinal" "I" (.int (2 : Int32))) ∧ (Fld Z Z.heap w5 "java/lang/Enum" "ordinal" "I" (.int (3 : Int32))) ∧ True
def Qp (r : Option Value) (h0 : Heap) (n0 : Nat) (v : Option Value) (h : Heap) (L : List Loc) : Prop := v = r ∧ Fr n0 L ∧ h = h0
def Ql (n0 : Nat) (v : Option Value) (h : Heap) (L : List Loc) : Prop := v = some (.int (1 : Int32)) ∧ Fr n0 L
theorem d_method_3_code_0 : decode method_3_code 0 = .ok (.iload_n 0, 1) := by decide +kernel
theorem d_method_3_code_1 : decode method_3_code 1 = .ok (.ifCond .ne 7, 3) := by decide +kernel
theorem d_method_3_code_4 : decode method_3_code 4 = .ok (.getstatic 25, 3) := by decide +kernel
theorem d_method_3_code_7 : decode method_3_code 7 = .ok (.areturn, 1) := by decide +kernel
theorem pn0 : plainName "com/example/libgate/libgate/OperatorIsEqualityPinLaw" = true := by first | (simp [plainName, overriddenIn]; done) | decide +kernel
theorem ef0 (m : MethodId)    : entryFrame m #[(.int (0 : Int32))] 1 = mkF m 0 #[.val (.int (0 : Int32))] [] := by first | (simp [entryFrame, mkF, argsToLocals, Value.category]; done) | rfl
set_option maxRecDepth 65536 in
set_option maxHeartbeats 40000000 in
theorem rm1 (l : Launch) (Z : State) (a0 : Array Value) (hw : ∀ d ∈ tables_1, d.before a0 Z = true) (ws : List Jvm.Cond) (w0 w1 w2 w3 w4 w5 : Addr) (h0 : Heap) (n0 : Nat) (hWd : Wd Z w0 w1 w2 w3 w4 w5) (O0 : Old Z n0 h0) :
    MetFree l (⟨"com/example/libgate/libgate/OperatorIsEqualityPinLaw", "pickOp", "(I)Lcom/example/libgate/libgate/Condition$Operator;"⟩ : MethodName) (head1 (Jvm.Cond.code (⟨"com/example/libgate/libgate/OperatorIsEqualityPinLaw", "pickOp", "(I)Lcom/example/libgate/libgate/Condition$Operator;"⟩ : MethodName) method_3_code 1 (some (.object "com/example/libgate/libgate/Condition$Operator")) :: ws) ({ frames := 0, cells := 0, slots := 0, locals := 0 } : Room)) (fun a U => a = #[(.int (0 : Int32))] ∧ Z.Warmed39 U.vm ∧ U.heap = h0) (fun _ _ _ _ _ => True) (fun _ U o U' => ∃ v L, o = .returned v ∧ Qp (some (.ref w0)) h0 n0 v U'.heap L ∧ FrameEnd U o U' L ({ frames := 0, cells := 0, slots := 0, locals := 0 } : Room).cells ({ frames := 0, cells := 0, slots := 0, locals := 0 } : Room).slots) := by
  refine MetFree.of_bodySF (plainFor_of_name pn0) hisR ?_
  intro p e s m args below meth c s₁ Bd hml0 hP hK
  obtain ⟨rfl, hZ, hh⟩ := hP
  have hx := Bd.exec
  have hby := Bd.bytes
  have hml : c.maxLocals = 1 := hml0
  have hown : s.vm.findClass "com/example/libgate/libgate/OperatorIsEqualityPinLaw" = some m.cls := findClass_of_methodNamed Bd.named
  have hnm := (name_of_methodNamed Bd.named Bd.method).1
  have X0 : Stand p l e ({ frames := 0, cells := 0, slots := 0, locals := 0 } : Room) s m #[(.int (0 : Int32))] below meth c s₁ [] 0 0 := Stand.of_body Bd
  have e0 : s₁.heap = h0 := by rw [← hh, Bd.state]; rfl
  have N0 := Fr.nil n0
  have hlk := Bd.notSynchronized
  obtain ⟨wS0, wE0, wS1, wE1, wS2, wE2, wS3, wE3, wS4, wE4, wS5, wE5, wF0_ordinal, wF1_ordinal, wF2_ordinal, wF3_ordinal, wF4_ordinal, wF5_ordinal, -⟩ := id hWd
  have pre0 : ∀ t, Steps p.tables e below (s₁.setTop (mkF m 0 #[.val (.int (0 : Int32))] [])) t → Steps p.tables e below (s₁.setTop (entryFrame m #[(.int (0 : Int32))] 1)) t := fun t k => castTop (ef0 m ) k
  obtain ⟨T8, X8, e8, st8⟩ := getS2 X0 hx hZ hown (host := "") (Or.inl (hw _ (List.mem_of_getElem? (i := 5) rfl))) Via.refl e0 (wS0.ext O0.2) (g := (mkF m 4 #[.val (.int (0 : Int32))] [])) rfl (hb hby d_method_3_code_4)
  obtain ⟨fs, hr, hrun, hended, hWr, hsame⟩ := X8.leave (v := some (.ref w0)) (fun h => by rw [Bd.returns] at h; cases h) hlk
  refine ⟨_, _, pre0 _ ?_, hrun, hended, _, _, rfl, ?_, ⟨_, rfl⟩, hWr, hsame.mono (Nat.le_of_ble_eq_true rfl) (Nat.le_of_ble_eq_true rfl)⟩
  · show Steps p.tables e below (s₁.setTop (mkF m 0 #[.val (.int (0 : Int32))] [])) _
    refine XS.iloadN X0.here hx rfl (hb hby d_method_3_code_0) rfl ?_
    show Steps p.tables e below (s₁.setTop (mkF m 1 #[.val (.int (0 : Int32))] [(.int (0 : Int32))])) _
    refine XS.ifNo X0.here hx rfl (hb hby d_method_3_code_1) rfl (by decide) ?_
    show Steps p.tables e below (s₁.setTop (mkF m 4 #[.val (.int (0 : Int32))] [])) _
    refine st8 _ ?_
    show Steps p.tables e below (T8.setTop (mkF m 7 #[.val (.int (0 : Int32))] [(.ref w0)])) _
    exact retOut X8 hx (t := (.object "com/example/libgate/libgate/Condition$Operator")) (i := .areturn) Bd.returns rfl (Or.inr (Or.inr (Or.inr (Or.inr ⟨rfl, rfl, rfl⟩)))) (hb hby d_method_3_code_7) hr
  · show Qp (some (.ref w0)) h0 n0 _ T8.heap _
    rw [e8]
    exact ⟨rfl, N0, rfl⟩
theorem pd0 : parseMethodDescriptor "(I)Lcom/example/libgate/libgate/Condition$Operator;" = some ⟨[.int], some (.object "com/example/libgate/libgate/Condition$Operator")⟩ := by decide +kernel
theorem d_prog_17_method_6_code_0 : decode prog_17_method_6_code 0 = .ok (.aload_n 0, 1) := by decide +kernel
theorem d_prog_17_method_6_code_1 : decode prog_17_method_6_code 1 = .ok (.invokevirtual 45, 3) := by decide +kernel
theorem d_jdk_37_method_2_code_0 : decode jdk_37_method_2_code 0 = .ok (.aload_n 0, 1) := by decide +kernel
theorem d_jdk_37_method_2_code_1 : decode jdk_37_method_2_code 1 = .ok (.getfield 7, 3) := by decide +kernel
theorem d_jdk_37_method_2_code_4 : decode jdk_37_method_2_code 4 = .ok (.ireturn, 1) := by decide +kernel
theorem pn1 : plainName "java/lang/Enum" = true := by first | (simp [plainName, overriddenIn]; done) | decide +kernel
theorem ef1 (m : MethodId)   (w0 : Addr) : entryFrame m #[(.ref w0)] 1 = mkF m 0 #[.val (.ref w0)] [] := by first | (simp [entryFrame, mkF, argsToLocals, Value.category]; done) | rfl
set_option maxRecDepth 65536 in
set_option maxHeartbeats 40000000 in
theorem rm3 (l : Launch) (Z : State) (a0 : Array Value) (hw : ∀ d ∈ tables_1, d.before a0 Z = true) (ws : List Jvm.Cond) (w0 w1 w2 w3 w4 w5 : Addr) (h0 : Heap) (n0 : Nat) (hWd : Wd Z w0 w1 w2 w3 w4 w5) (O0 : Old Z n0 h0) :
    MetFree l (⟨"java/lang/Enum", "ordinal", "()I"⟩ : MethodName) (head1 (Jvm.Cond.code (⟨"java/lang/Enum", "ordinal", "()I"⟩ : MethodName) jdk_37_method_2_code 1 (some .int) :: ws) ({ frames := 0, cells := 0, slots := 0, locals := 0 } : Room)) (fun a U => a = #[(.ref w0)] ∧ Z.Warmed39 U.vm ∧ U.heap = h0) (fun _ _ _ _ _ => True) (fun _ U o U' => ∃ v L, o = .returned v ∧ Qp (some (.int (0 : Int32))) h0 n0 v U'.heap L ∧ FrameEnd U o U' L ({ frames := 0, cells := 0, slots := 0, locals := 0 } : Room).cells ({ frames := 0, cells := 0, slots := 0, locals := 0 } : Room).slots) := by
  refine MetFree.of_bodySF (plainFor_of_name pn1) hisR ?_
  intro p e s m args below meth c s₁ Bd hml0 hP hK
  obtain ⟨rfl, hZ, hh⟩ := hP
  have hx := Bd.exec
  have hby := Bd.bytes
  have hml : c.maxLocals = 1 := hml0
  have hown : s.vm.findClass "java/lang/Enum" = some m.cls := findClass_of_methodNamed Bd.named
  have hnm := (name_of_methodNamed Bd.named Bd.method).1
  have X0 : Stand p l e ({ frames := 0, cells := 0, slots := 0, locals := 0 } : Room) s m #[(.ref w0)] below meth c s₁ [] 0 0 := Stand.of_body Bd
  have e0 : s₁.heap = h0 := by rw [← hh, Bd.state]; rfl
  have N0 := Fr.nil n0
  have hlk := Bd.notSynchronized
  obtain ⟨wS0, wE0, wS1, wE1, wS2, wE2, wS3, wE3, wS4, wE4, wS5, wE5, wF0_ordinal, wF1_ordinal, wF2_ordinal, wF3_ordinal, wF4_ordinal, wF5_ordinal, -⟩ := id hWd
  have pre0 : ∀ t, Steps p.tables e below (s₁.setTop (mkF m 0 #[.val (.ref w0)] [])) t → Steps p.tables e below (s₁.setTop (entryFrame m #[(.ref w0)] 1)) t := fun t k => castTop (ef1 m w0) k
  obtain ⟨T12, X12, e12, st12⟩ := getF X0 hx hZ hown (host := "") (Or.inl (hw _ (List.mem_of_getElem? (i := 21) rfl))) Via.refl e0 (wF0_ordinal.ext O0.2) (g := (mkF m 1 #[.val (.ref w0)] [(.ref w0)])) rfl rfl (hb hby d_jdk_37_method_2_code_1)
  obtain ⟨fs, hr, hrun, hended, hWr, hsame⟩ := X12.leave (v := some (.int (0 : Int32))) (fun h => by rw [Bd.returns] at h; cases h) hlk
  refine ⟨_, _, pre0 _ ?_, hrun, hended, _, _, rfl, ?_, ⟨_, rfl⟩, hWr, hsame.mono (Nat.le_of_ble_eq_true rfl) (Nat.le_of_ble_eq_true rfl)⟩
  · show Steps p.tables e below (s₁.setTop (mkF m 0 #[.val (.ref w0)] [])) _
    refine XS.aloadN X0.here hx rfl (hb hby d_jdk_37_method_2_code_0) rfl rfl ?_
    show Steps p.tables e below (s₁.setTop (mkF m 1 #[.val (.ref w0)] [(.ref w0)])) _
    refine st12 _ ?_
    show Steps p.tables e below (T12.setTop (mkF m 4 #[.val (.ref w0)] [(.int (0 : Int32))])) _
    exact retOut X12 hx (t := .int) (i := .ireturn) Bd.returns rfl (Or.inl ⟨rfl, Or.inl rfl, _, rfl⟩) (hb hby d_jdk_37_method_2_code_4) hr
  · show Qp (some (.int (0 : Int32))) h0 n0 _ T12.heap _
    rw [e12]
    exact ⟨rfl, N0, rfl⟩
theorem pd1 : parseMethodDescriptor "()I" = some ⟨[], some .int⟩ := by decide +kernel
theorem d_prog_17_method_6_code_4 : decode prog_17_method_6_code 4 = .ok (.tableswitch 40 0 5 #[50, 62, 74, 86, 98, 110], 40) := by decide +kernel
theorem d_prog_17_method_6_code_54 : decode prog_17_method_6_code 54 = .ok (.iload_n 1, 1) := by decide +kernel
theorem d_prog_17_method_6_code_55 : decode prog_17_method_6_code 55 = .ok (.ifCond .ge 7, 3) := by decide +kernel
theorem d_prog_17_method_6_code_58 : decode prog_17_method_6_code 58 = .ok (.iconst 1, 1) := by decide +kernel
theorem d_prog_17_method_6_code_59 : decode prog_17_method_6_code 59 = .ok (.goto 64, 3) := by decide +kernel
theorem d_prog_17_method_6_code_123 : decode prog_17_method_6_code 123 = .ok (.ireturn, 1) := by decide +kernel
theorem pn2 : plainName "com/example/libgate/libgate/Condition$Operator" = true := by first | (simp [plainName, overriddenIn]; done) | decide +kernel
theorem ef2 (m : MethodId) (p1 : Int32)  (w0 : Addr) : entryFrame m #[(.ref w0), (.int p1)] 2 = mkF m 0 #[.val (.ref w0), .val (.int p1)] [] := by first | (simp [entryFrame, mkF, argsToLocals, Value.category]; done) | rfl
set_option maxRecDepth 65536 in
set_option maxHeartbeats 40000000 in
theorem rm2 (l : Launch) (Z : State) (a0 : Array Value) (hw : ∀ d ∈ tables_1, d.before a0 Z = true) (ws : List Jvm.Cond) (w0 w1 w2 w3 w4 w5 : Addr) (p1 : Int32) (h0 : Heap) (n0 : Nat) (hWd : Wd Z w0 w1 w2 w3 w4 w5) (O0 : Old Z n0 h0) (rl0 : p1 < (0 : Int32)) (rl1 : ¬ ((0 : Int32) < p1)) (rl2 : ¬ (p1 = (0 : Int32))) :
    MetFree l (⟨"com/example/libgate/libgate/Condition$Operator", "holds", "(I)Z"⟩ : MethodName) (head1 (Jvm.Cond.code (⟨"com/example/libgate/libgate/Condition$Operator", "holds", "(I)Z"⟩ : MethodName) prog_17_method_6_code 2 (some .boolean) :: ws) ({ frames := 1, cells := 0, slots := 0, locals := 12 } : Room)) (fun a U => a = #[(.ref w0), (.int p1)] ∧ Z.Warmed39 U.vm ∧ U.heap = h0) (fun _ _ _ _ _ => True) (fun _ U o U' => ∃ v L, o = .returned v ∧ Qp (some (.int (1 : Int32))) h0 n0 v U'.heap L ∧ FrameEnd U o U' L ({ frames := 1, cells := 0, slots := 0, locals := 12 } : Room).cells ({ frames := 1, cells := 0, slots := 0, locals := 12 } : Room).slots) := by
  refine MetFree.of_bodySF (plainFor_of_name pn2) hisR ?_
  intro p e s m args below meth c s₁ Bd hml0 hP hK
  obtain ⟨rfl, hZ, hh⟩ := hP
  have hx := Bd.exec
  have hby := Bd.bytes
  have hml : c.maxLocals = 2 := hml0
  have hown : s.vm.findClass "com/example/libgate/libgate/Condition$Operator" = some m.cls := findClass_of_methodNamed Bd.named
  have hnm := (name_of_methodNamed Bd.named Bd.method).1
  have X0 : Stand p l e ({ frames := 1, cells := 0, slots := 0, locals := 12 } : Room) s m #[(.ref w0), (.int p1)] below meth c s₁ [] 0 0 := Stand.of_body Bd
  have e0 : s₁.heap = h0 := by rw [← hh, Bd.state]; rfl
  have N0 := Fr.nil n0
  have hlk := Bd.notSynchronized
  obtain ⟨wS0, wE0, wS1, wE1, wS2, wE2, wS3, wE3, wS4, wE4, wS5, wE5, wF0_ordinal, wF1_ordinal, wF2_ordinal, wF3_ordinal, wF4_ordinal, wF5_ordinal, -⟩ := id hWd
  have pre0 : ∀ t, Steps p.tables e below (s₁.setTop (mkF m 0 #[.val (.ref w0), .val (.int p1)] [])) t → Steps p.tables e below (s₁.setTop (entryFrame m #[(.ref w0), (.int p1)] 2)) t := fun t k => castTop (ef2 m p1 w0) k
  obtain ⟨cq13, kq13, q13a, q13b, q13c⟩ := isOf hZ e0 (wE0.ext O0.2)
  obtain ⟨_, _, ⟨T13, L13, k13, n13⟩, -, X13, ⟨Lc13, hQ13, l13, y13, z13⟩, st13⟩ := X0.virtualBackUp hx (owner := "java/lang/Enum") (x := (⟨"com/example/libgate/libgate/Condition$Operator", "ordinal", "()I"⟩ : MethodName)) (y := (⟨"java/lang/Enum", "ordinal", "()I"⟩ : MethodName)) hown (mvT hZ (hw _ (List.mem_of_getElem? (i := 14) rfl))) (mvT hZ (hw _ (List.mem_of_getElem? (i := 15) rfl))) (mvT hZ (hw _ (List.mem_of_getElem? (i := 16) rfl))) (by decide) (mvT hZ (hw _ (List.mem_of_getElem? (i := 18) rfl))) (mvT hZ (hw _ (List.mem_of_getElem? (i := 17) rfl))) (backOf (W := 0) (rm3 l Z a0 hw [] w0 w1 w2 w3 w4 w5 h0 n0 hWd O0) hZ (hw _ (List.mem_of_getElem? (i := 20) rfl)) (hw _ (List.mem_of_getElem? (i := 19) rfl)) (by decide) (by decide)) q13a q13c (g := (mkF m 1 #[.val (.ref w0), .val (.int p1)] [(.ref w0)])) rfl (by rw [hml]; rfl) (Steps.refl _) (argsL := []) (rest := []) (lenOf pd1 rfl) rfl (by show 2 * 0 + _ ≤ _; exact Nat.le_of_eq rfl) (hb hby d_prog_17_method_6_code_1) (fun _ _ => ⟨rfl, e0, (by decide : 0 + 0 ≤ _), (by decide : 0 + 0 ≤ _)⟩)
  dsimp only [Pt.U, Pt.locs, Pt.cells, Pt.slots] at X13 l13 y13 z13 st13 hQ13
  subst l13 y13 z13
  obtain ⟨rfl, N13q, e13⟩ := hQ13
  have N13 := Fr.app N0 N13q
  obtain ⟨fs, hr, hrun, hended, hWr, hsame⟩ := X13.leave (v := some (.int (1 : Int32))) (fun h => by rw [Bd.returns] at h; cases h) hlk
  refine ⟨_, _, pre0 _ ?_, hrun, hended, _, _, rfl, ?_, ⟨_, rfl⟩, hWr, hsame.mono (Nat.le_of_ble_eq_true rfl) (Nat.le_of_ble_eq_true rfl)⟩
  · show Steps p.tables e below (s₁.setTop (mkF m 0 #[.val (.ref w0), .val (.int p1)] [])) _
    refine XS.aloadN X0.here hx rfl (hb hby d_prog_17_method_6_code_0) rfl rfl ?_
    show Steps p.tables e below (s₁.setTop (mkF m 1 #[.val (.ref w0), .val (.int p1)] [(.ref w0)])) _
    refine st13.trans ?_
    show Steps p.tables e below (T13.setTop (mkF m 4 #[.val (.ref w0), .val (.int p1)] [(.int (0 : Int32))])) _
    refine XS.tswIn X13.here hx rfl (pc0 := 4) (pc' := 54) (o := 50) rfl (hb hby d_prog_17_method_6_code_4) rfl (by decide) (by first | rfl | decide) (by decide) (by decide) ?_
    show Steps p.tables e below (T13.setTop (mkF m 54 #[.val (.ref w0), .val (.int p1)] [])) _
    refine XS.iloadN X13.here hx rfl (hb hby d_prog_17_method_6_code_54) rfl ?_
    show Steps p.tables e below (T13.setTop (mkF m 55 #[.val (.ref w0), .val (.int p1)] [(.int p1)])) _
    refine XS.ifNo X13.here hx rfl (hb hby d_prog_17_method_6_code_55) rfl ((if0 _ _).trans (tlt rl0).2.1) ?_
    show Steps p.tables e below (T13.setTop (mkF m 58 #[.val (.ref w0), .val (.int p1)] [])) _
    refine XS.iconst X13.here hx rfl (hb hby d_prog_17_method_6_code_58) ?_
    show Steps p.tables e below (T13.setTop (mkF m 59 #[.val (.ref w0), .val (.int p1)] [(.int (1 : Int32))])) _
    refine XS.goto X13.here hx rfl (pc0 := 59) (pc' := 123) rfl (hb hby d_prog_17_method_6_code_59) (by decide) (by decide) ?_
    show Steps p.tables e below (T13.setTop (mkF m 123 #[.val (.ref w0), .val (.int p1)] [(.int (1 : Int32))])) _
    exact retN X13 hx (t := .boolean) Bd.returns (by simp) (hb hby d_prog_17_method_6_code_123) hr
  · show Qp (some (.int (1 : Int32))) h0 n0 _ T13.heap _
    rw [e13]
    exact ⟨rfl, N13, rfl⟩
theorem pd2 : parseMethodDescriptor "(I)Z" = some ⟨[.int], some .boolean⟩ := by decide +kernel
theorem d_prog_17_method_6_code_62 : decode prog_17_method_6_code 62 = .ok (.iconst 0, 1) := by decide +kernel
theorem d_prog_17_method_6_code_63 : decode prog_17_method_6_code 63 = .ok (.goto 60, 3) := by decide +kernel
set_option maxRecDepth 65536 in
set_option maxHeartbeats 40000000 in
theorem rm4 (l : Launch) (Z : State) (a0 : Array Value) (hw : ∀ d ∈ tables_1, d.before a0 Z = true) (ws : List Jvm.Cond) (w0 w1 w2 w3 w4 w5 : Addr) (p1 : Int32) (h0 : Heap) (n0 : Nat) (hWd : Wd Z w0 w1 w2 w3 w4 w5) (O0 : Old Z n0 h0) (rl0 : ¬ (p1 < (0 : Int32))) (rl1 : (0 : Int32) < p1) (rl2 : ¬ (p1 = (0 : Int32))) :
    MetFree l (⟨"com/example/libgate/libgate/Condition$Operator", "holds", "(I)Z"⟩ : MethodName) (head1 (Jvm.Cond.code (⟨"com/example/libgate/libgate/Condition$Operator", "holds", "(I)Z"⟩ : MethodName) prog_17_method_6_code 2 (some .boolean) :: ws) ({ frames := 1, cells := 0, slots := 0, locals := 12 } : Room)) (fun a U => a = #[(.ref w0), (.int p1)] ∧ Z.Warmed39 U.vm ∧ U.heap = h0) (fun _ _ _ _ _ => True) (fun _ U o U' => ∃ v L, o = .returned v ∧ Qp (some (.int (0 : Int32))) h0 n0 v U'.heap L ∧ FrameEnd U o U' L ({ frames := 1, cells := 0, slots := 0, locals := 12 } : Room).cells ({ frames := 1, cells := 0, slots := 0, locals := 12 } : Room).slots) := by
  refine MetFree.of_bodySF (plainFor_of_name pn2) hisR ?_
  intro p e s m args below meth c s₁ Bd hml0 hP hK
  obtain ⟨rfl, hZ, hh⟩ := hP
  have hx := Bd.exec
  have hby := Bd.bytes
  have hml : c.maxLocals = 2 := hml0
  have hown : s.vm.findClass "com/example/libgate/libgate/Condition$Operator" = some m.cls := findClass_of_methodNamed Bd.named
  have hnm := (name_of_methodNamed Bd.named Bd.method).1
  have X0 : Stand p l e ({ frames := 1, cells := 0, slots := 0, locals := 12 } : Room) s m #[(.ref w0), (.int p1)] below meth c s₁ [] 0 0 := Stand.of_body Bd
  have e0 : s₁.heap = h0 := by rw [← hh, Bd.state]; rfl
  have N0 := Fr.nil n0
  have hlk := Bd.notSynchronized
  obtain ⟨wS0, wE0, wS1, wE1, wS2, wE2, wS3, wE3, wS4, wE4, wS5, wE5, wF0_ordinal, wF1_ordinal, wF2_ordinal, wF3_ordinal, wF4_ordinal, wF5_ordinal, -⟩ := id hWd
  have pre0 : ∀ t, Steps p.tables e below (s₁.setTop (mkF m 0 #[.val (.ref w0), .val (.int p1)] [])) t → Steps p.tables e below (s₁.setTop (entryFrame m #[(.ref w0), (.int p1)] 2)) t := fun t k => castTop (ef2 m p1 w0) k
  obtain ⟨cq15, kq15, q15a, q15b, q15c⟩ := isOf hZ e0 (wE0.ext O0.2)
  obtain ⟨_, _, ⟨T15, L15, k15, n15⟩, -, X15, ⟨Lc15, hQ15, l15, y15, z15⟩, st15⟩ := X0.virtualBackUp hx (owner := "java/lang/Enum") (x := (⟨"com/example/libgate/libgate/Condition$Operator", "ordinal", "()I"⟩ : MethodName)) (y := (⟨"java/lang/Enum", "ordinal", "()I"⟩ : MethodName)) hown (mvT hZ (hw _ (List.mem_of_getElem? (i := 14) rfl))) (mvT hZ (hw _ (List.mem_of_getElem? (i := 15) rfl))) (mvT hZ (hw _ (List.mem_of_getElem? (i := 16) rfl))) (by decide) (mvT hZ (hw _ (List.mem_of_getElem? (i := 18) rfl))) (mvT hZ (hw _ (List.mem_of_getElem? (i := 17) rfl))) (backOf (W := 0) (rm3 l Z a0 hw [] w0 w1 w2 w3 w4 w5 h0 n0 hWd O0) hZ (hw _ (List.mem_of_getElem? (i := 20) rfl)) (hw _ (List.mem_of_getElem? (i := 19) rfl)) (by decide) (by decide)) q15a q15c (g := (mkF m 1 #[.val (.ref w0), .val (.int p1)] [(.ref w0)])) rfl (by rw [hml]; rfl) (Steps.refl _) (argsL := []) (rest := []) (lenOf pd1 rfl) rfl (by show 2 * 0 + _ ≤ _; exact Nat.le_of_eq rfl) (hb hby d_prog_17_method_6_code_1) (fun _ _ => ⟨rfl, e0, (by decide : 0 + 0 ≤ _), (by decide : 0 + 0 ≤ _)⟩)
  dsimp only [Pt.U, Pt.locs, Pt.cells, Pt.slots] at X15 l15 y15 z15 st15 hQ15
  subst l15 y15 z15
  obtain ⟨rfl, N15q, e15⟩ := hQ15
  have N15 := Fr.app N0 N15q
  obtain ⟨fs, hr, hrun, hended, hWr, hsame⟩ := X15.leave (v := some (.int (0 : Int32))) (fun h => by rw [Bd.returns] at h; cases h) hlk
  refine ⟨_, _, pre0 _ ?_, hrun, hended, _, _, rfl, ?_, ⟨_, rfl⟩, hWr, hsame.mono (Nat.le_of_ble_eq_true rfl) (Nat.le_of_ble_eq_true rfl)⟩
  · show Steps p.tables e below (s₁.setTop (mkF m 0 #[.val (.ref w0), .val (.int p1)] [])) _
    refine XS.aloadN X0.here hx rfl (hb hby d_prog_17_method_6_code_0) rfl rfl ?_
    show Steps p.tables e below (s₁.setTop (mkF m 1 #[.val (.ref w0), .val (.int p1)] [(.ref w0)])) _
    refine st15.trans ?_
    show Steps p.tables e below (T15.setTop (mkF m 4 #[.val (.ref w0), .val (.int p1)] [(.int (0 : Int32))])) _
    refine XS.tswIn X15.here hx rfl (pc0 := 4) (pc' := 54) (o := 50) rfl (hb hby d_prog_17_method_6_code_4) rfl (by decide) (by first | rfl | decide) (by decide) (by decide) ?_
    show Steps p.tables e below (T15.setTop (mkF m 54 #[.val (.ref w0), .val (.int p1)] [])) _
    refine XS.iloadN X15.here hx rfl (hb hby d_prog_17_method_6_code_54) rfl ?_
    show Steps p.tables e below (T15.setTop (mkF m 55 #[.val (.ref w0), .val (.int p1)] [(.int p1)])) _
    refine XS.ifYes X15.here hx rfl (pc0 := 55) (pc' := 62) rfl (hb hby d_prog_17_method_6_code_55) rfl ((if0 _ _).trans (flt rl0).2.1) (by decide) (by decide) ?_
    show Steps p.tables e below (T15.setTop (mkF m 62 #[.val (.ref w0), .val (.int p1)] [])) _
    refine XS.iconst X15.here hx rfl (hb hby d_prog_17_method_6_code_62) ?_
    show Steps p.tables e below (T15.setTop (mkF m 63 #[.val (.ref w0), .val (.int p1)] [(.int (0 : Int32))])) _
    refine XS.goto X15.here hx rfl (pc0 := 63) (pc' := 123) rfl (hb hby d_prog_17_method_6_code_63) (by decide) (by decide) ?_
    show Steps p.tables e below (T15.setTop (mkF m 123 #[.val (.ref w0), .val (.int p1)] [(.int (0 : Int32))])) _
    exact retN X15 hx (t := .boolean) Bd.returns (by simp) (hb hby d_prog_17_method_6_code_123) hr
  · show Qp (some (.int (0 : Int32))) h0 n0 _ T15.heap _
    rw [e15]
    exact ⟨rfl, N15, rfl⟩
theorem d_prog_17_method_5_code_0 : decode prog_17_method_5_code 0 = .ok (.aload_n 0, 1) := by decide +kernel
theorem d_prog_17_method_5_code_1 : decode prog_17_method_5_code 1 = .ok (.getstatic 16, 3) := by decide +kernel
theorem d_prog_17_method_5_code_4 : decode prog_17_method_5_code 4 = .ok (.if_acmp .eq 10, 3) := by decide +kernel
theorem d_prog_17_method_5_code_7 : decode prog_17_method_5_code 7 = .ok (.aload_n 0, 1) := by decide +kernel
theorem d_prog_17_method_5_code_8 : decode prog_17_method_5_code 8 = .ok (.getstatic 19, 3) := by decide +kernel
theorem d_prog_17_method_5_code_11 : decode prog_17_method_5_code 11 = .ok (.if_acmp .ne 7, 3) := by decide +kernel
theorem d_prog_17_method_5_code_18 : decode prog_17_method_5_code 18 = .ok (.iconst 0, 1) := by decide +kernel
theorem d_prog_17_method_5_code_19 : decode prog_17_method_5_code 19 = .ok (.ireturn, 1) := by decide +kernel
set_option maxRecDepth 65536 in
set_option maxHeartbeats 40000000 in
theorem rm5 (l : Launch) (Z : State) (a0 : Array Value) (hw : ∀ d ∈ tables_1, d.before a0 Z = true) (ws : List Jvm.Cond) (w0 w1 w2 w3 w4 w5 : Addr) (h0 : Heap) (n0 : Nat) (hWd : Wd Z w0 w1 w2 w3 w4 w5) (O0 : Old Z n0 h0) :
    MetFree l (⟨"com/example/libgate/libgate/Condition$Operator", "isEquality", "()Z"⟩ : MethodName) (head1 (Jvm.Cond.code (⟨"com/example/libgate/libgate/Condition$Operator", "isEquality", "()Z"⟩ : MethodName) prog_17_method_5_code 1 (some .boolean) :: ws) ({ frames := 0, cells := 0, slots := 0, locals := 0 } : Room)) (fun a U => a = #[(.ref w0)] ∧ Z.Warmed39 U.vm ∧ U.heap = h0) (fun _ _ _ _ _ => True) (fun _ U o U' => ∃ v L, o = .returned v ∧ Qp (some (.int (0 : Int32))) h0 n0 v U'.heap L ∧ FrameEnd U o U' L ({ frames := 0, cells := 0, slots := 0, locals := 0 } : Room).cells ({ frames := 0, cells := 0, slots := 0, locals := 0 } : Room).slots) := by
  refine MetFree.of_bodySF (plainFor_of_name pn2) hisR ?_
  intro p e s m args below meth c s₁ Bd hml0 hP hK
  obtain ⟨rfl, hZ, hh⟩ := hP
  have hx := Bd.exec
  have hby := Bd.bytes
  have hml : c.maxLocals = 1 := hml0
  have hown : s.vm.findClass "com/example/libgate/libgate/Condition$Operator" = some m.cls := findClass_of_methodNamed Bd.named
  have hnm := (name_of_methodNamed Bd.named Bd.method).1
  have X0 : Stand p l e ({ frames := 0, cells := 0, slots := 0, locals := 0 } : Room) s m #[(.ref w0)] below meth c s₁ [] 0 0 := Stand.of_body Bd
  have e0 : s₁.heap = h0 := by rw [← hh, Bd.state]; rfl
  have N0 := Fr.nil n0
  have hlk := Bd.notSynchronized
  obtain ⟨wS0, wE0, wS1, wE1, wS2, wE2, wS3, wE3, wS4, wE4, wS5, wE5, wF0_ordinal, wF1_ordinal, wF2_ordinal, wF3_ordinal, wF4_ordinal, wF5_ordinal, -⟩ := id hWd
  have pre0 : ∀ t, Steps p.tables e below (s₁.setTop (mkF m 0 #[.val (.ref w0)] [])) t → Steps p.tables e below (s₁.setTop (entryFrame m #[(.ref w0)] 1)) t := fun t k => castTop (ef1 m w0) k
  obtain ⟨T17, X17, e17, st17⟩ := getS2 X0 hx hZ hown (host := "") (Or.inl (hw _ (List.mem_of_getElem? (i := 28) rfl))) Via.refl e0 (wS1.ext O0.2) (g := (mkF m 1 #[.val (.ref w0)] [(.ref w0)])) rfl (hb hby d_prog_17_method_5_code_1)
  obtain ⟨T18, X18, e18, st18⟩ := getS2 X17 hx hZ hown (host := "") (Or.inl (hw _ (List.mem_of_getElem? (i := 30) rfl))) Via.refl e17 (wS2.ext O0.2) (g := (mkF m 8 #[.val (.ref w0)] [(.ref w0)])) rfl (hb hby d_prog_17_method_5_code_8)
  obtain ⟨fs, hr, hrun, hended, hWr, hsame⟩ := X18.leave (v := some (.int (0 : Int32))) (fun h => by rw [Bd.returns] at h; cases h) hlk
  refine ⟨_, _, pre0 _ ?_, hrun, hended, _, _, rfl, ?_, ⟨_, rfl⟩, hWr, hsame.mono (Nat.le_of_ble_eq_true rfl) (Nat.le_of_ble_eq_true rfl)⟩
  · show Steps p.tables e below (s₁.setTop (mkF m 0 #[.val (.ref w0)] [])) _
    refine XS.aloadN X0.here hx rfl (hb hby d_prog_17_method_5_code_0) rfl rfl ?_
    show Steps p.tables e below (s₁.setTop (mkF m 1 #[.val (.ref w0)] [(.ref w0)])) _
    refine st17 _ ?_
    show Steps p.tables e below (T17.setTop (mkF m 4 #[.val (.ref w0)] [(.ref w1), (.ref w0)])) _
    refine Jvm.RoadKit.acmp (g := (mkF m 4 #[.val (.ref w0)] [(.ref w1), (.ref w0)])) X17 hx rfl rfl rfl (pc0 := 4) (pc' := 7) (same := false) rfl (hb hby d_prog_17_method_5_code_4) rfl (decide_eq_false fun q => (Fld.ne wF0_ordinal wF1_ordinal (fun q => absurd (Value.int.inj q) (by decide))) (Value.ref.inj q)) (by decide) (by decide) ?_
    show Steps p.tables e below (T17.setTop (mkF m 7 #[.val (.ref w0)] [])) _
    refine XS.aloadN X17.here hx rfl (hb hby d_prog_17_method_5_code_7) rfl rfl ?_
    show Steps p.tables e below (T17.setTop (mkF m 8 #[.val (.ref w0)] [(.ref w0)])) _
    refine st18 _ ?_
    show Steps p.tables e below (T18.setTop (mkF m 11 #[.val (.ref w0)] [(.ref w2), (.ref w0)])) _
    refine Jvm.RoadKit.acmp (g := (mkF m 11 #[.val (.ref w0)] [(.ref w2), (.ref w0)])) X18 hx rfl rfl rfl (pc0 := 11) (pc' := 18) (same := false) rfl (hb hby d_prog_17_method_5_code_11) rfl (decide_eq_false fun q => (Fld.ne wF0_ordinal wF2_ordinal (fun q => absurd (Value.int.inj q) (by decide))) (Value.ref.inj q)) (by decide) (by decide) ?_
    show Steps p.tables e below (T18.setTop (mkF m 18 #[.val (.ref w0)] [])) _
    refine XS.iconst X18.here hx rfl (hb hby d_prog_17_method_5_code_18) ?_
    show Steps p.tables e below (T18.setTop (mkF m 19 #[.val (.ref w0)] [(.int (0 : Int32))])) _
    exact retN X18 hx (t := .boolean) Bd.returns (by simp) (hb hby d_prog_17_method_5_code_19) hr
  · show Qp (some (.int (0 : Int32))) h0 n0 _ T18.heap _
    rw [e18]
    exact ⟨rfl, N0, rfl⟩
theorem pd3 : parseMethodDescriptor "()Z" = some ⟨[], some .boolean⟩ := by decide +kernel
theorem d_method_3_code_8 : decode method_3_code 8 = .ok (.iload_n 0, 1) := by decide +kernel
theorem d_method_3_code_9 : decode method_3_code 9 = .ok (.iconst 1, 1) := by decide +kernel
theorem d_method_3_code_10 : decode method_3_code 10 = .ok (.if_icmp .ne 7, 3) := by decide +kernel
theorem d_method_3_code_13 : decode method_3_code 13 = .ok (.getstatic 29, 3) := by decide +kernel
theorem d_method_3_code_16 : decode method_3_code 16 = .ok (.areturn, 1) := by decide +kernel
theorem ef3 (m : MethodId)    : entryFrame m #[(.int (1 : Int32))] 1 = mkF m 0 #[.val (.int (1 : Int32))] [] := by first | (simp [entryFrame, mkF, argsToLocals, Value.category]; done) | rfl
set_option maxRecDepth 65536 in
set_option maxHeartbeats 40000000 in
theorem rm6 (l : Launch) (Z : State) (a0 : Array Value) (hw : ∀ d ∈ tables_1, d.before a0 Z = true) (ws : List Jvm.Cond) (w0 w1 w2 w3 w4 w5 : Addr) (h0 : Heap) (n0 : Nat) (hWd : Wd Z w0 w1 w2 w3 w4 w5) (O0 : Old Z n0 h0) :
    MetFree l (⟨"com/example/libgate/libgate/OperatorIsEqualityPinLaw", "pickOp", "(I)Lcom/example/libgate/libgate/Condition$Operator;"⟩ : MethodName) (head1 (Jvm.Cond.code (⟨"com/example/libgate/libgate/OperatorIsEqualityPinLaw", "pickOp", "(I)Lcom/example/libgate/libgate/Condition$Operator;"⟩ : MethodName) method_3_code 1 (some (.object "com/example/libgate/libgate/Condition$Operator")) :: ws) ({ frames := 0, cells := 0, slots := 0, locals := 0 } : Room)) (fun a U => a = #[(.int (1 : Int32))] ∧ Z.Warmed39 U.vm ∧ U.heap = h0) (fun _ _ _ _ _ => True) (fun _ U o U' => ∃ v L, o = .returned v ∧ Qp (some (.ref w3)) h0 n0 v U'.heap L ∧ FrameEnd U o U' L ({ frames := 0, cells := 0, slots := 0, locals := 0 } : Room).cells ({ frames := 0, cells := 0, slots := 0, locals := 0 } : Room).slots) := by
  refine MetFree.of_bodySF (plainFor_of_name pn0) hisR ?_
  intro p e s m args below meth c s₁ Bd hml0 hP hK
  obtain ⟨rfl, hZ, hh⟩ := hP
  have hx := Bd.exec
  have hby := Bd.bytes
  have hml : c.maxLocals = 1 := hml0
  have hown : s.vm.findClass "com/example/libgate/libgate/OperatorIsEqualityPinLaw" = some m.cls := findClass_of_methodNamed Bd.named
  have hnm := (name_of_methodNamed Bd.named Bd.method).1
  have X0 : Stand p l e ({ frames := 0, cells := 0, slots := 0, locals := 0 } : Room) s m #[(.int (1 : Int32))] below meth c s₁ [] 0 0 := Stand.of_body Bd
  have e0 : s₁.heap = h0 := by rw [← hh, Bd.state]; rfl
  have N0 := Fr.nil n0
  have hlk := Bd.notSynchronized
  obtain ⟨wS0, wE0, wS1, wE1, wS2, wE2, wS3, wE3, wS4, wE4, wS5, wE5, wF0_ordinal, wF1_ordinal, wF2_ordinal, wF3_ordinal, wF4_ordinal, wF5_ordinal, -⟩ := id hWd
  have pre0 : ∀ t, Steps p.tables e below (s₁.setTop (mkF m 0 #[.val (.int (1 : Int32))] [])) t → Steps p.tables e below (s₁.setTop (entryFrame m #[(.int (1 : Int32))] 1)) t := fun t k => castTop (ef3 m ) k
  obtain ⟨T20, X20, e20, st20⟩ := getS2 X0 hx hZ hown (host := "") (Or.inl (hw _ (List.mem_of_getElem? (i := 32) rfl))) Via.refl e0 (wS3.ext O0.2) (g := (mkF m 13 #[.val (.int (1 : Int32))] [])) rfl (hb hby d_method_3_code_13)
  obtain ⟨fs, hr, hrun, hended, hWr, hsame⟩ := X20.leave (v := some (.ref w3)) (fun h => by rw [Bd.returns] at h; cases h) hlk
  refine ⟨_, _, pre0 _ ?_, hrun, hended, _, _, rfl, ?_, ⟨_, rfl⟩, hWr, hsame.mono (Nat.le_of_ble_eq_true rfl) (Nat.le_of_ble_eq_true rfl)⟩
  · show Steps p.tables e below (s₁.setTop (mkF m 0 #[.val (.int (1 : Int32))] [])) _
    refine XS.iloadN X0.here hx rfl (hb hby d_method_3_code_0) rfl ?_
    show Steps p.tables e below (s₁.setTop (mkF m 1 #[.val (.int (1 : Int32))] [(.int (1 : Int32))])) _
    refine XS.ifYes X0.here hx rfl (pc0 := 1) (pc' := 8) rfl (hb hby d_method_3_code_1) rfl (by decide) (by decide) (by decide) ?_
    show Steps p.tables e below (s₁.setTop (mkF m 8 #[.val (.int (1 : Int32))] [])) _
    refine XS.iloadN X0.here hx rfl (hb hby d_method_3_code_8) rfl ?_
    show Steps p.tables e below (s₁.setTop (mkF m 9 #[.val (.int (1 : Int32))] [(.int (1 : Int32))])) _
    refine XS.iconst X0.here hx rfl (hb hby d_method_3_code_9) ?_
    show Steps p.tables e below (s₁.setTop (mkF m 10 #[.val (.int (1 : Int32))] [(.int (1 : Int32)), (.int (1 : Int32))])) _
    refine XS.icmpNo X0.here hx rfl (hb hby d_method_3_code_10) rfl (by decide) ?_
    show Steps p.tables e below (s₁.setTop (mkF m 13 #[.val (.int (1 : Int32))] [])) _
    refine st20 _ ?_
    show Steps p.tables e below (T20.setTop (mkF m 16 #[.val (.int (1 : Int32))] [(.ref w3)])) _
    exact retOut X20 hx (t := (.object "com/example/libgate/libgate/Condition$Operator")) (i := .areturn) Bd.returns rfl (Or.inr (Or.inr (Or.inr (Or.inr ⟨rfl, rfl, rfl⟩)))) (hb hby d_method_3_code_16) hr
  · show Qp (some (.ref w3)) h0 n0 _ T20.heap _
    rw [e20]
    exact ⟨rfl, N0, rfl⟩
theorem ef4 (m : MethodId)   (w3 : Addr) : entryFrame m #[(.ref w3)] 1 = mkF m 0 #[.val (.ref w3)] [] := by first | (simp [entryFrame, mkF, argsToLocals, Value.category]; done) | rfl
set_option maxRecDepth 65536 in
set_option maxHeartbeats 40000000 in
theorem rm8 (l : Launch) (Z : State) (a0 : Array Value) (hw : ∀ d ∈ tables_1, d.before a0 Z = true) (ws : List Jvm.Cond) (w0 w1 w2 w3 w4 w5 : Addr) (h0 : Heap) (n0 : Nat) (hWd : Wd Z w0 w1 w2 w3 w4 w5) (O0 : Old Z n0 h0) :
    MetFree l (⟨"java/lang/Enum", "ordinal", "()I"⟩ : MethodName) (head1 (Jvm.Cond.code (⟨"java/lang/Enum", "ordinal", "()I"⟩ : MethodName) jdk_37_method_2_code 1 (some .int) :: ws) ({ frames := 0, cells := 0, slots := 0, locals := 0 } : Room)) (fun a U => a = #[(.ref w3)] ∧ Z.Warmed39 U.vm ∧ U.heap = h0) (fun _ _ _ _ _ => True) (fun _ U o U' => ∃ v L, o = .returned v ∧ Qp (some (.int (1 : Int32))) h0 n0 v U'.heap L ∧ FrameEnd U o U' L ({ frames := 0, cells := 0, slots := 0, locals := 0 } : Room).cells ({ frames := 0, cells := 0, slots := 0, locals := 0 } : Room).slots) := by
  refine MetFree.of_bodySF (plainFor_of_name pn1) hisR ?_
  intro p e s m args below meth c s₁ Bd hml0 hP hK
  obtain ⟨rfl, hZ, hh⟩ := hP
  have hx := Bd.exec
  have hby := Bd.bytes
  have hml : c.maxLocals = 1 := hml0
  have hown : s.vm.findClass "java/lang/Enum" = some m.cls := findClass_of_methodNamed Bd.named
  have hnm := (name_of_methodNamed Bd.named Bd.method).1
  have X0 : Stand p l e ({ frames := 0, cells := 0, slots := 0, locals := 0 } : Room) s m #[(.ref w3)] below meth c s₁ [] 0 0 := Stand.of_body Bd
  have e0 : s₁.heap = h0 := by rw [← hh, Bd.state]; rfl
  have N0 := Fr.nil n0
  have hlk := Bd.notSynchronized
  obtain ⟨wS0, wE0, wS1, wE1, wS2, wE2, wS3, wE3, wS4, wE4, wS5, wE5, wF0_ordinal, wF1_ordinal, wF2_ordinal, wF3_ordinal, wF4_ordinal, wF5_ordinal, -⟩ := id hWd
  have pre0 : ∀ t, Steps p.tables e below (s₁.setTop (mkF m 0 #[.val (.ref w3)] [])) t → Steps p.tables e below (s₁.setTop (entryFrame m #[(.ref w3)] 1)) t := fun t k => castTop (ef4 m w3) k
  obtain ⟨T24, X24, e24, st24⟩ := getF X0 hx hZ hown (host := "") (Or.inl (hw _ (List.mem_of_getElem? (i := 21) rfl))) Via.refl e0 (wF3_ordinal.ext O0.2) (g := (mkF m 1 #[.val (.ref w3)] [(.ref w3)])) rfl rfl (hb hby d_jdk_37_method_2_code_1)
  obtain ⟨fs, hr, hrun, hended, hWr, hsame⟩ := X24.leave (v := some (.int (1 : Int32))) (fun h => by rw [Bd.returns] at h; cases h) hlk
  refine ⟨_, _, pre0 _ ?_, hrun, hended, _, _, rfl, ?_, ⟨_, rfl⟩, hWr, hsame.mono (Nat.le_of_ble_eq_true rfl) (Nat.le_of_ble_eq_true rfl)⟩
  · show Steps p.tables e below (s₁.setTop (mkF m 0 #[.val (.ref w3)] [])) _
    refine XS.aloadN X0.here hx rfl (hb hby d_jdk_37_method_2_code_0) rfl rfl ?_
    show Steps p.tables e below (s₁.setTop (mkF m 1 #[.val (.ref w3)] [(.ref w3)])) _
    refine st24 _ ?_
    show Steps p.tables e below (T24.setTop (mkF m 4 #[.val (.ref w3)] [(.int (1 : Int32))])) _
    exact retOut X24 hx (t := .int) (i := .ireturn) Bd.returns rfl (Or.inl ⟨rfl, Or.inl rfl, _, rfl⟩) (hb hby d_jdk_37_method_2_code_4) hr
  · show Qp (some (.int (1 : Int32))) h0 n0 _ T24.heap _
    rw [e24]
    exact ⟨rfl, N0, rfl⟩
theorem d_prog_17_method_6_code_66 : decode prog_17_method_6_code 66 = .ok (.iload_n 1, 1) := by decide +kernel
theorem d_prog_17_method_6_code_67 : decode prog_17_method_6_code 67 = .ok (.ifCond .gt 7, 3) := by decide +kernel
theorem d_prog_17_method_6_code_70 : decode prog_17_method_6_code 70 = .ok (.iconst 1, 1) := by decide +kernel
theorem d_prog_17_method_6_code_71 : decode prog_17_method_6_code 71 = .ok (.goto 52, 3) := by decide +kernel
theorem ef5 (m : MethodId) (p1 : Int32)  (w3 : Addr) : entryFrame m #[(.ref w3), (.int p1)] 2 = mkF m 0 #[.val (.ref w3), .val (.int p1)] [] := by first | (simp [entryFrame, mkF, argsToLocals, Value.category]; done) | rfl
set_option maxRecDepth 65536 in
set_option maxHeartbeats 40000000 in
theorem rm7 (l : Launch) (Z : State) (a0 : Array Value) (hw : ∀ d ∈ tables_1, d.before a0 Z = true) (ws : List Jvm.Cond) (w0 w1 w2 w3 w4 w5 : Addr) (p1 : Int32) (h0 : Heap) (n0 : Nat) (hWd : Wd Z w0 w1 w2 w3 w4 w5) (O0 : Old Z n0 h0) (rl0 : p1 < (0 : Int32)) (rl1 : ¬ ((0 : Int32) < p1)) (rl2 : ¬ (p1 = (0 : Int32))) :
    MetFree l (⟨"com/example/libgate/libgate/Condition$Operator", "holds", "(I)Z"⟩ : MethodName) (head1 (Jvm.Cond.code (⟨"com/example/libgate/libgate/Condition$Operator", "holds", "(I)Z"⟩ : MethodName) prog_17_method_6_code 2 (some .boolean) :: ws) ({ frames := 1, cells := 0, slots := 0, locals := 12 } : Room)) (fun a U => a = #[(.ref w3), (.int p1)] ∧ Z.Warmed39 U.vm ∧ U.heap = h0) (fun _ _ _ _ _ => True) (fun _ U o U' => ∃ v L, o = .returned v ∧ Qp (some (.int (1 : Int32))) h0 n0 v U'.heap L ∧ FrameEnd U o U' L ({ frames := 1, cells := 0, slots := 0, locals := 12 } : Room).cells ({ frames := 1, cells := 0, slots := 0, locals := 12 } : Room).slots) := by
  refine MetFree.of_bodySF (plainFor_of_name pn2) hisR ?_
  intro p e s m args below meth c s₁ Bd hml0 hP hK
  obtain ⟨rfl, hZ, hh⟩ := hP
  have hx := Bd.exec
  have hby := Bd.bytes
  have hml : c.maxLocals = 2 := hml0
  have hown : s.vm.findClass "com/example/libgate/libgate/Condition$Operator" = some m.cls := findClass_of_methodNamed Bd.named
  have hnm := (name_of_methodNamed Bd.named Bd.method).1
  have X0 : Stand p l e ({ frames := 1, cells := 0, slots := 0, locals := 12 } : Room) s m #[(.ref w3), (.int p1)] below meth c s₁ [] 0 0 := Stand.of_body Bd
  have e0 : s₁.heap = h0 := by rw [← hh, Bd.state]; rfl
  have N0 := Fr.nil n0
  have hlk := Bd.notSynchronized
  obtain ⟨wS0, wE0, wS1, wE1, wS2, wE2, wS3, wE3, wS4, wE4, wS5, wE5, wF0_ordinal, wF1_ordinal, wF2_ordinal, wF3_ordinal, wF4_ordinal, wF5_ordinal, -⟩ := id hWd
  have pre0 : ∀ t, Steps p.tables e below (s₁.setTop (mkF m 0 #[.val (.ref w3), .val (.int p1)] [])) t → Steps p.tables e below (s₁.setTop (entryFrame m #[(.ref w3), (.int p1)] 2)) t := fun t k => castTop (ef5 m p1 w3) k
  obtain ⟨cq25, kq25, q25a, q25b, q25c⟩ := isOf hZ e0 (wE3.ext O0.2)
  obtain ⟨_, _, ⟨T25, L25, k25, n25⟩, -, X25, ⟨Lc25, hQ25, l25, y25, z25⟩, st25⟩ := X0.virtualBackUp hx (owner := "java/lang/Enum") (x := (⟨"com/example/libgate/libgate/Condition$Operator", "ordinal", "()I"⟩ : MethodName)) (y := (⟨"java/lang/Enum", "ordinal", "()I"⟩ : MethodName)) hown (mvT hZ (hw _ (List.mem_of_getElem? (i := 14) rfl))) (mvT hZ (hw _ (List.mem_of_getElem? (i := 15) rfl))) (mvT hZ (hw _ (List.mem_of_getElem? (i := 16) rfl))) (by decide) (mvT hZ (hw _ (List.mem_of_getElem? (i := 18) rfl))) (mvT hZ (hw _ (List.mem_of_getElem? (i := 17) rfl))) (backOf (W := 0) (rm8 l Z a0 hw [] w0 w1 w2 w3 w4 w5 h0 n0 hWd O0) hZ (hw _ (List.mem_of_getElem? (i := 20) rfl)) (hw _ (List.mem_of_getElem? (i := 19) rfl)) (by decide) (by decide)) q25a q25c (g := (mkF m 1 #[.val (.ref w3), .val (.int p1)] [(.ref w3)])) rfl (by rw [hml]; rfl) (Steps.refl _) (argsL := []) (rest := []) (lenOf pd1 rfl) rfl (by show 2 * 0 + _ ≤ _; exact Nat.le_of_eq rfl) (hb hby d_prog_17_method_6_code_1) (fun _ _ => ⟨rfl, e0, (by decide : 0 + 0 ≤ _), (by decide : 0 + 0 ≤ _)⟩)
  dsimp only [Pt.U, Pt.locs, Pt.cells, Pt.slots] at X25 l25 y25 z25 st25 hQ25
  subst l25 y25 z25
  obtain ⟨rfl, N25q, e25⟩ := hQ25
  have N25 := Fr.app N0 N25q
  obtain ⟨fs, hr, hrun, hended, hWr, hsame⟩ := X25.leave (v := some (.int (1 : Int32))) (fun h => by rw [Bd.returns] at h; cases h) hlk
  refine ⟨_, _, pre0 _ ?_, hrun, hended, _, _, rfl, ?_, ⟨_, rfl⟩, hWr, hsame.mono (Nat.le_of_ble_eq_true rfl) (Nat.le_of_ble_eq_true rfl)⟩
  · show Steps p.tables e below (s₁.setTop (mkF m 0 #[.val (.ref w3), .val (.int p1)] [])) _
    refine XS.aloadN X0.here hx rfl (hb hby d_prog_17_method_6_code_0) rfl rfl ?_
    show Steps p.tables e below (s₁.setTop (mkF m 1 #[.val (.ref w3), .val (.int p1)] [(.ref w3)])) _
    refine st25.trans ?_
    show Steps p.tables e below (T25.setTop (mkF m 4 #[.val (.ref w3), .val (.int p1)] [(.int (1 : Int32))])) _
    refine XS.tswIn X25.here hx rfl (pc0 := 4) (pc' := 66) (o := 62) rfl (hb hby d_prog_17_method_6_code_4) rfl (by decide) (by first | rfl | decide) (by decide) (by decide) ?_
    show Steps p.tables e below (T25.setTop (mkF m 66 #[.val (.ref w3), .val (.int p1)] [])) _
    refine XS.iloadN X25.here hx rfl (hb hby d_prog_17_method_6_code_66) rfl ?_
    show Steps p.tables e below (T25.setTop (mkF m 67 #[.val (.ref w3), .val (.int p1)] [(.int p1)])) _
    refine XS.ifNo X25.here hx rfl (hb hby d_prog_17_method_6_code_67) rfl ((if0 _ _).trans (flt rl1).2.2.1) ?_
    show Steps p.tables e below (T25.setTop (mkF m 70 #[.val (.ref w3), .val (.int p1)] [])) _
    refine XS.iconst X25.here hx rfl (hb hby d_prog_17_method_6_code_70) ?_
    show Steps p.tables e below (T25.setTop (mkF m 71 #[.val (.ref w3), .val (.int p1)] [(.int (1 : Int32))])) _
    refine XS.goto X25.here hx rfl (pc0 := 71) (pc' := 123) rfl (hb hby d_prog_17_method_6_code_71) (by decide) (by decide) ?_
    show Steps p.tables e below (T25.setTop (mkF m 123 #[.val (.ref w3), .val (.int p1)] [(.int (1 : Int32))])) _
    exact retN X25 hx (t := .boolean) Bd.returns (by simp) (hb hby d_prog_17_method_6_code_123) hr
  · show Qp (some (.int (1 : Int32))) h0 n0 _ T25.heap _
    rw [e25]
    exact ⟨rfl, N25, rfl⟩
theorem d_prog_17_method_6_code_74 : decode prog_17_method_6_code 74 = .ok (.iconst 0, 1) := by decide +kernel
theorem d_prog_17_method_6_code_75 : decode prog_17_method_6_code 75 = .ok (.goto 48, 3) := by decide +kernel
set_option maxRecDepth 65536 in
set_option maxHeartbeats 40000000 in
theorem rm9 (l : Launch) (Z : State) (a0 : Array Value) (hw : ∀ d ∈ tables_1, d.before a0 Z = true) (ws : List Jvm.Cond) (w0 w1 w2 w3 w4 w5 : Addr) (p1 : Int32) (h0 : Heap) (n0 : Nat) (hWd : Wd Z w0 w1 w2 w3 w4 w5) (O0 : Old Z n0 h0) (rl0 : ¬ (p1 < (0 : Int32))) (rl1 : (0 : Int32) < p1) (rl2 : ¬ (p1 = (0 : Int32))) :
    MetFree l (⟨"com/example/libgate/libgate/Condition$Operator", "holds", "(I)Z"⟩ : MethodName) (head1 (Jvm.Cond.code (⟨"com/example/libgate/libgate/Condition$Operator", "holds", "(I)Z"⟩ : MethodName) prog_17_method_6_code 2 (some .boolean) :: ws) ({ frames := 1, cells := 0, slots := 0, locals := 12 } : Room)) (fun a U => a = #[(.ref w3), (.int p1)] ∧ Z.Warmed39 U.vm ∧ U.heap = h0) (fun _ _ _ _ _ => True) (fun _ U o U' => ∃ v L, o = .returned v ∧ Qp (some (.int (0 : Int32))) h0 n0 v U'.heap L ∧ FrameEnd U o U' L ({ frames := 1, cells := 0, slots := 0, locals := 12 } : Room).cells ({ frames := 1, cells := 0, slots := 0, locals := 12 } : Room).slots) := by
  refine MetFree.of_bodySF (plainFor_of_name pn2) hisR ?_
  intro p e s m args below meth c s₁ Bd hml0 hP hK
  obtain ⟨rfl, hZ, hh⟩ := hP
  have hx := Bd.exec
  have hby := Bd.bytes
  have hml : c.maxLocals = 2 := hml0
  have hown : s.vm.findClass "com/example/libgate/libgate/Condition$Operator" = some m.cls := findClass_of_methodNamed Bd.named
  have hnm := (name_of_methodNamed Bd.named Bd.method).1
  have X0 : Stand p l e ({ frames := 1, cells := 0, slots := 0, locals := 12 } : Room) s m #[(.ref w3), (.int p1)] below meth c s₁ [] 0 0 := Stand.of_body Bd
  have e0 : s₁.heap = h0 := by rw [← hh, Bd.state]; rfl
  have N0 := Fr.nil n0
  have hlk := Bd.notSynchronized
  obtain ⟨wS0, wE0, wS1, wE1, wS2, wE2, wS3, wE3, wS4, wE4, wS5, wE5, wF0_ordinal, wF1_ordinal, wF2_ordinal, wF3_ordinal, wF4_ordinal, wF5_ordinal, -⟩ := id hWd
  have pre0 : ∀ t, Steps p.tables e below (s₁.setTop (mkF m 0 #[.val (.ref w3), .val (.int p1)] [])) t → Steps p.tables e below (s₁.setTop (entryFrame m #[(.ref w3), (.int p1)] 2)) t := fun t k => castTop (ef5 m p1 w3) k
  obtain ⟨cq27, kq27, q27a, q27b, q27c⟩ := isOf hZ e0 (wE3.ext O0.2)
  obtain ⟨_, _, ⟨T27, L27, k27, n27⟩, -, X27, ⟨Lc27, hQ27, l27, y27, z27⟩, st27⟩ := X0.virtualBackUp hx (owner := "java/lang/Enum") (x := (⟨"com/example/libgate/libgate/Condition$Operator", "ordinal", "()I"⟩ : MethodName)) (y := (⟨"java/lang/Enum", "ordinal", "()I"⟩ : MethodName)) hown (mvT hZ (hw _ (List.mem_of_getElem? (i := 14) rfl))) (mvT hZ (hw _ (List.mem_of_getElem? (i := 15) rfl))) (mvT hZ (hw _ (List.mem_of_getElem? (i := 16) rfl))) (by decide) (mvT hZ (hw _ (List.mem_of_getElem? (i := 18) rfl))) (mvT hZ (hw _ (List.mem_of_getElem? (i := 17) rfl))) (backOf (W := 0) (rm8 l Z a0 hw [] w0 w1 w2 w3 w4 w5 h0 n0 hWd O0) hZ (hw _ (List.mem_of_getElem? (i := 20) rfl)) (hw _ (List.mem_of_getElem? (i := 19) rfl)) (by decide) (by decide)) q27a q27c (g := (mkF m 1 #[.val (.ref w3), .val (.int p1)] [(.ref w3)])) rfl (by rw [hml]; rfl) (Steps.refl _) (argsL := []) (rest := []) (lenOf pd1 rfl) rfl (by show 2 * 0 + _ ≤ _; exact Nat.le_of_eq rfl) (hb hby d_prog_17_method_6_code_1) (fun _ _ => ⟨rfl, e0, (by decide : 0 + 0 ≤ _), (by decide : 0 + 0 ≤ _)⟩)
  dsimp only [Pt.U, Pt.locs, Pt.cells, Pt.slots] at X27 l27 y27 z27 st27 hQ27
  subst l27 y27 z27
  obtain ⟨rfl, N27q, e27⟩ := hQ27
  have N27 := Fr.app N0 N27q
  obtain ⟨fs, hr, hrun, hended, hWr, hsame⟩ := X27.leave (v := some (.int (0 : Int32))) (fun h => by rw [Bd.returns] at h; cases h) hlk
  refine ⟨_, _, pre0 _ ?_, hrun, hended, _, _, rfl, ?_, ⟨_, rfl⟩, hWr, hsame.mono (Nat.le_of_ble_eq_true rfl) (Nat.le_of_ble_eq_true rfl)⟩
  · show Steps p.tables e below (s₁.setTop (mkF m 0 #[.val (.ref w3), .val (.int p1)] [])) _
    refine XS.aloadN X0.here hx rfl (hb hby d_prog_17_method_6_code_0) rfl rfl ?_
    show Steps p.tables e below (s₁.setTop (mkF m 1 #[.val (.ref w3), .val (.int p1)] [(.ref w3)])) _
    refine st27.trans ?_
    show Steps p.tables e below (T27.setTop (mkF m 4 #[.val (.ref w3), .val (.int p1)] [(.int (1 : Int32))])) _
    refine XS.tswIn X27.here hx rfl (pc0 := 4) (pc' := 66) (o := 62) rfl (hb hby d_prog_17_method_6_code_4) rfl (by decide) (by first | rfl | decide) (by decide) (by decide) ?_
    show Steps p.tables e below (T27.setTop (mkF m 66 #[.val (.ref w3), .val (.int p1)] [])) _
    refine XS.iloadN X27.here hx rfl (hb hby d_prog_17_method_6_code_66) rfl ?_
    show Steps p.tables e below (T27.setTop (mkF m 67 #[.val (.ref w3), .val (.int p1)] [(.int p1)])) _
    refine XS.ifYes X27.here hx rfl (pc0 := 67) (pc' := 74) rfl (hb hby d_prog_17_method_6_code_67) rfl ((if0 _ _).trans (tlt rl1).2.2.1) (by decide) (by decide) ?_
    show Steps p.tables e below (T27.setTop (mkF m 74 #[.val (.ref w3), .val (.int p1)] [])) _
    refine XS.iconst X27.here hx rfl (hb hby d_prog_17_method_6_code_74) ?_
    show Steps p.tables e below (T27.setTop (mkF m 75 #[.val (.ref w3), .val (.int p1)] [(.int (0 : Int32))])) _
    refine XS.goto X27.here hx rfl (pc0 := 75) (pc' := 123) rfl (hb hby d_prog_17_method_6_code_75) (by decide) (by decide) ?_
    show Steps p.tables e below (T27.setTop (mkF m 123 #[.val (.ref w3), .val (.int p1)] [(.int (0 : Int32))])) _
    exact retN X27 hx (t := .boolean) Bd.returns (by simp) (hb hby d_prog_17_method_6_code_123) hr
  · show Qp (some (.int (0 : Int32))) h0 n0 _ T27.heap _
    rw [e27]
    exact ⟨rfl, N27, rfl⟩
set_option maxRecDepth 65536 in
set_option maxHeartbeats 40000000 in
theorem rm10 (l : Launch) (Z : State) (a0 : Array Value) (hw : ∀ d ∈ tables_1, d.before a0 Z = true) (ws : List Jvm.Cond) (w0 w1 w2 w3 w4 w5 : Addr) (h0 : Heap) (n0 : Nat) (hWd : Wd Z w0 w1 w2 w3 w4 w5) (O0 : Old Z n0 h0) :
    MetFree l (⟨"com/example/libgate/libgate/Condition$Operator", "isEquality", "()Z"⟩ : MethodName) (head1 (Jvm.Cond.code (⟨"com/example/libgate/libgate/Condition$Operator", "isEquality", "()Z"⟩ : MethodName) prog_17_method_5_code 1 (some .boolean) :: ws) ({ frames := 0, cells := 0, slots := 0, locals := 0 } : Room)) (fun a U => a = #[(.ref w3)] ∧ Z.Warmed39 U.vm ∧ U.heap = h0) (fun _ _ _ _ _ => True) (fun _ U o U' => ∃ v L, o = .returned v ∧ Qp (some (.int (0 : Int32))) h0 n0 v U'.heap L ∧ FrameEnd U o U' L ({ frames := 0, cells := 0, slots := 0, locals := 0 } : Room).cells ({ frames := 0, cells := 0, slots := 0, locals := 0 } : Room).slots) := by
  refine MetFree.of_bodySF (plainFor_of_name pn2) hisR ?_
  intro p e s m args below meth c s₁ Bd hml0 hP hK
  obtain ⟨rfl, hZ, hh⟩ := hP
  have hx := Bd.exec
  have hby := Bd.bytes
  have hml : c.maxLocals = 1 := hml0
  have hown : s.vm.findClass "com/example/libgate/libgate/Condition$Operator" = some m.cls := findClass_of_methodNamed Bd.named
  have hnm := (name_of_methodNamed Bd.named Bd.method).1
  have X0 : Stand p l e ({ frames := 0, cells := 0, slots := 0, locals := 0 } : Room) s m #[(.ref w3)] below meth c s₁ [] 0 0 := Stand.of_body Bd
  have e0 : s₁.heap = h0 := by rw [← hh, Bd.state]; rfl
  have N0 := Fr.nil n0
  have hlk := Bd.notSynchronized
  obtain ⟨wS0, wE0, wS1, wE1, wS2, wE2, wS3, wE3, wS4, wE4, wS5, wE5, wF0_ordinal, wF1_ordinal, wF2_ordinal, wF3_ordinal, wF4_ordinal, wF5_ordinal, -⟩ := id hWd
  have pre0 : ∀ t, Steps p.tables e below (s₁.setTop (mkF m 0 #[.val (.ref w3)] [])) t → Steps p.tables e below (s₁.setTop (entryFrame m #[(.ref w3)] 1)) t := fun t k => castTop (ef4 m w3) k
  obtain ⟨T29, X29, e29, st29⟩ := getS2 X0 hx hZ hown (host := "") (Or.inl (hw _ (List.mem_of_getElem? (i := 28) rfl))) Via.refl e0 (wS1.ext O0.2) (g := (mkF m 1 #[.val (.ref w3)] [(.ref w3)])) rfl (hb hby d_prog_17_method_5_code_1)
  obtain ⟨T30, X30, e30, st30⟩ := getS2 X29 hx hZ hown (host := "") (Or.inl (hw _ (List.mem_of_getElem? (i := 30) rfl))) Via.refl e29 (wS2.ext O0.2) (g := (mkF m 8 #[.val (.ref w3)] [(.ref w3)])) rfl (hb hby d_prog_17_method_5_code_8)
  obtain ⟨fs, hr, hrun, hended, hWr, hsame⟩ := X30.leave (v := some (.int (0 : Int32))) (fun h => by rw [Bd.returns] at h; cases h) hlk
  refine ⟨_, _, pre0 _ ?_, hrun, hended, _, _, rfl, ?_, ⟨_, rfl⟩, hWr, hsame.mono (Nat.le_of_ble_eq_true rfl) (Nat.le_of_ble_eq_true rfl)⟩
  · show Steps p.tables e below (s₁.setTop (mkF m 0 #[.val (.ref w3)] [])) _
    refine XS.aloadN X0.here hx rfl (hb hby d_prog_17_method_5_code_0) rfl rfl ?_
    show Steps p.tables e below (s₁.setTop (mkF m 1 #[.val (.ref w3)] [(.ref w3)])) _
    refine st29 _ ?_
    show Steps p.tables e below (T29.setTop (mkF m 4 #[.val (.ref w3)] [(.ref w1), (.ref w3)])) _
    refine Jvm.RoadKit.acmp (g := (mkF m 4 #[.val (.ref w3)] [(.ref w1), (.ref w3)])) X29 hx rfl rfl rfl (pc0 := 4) (pc' := 7) (same := false) rfl (hb hby d_prog_17_method_5_code_4) rfl (decide_eq_false fun q => (Fld.ne wF3_ordinal wF1_ordinal (fun q => absurd (Value.int.inj q) (by decide))) (Value.ref.inj q)) (by decide) (by decide) ?_
    show Steps p.tables e below (T29.setTop (mkF m 7 #[.val (.ref w3)] [])) _
    refine XS.aloadN X29.here hx rfl (hb hby d_prog_17_method_5_code_7) rfl rfl ?_
    show Steps p.tables e below (T29.setTop (mkF m 8 #[.val (.ref w3)] [(.ref w3)])) _
    refine st30 _ ?_
    show Steps p.tables e below (T30.setTop (mkF m 11 #[.val (.ref w3)] [(.ref w2), (.ref w3)])) _
    refine Jvm.RoadKit.acmp (g := (mkF m 11 #[.val (.ref w3)] [(.ref w2), (.ref w3)])) X30 hx rfl rfl rfl (pc0 := 11) (pc' := 18) (same := false) rfl (hb hby d_prog_17_method_5_code_11) rfl (decide_eq_false fun q => (Fld.ne wF3_ordinal wF2_ordinal (fun q => absurd (Value.int.inj q) (by decide))) (Value.ref.inj q)) (by decide) (by decide) ?_
    show Steps p.tables e below (T30.setTop (mkF m 18 #[.val (.ref w3)] [])) _
    refine XS.iconst X30.here hx rfl (hb hby d_prog_17_method_5_code_18) ?_
    show Steps p.tables e below (T30.setTop (mkF m 19 #[.val (.ref w3)] [(.int (0 : Int32))])) _
    exact retN X30 hx (t := .boolean) Bd.returns (by simp) (hb hby d_prog_17_method_5_code_19) hr
  · show Qp (some (.int (0 : Int32))) h0 n0 _ T30.heap _
    rw [e30]
    exact ⟨rfl, N0, rfl⟩
theorem d_method_3_code_17 : decode method_3_code 17 = .ok (.iload_n 0, 1) := by decide +kernel
theorem d_method_3_code_18 : decode method_3_code 18 = .ok (.iconst 2, 1) := by decide +kernel
theorem d_method_3_code_19 : decode method_3_code 19 = .ok (.if_icmp .ne 7, 3) := by decide +kernel
theorem d_method_3_code_22 : decode method_3_code 22 = .ok (.getstatic 32, 3) := by decide +kernel
theorem d_method_3_code_25 : decode method_3_code 25 = .ok (.areturn, 1) := by decide +kernel
theorem ef6 (m : MethodId)    : entryFrame m #[(.int (2 : Int32))] 1 = mkF m 0 #[.val (.int (2 : Int32))] [] := by first | (simp [entryFrame, mkF, argsToLocals, Value.category]; done) | rfl
set_option maxRecDepth 65536 in
set_option maxHeartbeats 40000000 in
theorem rm11 (l : Launch) (Z : State) (a0 : Array Value) (hw : ∀ d ∈ tables_1, d.before a0 Z = true) (ws : List Jvm.Cond) (w0 w1 w2 w3 w4 w5 : Addr) (h0 : Heap) (n0 : Nat) (hWd : Wd Z w0 w1 w2 w3 w4 w5) (O0 : Old Z n0 h0) :
    MetFree l (⟨"com/example/libgate/libgate/OperatorIsEqualityPinLaw", "pickOp", "(I)Lcom/example/libgate/libgate/Condition$Operator;"⟩ : MethodName) (head1 (Jvm.Cond.code (⟨"com/example/libgate/libgate/OperatorIsEqualityPinLaw", "pickOp", "(I)Lcom/example/libgate/libgate/Condition$Operator;"⟩ : MethodName) method_3_code 1 (some (.object "com/example/libgate/libgate/Condition$Operator")) :: ws) ({ frames := 0, cells := 0, slots := 0, locals := 0 } : Room)) (fun a U => a = #[(.int (2 : Int32))] ∧ Z.Warmed39 U.vm ∧ U.heap = h0) (fun _ _ _ _ _ => True) (fun _ U o U' => ∃ v L, o = .returned v ∧ Qp (some (.ref w4)) h0 n0 v U'.heap L ∧ FrameEnd U o U' L ({ frames := 0, cells := 0, slots := 0, locals := 0 } : Room).cells ({ frames := 0, cells := 0, slots := 0, locals := 0 } : Room).slots) := by
  refine MetFree.of_bodySF (plainFor_of_name pn0) hisR ?_
  intro p e s m args below meth c s₁ Bd hml0 hP hK
  obtain ⟨rfl, hZ, hh⟩ := hP
  have hx := Bd.exec
  have hby := Bd.bytes
  have hml : c.maxLocals = 1 := hml0
  have hown : s.vm.findClass "com/example/libgate/libgate/OperatorIsEqualityPinLaw" = some m.cls := findClass_of_methodNamed Bd.named
  have hnm := (name_of_methodNamed Bd.named Bd.method).1
  have X0 : Stand p l e ({ frames := 0, cells := 0, slots := 0, locals := 0 } : Room) s m #[(.int (2 : Int32))] below meth c s₁ [] 0 0 := Stand.of_body Bd
  have e0 : s₁.heap = h0 := by rw [← hh, Bd.state]; rfl
  have N0 := Fr.nil n0
  have hlk := Bd.notSynchronized
  obtain ⟨wS0, wE0, wS1, wE1, wS2, wE2, wS3, wE3, wS4, wE4, wS5, wE5, wF0_ordinal, wF1_ordinal, wF2_ordinal, wF3_ordinal, wF4_ordinal, wF5_ordinal, -⟩ := id hWd
  have pre0 : ∀ t, Steps p.tables e below (s₁.setTop (mkF m 0 #[.val (.int (2 : Int32))] [])) t → Steps p.tables e below (s₁.setTop (entryFrame m #[(.int (2 : Int32))] 1)) t := fun t k => castTop (ef6 m ) k
  obtain ⟨T32, X32, e32, st32⟩ := getS2 X0 hx hZ hown (host := "") (Or.inl (hw _ (List.mem_of_getElem? (i := 34) rfl))) Via.refl e0 (wS4.ext O0.2) (g := (mkF m 22 #[.val (.int (2 : Int32))] [])) rfl (hb hby d_method_3_code_22)
  obtain ⟨fs, hr, hrun, hended, hWr, hsame⟩ := X32.leave (v := some (.ref w4)) (fun h => by rw [Bd.returns] at h; cases h) hlk
  refine ⟨_, _, pre0 _ ?_, hrun, hended, _, _, rfl, ?_, ⟨_, rfl⟩, hWr, hsame.mono (Nat.le_of_ble_eq_true rfl) (Nat.le_of_ble_eq_true rfl)⟩
  · show Steps p.tables e below (s₁.setTop (mkF m 0 #[.val (.int (2 : Int32))] [])) _
    refine XS.iloadN X0.here hx rfl (hb hby d_method_3_code_0) rfl ?_
    show Steps p.tables e below (s₁.setTop (mkF m 1 #[.val (.int (2 : Int32))] [(.int (2 : Int32))])) _
    refine XS.ifYes X0.here hx rfl (pc0 := 1) (pc' := 8) rfl (hb hby d_method_3_code_1) rfl (by decide) (by decide) (by decide) ?_
    show Steps p.tables e below (s₁.setTop (mkF m 8 #[.val (.int (2 : Int32))] [])) _
    refine XS.iloadN X0.here hx rfl (hb hby d_method_3_code_8) rfl ?_
    show Steps p.tables e below (s₁.setTop (mkF m 9 #[.val (.int (2 : Int32))] [(.int (2 : Int32))])) _
    refine XS.iconst X0.here hx rfl (hb hby d_method_3_code_9) ?_
    show Steps p.tables e below (s₁.setTop (mkF m 10 #[.val (.int (2 : Int32))] [(.int (1 : Int32)), (.int (2 : Int32))])) _
    refine XS.icmpYes X0.here hx rfl (pc0 := 10) (pc' := 17) rfl (hb hby d_method_3_code_10) rfl (by decide) (by decide) (by decide) ?_
    show Steps p.tables e below (s₁.setTop (mkF m 17 #[.val (.int (2 : Int32))] [])) _
    refine XS.iloadN X0.here hx rfl (hb hby d_method_3_code_17) rfl ?_
    show Steps p.tables e below (s₁.setTop (mkF m 18 #[.val (.int (2 : Int32))] [(.int (2 : Int32))])) _
    refine XS.iconst X0.here hx rfl (hb hby d_method_3_code_18) ?_
    show Steps p.tables e below (s₁.setTop (mkF m 19 #[.val (.int (2 : Int32))] [(.int (2 : Int32)), (.int (2 : Int32))])) _
    refine XS.icmpNo X0.here hx rfl (hb hby d_method_3_code_19) rfl (by decide) ?_
    show Steps p.tables e below (s₁.setTop (mkF m 22 #[.val (.int (2 : Int32))] [])) _
    refine st32 _ ?_
    show Steps p.tables e below (T32.setTop (mkF m 25 #[.val (.int (2 : Int32))] [(.ref w4)])) _
    exact retOut X32 hx (t := (.object "com/example/libgate/libgate/Condition$Operator")) (i := .areturn) Bd.returns rfl (Or.inr (Or.inr (Or.inr (Or.inr ⟨rfl, rfl, rfl⟩)))) (hb hby d_method_3_code_25) hr
  · show Qp (some (.ref w4)) h0 n0 _ T32.heap _
    rw [e32]
    exact ⟨rfl, N0, rfl⟩
theorem ef7 (m : MethodId)   (w4 : Addr) : entryFrame m #[(.ref w4)] 1 = mkF m 0 #[.val (.ref w4)] [] := by first | (simp [entryFrame, mkF, argsToLocals, Value.category]; done) | rfl
set_option maxRecDepth 65536 in
set_option maxHeartbeats 40000000 in
theorem rm13 (l : Launch) (Z : State) (a0 : Array Value) (hw : ∀ d ∈ tables_1, d.before a0 Z = true) (ws : List Jvm.Cond) (w0 w1 w2 w3 w4 w5 : Addr) (h0 : Heap) (n0 : Nat) (hWd : Wd Z w0 w1 w2 w3 w4 w5) (O0 : Old Z n0 h0) :
    MetFree l (⟨"java/lang/Enum", "ordinal", "()I"⟩ : MethodName) (head1 (Jvm.Cond.code (⟨"java/lang/Enum", "ordinal", "()I"⟩ : MethodName) jdk_37_method_2_code 1 (some .int) :: ws) ({ frames := 0, cells := 0, slots := 0, locals := 0 } : Room)) (fun a U => a = #[(.ref w4)] ∧ Z.Warmed39 U.vm ∧ U.heap = h0) (fun _ _ _ _ _ => True) (fun _ U o U' => ∃ v L, o = .returned v ∧ Qp (some (.int (2 : Int32))) h0 n0 v U'.heap L ∧ FrameEnd U o U' L ({ frames := 0, cells := 0, slots := 0, locals := 0 } : Room).cells ({ frames := 0, cells := 0, slots := 0, locals := 0 } : Room).slots) := by
  refine MetFree.of_bodySF (plainFor_of_name pn1) hisR ?_
  intro p e s m args below meth c s₁ Bd hml0 hP hK
  obtain ⟨rfl, hZ, hh⟩ := hP
  have hx := Bd.exec
  have hby := Bd.bytes
  have hml : c.maxLocals = 1 := hml0
  have hown : s.vm.findClass "java/lang/Enum" = some m.cls := findClass_of_methodNamed Bd.named
  have hnm := (name_of_methodNamed Bd.named Bd.method).1
  have X0 : Stand p l e ({ frames := 0, cells := 0, slots := 0, locals := 0 } : Room) s m #[(.ref w4)] below meth c s₁ [] 0 0 := Stand.of_body Bd
  have e0 : s₁.heap = h0 := by rw [← hh, Bd.state]; rfl
  have N0 := Fr.nil n0
  have hlk := Bd.notSynchronized
  obtain ⟨wS0, wE0, wS1, wE1, wS2, wE2, wS3, wE3, wS4, wE4, wS5, wE5, wF0_ordinal, wF1_ordinal, wF2_ordinal, wF3_ordinal, wF4_ordinal, wF5_ordinal, -⟩ := id hWd
  have pre0 : ∀ t, Steps p.tables e below (s₁.setTop (mkF m 0 #[.val (.ref w4)] [])) t → Steps p.tables e below (s₁.setTop (entryFrame m #[(.ref w4)] 1)) t := fun t k => castTop (ef7 m w4) k
  obtain ⟨T36, X36, e36, st36⟩ := getF X0 hx hZ hown (host := "") (Or.inl (hw _ (List.mem_of_getElem? (i := 21) rfl))) Via.refl e0 (wF4_ordinal.ext O0.2) (g := (mkF m 1 #[.val (.ref w4)] [(.ref w4)])) rfl rfl (hb hby d_jdk_37_method_2_code_1)
  obtain ⟨fs, hr, hrun, hended, hWr, hsame⟩ := X36.leave (v := some (.int (2 : Int32))) (fun h => by rw [Bd.returns] at h; cases h) hlk
  refine ⟨_, _, pre0 _ ?_, hrun, hended, _, _, rfl, ?_, ⟨_, rfl⟩, hWr, hsame.mono (Nat.le_of_ble_eq_true rfl) (Nat.le_of_ble_eq_true rfl)⟩
  · show Steps p.tables e below (s₁.setTop (mkF m 0 #[.val (.ref w4)] [])) _
    refine XS.aloadN X0.here hx rfl (hb hby d_jdk_37_method_2_code_0) rfl rfl ?_
    show Steps p.tables e below (s₁.setTop (mkF m 1 #[.val (.ref w4)] [(.ref w4)])) _
    refine st36 _ ?_
    show Steps p.tables e below (T36.setTop (mkF m 4 #[.val (.ref w4)] [(.int (2 : Int32))])) _
    exact retOut X36 hx (t := .int) (i := .ireturn) Bd.returns rfl (Or.inl ⟨rfl, Or.inl rfl, _, rfl⟩) (hb hby d_jdk_37_method_2_code_4) hr
  · show Qp (some (.int (2 : Int32))) h0 n0 _ T36.heap _
    rw [e36]
    exact ⟨rfl, N0, rfl⟩
theorem d_prog_17_method_6_code_78 : decode prog_17_method_6_code 78 = .ok (.iload_n 1, 1) := by decide +kernel
theorem d_prog_17_method_6_code_79 : decode prog_17_method_6_code 79 = .ok (.ifCond .le 7, 3) := by decide +kernel
theorem d_prog_17_method_6_code_86 : decode prog_17_method_6_code 86 = .ok (.iconst 0, 1) := by decide +kernel
theorem d_prog_17_method_6_code_87 : decode prog_17_method_6_code 87 = .ok (.goto 36, 3) := by decide +kernel
theorem ef8 (m : MethodId) (p1 : Int32)  (w4 : Addr) : entryFrame m #[(.ref w4), (.int p1)] 2 = mkF m 0 #[.val (.ref w4), .val (.int p1)] [] := by first | (simp [entryFrame, mkF, argsToLocals, Value.category]; done) | rfl
set_option maxRecDepth 65536 in
set_option maxHeartbeats 40000000 in
theorem rm12 (l : Launch) (Z : State) (a0 : Array Value) (hw : ∀ d ∈ tables_1, d.before a0 Z = true) (ws : List Jvm.Cond) (w0 w1 w2 w3 w4 w5 : Addr) (p1 : Int32) (h0 : Heap) (n0 : Nat) (hWd : Wd Z w0 w1 w2 w3 w4 w5) (O0 : Old Z n0 h0) (rl0 : p1 < (0 : Int32)) (rl1 : ¬ ((0 : Int32) < p1)) (rl2 : ¬ (p1 = (0 : Int32))) :
    MetFree l (⟨"com/example/libgate/libgate/Condition$Operator", "holds", "(I)Z"⟩ : MethodName) (head1 (Jvm.Cond.code (⟨"com/example/libgate/libgate/Condition$Operator", "holds", "(I)Z"⟩ : MethodName) prog_17_method_6_code 2 (some .boolean) :: ws) ({ frames := 1, cells := 0, slots := 0, locals := 12 } : Room)) (fun a U => a = #[(.ref w4), (.int p1)] ∧ Z.Warmed39 U.vm ∧ U.heap = h0) (fun _ _ _ _ _ => True) (fun _ U o U' => ∃ v L, o = .returned v ∧ Qp (some (.int (0 : Int32))) h0 n0 v U'.heap L ∧ FrameEnd U o U' L ({ frames := 1, cells := 0, slots := 0, locals := 12 } : Room).cells ({ frames := 1, cells := 0, slots := 0, locals := 12 } : Room).slots) := by
  refine MetFree.of_bodySF (plainFor_of_name pn2) hisR ?_
  intro p e s m args below meth c s₁ Bd hml0 hP hK
  obtain ⟨rfl, hZ, hh⟩ := hP
  have hx := Bd.exec
  have hby := Bd.bytes
  have hml : c.maxLocals = 2 := hml0
  have hown : s.vm.findClass "com/example/libgate/libgate/Condition$Operator" = some m.cls := findClass_of_methodNamed Bd.named
  have hnm := (name_of_methodNamed Bd.named Bd.method).1
  have X0 : Stand p l e ({ frames := 1, cells := 0, slots := 0, locals := 12 } : Room) s m #[(.ref w4), (.int p1)] below meth c s₁ [] 0 0 := Stand.of_body Bd
  have e0 : s₁.heap = h0 := by rw [← hh, Bd.state]; rfl
  have N0 := Fr.nil n0
  have hlk := Bd.notSynchronized
  obtain ⟨wS0, wE0, wS1, wE1, wS2, wE2, wS3, wE3, wS4, wE4, wS5, wE5, wF0_ordinal, wF1_ordinal, wF2_ordinal, wF3_ordinal, wF4_ordinal, wF5_ordinal, -⟩ := id hWd
  have pre0 : ∀ t, Steps p.tables e below (s₁.setTop (mkF m 0 #[.val (.ref w4), .val (.int p1)] [])) t → Steps p.tables e below (s₁.setTop (entryFrame m #[(.ref w4), (.int p1)] 2)) t := fun t k => castTop (ef8 m p1 w4) k
  obtain ⟨cq37, kq37, q37a, q37b, q37c⟩ := isOf hZ e0 (wE4.ext O0.2)
  obtain ⟨_, _, ⟨T37, L37, k37, n37⟩, -, X37, ⟨Lc37, hQ37, l37, y37, z37⟩, st37⟩ := X0.virtualBackUp hx (owner := "java/lang/Enum") (x := (⟨"com/example/libgate/libgate/Condition$Operator", "ordinal", "()I"⟩ : MethodName)) (y := (⟨"java/lang/Enum", "ordinal", "()I"⟩ : MethodName)) hown (mvT hZ (hw _ (List.mem_of_getElem? (i := 14) rfl))) (mvT hZ (hw _ (List.mem_of_getElem? (i := 15) rfl))) (mvT hZ (hw _ (List.mem_of_getElem? (i := 16) rfl))) (by decide) (mvT hZ (hw _ (List.mem_of_getElem? (i := 18) rfl))) (mvT hZ (hw _ (List.mem_of_getElem? (i := 17) rfl))) (backOf (W := 0) (rm13 l Z a0 hw [] w0 w1 w2 w3 w4 w5 h0 n0 hWd O0) hZ (hw _ (List.mem_of_getElem? (i := 20) rfl)) (hw _ (List.mem_of_getElem? (i := 19) rfl)) (by decide) (by decide)) q37a q37c (g := (mkF m 1 #[.val (.ref w4), .val (.int p1)] [(.ref w4)])) rfl (by rw [hml]; rfl) (Steps.refl _) (argsL := []) (rest := []) (lenOf pd1 rfl) rfl (by show 2 * 0 + _ ≤ _; exact Nat.le_of_eq rfl) (hb hby d_prog_17_method_6_code_1) (fun _ _ => ⟨rfl, e0, (by decide : 0 + 0 ≤ _), (by decide : 0 + 0 ≤ _)⟩)
  dsimp only [Pt.U, Pt.locs, Pt.cells, Pt.slots] at X37 l37 y37 z37 st37 hQ37
  subst l37 y37 z37
  obtain ⟨rfl, N37q, e37⟩ := hQ37
  have N37 := Fr.app N0 N37q
  obtain ⟨fs, hr, hrun, hended, hWr, hsame⟩ := X37.leave (v := some (.int (0 : Int32))) (fun h => by rw [Bd.returns] at h; cases h) hlk
  refine ⟨_, _, pre0 _ ?_, hrun, hended, _, _, rfl, ?_, ⟨_, rfl⟩, hWr, hsame.mono (Nat.le_of_ble_eq_true rfl) (Nat.le_of_ble_eq_true rfl)⟩
  · show Steps p.tables e below (s₁.setTop (mkF m 0 #[.val (.ref w4), .val (.int p1)] [])) _
    refine XS.aloadN X0.here hx rfl (hb hby d_prog_17_method_6_code_0) rfl rfl ?_
    show Steps p.tables e below (s₁.setTop (mkF m 1 #[.val (.ref w4), .val (.int p1)] [(.ref w4)])) _
    refine st37.trans ?_
    show Steps p.tables e below (T37.setTop (mkF m 4 #[.val (.ref w4), .val (.int p1)] [(.int (2 : Int32))])) _
    refine XS.tswIn X37.here hx rfl (pc0 := 4) (pc' := 78) (o := 74) rfl (hb hby d_prog_17_method_6_code_4) rfl (by decide) (by first | rfl | decide) (by decide) (by decide) ?_
    show Steps p.tables e below (T37.setTop (mkF m 78 #[.val (.ref w4), .val (.int p1)] [])) _
    refine XS.iloadN X37.here hx rfl (hb hby d_prog_17_method_6_code_78) rfl ?_
    show Steps p.tables e below (T37.setTop (mkF m 79 #[.val (.ref w4), .val (.int p1)] [(.int p1)])) _
    refine XS.ifYes X37.here hx rfl (pc0 := 79) (pc' := 86) rfl (hb hby d_prog_17_method_6_code_79) rfl ((if0 _ _).trans (flt rl1).2.2.2) (by decide) (by decide) ?_
    show Steps p.tables e below (T37.setTop (mkF m 86 #[.val (.ref w4), .val (.int p1)] [])) _
    refine XS.iconst X37.here hx rfl (hb hby d_prog_17_method_6_code_86) ?_
    show Steps p.tables e below (T37.setTop (mkF m 87 #[.val (.ref w4), .val (.int p1)] [(.int (0 : Int32))])) _
    refine XS.goto X37.here hx rfl (pc0 := 87) (pc' := 123) rfl (hb hby d_prog_17_method_6_code_87) (by decide) (by decide) ?_
    show Steps p.tables e below (T37.setTop (mkF m 123 #[.val (.ref w4), .val (.int p1)] [(.int (0 : Int32))])) _
    exact retN X37 hx (t := .boolean) Bd.returns (by simp) (hb hby d_prog_17_method_6_code_123) hr
  · show Qp (some (.int (0 : Int32))) h0 n0 _ T37.heap _
    rw [e37]
    exact ⟨rfl, N37, rfl⟩
theorem d_prog_17_method_6_code_82 : decode prog_17_method_6_code 82 = .ok (.iconst 1, 1) := by decide +kernel
theorem d_prog_17_method_6_code_83 : decode prog_17_method_6_code 83 = .ok (.goto 40, 3) := by decide +kernel
set_option maxRecDepth 65536 in
set_option maxHeartbeats 40000000 in
theorem rm14 (l : Launch) (Z : State) (a0 : Array Value) (hw : ∀ d ∈ tables_1, d.before a0 Z = true) (ws : List Jvm.Cond) (w0 w1 w2 w3 w4 w5 : Addr) (p1 : Int32) (h0 : Heap) (n0 : Nat) (hWd : Wd Z w0 w1 w2 w3 w4 w5) (O0 : Old Z n0 h0) (rl0 : ¬ (p1 < (0 : Int32))) (rl1 : (0 : Int32) < p1) (rl2 : ¬ (p1 = (0 : Int32))) :
    MetFree l (⟨"com/example/libgate/libgate/Condition$Operator", "holds", "(I)Z"⟩ : MethodName) (head1 (Jvm.Cond.code (⟨"com/example/libgate/libgate/Condition$Operator", "holds", "(I)Z"⟩ : MethodName) prog_17_method_6_code 2 (some .boolean) :: ws) ({ frames := 1, cells := 0, slots := 0, locals := 12 } : Room)) (fun a U => a = #[(.ref w4), (.int p1)] ∧ Z.Warmed39 U.vm ∧ U.heap = h0) (fun _ _ _ _ _ => True) (fun _ U o U' => ∃ v L, o = .returned v ∧ Qp (some (.int (1 : Int32))) h0 n0 v U'.heap L ∧ FrameEnd U o U' L ({ frames := 1, cells := 0, slots := 0, locals := 12 } : Room).cells ({ frames := 1, cells := 0, slots := 0, locals := 12 } : Room).slots) := by
  refine MetFree.of_bodySF (plainFor_of_name pn2) hisR ?_
  intro p e s m args below meth c s₁ Bd hml0 hP hK
  obtain ⟨rfl, hZ, hh⟩ := hP
  have hx := Bd.exec
  have hby := Bd.bytes
  have hml : c.maxLocals = 2 := hml0
  have hown : s.vm.findClass "com/example/libgate/libgate/Condition$Operator" = some m.cls := findClass_of_methodNamed Bd.named
  have hnm := (name_of_methodNamed Bd.named Bd.method).1
  have X0 : Stand p l e ({ frames := 1, cells := 0, slots := 0, locals := 12 } : Room) s m #[(.ref w4), (.int p1)] below meth c s₁ [] 0 0 := Stand.of_body Bd
  have e0 : s₁.heap = h0 := by rw [← hh, Bd.state]; rfl
  have N0 := Fr.nil n0
  have hlk := Bd.notSynchronized
  obtain ⟨wS0, wE0, wS1, wE1, wS2, wE2, wS3, wE3, wS4, wE4, wS5, wE5, wF0_ordinal, wF1_ordinal, wF2_ordinal, wF3_ordinal, wF4_ordinal, wF5_ordinal, -⟩ := id hWd
  have pre0 : ∀ t, Steps p.tables e below (s₁.setTop (mkF m 0 #[.val (.ref w4), .val (.int p1)] [])) t → Steps p.tables e below (s₁.setTop (entryFrame m #[(.ref w4), (.int p1)] 2)) t := fun t k => castTop (ef8 m p1 w4) k
  obtain ⟨cq39, kq39, q39a, q39b, q39c⟩ := isOf hZ e0 (wE4.ext O0.2)
  obtain ⟨_, _, ⟨T39, L39, k39, n39⟩, -, X39, ⟨Lc39, hQ39, l39, y39, z39⟩, st39⟩ := X0.virtualBackUp hx (owner := "java/lang/Enum") (x := (⟨"com/example/libgate/libgate/Condition$Operator", "ordinal", "()I"⟩ : MethodName)) (y := (⟨"java/lang/Enum", "ordinal", "()I"⟩ : MethodName)) hown (mvT hZ (hw _ (List.mem_of_getElem? (i := 14) rfl))) (mvT hZ (hw _ (List.mem_of_getElem? (i := 15) rfl))) (mvT hZ (hw _ (List.mem_of_getElem? (i := 16) rfl))) (by decide) (mvT hZ (hw _ (List.mem_of_getElem? (i := 18) rfl))) (mvT hZ (hw _ (List.mem_of_getElem? (i := 17) rfl))) (backOf (W := 0) (rm13 l Z a0 hw [] w0 w1 w2 w3 w4 w5 h0 n0 hWd O0) hZ (hw _ (List.mem_of_getElem? (i := 20) rfl)) (hw _ (List.mem_of_getElem? (i := 19) rfl)) (by decide) (by decide)) q39a q39c (g := (mkF m 1 #[.val (.ref w4), .val (.int p1)] [(.ref w4)])) rfl (by rw [hml]; rfl) (Steps.refl _) (argsL := []) (rest := []) (lenOf pd1 rfl) rfl (by show 2 * 0 + _ ≤ _; exact Nat.le_of_eq rfl) (hb hby d_prog_17_method_6_code_1) (fun _ _ => ⟨rfl, e0, (by decide : 0 + 0 ≤ _), (by decide : 0 + 0 ≤ _)⟩)
  dsimp only [Pt.U, Pt.locs, Pt.cells, Pt.slots] at X39 l39 y39 z39 st39 hQ39
  subst l39 y39 z39
  obtain ⟨rfl, N39q, e39⟩ := hQ39
  have N39 := Fr.app N0 N39q
  obtain ⟨fs, hr, hrun, hended, hWr, hsame⟩ := X39.leave (v := some (.int (1 : Int32))) (fun h => by rw [Bd.returns] at h; cases h) hlk
  refine ⟨_, _, pre0 _ ?_, hrun, hended, _, _, rfl, ?_, ⟨_, rfl⟩, hWr, hsame.mono (Nat.le_of_ble_eq_true rfl) (Nat.le_of_ble_eq_true rfl)⟩
  · show Steps p.tables e below (s₁.setTop (mkF m 0 #[.val (.ref w4), .val (.int p1)] [])) _
    refine XS.aloadN X0.here hx rfl (hb hby d_prog_17_method_6_code_0) rfl rfl ?_
    show Steps p.tables e below (s₁.setTop (mkF m 1 #[.val (.ref w4), .val (.int p1)] [(.ref w4)])) _
    refine st39.trans ?_
    show Steps p.tables e below (T39.setTop (mkF m 4 #[.val (.ref w4), .val (.int p1)] [(.int (2 : Int32))])) _
    refine XS.tswIn X39.here hx rfl (pc0 := 4) (pc' := 78) (o := 74) rfl (hb hby d_prog_17_method_6_code_4) rfl (by decide) (by first | rfl | decide) (by decide) (by decide) ?_
    show Steps p.tables e below (T39.setTop (mkF m 78 #[.val (.ref w4), .val (.int p1)] [])) _
    refine XS.iloadN X39.here hx rfl (hb hby d_prog_17_method_6_code_78) rfl ?_
    show Steps p.tables e below (T39.setTop (mkF m 79 #[.val (.ref w4), .val (.int p1)] [(.int p1)])) _
    refine XS.ifNo X39.here hx rfl (hb hby d_prog_17_method_6_code_79) rfl ((if0 _ _).trans (tlt rl1).2.2.2) ?_
    show Steps p.tables e below (T39.setTop (mkF m 82 #[.val (.ref w4), .val (.int p1)] [])) _
    refine XS.iconst X39.here hx rfl (hb hby d_prog_17_method_6_code_82) ?_
    show Steps p.tables e below (T39.setTop (mkF m 83 #[.val (.ref w4), .val (.int p1)] [(.int (1 : Int32))])) _
    refine XS.goto X39.here hx rfl (pc0 := 83) (pc' := 123) rfl (hb hby d_prog_17_method_6_code_83) (by decide) (by decide) ?_
    show Steps p.tables e below (T39.setTop (mkF m 123 #[.val (.ref w4), .val (.int p1)] [(.int (1 : Int32))])) _
    exact retN X39 hx (t := .boolean) Bd.returns (by simp) (hb hby d_prog_17_method_6_code_123) hr
  · show Qp (some (.int (1 : Int32))) h0 n0 _ T39.heap _
    rw [e39]
    exact ⟨rfl, N39, rfl⟩
set_option maxRecDepth 65536 in
set_option maxHeartbeats 40000000 in
theorem rm15 (l : Launch) (Z : State) (a0 : Array Value) (hw : ∀ d ∈ tables_1, d.before a0 Z = true) (ws : List Jvm.Cond) (w0 w1 w2 w3 w4 w5 : Addr) (h0 : Heap) (n0 : Nat) (hWd : Wd Z w0 w1 w2 w3 w4 w5) (O0 : Old Z n0 h0) :
    MetFree l (⟨"com/example/libgate/libgate/Condition$Operator", "isEquality", "()Z"⟩ : MethodName) (head1 (Jvm.Cond.code (⟨"com/example/libgate/libgate/Condition$Operator", "isEquality", "()Z"⟩ : MethodName) prog_17_method_5_code 1 (some .boolean) :: ws) ({ frames := 0, cells := 0, slots := 0, locals := 0 } : Room)) (fun a U => a = #[(.ref w4)] ∧ Z.Warmed39 U.vm ∧ U.heap = h0) (fun _ _ _ _ _ => True) (fun _ U o U' => ∃ v L, o = .returned v ∧ Qp (some (.int (0 : Int32))) h0 n0 v U'.heap L ∧ FrameEnd U o U' L ({ frames := 0, cells := 0, slots := 0, locals := 0 } : Room).cells ({ frames := 0, cells := 0, slots := 0, locals := 0 } : Room).slots) := by
  refine MetFree.of_bodySF (plainFor_of_name pn2) hisR ?_
  intro p e s m args below meth c s₁ Bd hml0 hP hK
  obtain ⟨rfl, hZ, hh⟩ := hP
  have hx := Bd.exec
  have hby := Bd.bytes
  have hml : c.maxLocals = 1 := hml0
  have hown : s.vm.findClass "com/example/libgate/libgate/Condition$Operator" = some m.cls := findClass_of_methodNamed Bd.named
  have hnm := (name_of_methodNamed Bd.named Bd.method).1
  have X0 : Stand p l e ({ frames := 0, cells := 0, slots := 0, locals := 0 } : Room) s m #[(.ref w4)] below meth c s₁ [] 0 0 := Stand.of_body Bd
  have e0 : s₁.heap = h0 := by rw [← hh, Bd.state]; rfl
  have N0 := Fr.nil n0
  have hlk := Bd.notSynchronized
  obtain ⟨wS0, wE0, wS1, wE1, wS2, wE2, wS3, wE3, wS4, wE4, wS5, wE5, wF0_ordinal, wF1_ordinal, wF2_ordinal, wF3_ordinal, wF4_ordinal, wF5_ordinal, -⟩ := id hWd
  have pre0 : ∀ t, Steps p.tables e below (s₁.setTop (mkF m 0 #[.val (.ref w4)] [])) t → Steps p.tables e below (s₁.setTop (entryFrame m #[(.ref w4)] 1)) t := fun t k => castTop (ef7 m w4) k
  obtain ⟨T41, X41, e41, st41⟩ := getS2 X0 hx hZ hown (host := "") (Or.inl (hw _ (List.mem_of_getElem? (i := 28) rfl))) Via.refl e0 (wS1.ext O0.2) (g := (mkF m 1 #[.val (.ref w4)] [(.ref w4)])) rfl (hb hby d_prog_17_method_5_code_1)
  obtain ⟨T42, X42, e42, st42⟩ := getS2 X41 hx hZ hown (host := "") (Or.inl (hw _ (List.mem_of_getElem? (i := 30) rfl))) Via.refl e41 (wS2.ext O0.2) (g := (mkF m 8 #[.val (.ref w4)] [(.ref w4)])) rfl (hb hby d_prog_17_method_5_code_8)
  obtain ⟨fs, hr, hrun, hended, hWr, hsame⟩ := X42.leave (v := some (.int (0 : Int32))) (fun h => by rw [Bd.returns] at h; cases h) hlk
  refine ⟨_, _, pre0 _ ?_, hrun, hended, _, _, rfl, ?_, ⟨_, rfl⟩, hWr, hsame.mono (Nat.le_of_ble_eq_true rfl) (Nat.le_of_ble_eq_true rfl)⟩
  · show Steps p.tables e below (s₁.setTop (mkF m 0 #[.val (.ref w4)] [])) _
    refine XS.aloadN X0.here hx rfl (hb hby d_prog_17_method_5_code_0) rfl rfl ?_
    show Steps p.tables e below (s₁.setTop (mkF m 1 #[.val (.ref w4)] [(.ref w4)])) _
    refine st41 _ ?_
    show Steps p.tables e below (T41.setTop (mkF m 4 #[.val (.ref w4)] [(.ref w1), (.ref w4)])) _
    refine Jvm.RoadKit.acmp (g := (mkF m 4 #[.val (.ref w4)] [(.ref w1), (.ref w4)])) X41 hx rfl rfl rfl (pc0 := 4) (pc' := 7) (same := false) rfl (hb hby d_prog_17_method_5_code_4) rfl (decide_eq_false fun q => (Fld.ne wF4_ordinal wF1_ordinal (fun q => absurd (Value.int.inj q) (by decide))) (Value.ref.inj q)) (by decide) (by decide) ?_
    show Steps p.tables e below (T41.setTop (mkF m 7 #[.val (.ref w4)] [])) _
    refine XS.aloadN X41.here hx rfl (hb hby d_prog_17_method_5_code_7) rfl rfl ?_
    show Steps p.tables e below (T41.setTop (mkF m 8 #[.val (.ref w4)] [(.ref w4)])) _
    refine st42 _ ?_
    show Steps p.tables e below (T42.setTop (mkF m 11 #[.val (.ref w4)] [(.ref w2), (.ref w4)])) _
    refine Jvm.RoadKit.acmp (g := (mkF m 11 #[.val (.ref w4)] [(.ref w2), (.ref w4)])) X42 hx rfl rfl rfl (pc0 := 11) (pc' := 18) (same := false) rfl (hb hby d_prog_17_method_5_code_11) rfl (decide_eq_false fun q => (Fld.ne wF4_ordinal wF2_ordinal (fun q => absurd (Value.int.inj q) (by decide))) (Value.ref.inj q)) (by decide) (by decide) ?_
    show Steps p.tables e below (T42.setTop (mkF m 18 #[.val (.ref w4)] [])) _
    refine XS.iconst X42.here hx rfl (hb hby d_prog_17_method_5_code_18) ?_
    show Steps p.tables e below (T42.setTop (mkF m 19 #[.val (.ref w4)] [(.int (0 : Int32))])) _
    exact retN X42 hx (t := .boolean) Bd.returns (by simp) (hb hby d_prog_17_method_5_code_19) hr
  · show Qp (some (.int (0 : Int32))) h0 n0 _ T42.heap _
    rw [e42]
    exact ⟨rfl, N0, rfl⟩
theorem d_method_3_code_26 : decode method_3_code 26 = .ok (.iload_n 0, 1) := by decide +kernel
theorem d_method_3_code_27 : decode method_3_code 27 = .ok (.iconst 3, 1) := by decide +kernel
theorem d_method_3_code_28 : decode method_3_code 28 = .ok (.if_icmp .ne 7, 3) := by decide +kernel
theorem d_method_3_code_31 : decode method_3_code 31 = .ok (.getstatic 35, 3) := by decide +kernel
theorem d_method_3_code_34 : decode method_3_code 34 = .ok (.areturn, 1) := by decide +kernel
theorem ef9 (m : MethodId)    : entryFrame m #[(.int (3 : Int32))] 1 = mkF m 0 #[.val (.int (3 : Int32))] [] := by first | (simp [entryFrame, mkF, argsToLocals, Value.category]; done) | rfl
set_option maxRecDepth 65536 in
set_option maxHeartbeats 40000000 in
theorem rm16 (l : Launch) (Z : State) (a0 : Array Value) (hw : ∀ d ∈ tables_1, d.before a0 Z = true) (ws : List Jvm.Cond) (w0 w1 w2 w3 w4 w5 : Addr) (h0 : Heap) (n0 : Nat) (hWd : Wd Z w0 w1 w2 w3 w4 w5) (O0 : Old Z n0 h0) :
    MetFree l (⟨"com/example/libgate/libgate/OperatorIsEqualityPinLaw", "pickOp", "(I)Lcom/example/libgate/libgate/Condition$Operator;"⟩ : MethodName) (head1 (Jvm.Cond.code (⟨"com/example/libgate/libgate/OperatorIsEqualityPinLaw", "pickOp", "(I)Lcom/example/libgate/libgate/Condition$Operator;"⟩ : MethodName) method_3_code 1 (some (.object "com/example/libgate/libgate/Condition$Operator")) :: ws) ({ frames := 0, cells := 0, slots := 0, locals := 0 } : Room)) (fun a U => a = #[(.int (3 : Int32))] ∧ Z.Warmed39 U.vm ∧ U.heap = h0) (fun _ _ _ _ _ => True) (fun _ U o U' => ∃ v L, o = .returned v ∧ Qp (some (.ref w5)) h0 n0 v U'.heap L ∧ FrameEnd U o U' L ({ frames := 0, cells := 0, slots := 0, locals := 0 } : Room).cells ({ frames := 0, cells := 0, slots := 0, locals := 0 } : Room).slots) := by
  refine MetFree.of_bodySF (plainFor_of_name pn0) hisR ?_
  intro p e s m args below meth c s₁ Bd hml0 hP hK
  obtain ⟨rfl, hZ, hh⟩ := hP
  have hx := Bd.exec
  have hby := Bd.bytes
  have hml : c.maxLocals = 1 := hml0
  have hown : s.vm.findClass "com/example/libgate/libgate/OperatorIsEqualityPinLaw" = some m.cls := findClass_of_methodNamed Bd.named
  have hnm := (name_of_methodNamed Bd.named Bd.method).1
  have X0 : Stand p l e ({ frames := 0, cells := 0, slots := 0, locals := 0 } : Room) s m #[(.int (3 : Int32))] below meth c s₁ [] 0 0 := Stand.of_body Bd
  have e0 : s₁.heap = h0 := by rw [← hh, Bd.state]; rfl
  have N0 := Fr.nil n0
  have hlk := Bd.notSynchronized
  obtain ⟨wS0, wE0, wS1, wE1, wS2, wE2, wS3, wE3, wS4, wE4, wS5, wE5, wF0_ordinal, wF1_ordinal, wF2_ordinal, wF3_ordinal, wF4_ordinal, wF5_ordinal, -⟩ := id hWd
  have pre0 : ∀ t, Steps p.tables e below (s₁.setTop (mkF m 0 #[.val (.int (3 : Int32))] [])) t → Steps p.tables e below (s₁.setTop (entryFrame m #[(.int (3 : Int32))] 1)) t := fun t k => castTop (ef9 m ) k
  obtain ⟨T44, X44, e44, st44⟩ := getS2 X0 hx hZ hown (host := "") (Or.inl (hw _ (List.mem_of_getElem? (i := 37) rfl))) Via.refl e0 (wS5.ext O0.2) (g := (mkF m 31 #[.val (.int (3 : Int32))] [])) rfl (hb hby d_method_3_code_31)
  obtain ⟨fs, hr, hrun, hended, hWr, hsame⟩ := X44.leave (v := some (.ref w5)) (fun h => by rw [Bd.returns] at h; cases h) hlk
  refine ⟨_, _, pre0 _ ?_, hrun, hended, _, _, rfl, ?_, ⟨_, rfl⟩, hWr, hsame.mono (Nat.le_of_ble_eq_true rfl) (Nat.le_of_ble_eq_true rfl)⟩
  · show Steps p.tables e below (s₁.setTop (mkF m 0 #[.val (.int (3 : Int32))] [])) _
    refine XS.iloadN X0.here hx rfl (hb hby d_method_3_code_0) rfl ?_
    show Steps p.tables e below (s₁.setTop (mkF m 1 #[.val (.int (3 : Int32))] [(.int (3 : Int32))])) _
    refine XS.ifYes X0.here hx rfl (pc0 := 1) (pc' := 8) rfl (hb hby d_method_3_code_1) rfl (by decide) (by decide) (by decide) ?_
    show Steps p.tables e below (s₁.setTop (mkF m 8 #[.val (.int (3 : Int32))] [])) _
    refine XS.iloadN X0.here hx rfl (hb hby d_method_3_code_8) rfl ?_
    show Steps p.tables e below (s₁.setTop (mkF m 9 #[.val (.int (3 : Int32))] [(.int (3 : Int32))])) _
    refine XS.iconst X0.here hx rfl (hb hby d_method_3_code_9) ?_
    show Steps p.tables e below (s₁.setTop (mkF m 10 #[.val (.int (3 : Int32))] [(.int (1 : Int32)), (.int (3 : Int32))])) _
    refine XS.icmpYes X0.here hx rfl (pc0 := 10) (pc' := 17) rfl (hb hby d_method_3_code_10) rfl (by decide) (by decide) (by decide) ?_
    show Steps p.tables e below (s₁.setTop (mkF m 17 #[.val (.int (3 : Int32))] [])) _
    refine XS.iloadN X0.here hx rfl (hb hby d_method_3_code_17) rfl ?_
    show Steps p.tables e below (s₁.setTop (mkF m 18 #[.val (.int (3 : Int32))] [(.int (3 : Int32))])) _
    refine XS.iconst X0.here hx rfl (hb hby d_method_3_code_18) ?_
    show Steps p.tables e below (s₁.setTop (mkF m 19 #[.val (.int (3 : Int32))] [(.int (2 : Int32)), (.int (3 : Int32))])) _
    refine XS.icmpYes X0.here hx rfl (pc0 := 19) (pc' := 26) rfl (hb hby d_method_3_code_19) rfl (by decide) (by decide) (by decide) ?_
    show Steps p.tables e below (s₁.setTop (mkF m 26 #[.val (.int (3 : Int32))] [])) _
    refine XS.iloadN X0.here hx rfl (hb hby d_method_3_code_26) rfl ?_
    show Steps p.tables e below (s₁.setTop (mkF m 27 #[.val (.int (3 : Int32))] [(.int (3 : Int32))])) _
    refine XS.iconst X0.here hx rfl (hb hby d_method_3_code_27) ?_
    show Steps p.tables e below (s₁.setTop (mkF m 28 #[.val (.int (3 : Int32))] [(.int (3 : Int32)), (.int (3 : Int32))])) _
    refine XS.icmpNo X0.here hx rfl (hb hby d_method_3_code_28) rfl (by decide) ?_
    show Steps p.tables e below (s₁.setTop (mkF m 31 #[.val (.int (3 : Int32))] [])) _
    refine st44 _ ?_
    show Steps p.tables e below (T44.setTop (mkF m 34 #[.val (.int (3 : Int32))] [(.ref w5)])) _
    exact retOut X44 hx (t := (.object "com/example/libgate/libgate/Condition$Operator")) (i := .areturn) Bd.returns rfl (Or.inr (Or.inr (Or.inr (Or.inr ⟨rfl, rfl, rfl⟩)))) (hb hby d_method_3_code_34) hr
  · show Qp (some (.ref w5)) h0 n0 _ T44.heap _
    rw [e44]
    exact ⟨rfl, N0, rfl⟩
theorem ef10 (m : MethodId)   (w5 : Addr) : entryFrame m #[(.ref w5)] 1 = mkF m 0 #[.val (.ref w5)] [] := by first | (simp [entryFrame, mkF, argsToLocals, Value.category]; done) | rfl
set_option maxRecDepth 65536 in
set_option maxHeartbeats 40000000 in
theorem rm18 (l : Launch) (Z : State) (a0 : Array Value) (hw : ∀ d ∈ tables_1, d.before a0 Z = true) (ws : List Jvm.Cond) (w0 w1 w2 w3 w4 w5 : Addr) (h0 : Heap) (n0 : Nat) (hWd : Wd Z w0 w1 w2 w3 w4 w5) (O0 : Old Z n0 h0) :
    MetFree l (⟨"java/lang/Enum", "ordinal", "()I"⟩ : MethodName) (head1 (Jvm.Cond.code (⟨"java/lang/Enum", "ordinal", "()I"⟩ : MethodName) jdk_37_method_2_code 1 (some .int) :: ws) ({ frames := 0, cells := 0, slots := 0, locals := 0 } : Room)) (fun a U => a = #[(.ref w5)] ∧ Z.Warmed39 U.vm ∧ U.heap = h0) (fun _ _ _ _ _ => True) (fun _ U o U' => ∃ v L, o = .returned v ∧ Qp (some (.int (3 : Int32))) h0 n0 v U'.heap L ∧ FrameEnd U o U' L ({ frames := 0, cells := 0, slots := 0, locals := 0 } : Room).cells ({ frames := 0, cells := 0, slots := 0, locals := 0 } : Room).slots) := by
  refine MetFree.of_bodySF (plainFor_of_name pn1) hisR ?_
  intro p e s m args below meth c s₁ Bd hml0 hP hK
  obtain ⟨rfl, hZ, hh⟩ := hP
  have hx := Bd.exec
  have hby := Bd.bytes
  have hml : c.maxLocals = 1 := hml0
  have hown : s.vm.findClass "java/lang/Enum" = some m.cls := findClass_of_methodNamed Bd.named
  have hnm := (name_of_methodNamed Bd.named Bd.method).1
  have X0 : Stand p l e ({ frames := 0, cells := 0, slots := 0, locals := 0 } : Room) s m #[(.ref w5)] below meth c s₁ [] 0 0 := Stand.of_body Bd
  have e0 : s₁.heap = h0 := by rw [← hh, Bd.state]; rfl
  have N0 := Fr.nil n0
  have hlk := Bd.notSynchronized
  obtain ⟨wS0, wE0, wS1, wE1, wS2, wE2, wS3, wE3, wS4, wE4, wS5, wE5, wF0_ordinal, wF1_ordinal, wF2_ordinal, wF3_ordinal, wF4_ordinal, wF5_ordinal, -⟩ := id hWd
  have pre0 : ∀ t, Steps p.tables e below (s₁.setTop (mkF m 0 #[.val (.ref w5)] [])) t → Steps p.tables e below (s₁.setTop (entryFrame m #[(.ref w5)] 1)) t := fun t k => castTop (ef10 m w5) k
  obtain ⟨T48, X48, e48, st48⟩ := getF X0 hx hZ hown (host := "") (Or.inl (hw _ (List.mem_of_getElem? (i := 21) rfl))) Via.refl e0 (wF5_ordinal.ext O0.2) (g := (mkF m 1 #[.val (.ref w5)] [(.ref w5)])) rfl rfl (hb hby d_jdk_37_method_2_code_1)
  obtain ⟨fs, hr, hrun, hended, hWr, hsame⟩ := X48.leave (v := some (.int (3 : Int32))) (fun h => by rw [Bd.returns] at h; cases h) hlk
  refine ⟨_, _, pre0 _ ?_, hrun, hended, _, _, rfl, ?_, ⟨_, rfl⟩, hWr, hsame.mono (Nat.le_of_ble_eq_true rfl) (Nat.le_of_ble_eq_true rfl)⟩
  · show Steps p.tables e below (s₁.setTop (mkF m 0 #[.val (.ref w5)] [])) _
    refine XS.aloadN X0.here hx rfl (hb hby d_jdk_37_method_2_code_0) rfl rfl ?_
    show Steps p.tables e below (s₁.setTop (mkF m 1 #[.val (.ref w5)] [(.ref w5)])) _
    refine st48 _ ?_
    show Steps p.tables e below (T48.setTop (mkF m 4 #[.val (.ref w5)] [(.int (3 : Int32))])) _
    exact retOut X48 hx (t := .int) (i := .ireturn) Bd.returns rfl (Or.inl ⟨rfl, Or.inl rfl, _, rfl⟩) (hb hby d_jdk_37_method_2_code_4) hr
  · show Qp (some (.int (3 : Int32))) h0 n0 _ T48.heap _
    rw [e48]
    exact ⟨rfl, N0, rfl⟩
theorem d_prog_17_method_6_code_90 : decode prog_17_method_6_code 90 = .ok (.iload_n 1, 1) := by decide +kernel
theorem d_prog_17_method_6_code_91 : decode prog_17_method_6_code 91 = .ok (.ifCond .lt 7, 3) := by decide +kernel
theorem d_prog_17_method_6_code_98 : decode prog_17_method_6_code 98 = .ok (.iconst 0, 1) := by decide +kernel
theorem d_prog_17_method_6_code_99 : decode prog_17_method_6_code 99 = .ok (.goto 24, 3) := by decide +kernel
theorem ef11 (m : MethodId) (p1 : Int32)  (w5 : Addr) : entryFrame m #[(.ref w5), (.int p1)] 2 = mkF m 0 #[.val (.ref w5), .val (.int p1)] [] := by first | (simp [entryFrame, mkF, argsToLocals, Value.category]; done) | rfl
set_option maxRecDepth 65536 in
set_option maxHeartbeats 40000000 in
theorem rm17 (l : Launch) (Z : State) (a0 : Array Value) (hw : ∀ d ∈ tables_1, d.before a0 Z = true) (ws : List Jvm.Cond) (w0 w1 w2 w3 w4 w5 : Addr) (p1 : Int32) (h0 : Heap) (n0 : Nat) (hWd : Wd Z w0 w1 w2 w3 w4 w5) (O0 : Old Z n0 h0) (rl0 : p1 < (0 : Int32)) (rl1 : ¬ ((0 : Int32) < p1)) (rl2 : ¬ (p1 = (0 : Int32))) :
    MetFree l (⟨"com/example/libgate/libgate/Condition$Operator", "holds", "(I)Z"⟩ : MethodName) (head1 (Jvm.Cond.code (⟨"com/example/libgate/libgate/Condition$Operator", "holds", "(I)Z"⟩ : MethodName) prog_17_method_6_code 2 (some .boolean) :: ws) ({ frames := 1, cells := 0, slots := 0, locals := 12 } : Room)) (fun a U => a = #[(.ref w5), (.int p1)] ∧ Z.Warmed39 U.vm ∧ U.heap = h0) (fun _ _ _ _ _ => True) (fun _ U o U' => ∃ v L, o = .returned v ∧ Qp (some (.int (0 : Int32))) h0 n0 v U'.heap L ∧ FrameEnd U o U' L ({ frames := 1, cells := 0, slots := 0, locals := 12 } : Room).cells ({ frames := 1, cells := 0, slots := 0, locals := 12 } : Room).slots) := by
  refine MetFree.of_bodySF (plainFor_of_name pn2) hisR ?_
  intro p e s m args below meth c s₁ Bd hml0 hP hK
  obtain ⟨rfl, hZ, hh⟩ := hP
  have hx := Bd.exec
  have hby := Bd.bytes
  have hml : c.maxLocals = 2 := hml0
  have hown : s.vm.findClass "com/example/libgate/libgate/Condition$Operator" = some m.cls := findClass_of_methodNamed Bd.named
  have hnm := (name_of_methodNamed Bd.named Bd.method).1
  have X0 : Stand p l e ({ frames := 1, cells := 0, slots := 0, locals := 12 } : Room) s m #[(.ref w5), (.int p1)] below meth c s₁ [] 0 0 := Stand.of_body Bd
  have e0 : s₁.heap = h0 := by rw [← hh, Bd.state]; rfl
  have N0 := Fr.nil n0
  have hlk := Bd.notSynchronized
  obtain ⟨wS0, wE0, wS1, wE1, wS2, wE2, wS3, wE3, wS4, wE4, wS5, wE5, wF0_ordinal, wF1_ordinal, wF2_ordinal, wF3_ordinal, wF4_ordinal, wF5_ordinal, -⟩ := id hWd
  have pre0 : ∀ t, Steps p.tables e below (s₁.setTop (mkF m 0 #[.val (.ref w5), .val (.int p1)] [])) t → Steps p.tables e below (s₁.setTop (entryFrame m #[(.ref w5), (.int p1)] 2)) t := fun t k => castTop (ef11 m p1 w5) k
  obtain ⟨cq49, kq49, q49a, q49b, q49c⟩ := isOf hZ e0 (wE5.ext O0.2)
  obtain ⟨_, _, ⟨T49, L49, k49, n49⟩, -, X49, ⟨Lc49, hQ49, l49, y49, z49⟩, st49⟩ := X0.virtualBackUp hx (owner := "java/lang/Enum") (x := (⟨"com/example/libgate/libgate/Condition$Operator", "ordinal", "()I"⟩ : MethodName)) (y := (⟨"java/lang/Enum", "ordinal", "()I"⟩ : MethodName)) hown (mvT hZ (hw _ (List.mem_of_getElem? (i := 14) rfl))) (mvT hZ (hw _ (List.mem_of_getElem? (i := 15) rfl))) (mvT hZ (hw _ (List.mem_of_getElem? (i := 16) rfl))) (by decide) (mvT hZ (hw _ (List.mem_of_getElem? (i := 18) rfl))) (mvT hZ (hw _ (List.mem_of_getElem? (i := 17) rfl))) (backOf (W := 0) (rm18 l Z a0 hw [] w0 w1 w2 w3 w4 w5 h0 n0 hWd O0) hZ (hw _ (List.mem_of_getElem? (i := 20) rfl)) (hw _ (List.mem_of_getElem? (i := 19) rfl)) (by decide) (by decide)) q49a q49c (g := (mkF m 1 #[.val (.ref w5), .val (.int p1)] [(.ref w5)])) rfl (by rw [hml]; rfl) (Steps.refl _) (argsL := []) (rest := []) (lenOf pd1 rfl) rfl (by show 2 * 0 + _ ≤ _; exact Nat.le_of_eq rfl) (hb hby d_prog_17_method_6_code_1) (fun _ _ => ⟨rfl, e0, (by decide : 0 + 0 ≤ _), (by decide : 0 + 0 ≤ _)⟩)
  dsimp only [Pt.U, Pt.locs, Pt.cells, Pt.slots] at X49 l49 y49 z49 st49 hQ49
  subst l49 y49 z49
  obtain ⟨rfl, N49q, e49⟩ := hQ49
  have N49 := Fr.app N0 N49q
  obtain ⟨fs, hr, hrun, hended, hWr, hsame⟩ := X49.leave (v := some (.int (0 : Int32))) (fun h => by rw [Bd.returns] at h; cases h) hlk
  refine ⟨_, _, pre0 _ ?_, hrun, hended, _, _, rfl, ?_, ⟨_, rfl⟩, hWr, hsame.mono (Nat.le_of_ble_eq_true rfl) (Nat.le_of_ble_eq_true rfl)⟩
  · show Steps p.tables e below (s₁.setTop (mkF m 0 #[.val (.ref w5), .val (.int p1)] [])) _
    refine XS.aloadN X0.here hx rfl (hb hby d_prog_17_method_6_code_0) rfl rfl ?_
    show Steps p.tables e below (s₁.setTop (mkF m 1 #[.val (.ref w5), .val (.int p1)] [(.ref w5)])) _
    refine st49.trans ?_
    show Steps p.tables e below (T49.setTop (mkF m 4 #[.val (.ref w5), .val (.int p1)] [(.int (3 : Int32))])) _
    refine XS.tswIn X49.here hx rfl (pc0 := 4) (pc' := 90) (o := 86) rfl (hb hby d_prog_17_method_6_code_4) rfl (by decide) (by first | rfl | decide) (by decide) (by decide) ?_
    show Steps p.tables e below (T49.setTop (mkF m 90 #[.val (.ref w5), .val (.int p1)] [])) _
    refine XS.iloadN X49.here hx rfl (hb hby d_prog_17_method_6_code_90) rfl ?_
    show Steps p.tables e below (T49.setTop (mkF m 91 #[.val (.ref w5), .val (.int p1)] [(.int p1)])) _
    refine XS.ifYes X49.here hx rfl (pc0 := 91) (pc' := 98) rfl (hb hby d_prog_17_method_6_code_91) rfl ((if0 _ _).trans (tlt rl0).1) (by decide) (by decide) ?_
    show Steps p.tables e below (T49.setTop (mkF m 98 #[.val (.ref w5), .val (.int p1)] [])) _
    refine XS.iconst X49.here hx rfl (hb hby d_prog_17_method_6_code_98) ?_
    show Steps p.tables e below (T49.setTop (mkF m 99 #[.val (.ref w5), .val (.int p1)] [(.int (0 : Int32))])) _
    refine XS.goto X49.here hx rfl (pc0 := 99) (pc' := 123) rfl (hb hby d_prog_17_method_6_code_99) (by decide) (by decide) ?_
    show Steps p.tables e below (T49.setTop (mkF m 123 #[.val (.ref w5), .val (.int p1)] [(.int (0 : Int32))])) _
    exact retN X49 hx (t := .boolean) Bd.returns (by simp) (hb hby d_prog_17_method_6_code_123) hr
  · show Qp (some (.int (0 : Int32))) h0 n0 _ T49.heap _
    rw [e49]
    exact ⟨rfl, N49, rfl⟩
theorem d_prog_17_method_6_code_94 : decode prog_17_method_6_code 94 = .ok (.iconst 1, 1) := by decide +kernel
theorem d_prog_17_method_6_code_95 : decode prog_17_method_6_code 95 = .ok (.goto 28, 3) := by decide +kernel
set_option maxRecDepth 65536 in
set_option maxHeartbeats 40000000 in
theorem rm19 (l : Launch) (Z : State) (a0 : Array Value) (hw : ∀ d ∈ tables_1, d.before a0 Z = true) (ws : List Jvm.Cond) (w0 w1 w2 w3 w4 w5 : Addr) (p1 : Int32) (h0 : Heap) (n0 : Nat) (hWd : Wd Z w0 w1 w2 w3 w4 w5) (O0 : Old Z n0 h0) (rl0 : ¬ (p1 < (0 : Int32))) (rl1 : (0 : Int32) < p1) (rl2 : ¬ (p1 = (0 : Int32))) :
    MetFree l (⟨"com/example/libgate/libgate/Condition$Operator", "holds", "(I)Z"⟩ : MethodName) (head1 (Jvm.Cond.code (⟨"com/example/libgate/libgate/Condition$Operator", "holds", "(I)Z"⟩ : MethodName) prog_17_method_6_code 2 (some .boolean) :: ws) ({ frames := 1, cells := 0, slots := 0, locals := 12 } : Room)) (fun a U => a = #[(.ref w5), (.int p1)] ∧ Z.Warmed39 U.vm ∧ U.heap = h0) (fun _ _ _ _ _ => True) (fun _ U o U' => ∃ v L, o = .returned v ∧ Qp (some (.int (1 : Int32))) h0 n0 v U'.heap L ∧ FrameEnd U o U' L ({ frames := 1, cells := 0, slots := 0, locals := 12 } : Room).cells ({ frames := 1, cells := 0, slots := 0, locals := 12 } : Room).slots) := by
  refine MetFree.of_bodySF (plainFor_of_name pn2) hisR ?_
  intro p e s m args below meth c s₁ Bd hml0 hP hK
  obtain ⟨rfl, hZ, hh⟩ := hP
  have hx := Bd.exec
  have hby := Bd.bytes
  have hml : c.maxLocals = 2 := hml0
  have hown : s.vm.findClass "com/example/libgate/libgate/Condition$Operator" = some m.cls := findClass_of_methodNamed Bd.named
  have hnm := (name_of_methodNamed Bd.named Bd.method).1
  have X0 : Stand p l e ({ frames := 1, cells := 0, slots := 0, locals := 12 } : Room) s m #[(.ref w5), (.int p1)] below meth c s₁ [] 0 0 := Stand.of_body Bd
  have e0 : s₁.heap = h0 := by rw [← hh, Bd.state]; rfl
  have N0 := Fr.nil n0
  have hlk := Bd.notSynchronized
  obtain ⟨wS0, wE0, wS1, wE1, wS2, wE2, wS3, wE3, wS4, wE4, wS5, wE5, wF0_ordinal, wF1_ordinal, wF2_ordinal, wF3_ordinal, wF4_ordinal, wF5_ordinal, -⟩ := id hWd
  have pre0 : ∀ t, Steps p.tables e below (s₁.setTop (mkF m 0 #[.val (.ref w5), .val (.int p1)] [])) t → Steps p.tables e below (s₁.setTop (entryFrame m #[(.ref w5), (.int p1)] 2)) t := fun t k => castTop (ef11 m p1 w5) k
  obtain ⟨cq51, kq51, q51a, q51b, q51c⟩ := isOf hZ e0 (wE5.ext O0.2)
  obtain ⟨_, _, ⟨T51, L51, k51, n51⟩, -, X51, ⟨Lc51, hQ51, l51, y51, z51⟩, st51⟩ := X0.virtualBackUp hx (owner := "java/lang/Enum") (x := (⟨"com/example/libgate/libgate/Condition$Operator", "ordinal", "()I"⟩ : MethodName)) (y := (⟨"java/lang/Enum", "ordinal", "()I"⟩ : MethodName)) hown (mvT hZ (hw _ (List.mem_of_getElem? (i := 14) rfl))) (mvT hZ (hw _ (List.mem_of_getElem? (i := 15) rfl))) (mvT hZ (hw _ (List.mem_of_getElem? (i := 16) rfl))) (by decide) (mvT hZ (hw _ (List.mem_of_getElem? (i := 18) rfl))) (mvT hZ (hw _ (List.mem_of_getElem? (i := 17) rfl))) (backOf (W := 0) (rm18 l Z a0 hw [] w0 w1 w2 w3 w4 w5 h0 n0 hWd O0) hZ (hw _ (List.mem_of_getElem? (i := 20) rfl)) (hw _ (List.mem_of_getElem? (i := 19) rfl)) (by decide) (by decide)) q51a q51c (g := (mkF m 1 #[.val (.ref w5), .val (.int p1)] [(.ref w5)])) rfl (by rw [hml]; rfl) (Steps.refl _) (argsL := []) (rest := []) (lenOf pd1 rfl) rfl (by show 2 * 0 + _ ≤ _; exact Nat.le_of_eq rfl) (hb hby d_prog_17_method_6_code_1) (fun _ _ => ⟨rfl, e0, (by decide : 0 + 0 ≤ _), (by decide : 0 + 0 ≤ _)⟩)
  dsimp only [Pt.U, Pt.locs, Pt.cells, Pt.slots] at X51 l51 y51 z51 st51 hQ51
  subst l51 y51 z51
  obtain ⟨rfl, N51q, e51⟩ := hQ51
  have N51 := Fr.app N0 N51q
  obtain ⟨fs, hr, hrun, hended, hWr, hsame⟩ := X51.leave (v := some (.int (1 : Int32))) (fun h => by rw [Bd.returns] at h; cases h) hlk
  refine ⟨_, _, pre0 _ ?_, hrun, hended, _, _, rfl, ?_, ⟨_, rfl⟩, hWr, hsame.mono (Nat.le_of_ble_eq_true rfl) (Nat.le_of_ble_eq_true rfl)⟩
  · show Steps p.tables e below (s₁.setTop (mkF m 0 #[.val (.ref w5), .val (.int p1)] [])) _
    refine XS.aloadN X0.here hx rfl (hb hby d_prog_17_method_6_code_0) rfl rfl ?_
    show Steps p.tables e below (s₁.setTop (mkF m 1 #[.val (.ref w5), .val (.int p1)] [(.ref w5)])) _
    refine st51.trans ?_
    show Steps p.tables e below (T51.setTop (mkF m 4 #[.val (.ref w5), .val (.int p1)] [(.int (3 : Int32))])) _
    refine XS.tswIn X51.here hx rfl (pc0 := 4) (pc' := 90) (o := 86) rfl (hb hby d_prog_17_method_6_code_4) rfl (by decide) (by first | rfl | decide) (by decide) (by decide) ?_
    show Steps p.tables e below (T51.setTop (mkF m 90 #[.val (.ref w5), .val (.int p1)] [])) _
    refine XS.iloadN X51.here hx rfl (hb hby d_prog_17_method_6_code_90) rfl ?_
    show Steps p.tables e below (T51.setTop (mkF m 91 #[.val (.ref w5), .val (.int p1)] [(.int p1)])) _
    refine XS.ifNo X51.here hx rfl (hb hby d_prog_17_method_6_code_91) rfl ((if0 _ _).trans (flt rl0).1) ?_
    show Steps p.tables e below (T51.setTop (mkF m 94 #[.val (.ref w5), .val (.int p1)] [])) _
    refine XS.iconst X51.here hx rfl (hb hby d_prog_17_method_6_code_94) ?_
    show Steps p.tables e below (T51.setTop (mkF m 95 #[.val (.ref w5), .val (.int p1)] [(.int (1 : Int32))])) _
    refine XS.goto X51.here hx rfl (pc0 := 95) (pc' := 123) rfl (hb hby d_prog_17_method_6_code_95) (by decide) (by decide) ?_
    show Steps p.tables e below (T51.setTop (mkF m 123 #[.val (.ref w5), .val (.int p1)] [(.int (1 : Int32))])) _
    exact retN X51 hx (t := .boolean) Bd.returns (by simp) (hb hby d_prog_17_method_6_code_123) hr
  · show Qp (some (.int (1 : Int32))) h0 n0 _ T51.heap _
    rw [e51]
    exact ⟨rfl, N51, rfl⟩
set_option maxRecDepth 65536 in
set_option maxHeartbeats 40000000 in
theorem rm20 (l : Launch) (Z : State) (a0 : Array Value) (hw : ∀ d ∈ tables_1, d.before a0 Z = true) (ws : List Jvm.Cond) (w0 w1 w2 w3 w4 w5 : Addr) (h0 : Heap) (n0 : Nat) (hWd : Wd Z w0 w1 w2 w3 w4 w5) (O0 : Old Z n0 h0) :
    MetFree l (⟨"com/example/libgate/libgate/Condition$Operator", "isEquality", "()Z"⟩ : MethodName) (head1 (Jvm.Cond.code (⟨"com/example/libgate/libgate/Condition$Operator", "isEquality", "()Z"⟩ : MethodName) prog_17_method_5_code 1 (some .boolean) :: ws) ({ frames := 0, cells := 0, slots := 0, locals := 0 } : Room)) (fun a U => a = #[(.ref w5)] ∧ Z.Warmed39 U.vm ∧ U.heap = h0) (fun _ _ _ _ _ => True) (fun _ U o U' => ∃ v L, o = .returned v ∧ Qp (some (.int (0 : Int32))) h0 n0 v U'.heap L ∧ FrameEnd U o U' L ({ frames := 0, cells := 0, slots := 0, locals := 0 } : Room).cells ({ frames := 0, cells := 0, slots := 0, locals := 0 } : Room).slots) := by
  refine MetFree.of_bodySF (plainFor_of_name pn2) hisR ?_
  intro p e s m args below meth c s₁ Bd hml0 hP hK
  obtain ⟨rfl, hZ, hh⟩ := hP
  have hx := Bd.exec
  have hby := Bd.bytes
  have hml : c.maxLocals = 1 := hml0
  have hown : s.vm.findClass "com/example/libgate/libgate/Condition$Operator" = some m.cls := findClass_of_methodNamed Bd.named
  have hnm := (name_of_methodNamed Bd.named Bd.method).1
  have X0 : Stand p l e ({ frames := 0, cells := 0, slots := 0, locals := 0 } : Room) s m #[(.ref w5)] below meth c s₁ [] 0 0 := Stand.of_body Bd
  have e0 : s₁.heap = h0 := by rw [← hh, Bd.state]; rfl
  have N0 := Fr.nil n0
  have hlk := Bd.notSynchronized
  obtain ⟨wS0, wE0, wS1, wE1, wS2, wE2, wS3, wE3, wS4, wE4, wS5, wE5, wF0_ordinal, wF1_ordinal, wF2_ordinal, wF3_ordinal, wF4_ordinal, wF5_ordinal, -⟩ := id hWd
  have pre0 : ∀ t, Steps p.tables e below (s₁.setTop (mkF m 0 #[.val (.ref w5)] [])) t → Steps p.tables e below (s₁.setTop (entryFrame m #[(.ref w5)] 1)) t := fun t k => castTop (ef10 m w5) k
  obtain ⟨T53, X53, e53, st53⟩ := getS2 X0 hx hZ hown (host := "") (Or.inl (hw _ (List.mem_of_getElem? (i := 28) rfl))) Via.refl e0 (wS1.ext O0.2) (g := (mkF m 1 #[.val (.ref w5)] [(.ref w5)])) rfl (hb hby d_prog_17_method_5_code_1)
  obtain ⟨T54, X54, e54, st54⟩ := getS2 X53 hx hZ hown (host := "") (Or.inl (hw _ (List.mem_of_getElem? (i := 30) rfl))) Via.refl e53 (wS2.ext O0.2) (g := (mkF m 8 #[.val (.ref w5)] [(.ref w5)])) rfl (hb hby d_prog_17_method_5_code_8)
  obtain ⟨fs, hr, hrun, hended, hWr, hsame⟩ := X54.leave (v := some (.int (0 : Int32))) (fun h => by rw [Bd.returns] at h; cases h) hlk
  refine ⟨_, _, pre0 _ ?_, hrun, hended, _, _, rfl, ?_, ⟨_, rfl⟩, hWr, hsame.mono (Nat.le_of_ble_eq_true rfl) (Nat.le_of_ble_eq_true rfl)⟩
  · show Steps p.tables e below (s₁.setTop (mkF m 0 #[.val (.ref w5)] [])) _
    refine XS.aloadN X0.here hx rfl (hb hby d_prog_17_method_5_code_0) rfl rfl ?_
    show Steps p.tables e below (s₁.setTop (mkF m 1 #[.val (.ref w5)] [(.ref w5)])) _
    refine st53 _ ?_
    show Steps p.tables e below (T53.setTop (mkF m 4 #[.val (.ref w5)] [(.ref w1), (.ref w5)])) _
    refine Jvm.RoadKit.acmp (g := (mkF m 4 #[.val (.ref w5)] [(.ref w1), (.ref w5)])) X53 hx rfl rfl rfl (pc0 := 4) (pc' := 7) (same := false) rfl (hb hby d_prog_17_method_5_code_4) rfl (decide_eq_false fun q => (Fld.ne wF5_ordinal wF1_ordinal (fun q => absurd (Value.int.inj q) (by decide))) (Value.ref.inj q)) (by decide) (by decide) ?_
    show Steps p.tables e below (T53.setTop (mkF m 7 #[.val (.ref w5)] [])) _
    refine XS.aloadN X53.here hx rfl (hb hby d_prog_17_method_5_code_7) rfl rfl ?_
    show Steps p.tables e below (T53.setTop (mkF m 8 #[.val (.ref w5)] [(.ref w5)])) _
    refine st54 _ ?_
    show Steps p.tables e below (T54.setTop (mkF m 11 #[.val (.ref w5)] [(.ref w2), (.ref w5)])) _
    refine Jvm.RoadKit.acmp (g := (mkF m 11 #[.val (.ref w5)] [(.ref w2), (.ref w5)])) X54 hx rfl rfl rfl (pc0 := 11) (pc' := 18) (same := false) rfl (hb hby d_prog_17_method_5_code_11) rfl (decide_eq_false fun q => (Fld.ne wF5_ordinal wF2_ordinal (fun q => absurd (Value.int.inj q) (by decide))) (Value.ref.inj q)) (by decide) (by decide) ?_
    show Steps p.tables e below (T54.setTop (mkF m 18 #[.val (.ref w5)] [])) _
    refine XS.iconst X54.here hx rfl (hb hby d_prog_17_method_5_code_18) ?_
    show Steps p.tables e below (T54.setTop (mkF m 19 #[.val (.ref w5)] [(.int (0 : Int32))])) _
    exact retN X54 hx (t := .boolean) Bd.returns (by simp) (hb hby d_prog_17_method_5_code_19) hr
  · show Qp (some (.int (0 : Int32))) h0 n0 _ T54.heap _
    rw [e54]
    exact ⟨rfl, N0, rfl⟩
theorem d_method_3_code_35 : decode method_3_code 35 = .ok (.iload_n 0, 1) := by decide +kernel
theorem d_method_3_code_36 : decode method_3_code 36 = .ok (.iconst 4, 1) := by decide +kernel
theorem d_method_3_code_37 : decode method_3_code 37 = .ok (.if_icmp .ne 7, 3) := by decide +kernel
theorem d_method_3_code_40 : decode method_3_code 40 = .ok (.getstatic 38, 3) := by decide +kernel
theorem d_method_3_code_43 : decode method_3_code 43 = .ok (.areturn, 1) := by decide +kernel
theorem ef12 (m : MethodId)    : entryFrame m #[(.int (4 : Int32))] 1 = mkF m 0 #[.val (.int (4 : Int32))] [] := by first | (simp [entryFrame, mkF, argsToLocals, Value.category]; done) | rfl
set_option maxRecDepth 65536 in
set_option maxHeartbeats 40000000 in
theorem rm21 (l : Launch) (Z : State) (a0 : Array Value) (hw : ∀ d ∈ tables_1, d.before a0 Z = true) (ws : List Jvm.Cond) (w0 w1 w2 w3 w4 w5 : Addr) (h0 : Heap) (n0 : Nat) (hWd : Wd Z w0 w1 w2 w3 w4 w5) (O0 : Old Z n0 h0) :
    MetFree l (⟨"com/example/libgate/libgate/OperatorIsEqualityPinLaw", "pickOp", "(I)Lcom/example/libgate/libgate/Condition$Operator;"⟩ : MethodName) (head1 (Jvm.Cond.code (⟨"com/example/libgate/libgate/OperatorIsEqualityPinLaw", "pickOp", "(I)Lcom/example/libgate/libgate/Condition$Operator;"⟩ : MethodName) method_3_code 1 (some (.object "com/example/libgate/libgate/Condition$Operator")) :: ws) ({ frames := 0, cells := 0, slots := 0, locals := 0 } : Room)) (fun a U => a = #[(.int (4 : Int32))] ∧ Z.Warmed39 U.vm ∧ U.heap = h0) (fun _ _ _ _ _ => True) (fun _ U o U' => ∃ v L, o = .returned v ∧ Qp (some (.ref w1)) h0 n0 v U'.heap L ∧ FrameEnd U o U' L ({ frames := 0, cells := 0, slots := 0, locals := 0 } : Room).cells ({ frames := 0, cells := 0, slots := 0, locals := 0 } : Room).slots) := by
  refine MetFree.of_bodySF (plainFor_of_name pn0) hisR ?_
  intro p e s m args below meth c s₁ Bd hml0 hP hK
  obtain ⟨rfl, hZ, hh⟩ := hP
  have hx := Bd.exec
  have hby := Bd.bytes
  have hml : c.maxLocals = 1 := hml0
  have hown : s.vm.findClass "com/example/libgate/libgate/OperatorIsEqualityPinLaw" = some m.cls := findClass_of_methodNamed Bd.named
  have hnm := (name_of_methodNamed Bd.named Bd.method).1
  have X0 : Stand p l e ({ frames := 0, cells := 0, slots := 0, locals := 0 } : Room) s m #[(.int (4 : Int32))] below meth c s₁ [] 0 0 := Stand.of_body Bd
  have e0 : s₁.heap = h0 := by rw [← hh, Bd.state]; rfl
  have N0 := Fr.nil n0
  have hlk := Bd.notSynchronized
  obtain ⟨wS0, wE0, wS1, wE1, wS2, wE2, wS3, wE3, wS4, wE4, wS5, wE5, wF0_ordinal, wF1_ordinal, wF2_ordinal, wF3_ordinal, wF4_ordinal, wF5_ordinal, -⟩ := id hWd
  have pre0 : ∀ t, Steps p.tables e below (s₁.setTop (mkF m 0 #[.val (.int (4 : Int32))] [])) t → Steps p.tables e below (s₁.setTop (entryFrame m #[(.int (4 : Int32))] 1)) t := fun t k => castTop (ef12 m ) k
  obtain ⟨T56, X56, e56, st56⟩ := getS2 X0 hx hZ hown (host := "") (Or.inl (hw _ (List.mem_of_getElem? (i := 39) rfl))) Via.refl e0 (wS1.ext O0.2) (g := (mkF m 40 #[.val (.int (4 : Int32))] [])) rfl (hb hby d_method_3_code_40)
  obtain ⟨fs, hr, hrun, hended, hWr, hsame⟩ := X56.leave (v := some (.ref w1)) (fun h => by rw [Bd.returns] at h; cases h) hlk
  refine ⟨_, _, pre0 _ ?_, hrun, hended, _, _, rfl, ?_, ⟨_, rfl⟩, hWr, hsame.mono (Nat.le_of_ble_eq_true rfl) (Nat.le_of_ble_eq_true rfl)⟩
  · show Steps p.tables e below (s₁.setTop (mkF m 0 #[.val (.int (4 : Int32))] [])) _
    refine XS.iloadN X0.here hx rfl (hb hby d_method_3_code_0) rfl ?_
    show Steps p.tables e below (s₁.setTop (mkF m 1 #[.val (.int (4 : Int32))] [(.int (4 : Int32))])) _
    refine XS.ifYes X0.here hx rfl (pc0 := 1) (pc' := 8) rfl (hb hby d_method_3_code_1) rfl (by decide) (by decide) (by decide) ?_
    show Steps p.tables e below (s₁.setTop (mkF m 8 #[.val (.int (4 : Int32))] [])) _
    refine XS.iloadN X0.here hx rfl (hb hby d_method_3_code_8) rfl ?_
    show Steps p.tables e below (s₁.setTop (mkF m 9 #[.val (.int (4 : Int32))] [(.int (4 : Int32))])) _
    refine XS.iconst X0.here hx rfl (hb hby d_method_3_code_9) ?_
    show Steps p.tables e below (s₁.setTop (mkF m 10 #[.val (.int (4 : Int32))] [(.int (1 : Int32)), (.int (4 : Int32))])) _
    refine XS.icmpYes X0.here hx rfl (pc0 := 10) (pc' := 17) rfl (hb hby d_method_3_code_10) rfl (by decide) (by decide) (by decide) ?_
    show Steps p.tables e below (s₁.setTop (mkF m 17 #[.val (.int (4 : Int32))] [])) _
    refine XS.iloadN X0.here hx rfl (hb hby d_method_3_code_17) rfl ?_
    show Steps p.tables e below (s₁.setTop (mkF m 18 #[.val (.int (4 : Int32))] [(.int (4 : Int32))])) _
    refine XS.iconst X0.here hx rfl (hb hby d_method_3_code_18) ?_
    show Steps p.tables e below (s₁.setTop (mkF m 19 #[.val (.int (4 : Int32))] [(.int (2 : Int32)), (.int (4 : Int32))])) _
    refine XS.icmpYes X0.here hx rfl (pc0 := 19) (pc' := 26) rfl (hb hby d_method_3_code_19) rfl (by decide) (by decide) (by decide) ?_
    show Steps p.tables e below (s₁.setTop (mkF m 26 #[.val (.int (4 : Int32))] [])) _
    refine XS.iloadN X0.here hx rfl (hb hby d_method_3_code_26) rfl ?_
    show Steps p.tables e below (s₁.setTop (mkF m 27 #[.val (.int (4 : Int32))] [(.int (4 : Int32))])) _
    refine XS.iconst X0.here hx rfl (hb hby d_method_3_code_27) ?_
    show Steps p.tables e below (s₁.setTop (mkF m 28 #[.val (.int (4 : Int32))] [(.int (3 : Int32)), (.int (4 : Int32))])) _
    refine XS.icmpYes X0.here hx rfl (pc0 := 28) (pc' := 35) rfl (hb hby d_method_3_code_28) rfl (by decide) (by decide) (by decide) ?_
    show Steps p.tables e below (s₁.setTop (mkF m 35 #[.val (.int (4 : Int32))] [])) _
    refine XS.iloadN X0.here hx rfl (hb hby d_method_3_code_35) rfl ?_
    show Steps p.tables e below (s₁.setTop (mkF m 36 #[.val (.int (4 : Int32))] [(.int (4 : Int32))])) _
    refine XS.iconst X0.here hx rfl (hb hby d_method_3_code_36) ?_
    show Steps p.tables e below (s₁.setTop (mkF m 37 #[.val (.int (4 : Int32))] [(.int (4 : Int32)), (.int (4 : Int32))])) _
    refine XS.icmpNo X0.here hx rfl (hb hby d_method_3_code_37) rfl (by decide) ?_
    show Steps p.tables e below (s₁.setTop (mkF m 40 #[.val (.int (4 : Int32))] [])) _
    refine st56 _ ?_
    show Steps p.tables e below (T56.setTop (mkF m 43 #[.val (.int (4 : Int32))] [(.ref w1)])) _
    exact retOut X56 hx (t := (.object "com/example/libgate/libgate/Condition$Operator")) (i := .areturn) Bd.returns rfl (Or.inr (Or.inr (Or.inr (Or.inr ⟨rfl, rfl, rfl⟩)))) (hb hby d_method_3_code_43) hr
  · show Qp (some (.ref w1)) h0 n0 _ T56.heap _
    rw [e56]
    exact ⟨rfl, N0, rfl⟩
theorem ef13 (m : MethodId)   (w1 : Addr) : entryFrame m #[(.ref w1)] 1 = mkF m 0 #[.val (.ref w1)] [] := by first | (simp [entryFrame, mkF, argsToLocals, Value.category]; done) | rfl
set_option maxRecDepth 65536 in
set_option maxHeartbeats 40000000 in
theorem rm23 (l : Launch) (Z : State) (a0 : Array Value) (hw : ∀ d ∈ tables_1, d.before a0 Z = true) (ws : List Jvm.Cond) (w0 w1 w2 w3 w4 w5 : Addr) (h0 : Heap) (n0 : Nat) (hWd : Wd Z w0 w1 w2 w3 w4 w5) (O0 : Old Z n0 h0) :
    MetFree l (⟨"java/lang/Enum", "ordinal", "()I"⟩ : MethodName) (head1 (Jvm.Cond.code (⟨"java/lang/Enum", "ordinal", "()I"⟩ : MethodName) jdk_37_method_2_code 1 (some .int) :: ws) ({ frames := 0, cells := 0, slots := 0, locals := 0 } : Room)) (fun a U => a = #[(.ref w1)] ∧ Z.Warmed39 U.vm ∧ U.heap = h0) (fun _ _ _ _ _ => True) (fun _ U o U' => ∃ v L, o = .returned v ∧ Qp (some (.int (4 : Int32))) h0 n0 v U'.heap L ∧ FrameEnd U o U' L ({ frames := 0, cells := 0, slots := 0, locals := 0 } : Room).cells ({ frames := 0, cells := 0, slots := 0, locals := 0 } : Room).slots) := by
  refine MetFree.of_bodySF (plainFor_of_name pn1) hisR ?_
  intro p e s m args below meth c s₁ Bd hml0 hP hK
  obtain ⟨rfl, hZ, hh⟩ := hP
  have hx := Bd.exec
  have hby := Bd.bytes
  have hml : c.maxLocals = 1 := hml0
  have hown : s.vm.findClass "java/lang/Enum" = some m.cls := findClass_of_methodNamed Bd.named
  have hnm := (name_of_methodNamed Bd.named Bd.method).1
  have X0 : Stand p l e ({ frames := 0, cells := 0, slots := 0, locals := 0 } : Room) s m #[(.ref w1)] below meth c s₁ [] 0 0 := Stand.of_body Bd
  have e0 : s₁.heap = h0 := by rw [← hh, Bd.state]; rfl
  have N0 := Fr.nil n0
  have hlk := Bd.notSynchronized
  obtain ⟨wS0, wE0, wS1, wE1, wS2, wE2, wS3, wE3, wS4, wE4, wS5, wE5, wF0_ordinal, wF1_ordinal, wF2_ordinal, wF3_ordinal, wF4_ordinal, wF5_ordinal, -⟩ := id hWd
  have pre0 : ∀ t, Steps p.tables e below (s₁.setTop (mkF m 0 #[.val (.ref w1)] [])) t → Steps p.tables e below (s₁.setTop (entryFrame m #[(.ref w1)] 1)) t := fun t k => castTop (ef13 m w1) k
  obtain ⟨T60, X60, e60, st60⟩ := getF X0 hx hZ hown (host := "") (Or.inl (hw _ (List.mem_of_getElem? (i := 21) rfl))) Via.refl e0 (wF1_ordinal.ext O0.2) (g := (mkF m 1 #[.val (.ref w1)] [(.ref w1)])) rfl rfl (hb hby d_jdk_37_method_2_code_1)
  obtain ⟨fs, hr, hrun, hended, hWr, hsame⟩ := X60.leave (v := some (.int (4 : Int32))) (fun h => by rw [Bd.returns] at h; cases h) hlk
  refine ⟨_, _, pre0 _ ?_, hrun, hended, _, _, rfl, ?_, ⟨_, rfl⟩, hWr, hsame.mono (Nat.le_of_ble_eq_true rfl) (Nat.le_of_ble_eq_true rfl)⟩
  · show Steps p.tables e below (s₁.setTop (mkF m 0 #[.val (.ref w1)] [])) _
    refine XS.aloadN X0.here hx rfl (hb hby d_jdk_37_method_2_code_0) rfl rfl ?_
    show Steps p.tables e below (s₁.setTop (mkF m 1 #[.val (.ref w1)] [(.ref w1)])) _
    refine st60 _ ?_
    show Steps p.tables e below (T60.setTop (mkF m 4 #[.val (.ref w1)] [(.int (4 : Int32))])) _
    exact retOut X60 hx (t := .int) (i := .ireturn) Bd.returns rfl (Or.inl ⟨rfl, Or.inl rfl, _, rfl⟩) (hb hby d_jdk_37_method_2_code_4) hr
  · show Qp (some (.int (4 : Int32))) h0 n0 _ T60.heap _
    rw [e60]
    exact ⟨rfl, N0, rfl⟩
theorem d_prog_17_method_6_code_102 : decode prog_17_method_6_code 102 = .ok (.iload_n 1, 1) := by decide +kernel
theorem d_prog_17_method_6_code_103 : decode prog_17_method_6_code 103 = .ok (.ifCond .ne 7, 3) := by decide +kernel
theorem d_prog_17_method_6_code_110 : decode prog_17_method_6_code 110 = .ok (.iconst 0, 1) := by decide +kernel
theorem d_prog_17_method_6_code_111 : decode prog_17_method_6_code 111 = .ok (.goto 12, 3) := by decide +kernel
theorem ef14 (m : MethodId) (p1 : Int32)  (w1 : Addr) : entryFrame m #[(.ref w1), (.int p1)] 2 = mkF m 0 #[.val (.ref w1), .val (.int p1)] [] := by first | (simp [entryFrame, mkF, argsToLocals, Value.category]; done) | rfl
set_option maxRecDepth 65536 in
set_option maxHeartbeats 40000000 in
theorem rm22 (l : Launch) (Z : State) (a0 : Array Value) (hw : ∀ d ∈ tables_1, d.before a0 Z = true) (ws : List Jvm.Cond) (w0 w1 w2 w3 w4 w5 : Addr) (p1 : Int32) (h0 : Heap) (n0 : Nat) (hWd : Wd Z w0 w1 w2 w3 w4 w5) (O0 : Old Z n0 h0) (rl0 : p1 < (0 : Int32)) (rl1 : ¬ ((0 : Int32) < p1)) (rl2 : ¬ (p1 = (0 : Int32))) :
    MetFree l (⟨"com/example/libgate/libgate/Condition$Operator", "holds", "(I)Z"⟩ : MethodName) (head1 (Jvm.Cond.code (⟨"com/example/libgate/libgate/Condition$Operator", "holds", "(I)Z"⟩ : MethodName) prog_17_method_6_code 2 (some .boolean) :: ws) ({ frames := 1, cells := 0, slots := 0, locals := 12 } : Room)) (fun a U => a = #[(.ref w1), (.int p1)] ∧ Z.Warmed39 U.vm ∧ U.heap = h0) (fun _ _ _ _ _ => True) (fun _ U o U' => ∃ v L, o = .returned v ∧ Qp (some (.int (0 : Int32))) h0 n0 v U'.heap L ∧ FrameEnd U o U' L ({ frames := 1, cells := 0, slots := 0, locals := 12 } : Room).cells ({ frames := 1, cells := 0, slots := 0, locals := 12 } : Room).slots) := by
  refine MetFree.of_bodySF (plainFor_of_name pn2) hisR ?_
  intro p e s m args below meth c s₁ Bd hml0 hP hK
  obtain ⟨rfl, hZ, hh⟩ := hP
  have hx := Bd.exec
  have hby := Bd.bytes
  have hml : c.maxLocals = 2 := hml0
  have hown : s.vm.findClass "com/example/libgate/libgate/Condition$Operator" = some m.cls := findClass_of_methodNamed Bd.named
  have hnm := (name_of_methodNamed Bd.named Bd.method).1
  have X0 : Stand p l e ({ frames := 1, cells := 0, slots := 0, locals := 12 } : Room) s m #[(.ref w1), (.int p1)] below meth c s₁ [] 0 0 := Stand.of_body Bd
  have e0 : s₁.heap = h0 := by rw [← hh, Bd.state]; rfl
  have N0 := Fr.nil n0
  have hlk := Bd.notSynchronized
  obtain ⟨wS0, wE0, wS1, wE1, wS2, wE2, wS3, wE3, wS4, wE4, wS5, wE5, wF0_ordinal, wF1_ordinal, wF2_ordinal, wF3_ordinal, wF4_ordinal, wF5_ordinal, -⟩ := id hWd
  have pre0 : ∀ t, Steps p.tables e below (s₁.setTop (mkF m 0 #[.val (.ref w1), .val (.int p1)] [])) t → Steps p.tables e below (s₁.setTop (entryFrame m #[(.ref w1), (.int p1)] 2)) t := fun t k => castTop (ef14 m p1 w1) k
  obtain ⟨cq61, kq61, q61a, q61b, q61c⟩ := isOf hZ e0 (wE1.ext O0.2)
  obtain ⟨_, _, ⟨T61, L61, k61, n61⟩, -, X61, ⟨Lc61, hQ61, l61, y61, z61⟩, st61⟩ := X0.virtualBackUp hx (owner := "java/lang/Enum") (x := (⟨"com/example/libgate/libgate/Condition$Operator", "ordinal", "()I"⟩ : MethodName)) (y := (⟨"java/lang/Enum", "ordinal", "()I"⟩ : MethodName)) hown (mvT hZ (hw _ (List.mem_of_getElem? (i := 14) rfl))) (mvT hZ (hw _ (List.mem_of_getElem? (i := 15) rfl))) (mvT hZ (hw _ (List.mem_of_getElem? (i := 16) rfl))) (by decide) (mvT hZ (hw _ (List.mem_of_getElem? (i := 18) rfl))) (mvT hZ (hw _ (List.mem_of_getElem? (i := 17) rfl))) (backOf (W := 0) (rm23 l Z a0 hw [] w0 w1 w2 w3 w4 w5 h0 n0 hWd O0) hZ (hw _ (List.mem_of_getElem? (i := 20) rfl)) (hw _ (List.mem_of_getElem? (i := 19) rfl)) (by decide) (by decide)) q61a q61c (g := (mkF m 1 #[.val (.ref w1), .val (.int p1)] [(.ref w1)])) rfl (by rw [hml]; rfl) (Steps.refl _) (argsL := []) (rest := []) (lenOf pd1 rfl) rfl (by show 2 * 0 + _ ≤ _; exact Nat.le_of_eq rfl) (hb hby d_prog_17_method_6_code_1) (fun _ _ => ⟨rfl, e0, (by decide : 0 + 0 ≤ _), (by decide : 0 + 0 ≤ _)⟩)
  dsimp only [Pt.U, Pt.locs, Pt.cells, Pt.slots] at X61 l61 y61 z61 st61 hQ61
  subst l61 y61 z61
  obtain ⟨rfl, N61q, e61⟩ := hQ61
  have N61 := Fr.app N0 N61q
  obtain ⟨fs, hr, hrun, hended, hWr, hsame⟩ := X61.leave (v := some (.int (0 : Int32))) (fun h => by rw [Bd.returns] at h; cases h) hlk
  refine ⟨_, _, pre0 _ ?_, hrun, hended, _, _, rfl, ?_, ⟨_, rfl⟩, hWr, hsame.mono (Nat.le_of_ble_eq_true rfl) (Nat.le_of_ble_eq_true rfl)⟩
  · show Steps p.tables e below (s₁.setTop (mkF m 0 #[.val (.ref w1), .val (.int p1)] [])) _
    refine XS.aloadN X0.here hx rfl (hb hby d_prog_17_method_6_code_0) rfl rfl ?_
    show Steps p.tables e below (s₁.setTop (mkF m 1 #[.val (.ref w1), .val (.int p1)] [(.ref w1)])) _
    refine st61.trans ?_
    show Steps p.tables e below (T61.setTop (mkF m 4 #[.val (.ref w1), .val (.int p1)] [(.int (4 : Int32))])) _
    refine XS.tswIn X61.here hx rfl (pc0 := 4) (pc' := 102) (o := 98) rfl (hb hby d_prog_17_method_6_code_4) rfl (by decide) (by first | rfl | decide) (by decide) (by decide) ?_
    show Steps p.tables e below (T61.setTop (mkF m 102 #[.val (.ref w1), .val (.int p1)] [])) _
    refine XS.iloadN X61.here hx rfl (hb hby d_prog_17_method_6_code_102) rfl ?_
    show Steps p.tables e below (T61.setTop (mkF m 103 #[.val (.ref w1), .val (.int p1)] [(.int p1)])) _
    refine XS.ifYes X61.here hx rfl (pc0 := 103) (pc' := 110) rfl (hb hby d_prog_17_method_6_code_103) rfl ((if0 _ _).trans (feq rl2).2) (by decide) (by decide) ?_
    show Steps p.tables e below (T61.setTop (mkF m 110 #[.val (.ref w1), .val (.int p1)] [])) _
    refine XS.iconst X61.here hx rfl (hb hby d_prog_17_method_6_code_110) ?_
    show Steps p.tables e below (T61.setTop (mkF m 111 #[.val (.ref w1), .val (.int p1)] [(.int (0 : Int32))])) _
    refine XS.goto X61.here hx rfl (pc0 := 111) (pc' := 123) rfl (hb hby d_prog_17_method_6_code_111) (by decide) (by decide) ?_
    show Steps p.tables e below (T61.setTop (mkF m 123 #[.val (.ref w1), .val (.int p1)] [(.int (0 : Int32))])) _
    exact retN X61 hx (t := .boolean) Bd.returns (by simp) (hb hby d_prog_17_method_6_code_123) hr
  · show Qp (some (.int (0 : Int32))) h0 n0 _ T61.heap _
    rw [e61]
    exact ⟨rfl, N61, rfl⟩
set_option maxRecDepth 65536 in
set_option maxHeartbeats 40000000 in
theorem rm24 (l : Launch) (Z : State) (a0 : Array Value) (hw : ∀ d ∈ tables_1, d.before a0 Z = true) (ws : List Jvm.Cond) (w0 w1 w2 w3 w4 w5 : Addr) (p1 : Int32) (h0 : Heap) (n0 : Nat) (hWd : Wd Z w0 w1 w2 w3 w4 w5) (O0 : Old Z n0 h0) (rl0 : ¬ (p1 < (0 : Int32))) (rl1 : (0 : Int32) < p1) (rl2 : ¬ (p1 = (0 : Int32))) :
    MetFree l (⟨"com/example/libgate/libgate/Condition$Operator", "holds", "(I)Z"⟩ : MethodName) (head1 (Jvm.Cond.code (⟨"com/example/libgate/libgate/Condition$Operator", "holds", "(I)Z"⟩ : MethodName) prog_17_method_6_code 2 (some .boolean) :: ws) ({ frames := 1, cells := 0, slots := 0, locals := 12 } : Room)) (fun a U => a = #[(.ref w1), (.int p1)] ∧ Z.Warmed39 U.vm ∧ U.heap = h0) (fun _ _ _ _ _ => True) (fun _ U o U' => ∃ v L, o = .returned v ∧ Qp (some (.int (0 : Int32))) h0 n0 v U'.heap L ∧ FrameEnd U o U' L ({ frames := 1, cells := 0, slots := 0, locals := 12 } : Room).cells ({ frames := 1, cells := 0, slots := 0, locals := 12 } : Room).slots) := by
  refine MetFree.of_bodySF (plainFor_of_name pn2) hisR ?_
  intro p e s m args below meth c s₁ Bd hml0 hP hK
  obtain ⟨rfl, hZ, hh⟩ := hP
  have hx := Bd.exec
  have hby := Bd.bytes
  have hml : c.maxLocals = 2 := hml0
  have hown : s.vm.findClass "com/example/libgate/libgate/Condition$Operator" = some m.cls := findClass_of_methodNamed Bd.named
  have hnm := (name_of_methodNamed Bd.named Bd.method).1
  have X0 : Stand p l e ({ frames := 1, cells := 0, slots := 0, locals := 12 } : Room) s m #[(.ref w1), (.int p1)] below meth c s₁ [] 0 0 := Stand.of_body Bd
  have e0 : s₁.heap = h0 := by rw [← hh, Bd.state]; rfl
  have N0 := Fr.nil n0
  have hlk := Bd.notSynchronized
  obtain ⟨wS0, wE0, wS1, wE1, wS2, wE2, wS3, wE3, wS4, wE4, wS5, wE5, wF0_ordinal, wF1_ordinal, wF2_ordinal, wF3_ordinal, wF4_ordinal, wF5_ordinal, -⟩ := id hWd
  have pre0 : ∀ t, Steps p.tables e below (s₁.setTop (mkF m 0 #[.val (.ref w1), .val (.int p1)] [])) t → Steps p.tables e below (s₁.setTop (entryFrame m #[(.ref w1), (.int p1)] 2)) t := fun t k => castTop (ef14 m p1 w1) k
  obtain ⟨cq63, kq63, q63a, q63b, q63c⟩ := isOf hZ e0 (wE1.ext O0.2)
  obtain ⟨_, _, ⟨T63, L63, k63, n63⟩, -, X63, ⟨Lc63, hQ63, l63, y63, z63⟩, st63⟩ := X0.virtualBackUp hx (owner := "java/lang/Enum") (x := (⟨"com/example/libgate/libgate/Condition$Operator", "ordinal", "()I"⟩ : MethodName)) (y := (⟨"java/lang/Enum", "ordinal", "()I"⟩ : MethodName)) hown (mvT hZ (hw _ (List.mem_of_getElem? (i := 14) rfl))) (mvT hZ (hw _ (List.mem_of_getElem? (i := 15) rfl))) (mvT hZ (hw _ (List.mem_of_getElem? (i := 16) rfl))) (by decide) (mvT hZ (hw _ (List.mem_of_getElem? (i := 18) rfl))) (mvT hZ (hw _ (List.mem_of_getElem? (i := 17) rfl))) (backOf (W := 0) (rm23 l Z a0 hw [] w0 w1 w2 w3 w4 w5 h0 n0 hWd O0) hZ (hw _ (List.mem_of_getElem? (i := 20) rfl)) (hw _ (List.mem_of_getElem? (i := 19) rfl)) (by decide) (by decide)) q63a q63c (g := (mkF m 1 #[.val (.ref w1), .val (.int p1)] [(.ref w1)])) rfl (by rw [hml]; rfl) (Steps.refl _) (argsL := []) (rest := []) (lenOf pd1 rfl) rfl (by show 2 * 0 + _ ≤ _; exact Nat.le_of_eq rfl) (hb hby d_prog_17_method_6_code_1) (fun _ _ => ⟨rfl, e0, (by decide : 0 + 0 ≤ _), (by decide : 0 + 0 ≤ _)⟩)
  dsimp only [Pt.U, Pt.locs, Pt.cells, Pt.slots] at X63 l63 y63 z63 st63 hQ63
  subst l63 y63 z63
  obtain ⟨rfl, N63q, e63⟩ := hQ63
  have N63 := Fr.app N0 N63q
  obtain ⟨fs, hr, hrun, hended, hWr, hsame⟩ := X63.leave (v := some (.int (0 : Int32))) (fun h => by rw [Bd.returns] at h; cases h) hlk
  refine ⟨_, _, pre0 _ ?_, hrun, hended, _, _, rfl, ?_, ⟨_, rfl⟩, hWr, hsame.mono (Nat.le_of_ble_eq_true rfl) (Nat.le_of_ble_eq_true rfl)⟩
  · show Steps p.tables e below (s₁.setTop (mkF m 0 #[.val (.ref w1), .val (.int p1)] [])) _
    refine XS.aloadN X0.here hx rfl (hb hby d_prog_17_method_6_code_0) rfl rfl ?_
    show Steps p.tables e below (s₁.setTop (mkF m 1 #[.val (.ref w1), .val (.int p1)] [(.ref w1)])) _
    refine st63.trans ?_
    show Steps p.tables e below (T63.setTop (mkF m 4 #[.val (.ref w1), .val (.int p1)] [(.int (4 : Int32))])) _
    refine XS.tswIn X63.here hx rfl (pc0 := 4) (pc' := 102) (o := 98) rfl (hb hby d_prog_17_method_6_code_4) rfl (by decide) (by first | rfl | decide) (by decide) (by decide) ?_
    show Steps p.tables e below (T63.setTop (mkF m 102 #[.val (.ref w1), .val (.int p1)] [])) _
    refine XS.iloadN X63.here hx rfl (hb hby d_prog_17_method_6_code_102) rfl ?_
    show Steps p.tables e below (T63.setTop (mkF m 103 #[.val (.ref w1), .val (.int p1)] [(.int p1)])) _
    refine XS.ifYes X63.here hx rfl (pc0 := 103) (pc' := 110) rfl (hb hby d_prog_17_method_6_code_103) rfl ((if0 _ _).trans (feq rl2).2) (by decide) (by decide) ?_
    show Steps p.tables e below (T63.setTop (mkF m 110 #[.val (.ref w1), .val (.int p1)] [])) _
    refine XS.iconst X63.here hx rfl (hb hby d_prog_17_method_6_code_110) ?_
    show Steps p.tables e below (T63.setTop (mkF m 111 #[.val (.ref w1), .val (.int p1)] [(.int (0 : Int32))])) _
    refine XS.goto X63.here hx rfl (pc0 := 111) (pc' := 123) rfl (hb hby d_prog_17_method_6_code_111) (by decide) (by decide) ?_
    show Steps p.tables e below (T63.setTop (mkF m 123 #[.val (.ref w1), .val (.int p1)] [(.int (0 : Int32))])) _
    exact retN X63 hx (t := .boolean) Bd.returns (by simp) (hb hby d_prog_17_method_6_code_123) hr
  · show Qp (some (.int (0 : Int32))) h0 n0 _ T63.heap _
    rw [e63]
    exact ⟨rfl, N63, rfl⟩
theorem d_prog_17_method_5_code_14 : decode prog_17_method_5_code 14 = .ok (.iconst 1, 1) := by decide +kernel
theorem d_prog_17_method_5_code_15 : decode prog_17_method_5_code 15 = .ok (.goto 4, 3) := by decide +kernel
set_option maxRecDepth 65536 in
set_option maxHeartbeats 40000000 in
theorem rm25 (l : Launch) (Z : State) (a0 : Array Value) (hw : ∀ d ∈ tables_1, d.before a0 Z = true) (ws : List Jvm.Cond) (w0 w1 w2 w3 w4 w5 : Addr) (h0 : Heap) (n0 : Nat) (hWd : Wd Z w0 w1 w2 w3 w4 w5) (O0 : Old Z n0 h0) :
    MetFree l (⟨"com/example/libgate/libgate/Condition$Operator", "isEquality", "()Z"⟩ : MethodName) (head1 (Jvm.Cond.code (⟨"com/example/libgate/libgate/Condition$Operator", "isEquality", "()Z"⟩ : MethodName) prog_17_method_5_code 1 (some .boolean) :: ws) ({ frames := 0, cells := 0, slots := 0, locals := 0 } : Room)) (fun a U => a = #[(.ref w1)] ∧ Z.Warmed39 U.vm ∧ U.heap = h0) (fun _ _ _ _ _ => True) (fun _ U o U' => ∃ v L, o = .returned v ∧ Qp (some (.int (1 : Int32))) h0 n0 v U'.heap L ∧ FrameEnd U o U' L ({ frames := 0, cells := 0, slots := 0, locals := 0 } : Room).cells ({ frames := 0, cells := 0, slots := 0, locals := 0 } : Room).slots) := by
  refine MetFree.of_bodySF (plainFor_of_name pn2) hisR ?_
  intro p e s m args below meth c s₁ Bd hml0 hP hK
  obtain ⟨rfl, hZ, hh⟩ := hP
  have hx := Bd.exec
  have hby := Bd.bytes
  have hml : c.maxLocals = 1 := hml0
  have hown : s.vm.findClass "com/example/libgate/libgate/Condition$Operator" = some m.cls := findClass_of_methodNamed Bd.named
  have hnm := (name_of_methodNamed Bd.named Bd.method).1
  have X0 : Stand p l e ({ frames := 0, cells := 0, slots := 0, locals := 0 } : Room) s m #[(.ref w1)] below meth c s₁ [] 0 0 := Stand.of_body Bd
  have e0 : s₁.heap = h0 := by rw [← hh, Bd.state]; rfl
  have N0 := Fr.nil n0
  have hlk := Bd.notSynchronized
  obtain ⟨wS0, wE0, wS1, wE1, wS2, wE2, wS3, wE3, wS4, wE4, wS5, wE5, wF0_ordinal, wF1_ordinal, wF2_ordinal, wF3_ordinal, wF4_ordinal, wF5_ordinal, -⟩ := id hWd
  have pre0 : ∀ t, Steps p.tables e below (s₁.setTop (mkF m 0 #[.val (.ref w1)] [])) t → Steps p.tables e below (s₁.setTop (entryFrame m #[(.ref w1)] 1)) t := fun t k => castTop (ef13 m w1) k
  obtain ⟨T65, X65, e65, st65⟩ := getS2 X0 hx hZ hown (host := "") (Or.inl (hw _ (List.mem_of_getElem? (i := 28) rfl))) Via.refl e0 (wS1.ext O0.2) (g := (mkF m 1 #[.val (.ref w1)] [(.ref w1)])) rfl (hb hby d_prog_17_method_5_code_1)
  obtain ⟨fs, hr, hrun, hended, hWr, hsame⟩ := X65.leave (v := some (.int (1 : Int32))) (fun h => by rw [Bd.returns] at h; cases h) hlk
  refine ⟨_, _, pre0 _ ?_, hrun, hended, _, _, rfl, ?_, ⟨_, rfl⟩, hWr, hsame.mono (Nat.le_of_ble_eq_true rfl) (Nat.le_of_ble_eq_true rfl)⟩
  · show Steps p.tables e below (s₁.setTop (mkF m 0 #[.val (.ref w1)] [])) _
    refine XS.aloadN X0.here hx rfl (hb hby d_prog_17_method_5_code_0) rfl rfl ?_
    show Steps p.tables e below (s₁.setTop (mkF m 1 #[.val (.ref w1)] [(.ref w1)])) _
    refine st65 _ ?_
    show Steps p.tables e below (T65.setTop (mkF m 4 #[.val (.ref w1)] [(.ref w1), (.ref w1)])) _
    refine Jvm.RoadKit.acmp (g := (mkF m 4 #[.val (.ref w1)] [(.ref w1), (.ref w1)])) X65 hx rfl rfl rfl (pc0 := 4) (pc' := 14) (same := true) rfl (hb hby d_prog_17_method_5_code_4) rfl (decide_eq_true rfl) (by decide) (by decide) ?_
    show Steps p.tables e below (T65.setTop (mkF m 14 #[.val (.ref w1)] [])) _
    refine XS.iconst X65.here hx rfl (hb hby d_prog_17_method_5_code_14) ?_
    show Steps p.tables e below (T65.setTop (mkF m 15 #[.val (.ref w1)] [(.int (1 : Int32))])) _
    refine XS.goto X65.here hx rfl (pc0 := 15) (pc' := 19) rfl (hb hby d_prog_17_method_5_code_15) (by decide) (by decide) ?_
    show Steps p.tables e below (T65.setTop (mkF m 19 #[.val (.ref w1)] [(.int (1 : Int32))])) _
    exact retN X65 hx (t := .boolean) Bd.returns (by simp) (hb hby d_prog_17_method_5_code_19) hr
  · show Qp (some (.int (1 : Int32))) h0 n0 _ T65.heap _
    rw [e65]
    exact ⟨rfl, N0, rfl⟩
theorem d_method_3_code_44 : decode method_3_code 44 = .ok (.getstatic 41, 3) := by decide +kernel
theorem d_method_3_code_47 : decode method_3_code 47 = .ok (.areturn, 1) := by decide +kernel
theorem ef15 (m : MethodId)    : entryFrame m #[(.int (5 : Int32))] 1 = mkF m 0 #[.val (.int (5 : Int32))] [] := by first | (simp [entryFrame, mkF, argsToLocals, Value.category]; done) | rfl
set_option maxRecDepth 65536 in
set_option maxHeartbeats 40000000 in
theorem rm26 (l : Launch) (Z : State) (a0 : Array Value) (hw : ∀ d ∈ tables_1, d.before a0 Z = true) (ws : List Jvm.Cond) (w0 w1 w2 w3 w4 w5 : Addr) (h0 : Heap) (n0 : Nat) (hWd : Wd Z w0 w1 w2 w3 w4 w5) (O0 : Old Z n0 h0) :
    MetFree l (⟨"com/example/libgate/libgate/OperatorIsEqualityPinLaw", "pickOp", "(I)Lcom/example/libgate/libgate/Condition$Operator;"⟩ : MethodName) (head1 (Jvm.Cond.code (⟨"com/example/libgate/libgate/OperatorIsEqualityPinLaw", "pickOp", "(I)Lcom/example/libgate/libgate/Condition$Operator;"⟩ : MethodName) method_3_code 1 (some (.object "com/example/libgate/libgate/Condition$Operator")) :: ws) ({ frames := 0, cells := 0, slots := 0, locals := 0 } : Room)) (fun a U => a = #[(.int (5 : Int32))] ∧ Z.Warmed39 U.vm ∧ U.heap = h0) (fun _ _ _ _ _ => True) (fun _ U o U' => ∃ v L, o = .returned v ∧ Qp (some (.ref w2)) h0 n0 v U'.heap L ∧ FrameEnd U o U' L ({ frames := 0, cells := 0, slots := 0, locals := 0 } : Room).cells ({ frames := 0, cells := 0, slots := 0, locals := 0 } : Room).slots) := by
  refine MetFree.of_bodySF (plainFor_of_name pn0) hisR ?_
  intro p e s m args below meth c s₁ Bd hml0 hP hK
  obtain ⟨rfl, hZ, hh⟩ := hP
  have hx := Bd.exec
  have hby := Bd.bytes
  have hml : c.maxLocals = 1 := hml0
  have hown : s.vm.findClass "com/example/libgate/libgate/OperatorIsEqualityPinLaw" = some m.cls := findClass_of_methodNamed Bd.named
  have hnm := (name_of_methodNamed Bd.named Bd.method).1
  have X0 : Stand p l e ({ frames := 0, cells := 0, slots := 0, locals := 0 } : Room) s m #[(.int (5 : Int32))] below meth c s₁ [] 0 0 := Stand.of_body Bd
  have e0 : s₁.heap = h0 := by rw [← hh, Bd.state]; rfl
  have N0 := Fr.nil n0
  have hlk := Bd.notSynchronized
  obtain ⟨wS0, wE0, wS1, wE1, wS2, wE2, wS3, wE3, wS4, wE4, wS5, wE5, wF0_ordinal, wF1_ordinal, wF2_ordinal, wF3_ordinal, wF4_ordinal, wF5_ordinal, -⟩ := id hWd
  have pre0 : ∀ t, Steps p.tables e below (s₁.setTop (mkF m 0 #[.val (.int (5 : Int32))] [])) t → Steps p.tables e below (s₁.setTop (entryFrame m #[(.int (5 : Int32))] 1)) t := fun t k => castTop (ef15 m ) k
  obtain ⟨T67, X67, e67, st67⟩ := getS2 X0 hx hZ hown (host := "") (Or.inl (hw _ (List.mem_of_getElem? (i := 36) rfl))) Via.refl e0 (wS2.ext O0.2) (g := (mkF m 44 #[.val (.int (5 : Int32))] [])) rfl (hb hby d_method_3_code_44)
  obtain ⟨fs, hr, hrun, hended, hWr, hsame⟩ := X67.leave (v := some (.ref w2)) (fun h => by rw [Bd.returns] at h; cases h) hlk
  refine ⟨_, _, pre0 _ ?_, hrun, hended, _, _, rfl, ?_, ⟨_, rfl⟩, hWr, hsame.mono (Nat.le_of_ble_eq_true rfl) (Nat.le_of_ble_eq_true rfl)⟩
  · show Steps p.tables e below (s₁.setTop (mkF m 0 #[.val (.int (5 : Int32))] [])) _
    refine XS.iloadN X0.here hx rfl (hb hby d_method_3_code_0) rfl ?_
    show Steps p.tables e below (s₁.setTop (mkF m 1 #[.val (.int (5 : Int32))] [(.int (5 : Int32))])) _
    refine XS.ifYes X0.here hx rfl (pc0 := 1) (pc' := 8) rfl (hb hby d_method_3_code_1) rfl (by decide) (by decide) (by decide) ?_
    show Steps p.tables e below (s₁.setTop (mkF m 8 #[.val (.int (5 : Int32))] [])) _
    refine XS.iloadN X0.here hx rfl (hb hby d_method_3_code_8) rfl ?_
    show Steps p.tables e below (s₁.setTop (mkF m 9 #[.val (.int (5 : Int32))] [(.int (5 : Int32))])) _
    refine XS.iconst X0.here hx rfl (hb hby d_method_3_code_9) ?_
    show Steps p.tables e below (s₁.setTop (mkF m 10 #[.val (.int (5 : Int32))] [(.int (1 : Int32)), (.int (5 : Int32))])) _
    refine XS.icmpYes X0.here hx rfl (pc0 := 10) (pc' := 17) rfl (hb hby d_method_3_code_10) rfl (by decide) (by decide) (by decide) ?_
    show Steps p.tables e below (s₁.setTop (mkF m 17 #[.val (.int (5 : Int32))] [])) _
    refine XS.iloadN X0.here hx rfl (hb hby d_method_3_code_17) rfl ?_
    show Steps p.tables e below (s₁.setTop (mkF m 18 #[.val (.int (5 : Int32))] [(.int (5 : Int32))])) _
    refine XS.iconst X0.here hx rfl (hb hby d_method_3_code_18) ?_
    show Steps p.tables e below (s₁.setTop (mkF m 19 #[.val (.int (5 : Int32))] [(.int (2 : Int32)), (.int (5 : Int32))])) _
    refine XS.icmpYes X0.here hx rfl (pc0 := 19) (pc' := 26) rfl (hb hby d_method_3_code_19) rfl (by decide) (by decide) (by decide) ?_
    show Steps p.tables e below (s₁.setTop (mkF m 26 #[.val (.int (5 : Int32))] [])) _
    refine XS.iloadN X0.here hx rfl (hb hby d_method_3_code_26) rfl ?_
    show Steps p.tables e below (s₁.setTop (mkF m 27 #[.val (.int (5 : Int32))] [(.int (5 : Int32))])) _
    refine XS.iconst X0.here hx rfl (hb hby d_method_3_code_27) ?_
    show Steps p.tables e below (s₁.setTop (mkF m 28 #[.val (.int (5 : Int32))] [(.int (3 : Int32)), (.int (5 : Int32))])) _
    refine XS.icmpYes X0.here hx rfl (pc0 := 28) (pc' := 35) rfl (hb hby d_method_3_code_28) rfl (by decide) (by decide) (by decide) ?_
    show Steps p.tables e below (s₁.setTop (mkF m 35 #[.val (.int (5 : Int32))] [])) _
    refine XS.iloadN X0.here hx rfl (hb hby d_method_3_code_35) rfl ?_
    show Steps p.tables e below (s₁.setTop (mkF m 36 #[.val (.int (5 : Int32))] [(.int (5 : Int32))])) _
    refine XS.iconst X0.here hx rfl (hb hby d_method_3_code_36) ?_
    show Steps p.tables e below (s₁.setTop (mkF m 37 #[.val (.int (5 : Int32))] [(.int (4 : Int32)), (.int (5 : Int32))])) _
    refine XS.icmpYes X0.here hx rfl (pc0 := 37) (pc' := 44) rfl (hb hby d_method_3_code_37) rfl (by decide) (by decide) (by decide) ?_
    show Steps p.tables e below (s₁.setTop (mkF m 44 #[.val (.int (5 : Int32))] [])) _
    refine st67 _ ?_
    show Steps p.tables e below (T67.setTop (mkF m 47 #[.val (.int (5 : Int32))] [(.ref w2)])) _
    exact retOut X67 hx (t := (.object "com/example/libgate/libgate/Condition$Operator")) (i := .areturn) Bd.returns rfl (Or.inr (Or.inr (Or.inr (Or.inr ⟨rfl, rfl, rfl⟩)))) (hb hby d_method_3_code_47) hr
  · show Qp (some (.ref w2)) h0 n0 _ T67.heap _
    rw [e67]
    exact ⟨rfl, N0, rfl⟩
theorem ef16 (m : MethodId)   (w2 : Addr) : entryFrame m #[(.ref w2)] 1 = mkF m 0 #[.val (.ref w2)] [] := by first | (simp [entryFrame, mkF, argsToLocals, Value.category]; done) | rfl
set_option maxRecDepth 65536 in
set_option maxHeartbeats 40000000 in
theorem rm28 (l : Launch) (Z : State) (a0 : Array Value) (hw : ∀ d ∈ tables_1, d.before a0 Z = true) (ws : List Jvm.Cond) (w0 w1 w2 w3 w4 w5 : Addr) (h0 : Heap) (n0 : Nat) (hWd : Wd Z w0 w1 w2 w3 w4 w5) (O0 : Old Z n0 h0) :
    MetFree l (⟨"java/lang/Enum", "ordinal", "()I"⟩ : MethodName) (head1 (Jvm.Cond.code (⟨"java/lang/Enum", "ordinal", "()I"⟩ : MethodName) jdk_37_method_2_code 1 (some .int) :: ws) ({ frames := 0, cells := 0, slots := 0, locals := 0 } : Room)) (fun a U => a = #[(.ref w2)] ∧ Z.Warmed39 U.vm ∧ U.heap = h0) (fun _ _ _ _ _ => True) (fun _ U o U' => ∃ v L, o = .returned v ∧ Qp (some (.int (5 : Int32))) h0 n0 v U'.heap L ∧ FrameEnd U o U' L ({ frames := 0, cells := 0, slots := 0, locals := 0 } : Room).cells ({ frames := 0, cells := 0, slots := 0, locals := 0 } : Room).slots) := by
  refine MetFree.of_bodySF (plainFor_of_name pn1) hisR ?_
  intro p e s m args below meth c s₁ Bd hml0 hP hK
  obtain ⟨rfl, hZ, hh⟩ := hP
  have hx := Bd.exec
  have hby := Bd.bytes
  have hml : c.maxLocals = 1 := hml0
  have hown : s.vm.findClass "java/lang/Enum" = some m.cls := findClass_of_methodNamed Bd.named
  have hnm := (name_of_methodNamed Bd.named Bd.method).1
  have X0 : Stand p l e ({ frames := 0, cells := 0, slots := 0, locals := 0 } : Room) s m #[(.ref w2)] below meth c s₁ [] 0 0 := Stand.of_body Bd
  have e0 : s₁.heap = h0 := by rw [← hh, Bd.state]; rfl
  have N0 := Fr.nil n0
  have hlk := Bd.notSynchronized
  obtain ⟨wS0, wE0, wS1, wE1, wS2, wE2, wS3, wE3, wS4, wE4, wS5, wE5, wF0_ordinal, wF1_ordinal, wF2_ordinal, wF3_ordinal, wF4_ordinal, wF5_ordinal, -⟩ := id hWd
  have pre0 : ∀ t, Steps p.tables e below (s₁.setTop (mkF m 0 #[.val (.ref w2)] [])) t → Steps p.tables e below (s₁.setTop (entryFrame m #[(.ref w2)] 1)) t := fun t k => castTop (ef16 m w2) k
  obtain ⟨T71, X71, e71, st71⟩ := getF X0 hx hZ hown (host := "") (Or.inl (hw _ (List.mem_of_getElem? (i := 21) rfl))) Via.refl e0 (wF2_ordinal.ext O0.2) (g := (mkF m 1 #[.val (.ref w2)] [(.ref w2)])) rfl rfl (hb hby d_jdk_37_method_2_code_1)
  obtain ⟨fs, hr, hrun, hended, hWr, hsame⟩ := X71.leave (v := some (.int (5 : Int32))) (fun h => by rw [Bd.returns] at h; cases h) hlk
  refine ⟨_, _, pre0 _ ?_, hrun, hended, _, _, rfl, ?_, ⟨_, rfl⟩, hWr, hsame.mono (Nat.le_of_ble_eq_true rfl) (Nat.le_of_ble_eq_true rfl)⟩
  · show Steps p.tables e below (s₁.setTop (mkF m 0 #[.val (.ref w2)] [])) _
    refine XS.aloadN X0.here hx rfl (hb hby d_jdk_37_method_2_code_0) rfl rfl ?_
    show Steps p.tables e below (s₁.setTop (mkF m 1 #[.val (.ref w2)] [(.ref w2)])) _
    refine st71 _ ?_
    show Steps p.tables e below (T71.setTop (mkF m 4 #[.val (.ref w2)] [(.int (5 : Int32))])) _
    exact retOut X71 hx (t := .int) (i := .ireturn) Bd.returns rfl (Or.inl ⟨rfl, Or.inl rfl, _, rfl⟩) (hb hby d_jdk_37_method_2_code_4) hr
  · show Qp (some (.int (5 : Int32))) h0 n0 _ T71.heap _
    rw [e71]
    exact ⟨rfl, N0, rfl⟩
theorem d_prog_17_method_6_code_114 : decode prog_17_method_6_code 114 = .ok (.iload_n 1, 1) := by decide +kernel
theorem d_prog_17_method_6_code_115 : decode prog_17_method_6_code 115 = .ok (.ifCond .eq 7, 3) := by decide +kernel
theorem d_prog_17_method_6_code_118 : decode prog_17_method_6_code 118 = .ok (.iconst 1, 1) := by decide +kernel
theorem d_prog_17_method_6_code_119 : decode prog_17_method_6_code 119 = .ok (.goto 4, 3) := by decide +kernel
theorem ef17 (m : MethodId) (p1 : Int32)  (w2 : Addr) : entryFrame m #[(.ref w2), (.int p1)] 2 = mkF m 0 #[.val (.ref w2), .val (.int p1)] [] := by first | (simp [entryFrame, mkF, argsToLocals, Value.category]; done) | rfl
set_option maxRecDepth 65536 in
set_option maxHeartbeats 40000000 in
theorem rm27 (l : Launch) (Z : State) (a0 : Array Value) (hw : ∀ d ∈ tables_1, d.before a0 Z = true) (ws : List Jvm.Cond) (w0 w1 w2 w3 w4 w5 : Addr) (p1 : Int32) (h0 : Heap) (n0 : Nat) (hWd : Wd Z w0 w1 w2 w3 w4 w5) (O0 : Old Z n0 h0) (rl0 : p1 < (0 : Int32)) (rl1 : ¬ ((0 : Int32) < p1)) (rl2 : ¬ (p1 = (0 : Int32))) :
    MetFree l (⟨"com/example/libgate/libgate/Condition$Operator", "holds", "(I)Z"⟩ : MethodName) (head1 (Jvm.Cond.code (⟨"com/example/libgate/libgate/Condition$Operator", "holds", "(I)Z"⟩ : MethodName) prog_17_method_6_code 2 (some .boolean) :: ws) ({ frames := 1, cells := 0, slots := 0, locals := 12 } : Room)) (fun a U => a = #[(.ref w2), (.int p1)] ∧ Z.Warmed39 U.vm ∧ U.heap = h0) (fun _ _ _ _ _ => True) (fun _ U o U' => ∃ v L, o = .returned v ∧ Qp (some (.int (1 : Int32))) h0 n0 v U'.heap L ∧ FrameEnd U o U' L ({ frames := 1, cells := 0, slots := 0, locals := 12 } : Room).cells ({ frames := 1, cells := 0, slots := 0, locals := 12 } : Room).slots) := by
  refine MetFree.of_bodySF (plainFor_of_name pn2) hisR ?_
  intro p e s m args below meth c s₁ Bd hml0 hP hK
  obtain ⟨rfl, hZ, hh⟩ := hP
  have hx := Bd.exec
  have hby := Bd.bytes
  have hml : c.maxLocals = 2 := hml0
  have hown : s.vm.findClass "com/example/libgate/libgate/Condition$Operator" = some m.cls := findClass_of_methodNamed Bd.named
  have hnm := (name_of_methodNamed Bd.named Bd.method).1
  have X0 : Stand p l e ({ frames := 1, cells := 0, slots := 0, locals := 12 } : Room) s m #[(.ref w2), (.int p1)] below meth c s₁ [] 0 0 := Stand.of_body Bd
  have e0 : s₁.heap = h0 := by rw [← hh, Bd.state]; rfl
  have N0 := Fr.nil n0
  have hlk := Bd.notSynchronized
  obtain ⟨wS0, wE0, wS1, wE1, wS2, wE2, wS3, wE3, wS4, wE4, wS5, wE5, wF0_ordinal, wF1_ordinal, wF2_ordinal, wF3_ordinal, wF4_ordinal, wF5_ordinal, -⟩ := id hWd
  have pre0 : ∀ t, Steps p.tables e below (s₁.setTop (mkF m 0 #[.val (.ref w2), .val (.int p1)] [])) t → Steps p.tables e below (s₁.setTop (entryFrame m #[(.ref w2), (.int p1)] 2)) t := fun t k => castTop (ef17 m p1 w2) k
  obtain ⟨cq72, kq72, q72a, q72b, q72c⟩ := isOf hZ e0 (wE2.ext O0.2)
  obtain ⟨_, _, ⟨T72, L72, k72, n72⟩, -, X72, ⟨Lc72, hQ72, l72, y72, z72⟩, st72⟩ := X0.virtualBackUp hx (owner := "java/lang/Enum") (x := (⟨"com/example/libgate/libgate/Condition$Operator", "ordinal", "()I"⟩ : MethodName)) (y := (⟨"java/lang/Enum", "ordinal", "()I"⟩ : MethodName)) hown (mvT hZ (hw _ (List.mem_of_getElem? (i := 14) rfl))) (mvT hZ (hw _ (List.mem_of_getElem? (i := 15) rfl))) (mvT hZ (hw _ (List.mem_of_getElem? (i := 16) rfl))) (by decide) (mvT hZ (hw _ (List.mem_of_getElem? (i := 18) rfl))) (mvT hZ (hw _ (List.mem_of_getElem? (i := 17) rfl))) (backOf (W := 0) (rm28 l Z a0 hw [] w0 w1 w2 w3 w4 w5 h0 n0 hWd O0) hZ (hw _ (List.mem_of_getElem? (i := 20) rfl)) (hw _ (List.mem_of_getElem? (i := 19) rfl)) (by decide) (by decide)) q72a q72c (g := (mkF m 1 #[.val (.ref w2), .val (.int p1)] [(.ref w2)])) rfl (by rw [hml]; rfl) (Steps.refl _) (argsL := []) (rest := []) (lenOf pd1 rfl) rfl (by show 2 * 0 + _ ≤ _; exact Nat.le_of_eq rfl) (hb hby d_prog_17_method_6_code_1) (fun _ _ => ⟨rfl, e0, (by decide : 0 + 0 ≤ _), (by decide : 0 + 0 ≤ _)⟩)
  dsimp only [Pt.U, Pt.locs, Pt.cells, Pt.slots] at X72 l72 y72 z72 st72 hQ72
  subst l72 y72 z72
  obtain ⟨rfl, N72q, e72⟩ := hQ72
  have N72 := Fr.app N0 N72q
  obtain ⟨fs, hr, hrun, hended, hWr, hsame⟩ := X72.leave (v := some (.int (1 : Int32))) (fun h => by rw [Bd.returns] at h; cases h) hlk
  refine ⟨_, _, pre0 _ ?_, hrun, hended, _, _, rfl, ?_, ⟨_, rfl⟩, hWr, hsame.mono (Nat.le_of_ble_eq_true rfl) (Nat.le_of_ble_eq_true rfl)⟩
  · show Steps p.tables e below (s₁.setTop (mkF m 0 #[.val (.ref w2), .val (.int p1)] [])) _
    refine XS.aloadN X0.here hx rfl (hb hby d_prog_17_method_6_code_0) rfl rfl ?_
    show Steps p.tables e below (s₁.setTop (mkF m 1 #[.val (.ref w2), .val (.int p1)] [(.ref w2)])) _
    refine st72.trans ?_
    show Steps p.tables e below (T72.setTop (mkF m 4 #[.val (.ref w2), .val (.int p1)] [(.int (5 : Int32))])) _
    refine XS.tswIn X72.here hx rfl (pc0 := 4) (pc' := 114) (o := 110) rfl (hb hby d_prog_17_method_6_code_4) rfl (by decide) (by first | rfl | decide) (by decide) (by decide) ?_
    show Steps p.tables e below (T72.setTop (mkF m 114 #[.val (.ref w2), .val (.int p1)] [])) _
    refine XS.iloadN X72.here hx rfl (hb hby d_prog_17_method_6_code_114) rfl ?_
    show Steps p.tables e below (T72.setTop (mkF m 115 #[.val (.ref w2), .val (.int p1)] [(.int p1)])) _
    refine XS.ifNo X72.here hx rfl (hb hby d_prog_17_method_6_code_115) rfl ((if0 _ _).trans (feq rl2).1) ?_
    show Steps p.tables e below (T72.setTop (mkF m 118 #[.val (.ref w2), .val (.int p1)] [])) _
    refine XS.iconst X72.here hx rfl (hb hby d_prog_17_method_6_code_118) ?_
    show Steps p.tables e below (T72.setTop (mkF m 119 #[.val (.ref w2), .val (.int p1)] [(.int (1 : Int32))])) _
    refine XS.goto X72.here hx rfl (pc0 := 119) (pc' := 123) rfl (hb hby d_prog_17_method_6_code_119) (by decide) (by decide) ?_
    show Steps p.tables e below (T72.setTop (mkF m 123 #[.val (.ref w2), .val (.int p1)] [(.int (1 : Int32))])) _
    exact retN X72 hx (t := .boolean) Bd.returns (by simp) (hb hby d_prog_17_method_6_code_123) hr
  · show Qp (some (.int (1 : Int32))) h0 n0 _ T72.heap _
    rw [e72]
    exact ⟨rfl, N72, rfl⟩
set_option maxRecDepth 65536 in
set_option maxHeartbeats 40000000 in
theorem rm29 (l : Launch) (Z : State) (a0 : Array Value) (hw : ∀ d ∈ tables_1, d.before a0 Z = true) (ws : List Jvm.Cond) (w0 w1 w2 w3 w4 w5 : Addr) (p1 : Int32) (h0 : Heap) (n0 : Nat) (hWd : Wd Z w0 w1 w2 w3 w4 w5) (O0 : Old Z n0 h0) (rl0 : ¬ (p1 < (0 : Int32))) (rl1 : (0 : Int32) < p1) (rl2 : ¬ (p1 = (0 : Int32))) :
    MetFree l (⟨"com/example/libgate/libgate/Condition$Operator", "holds", "(I)Z"⟩ : MethodName) (head1 (Jvm.Cond.code (⟨"com/example/libgate/libgate/Condition$Operator", "holds", "(I)Z"⟩ : MethodName) prog_17_method_6_code 2 (some .boolean) :: ws) ({ frames := 1, cells := 0, slots := 0, locals := 12 } : Room)) (fun a U => a = #[(.ref w2), (.int p1)] ∧ Z.Warmed39 U.vm ∧ U.heap = h0) (fun _ _ _ _ _ => True) (fun _ U o U' => ∃ v L, o = .returned v ∧ Qp (some (.int (1 : Int32))) h0 n0 v U'.heap L ∧ FrameEnd U o U' L ({ frames := 1, cells := 0, slots := 0, locals := 12 } : Room).cells ({ frames := 1, cells := 0, slots := 0, locals := 12 } : Room).slots) := by
  refine MetFree.of_bodySF (plainFor_of_name pn2) hisR ?_
  intro p e s m args below meth c s₁ Bd hml0 hP hK
  obtain ⟨rfl, hZ, hh⟩ := hP
  have hx := Bd.exec
  have hby := Bd.bytes
  have hml : c.maxLocals = 2 := hml0
  have hown : s.vm.findClass "com/example/libgate/libgate/Condition$Operator" = some m.cls := findClass_of_methodNamed Bd.named
  have hnm := (name_of_methodNamed Bd.named Bd.method).1
  have X0 : Stand p l e ({ frames := 1, cells := 0, slots := 0, locals := 12 } : Room) s m #[(.ref w2), (.int p1)] below meth c s₁ [] 0 0 := Stand.of_body Bd
  have e0 : s₁.heap = h0 := by rw [← hh, Bd.state]; rfl
  have N0 := Fr.nil n0
  have hlk := Bd.notSynchronized
  obtain ⟨wS0, wE0, wS1, wE1, wS2, wE2, wS3, wE3, wS4, wE4, wS5, wE5, wF0_ordinal, wF1_ordinal, wF2_ordinal, wF3_ordinal, wF4_ordinal, wF5_ordinal, -⟩ := id hWd
  have pre0 : ∀ t, Steps p.tables e below (s₁.setTop (mkF m 0 #[.val (.ref w2), .val (.int p1)] [])) t → Steps p.tables e below (s₁.setTop (entryFrame m #[(.ref w2), (.int p1)] 2)) t := fun t k => castTop (ef17 m p1 w2) k
  obtain ⟨cq74, kq74, q74a, q74b, q74c⟩ := isOf hZ e0 (wE2.ext O0.2)
  obtain ⟨_, _, ⟨T74, L74, k74, n74⟩, -, X74, ⟨Lc74, hQ74, l74, y74, z74⟩, st74⟩ := X0.virtualBackUp hx (owner := "java/lang/Enum") (x := (⟨"com/example/libgate/libgate/Condition$Operator", "ordinal", "()I"⟩ : MethodName)) (y := (⟨"java/lang/Enum", "ordinal", "()I"⟩ : MethodName)) hown (mvT hZ (hw _ (List.mem_of_getElem? (i := 14) rfl))) (mvT hZ (hw _ (List.mem_of_getElem? (i := 15) rfl))) (mvT hZ (hw _ (List.mem_of_getElem? (i := 16) rfl))) (by decide) (mvT hZ (hw _ (List.mem_of_getElem? (i := 18) rfl))) (mvT hZ (hw _ (List.mem_of_getElem? (i := 17) rfl))) (backOf (W := 0) (rm28 l Z a0 hw [] w0 w1 w2 w3 w4 w5 h0 n0 hWd O0) hZ (hw _ (List.mem_of_getElem? (i := 20) rfl)) (hw _ (List.mem_of_getElem? (i := 19) rfl)) (by decide) (by decide)) q74a q74c (g := (mkF m 1 #[.val (.ref w2), .val (.int p1)] [(.ref w2)])) rfl (by rw [hml]; rfl) (Steps.refl _) (argsL := []) (rest := []) (lenOf pd1 rfl) rfl (by show 2 * 0 + _ ≤ _; exact Nat.le_of_eq rfl) (hb hby d_prog_17_method_6_code_1) (fun _ _ => ⟨rfl, e0, (by decide : 0 + 0 ≤ _), (by decide : 0 + 0 ≤ _)⟩)
  dsimp only [Pt.U, Pt.locs, Pt.cells, Pt.slots] at X74 l74 y74 z74 st74 hQ74
  subst l74 y74 z74
  obtain ⟨rfl, N74q, e74⟩ := hQ74
  have N74 := Fr.app N0 N74q
  obtain ⟨fs, hr, hrun, hended, hWr, hsame⟩ := X74.leave (v := some (.int (1 : Int32))) (fun h => by rw [Bd.returns] at h; cases h) hlk
  refine ⟨_, _, pre0 _ ?_, hrun, hended, _, _, rfl, ?_, ⟨_, rfl⟩, hWr, hsame.mono (Nat.le_of_ble_eq_true rfl) (Nat.le_of_ble_eq_true rfl)⟩
  · show Steps p.tables e below (s₁.setTop (mkF m 0 #[.val (.ref w2), .val (.int p1)] [])) _
    refine XS.aloadN X0.here hx rfl (hb hby d_prog_17_method_6_code_0) rfl rfl ?_
    show Steps p.tables e below (s₁.setTop (mkF m 1 #[.val (.ref w2), .val (.int p1)] [(.ref w2)])) _
    refine st74.trans ?_
    show Steps p.tables e below (T74.setTop (mkF m 4 #[.val (.ref w2), .val (.int p1)] [(.int (5 : Int32))])) _
    refine XS.tswIn X74.here hx rfl (pc0 := 4) (pc' := 114) (o := 110) rfl (hb hby d_prog_17_method_6_code_4) rfl (by decide) (by first | rfl | decide) (by decide) (by decide) ?_
    show Steps p.tables e below (T74.setTop (mkF m 114 #[.val (.ref w2), .val (.int p1)] [])) _
    refine XS.iloadN X74.here hx rfl (hb hby d_prog_17_method_6_code_114) rfl ?_
    show Steps p.tables e below (T74.setTop (mkF m 115 #[.val (.ref w2), .val (.int p1)] [(.int p1)])) _
    refine XS.ifNo X74.here hx rfl (hb hby d_prog_17_method_6_code_115) rfl ((if0 _ _).trans (feq rl2).1) ?_
    show Steps p.tables e below (T74.setTop (mkF m 118 #[.val (.ref w2), .val (.int p1)] [])) _
    refine XS.iconst X74.here hx rfl (hb hby d_prog_17_method_6_code_118) ?_
    show Steps p.tables e below (T74.setTop (mkF m 119 #[.val (.ref w2), .val (.int p1)] [(.int (1 : Int32))])) _
    refine XS.goto X74.here hx rfl (pc0 := 119) (pc' := 123) rfl (hb hby d_prog_17_method_6_code_119) (by decide) (by decide) ?_
    show Steps p.tables e below (T74.setTop (mkF m 123 #[.val (.ref w2), .val (.int p1)] [(.int (1 : Int32))])) _
    exact retN X74 hx (t := .boolean) Bd.returns (by simp) (hb hby d_prog_17_method_6_code_123) hr
  · show Qp (some (.int (1 : Int32))) h0 n0 _ T74.heap _
    rw [e74]
    exact ⟨rfl, N74, rfl⟩
set_option maxRecDepth 65536 in
set_option maxHeartbeats 40000000 in
theorem rm30 (l : Launch) (Z : State) (a0 : Array Value) (hw : ∀ d ∈ tables_1, d.before a0 Z = true) (ws : List Jvm.Cond) (w0 w1 w2 w3 w4 w5 : Addr) (h0 : Heap) (n0 : Nat) (hWd : Wd Z w0 w1 w2 w3 w4 w5) (O0 : Old Z n0 h0) :
    MetFree l (⟨"com/example/libgate/libgate/Condition$Operator", "isEquality", "()Z"⟩ : MethodName) (head1 (Jvm.Cond.code (⟨"com/example/libgate/libgate/Condition$Operator", "isEquality", "()Z"⟩ : MethodName) prog_17_method_5_code 1 (some .boolean) :: ws) ({ frames := 0, cells := 0, slots := 0, locals := 0 } : Room)) (fun a U => a = #[(.ref w2)] ∧ Z.Warmed39 U.vm ∧ U.heap = h0) (fun _ _ _ _ _ => True) (fun _ U o U' => ∃ v L, o = .returned v ∧ Qp (some (.int (1 : Int32))) h0 n0 v U'.heap L ∧ FrameEnd U o U' L ({ frames := 0, cells := 0, slots := 0, locals := 0 } : Room).cells ({ frames := 0, cells := 0, slots := 0, locals := 0 } : Room).slots) := by
  refine MetFree.of_bodySF (plainFor_of_name pn2) hisR ?_
  intro p e s m args below meth c s₁ Bd hml0 hP hK
  obtain ⟨rfl, hZ, hh⟩ := hP
  have hx := Bd.exec
  have hby := Bd.bytes
  have hml : c.maxLocals = 1 := hml0
  have hown : s.vm.findClass "com/example/libgate/libgate/Condition$Operator" = some m.cls := findClass_of_methodNamed Bd.named
  have hnm := (name_of_methodNamed Bd.named Bd.method).1
  have X0 : Stand p l e ({ frames := 0, cells := 0, slots := 0, locals := 0 } : Room) s m #[(.ref w2)] below meth c s₁ [] 0 0 := Stand.of_body Bd
  have e0 : s₁.heap = h0 := by rw [← hh, Bd.state]; rfl
  have N0 := Fr.nil n0
  have hlk := Bd.notSynchronized
  obtain ⟨wS0, wE0, wS1, wE1, wS2, wE2, wS3, wE3, wS4, wE4, wS5, wE5, wF0_ordinal, wF1_ordinal, wF2_ordinal, wF3_ordinal, wF4_ordinal, wF5_ordinal, -⟩ := id hWd
  have pre0 : ∀ t, Steps p.tables e below (s₁.setTop (mkF m 0 #[.val (.ref w2)] [])) t → Steps p.tables e below (s₁.setTop (entryFrame m #[(.ref w2)] 1)) t := fun t k => castTop (ef16 m w2) k
  obtain ⟨T76, X76, e76, st76⟩ := getS2 X0 hx hZ hown (host := "") (Or.inl (hw _ (List.mem_of_getElem? (i := 28) rfl))) Via.refl e0 (wS1.ext O0.2) (g := (mkF m 1 #[.val (.ref w2)] [(.ref w2)])) rfl (hb hby d_prog_17_method_5_code_1)
  obtain ⟨T77, X77, e77, st77⟩ := getS2 X76 hx hZ hown (host := "") (Or.inl (hw _ (List.mem_of_getElem? (i := 30) rfl))) Via.refl e76 (wS2.ext O0.2) (g := (mkF m 8 #[.val (.ref w2)] [(.ref w2)])) rfl (hb hby d_prog_17_method_5_code_8)
  obtain ⟨fs, hr, hrun, hended, hWr, hsame⟩ := X77.leave (v := some (.int (1 : Int32))) (fun h => by rw [Bd.returns] at h; cases h) hlk
  refine ⟨_, _, pre0 _ ?_, hrun, hended, _, _, rfl, ?_, ⟨_, rfl⟩, hWr, hsame.mono (Nat.le_of_ble_eq_true rfl) (Nat.le_of_ble_eq_true rfl)⟩
  · show Steps p.tables e below (s₁.setTop (mkF m 0 #[.val (.ref w2)] [])) _
    refine XS.aloadN X0.here hx rfl (hb hby d_prog_17_method_5_code_0) rfl rfl ?_
    show Steps p.tables e below (s₁.setTop (mkF m 1 #[.val (.ref w2)] [(.ref w2)])) _
    refine st76 _ ?_
    show Steps p.tables e below (T76.setTop (mkF m 4 #[.val (.ref w2)] [(.ref w1), (.ref w2)])) _
    refine Jvm.RoadKit.acmp (g := (mkF m 4 #[.val (.ref w2)] [(.ref w1), (.ref w2)])) X76 hx rfl rfl rfl (pc0 := 4) (pc' := 7) (same := false) rfl (hb hby d_prog_17_method_5_code_4) rfl (decide_eq_false fun q => (Fld.ne wF2_ordinal wF1_ordinal (fun q => absurd (Value.int.inj q) (by decide))) (Value.ref.inj q)) (by decide) (by decide) ?_
    show Steps p.tables e below (T76.setTop (mkF m 7 #[.val (.ref w2)] [])) _
    refine XS.aloadN X76.here hx rfl (hb hby d_prog_17_method_5_code_7) rfl rfl ?_
    show Steps p.tables e below (T76.setTop (mkF m 8 #[.val (.ref w2)] [(.ref w2)])) _
    refine st77 _ ?_
    show Steps p.tables e below (T77.setTop (mkF m 11 #[.val (.ref w2)] [(.ref w2), (.ref w2)])) _
    refine Jvm.RoadKit.acmp (g := (mkF m 11 #[.val (.ref w2)] [(.ref w2), (.ref w2)])) X77 hx rfl rfl rfl (pc0 := 11) (pc' := 14) (same := true) rfl (hb hby d_prog_17_method_5_code_11) rfl (decide_eq_true rfl) (by decide) (by decide) ?_
    show Steps p.tables e below (T77.setTop (mkF m 14 #[.val (.ref w2)] [])) _
    refine XS.iconst X77.here hx rfl (hb hby d_prog_17_method_5_code_14) ?_
    show Steps p.tables e below (T77.setTop (mkF m 15 #[.val (.ref w2)] [(.int (1 : Int32))])) _
    refine XS.goto X77.here hx rfl (pc0 := 15) (pc' := 19) rfl (hb hby d_prog_17_method_5_code_15) (by decide) (by decide) ?_
    show Steps p.tables e below (T77.setTop (mkF m 19 #[.val (.ref w2)] [(.int (1 : Int32))])) _
    exact retN X77 hx (t := .boolean) Bd.returns (by simp) (hb hby d_prog_17_method_5_code_19) hr
  · show Qp (some (.int (1 : Int32))) h0 n0 _ T77.heap _
    rw [e77]
    exact ⟨rfl, N0, rfl⟩
theorem ef18 (m : MethodId) (i0 : Int32) (i1 : Int32) (i2 : Int32)   : entryFrame m #[(.int i0), (.int i1), (.int i2)] maxLocals = mkF m 0 #[.val (.int i0), .val (.int i1), .val (.int i2), .unset, .unset, .unset, .unset, .unset] [] := by first | (simp [entryFrame, mkF, argsToLocals, Value.category, maxLocals]; done) | rfl
set_option maxRecDepth 65536 in
set_option maxHeartbeats 40000000 in
theorem rm0 (l : Launch) (Z : State) (a0 : Array Value) (hw : ∀ d ∈ tables_1, d.before a0 Z = true) (ws : List Jvm.Cond) (w0 w1 w2 w3 w4 w5 : Addr) (i0 i1 i2 : Int32) (h0 : Heap) (n0 : Nat) (hWd : Wd Z w0 w1 w2 w3 w4 w5) (O0 : Old Z n0 h0) :
    MetFree l x (head1 (Jvm.Cond.code x code maxLocals ret :: ws) room_1) (fun a U => a = #[(.int i0), (.int i1), (.int i2)] ∧ Z.Warmed39 U.vm ∧ U.heap = h0) (fun _ _ _ _ _ => True) (fun _ U o U' => ∃ v L, o = .returned v ∧ Ql n0 v U'.heap L ∧ FrameEnd U o U' L room_1.cells room_1.slots) := by
  refine MetFree.of_bodySF (plainFor_of_name pn0) hisR ?_
  intro p e s m args below meth c s₁ Bd hml0 hP hK
  obtain ⟨rfl, hZ, hh⟩ := hP
  have hx := Bd.exec
  have hby := Bd.bytes
  have hml : c.maxLocals = 8 := hml0
  have hown : s.vm.findClass "com/example/libgate/libgate/OperatorIsEqualityPinLaw" = some m.cls := findClass_of_methodNamed Bd.named
  have hnm := (name_of_methodNamed Bd.named Bd.method).1
  have X0 : Stand p l e room_1 s m #[(.int i0), (.int i1), (.int i2)] below meth c s₁ [] 0 0 := Stand.of_body Bd
  have e0 : s₁.heap = h0 := by rw [← hh, Bd.state]; rfl
  have N0 := Fr.nil n0
  have hlk := Bd.notSynchronized
  obtain ⟨wS0, wE0, wS1, wE1, wS2, wE2, wS3, wE3, wS4, wE4, wS5, wE5, wF0_ordinal, wF1_ordinal, wF2_ordinal, wF3_ordinal, wF4_ordinal, wF5_ordinal, -⟩ := id hWd
  have pre0 : ∀ t, Steps p.tables e below (s₁.setTop (mkF m 0 #[.val (.int i0), .val (.int i1), .val (.int i2), .unset, .unset, .unset, .unset, .unset] [])) t → Steps p.tables e below (s₁.setTop (entryFrame m #[(.int i0), (.int i1), (.int i2)] maxLocals)) t := fun t k => castTop (ef18 m i0 i1 i2) k
  have pre1 : ∀ t, Steps p.tables e below (s₁.setTop (mkF m 6 #[.val (.int i0), .val (.int i1), .val (.int i2), .unset, .unset, .unset, .unset, .unset] [(.int (6 : Int32)), (.int (i0 &&& (2147483647 : Int32)))])) t → Steps p.tables e below (s₁.setTop (entryFrame m #[(.int i0), (.int i1), (.int i2)] maxLocals)) t := by
    intro t k
    refine pre0 _ ?_
    show Steps p.tables e below (s₁.setTop (mkF m 0 #[.val (.int i0), .val (.int i1), .val (.int i2), .unset, .unset, .unset, .unset, .unset] [])) _
    refine XS.iloadN X0.here hx rfl (hb hby at_0) rfl ?_
    show Steps p.tables e below (s₁.setTop (mkF m 1 #[.val (.int i0), .val (.int i1), .val (.int i2), .unset, .unset, .unset, .unset, .unset] [(.int i0)])) _
    refine X0.ldcInt hx hown (mvT hZ (hw _ (List.mem_of_getElem? (i := 0) rfl))) (g := (mkF m 1 #[.val (.int i0), .val (.int i1), .val (.int i2), .unset, .unset, .unset, .unset, .unset] [(.int i0)])) rfl (hb hby at_1) _ ?_
    show Steps p.tables e below (s₁.setTop (mkF m 3 #[.val (.int i0), .val (.int i1), .val (.int i2), .unset, .unset, .unset, .unset, .unset] [(.int (2147483647 : Int32)), (.int i0)])) _
    refine XS.iand X0.here hx rfl (hb hby at_3) rfl ?_
    show Steps p.tables e below (s₁.setTop (mkF m 4 #[.val (.int i0), .val (.int i1), .val (.int i2), .unset, .unset, .unset, .unset, .unset] [(.int (i0 &&& (2147483647 : Int32)))])) _
    refine XS.bipush X0.here hx rfl (hb hby at_4) ?_
    show Steps p.tables e below (s₁.setTop (mkF m 6 #[.val (.int i0), .val (.int i1), .val (.int i2), .unset, .unset, .unset, .unset, .unset] [(.int (6 : Int32)), (.int (i0 &&& (2147483647 : Int32)))])) _
    exact k
  rcases own_rem_6 i0 with hk2 | hk3 | hk4 | hk5 | hk6 | hk7
  · obtain ⟨_, _, ⟨T9, L9, k9, n9⟩, -, X9, ⟨Lc9, hQ9, l9, y9, z9⟩, st9⟩ := Jvm.LawKit.callS X0 hx (y := (⟨"com/example/libgate/libgate/OperatorIsEqualityPinLaw", "pickOp", "(I)Lcom/example/libgate/libgate/Condition$Operator;"⟩ : MethodName)) hown (mvT hZ (hw _ (List.mem_of_getElem? (i := 1) rfl))) (mvT hZ (hw _ (List.mem_of_getElem? (i := 2) rfl))) (mvT hZ (hw _ (List.mem_of_getElem? (i := 3) rfl))) (mvT hZ (hw _ (List.mem_of_getElem? (i := 4) rfl))) (by decide) (backOf (W := 0) (rm1 l Z a0 hw [] w0 w1 w2 w3 w4 w5 h0 n0 hWd O0) hZ (hw _ (List.mem_of_getElem? (i := 4) rfl)) (hw _ (List.mem_of_getElem? (i := 3) rfl)) (by decide) (by decide)) (g := (mkF m 9 #[.val (.int i0), .val (.int i1), .val (.int i2), .val (.int (0 : Int32)), .unset, .unset, .unset, .unset] [(.int (0 : Int32))])) rfl (by rw [hml]; rfl) (argsL := [(.int (0 : Int32))]) (rest := []) (lenOf pd0 rfl) rfl (by show 2 * 0 + _ ≤ _; exact Nat.le_of_eq rfl) (hb hby at_9) (fun _ _ => ⟨rfl, e0, (by decide : 0 + 0 ≤ _), (by decide : 0 + 0 ≤ _)⟩)
    dsimp only [Pt.U, Pt.locs, Pt.cells, Pt.slots] at X9 l9 y9 z9 st9 hQ9
    subst l9 y9 z9
    obtain ⟨rfl, N9q, e9⟩ := hQ9
    have N9 := Fr.app N0 N9q
    obtain ⟨ha10, hb10, hc10⟩ := own_below i1
    obtain ⟨ha11, hb11, hc11⟩ := own_above i2
    obtain ⟨cq14, kq14, q14a, q14b, q14c⟩ := isOf hZ e9 (wE0.ext O0.2)
    obtain ⟨_, _, ⟨T14, L14, k14, n14⟩, -, X14, ⟨Lc14, hQ14, l14, y14, z14⟩, st14⟩ := X9.virtualBack hx (y := (⟨"com/example/libgate/libgate/Condition$Operator", "holds", "(I)Z"⟩ : MethodName)) (z := (⟨"com/example/libgate/libgate/Condition$Operator", "holds", "(I)Z"⟩ : MethodName)) hown (mvT hZ (hw _ (List.mem_of_getElem? (i := 9) rfl))) (mvT hZ (hw _ (List.mem_of_getElem? (i := 10) rfl))) (notFace_of_selects (args := #[]) (mvT hZ (hw _ (List.mem_of_getElem? (i := 12) rfl)))) (mvT hZ (hw _ (List.mem_of_getElem? (i := 12) rfl))) (mvT hZ (hw _ (List.mem_of_getElem? (i := 11) rfl))) (by decide) (backOf (W := 0) (rm2 l Z a0 hw [] w0 w1 w2 w3 w4 w5 ((-1 : Int32) - (i1 &&& (1073741823 : Int32))) h0 n0 hWd O0 ha10 hb10 hc10) hZ (hw _ (List.mem_of_getElem? (i := 13) rfl)) (hw _ (List.mem_of_getElem? (i := 6) rfl)) (by decide) (by decide)) q14a q14c (g := (mkF m 34 #[.val (.int i0), .val (.int i1), .val (.int i2), .val (.int (0 : Int32)), .val (.ref w0), .val (.int ((-1 : Int32) - (i1 &&& (1073741823 : Int32)))), .val (.int ((1 : Int32) + (i2 &&& (1073741823 : Int32)))), .unset] [(.int ((-1 : Int32) - (i1 &&& (1073741823 : Int32)))), (.ref w0)])) rfl (by rw [hml]; rfl) (Steps.refl _) (argsL := [(.int ((-1 : Int32) - (i1 &&& (1073741823 : Int32))))]) (rest := []) (lenOf pd2 rfl) rfl (by show 2 * 0 + _ ≤ _; exact Nat.le_of_eq rfl) (hb hby at_34) (fun _ _ => ⟨rfl, e9, (by decide : 0 + 0 ≤ _), (by decide : 0 + 0 ≤ _)⟩)
    dsimp only [Pt.U, Pt.locs, Pt.cells, Pt.slots] at X14 l14 y14 z14 st14 hQ14
    subst l14 y14 z14
    obtain ⟨rfl, N14q, e14⟩ := hQ14
    have N14 := Fr.app N9 N14q
    obtain ⟨cq16, kq16, q16a, q16b, q16c⟩ := isOf hZ e14 (wE0.ext O0.2)
    obtain ⟨_, _, ⟨T16, L16, k16, n16⟩, -, X16, ⟨Lc16, hQ16, l16, y16, z16⟩, st16⟩ := X14.virtualBack hx (y := (⟨"com/example/libgate/libgate/Condition$Operator", "holds", "(I)Z"⟩ : MethodName)) (z := (⟨"com/example/libgate/libgate/Condition$Operator", "holds", "(I)Z"⟩ : MethodName)) hown (mvT hZ (hw _ (List.mem_of_getElem? (i := 9) rfl))) (mvT hZ (hw _ (List.mem_of_getElem? (i := 10) rfl))) (notFace_of_selects (args := #[]) (mvT hZ (hw _ (List.mem_of_getElem? (i := 12) rfl)))) (mvT hZ (hw _ (List.mem_of_getElem? (i := 12) rfl))) (mvT hZ (hw _ (List.mem_of_getElem? (i := 11) rfl))) (by decide) (backOf (W := 1) (rm4 l Z a0 hw [] w0 w1 w2 w3 w4 w5 ((1 : Int32) + (i2 &&& (1073741823 : Int32))) h0 n0 hWd O0 ha11 hb11 hc11) hZ (hw _ (List.mem_of_getElem? (i := 13) rfl)) (hw _ (List.mem_of_getElem? (i := 6) rfl)) (by decide) (by decide)) q16a q16c (g := (mkF m 41 #[.val (.int i0), .val (.int i1), .val (.int i2), .val (.int (0 : Int32)), .val (.ref w0), .val (.int ((-1 : Int32) - (i1 &&& (1073741823 : Int32)))), .val (.int ((1 : Int32) + (i2 &&& (1073741823 : Int32)))), .unset] [(.int ((1 : Int32) + (i2 &&& (1073741823 : Int32)))), (.ref w0), (.int (1 : Int32))])) rfl (by rw [hml]; rfl) (Steps.refl _) (argsL := [(.int ((1 : Int32) + (i2 &&& (1073741823 : Int32))))]) (rest := [(.int (1 : Int32))]) (lenOf pd2 rfl) rfl (by show 2 * 0 + _ ≤ _; exact Nat.le_of_eq rfl) (hb hby at_41) (fun _ _ => ⟨rfl, e14, (by decide : 0 + 0 ≤ _), (by decide : 0 + 0 ≤ _)⟩)
    dsimp only [Pt.U, Pt.locs, Pt.cells, Pt.slots] at X16 l16 y16 z16 st16 hQ16
    subst l16 y16 z16
    obtain ⟨rfl, N16q, e16⟩ := hQ16
    have N16 := Fr.app N14 N16q
    obtain ⟨cq19, kq19, q19a, q19b, q19c⟩ := isOf hZ e16 (wE0.ext O0.2)
    obtain ⟨_, _, ⟨T19, L19, k19, n19⟩, -, X19, ⟨Lc19, hQ19, l19, y19, z19⟩, st19⟩ := X16.virtualBack hx (y := (⟨"com/example/libgate/libgate/Condition$Operator", "isEquality", "()Z"⟩ : MethodName)) (z := (⟨"com/example/libgate/libgate/Condition$Operator", "isEquality", "()Z"⟩ : MethodName)) hown (mvT hZ (hw _ (List.mem_of_getElem? (i := 23) rfl))) (mvT hZ (hw _ (List.mem_of_getElem? (i := 24) rfl))) (notFace_of_selects (args := #[]) (mvT hZ (hw _ (List.mem_of_getElem? (i := 26) rfl)))) (mvT hZ (hw _ (List.mem_of_getElem? (i := 26) rfl))) (mvT hZ (hw _ (List.mem_of_getElem? (i := 25) rfl))) (by decide) (backOf (W := 0) (rm5 l Z a0 hw [] w0 w1 w2 w3 w4 w5 h0 n0 hWd O0) hZ (hw _ (List.mem_of_getElem? (i := 27) rfl)) (hw _ (List.mem_of_getElem? (i := 6) rfl)) (by decide) (by decide)) q19a q19c (g := (mkF m 56 #[.val (.int i0), .val (.int i1), .val (.int i2), .val (.int (0 : Int32)), .val (.ref w0), .val (.int ((-1 : Int32) - (i1 &&& (1073741823 : Int32)))), .val (.int ((1 : Int32) + (i2 &&& (1073741823 : Int32)))), .val (.int (0 : Int32))] [(.ref w0)])) rfl (by rw [hml]; rfl) (Steps.refl _) (argsL := []) (rest := []) (lenOf pd3 rfl) rfl (by show 2 * 0 + _ ≤ _; exact Nat.le_of_eq rfl) (hb hby at_56) (fun _ _ => ⟨rfl, e16, (by decide : 0 + 0 ≤ _), (by decide : 0 + 0 ≤ _)⟩)
    dsimp only [Pt.U, Pt.locs, Pt.cells, Pt.slots] at X19 l19 y19 z19 st19 hQ19
    subst l19 y19 z19
    obtain ⟨rfl, N19q, e19⟩ := hQ19
    have N19 := Fr.app N16 N19q
    obtain ⟨fs, hr, hrun, hended, hWr, hsame⟩ := X19.leave (v := some (.int (1 : Int32))) (fun h => by rw [Bd.returns] at h; cases h) hlk
    refine ⟨_, _, pre1 _ ?_, hrun, hended, _, _, rfl, ?_, ⟨_, rfl⟩, hWr, hsame.mono (Nat.le_of_ble_eq_true rfl) (Nat.le_of_ble_eq_true rfl)⟩
    · show Steps p.tables e below (s₁.setTop (mkF m 6 #[.val (.int i0), .val (.int i1), .val (.int i2), .unset, .unset, .unset, .unset, .unset] [(.int (6 : Int32)), (.int (i0 &&& (2147483647 : Int32)))])) _
      refine iremM X0 hx rfl (hb hby at_6) rfl (by decide) ?_
      show Steps p.tables e below (s₁.setTop (mkF m 7 #[.val (.int i0), .val (.int i1), .val (.int i2), .unset, .unset, .unset, .unset, .unset] [(.int ((i0 &&& (2147483647 : Int32)) % (6 : Int32)))])) _
      rw [hk2]
      show Steps p.tables e below (s₁.setTop (mkF m 7 #[.val (.int i0), .val (.int i1), .val (.int i2), .unset, .unset, .unset, .unset, .unset] [(.int (0 : Int32))])) _
      refine XS.istoreN X0.here hx rfl (hb hby at_7) rfl (l' := #[.val (.int i0), .val (.int i1), .val (.int i2), .val (.int (0 : Int32)), .unset, .unset, .unset, .unset]) rfl ?_
      show Steps p.tables e below (s₁.setTop (mkF m 8 #[.val (.int i0), .val (.int i1), .val (.int i2), .val (.int (0 : Int32)), .unset, .unset, .unset, .unset] [])) _
      refine XS.iloadN X0.here hx rfl (hb hby at_8) rfl ?_
      show Steps p.tables e below (s₁.setTop (mkF m 9 #[.val (.int i0), .val (.int i1), .val (.int i2), .val (.int (0 : Int32)), .unset, .unset, .unset, .unset] [(.int (0 : Int32))])) _
      refine st9 _ ?_
      show Steps p.tables e below (T9.setTop (mkF m 12 #[.val (.int i0), .val (.int i1), .val (.int i2), .val (.int (0 : Int32)), .unset, .unset, .unset, .unset] [(.ref w0)])) _
      refine XS.astore X9.here hx rfl (hb hby at_12) rfl rfl (l' := #[.val (.int i0), .val (.int i1), .val (.int i2), .val (.int (0 : Int32)), .val (.ref w0), .unset, .unset, .unset]) rfl ?_
      show Steps p.tables e below (T9.setTop (mkF m 14 #[.val (.int i0), .val (.int i1), .val (.int i2), .val (.int (0 : Int32)), .val (.ref w0), .unset, .unset, .unset] [])) _
      refine XS.iconst X9.here hx rfl (hb hby at_14) ?_
      show Steps p.tables e below (T9.setTop (mkF m 15 #[.val (.int i0), .val (.int i1), .val (.int i2), .val (.int (0 : Int32)), .val (.ref w0), .unset, .unset, .unset] [(.int (-1 : Int32))])) _
      refine XS.iloadN X9.here hx rfl (hb hby at_15) rfl ?_
      show Steps p.tables e below (T9.setTop (mkF m 16 #[.val (.int i0), .val (.int i1), .val (.int i2), .val (.int (0 : Int32)), .val (.ref w0), .unset, .unset, .unset] [(.int i1), (.int (-1 : Int32))])) _
      refine X9.ldcInt hx hown (mvT hZ (hw _ (List.mem_of_getElem? (i := 8) rfl))) (g := (mkF m 16 #[.val (.int i0), .val (.int i1), .val (.int i2), .val (.int (0 : Int32)), .val (.ref w0), .unset, .unset, .unset] [(.int i1), (.int (-1 : Int32))])) rfl (hb hby at_16) _ ?_
      show Steps p.tables e below (T9.setTop (mkF m 18 #[.val (.int i0), .val (.int i1), .val (.int i2), .val (.int (0 : Int32)), .val (.ref w0), .unset, .unset, .unset] [(.int (1073741823 : Int32)), (.int i1), (.int (-1 : Int32))])) _
      refine XS.iand X9.here hx rfl (hb hby at_18) rfl ?_
      show Steps p.tables e below (T9.setTop (mkF m 19 #[.val (.int i0), .val (.int i1), .val (.int i2), .val (.int (0 : Int32)), .val (.ref w0), .unset, .unset, .unset] [(.int (i1 &&& (1073741823 : Int32))), (.int (-1 : Int32))])) _
      refine XS.isub X9.here hx rfl (hb hby at_19) rfl ?_
      show Steps p.tables e below (T9.setTop (mkF m 20 #[.val (.int i0), .val (.int i1), .val (.int i2), .val (.int (0 : Int32)), .val (.ref w0), .unset, .unset, .unset] [(.int ((-1 : Int32) - (i1 &&& (1073741823 : Int32))))])) _
      refine XS.istore X9.here hx rfl (hb hby at_20) rfl (l' := #[.val (.int i0), .val (.int i1), .val (.int i2), .val (.int (0 : Int32)), .val (.ref w0), .val (.int ((-1 : Int32) - (i1 &&& (1073741823 : Int32)))), .unset, .unset]) rfl ?_
      show Steps p.tables e below (T9.setTop (mkF m 22 #[.val (.int i0), .val (.int i1), .val (.int i2), .val (.int (0 : Int32)), .val (.ref w0), .val (.int ((-1 : Int32) - (i1 &&& (1073741823 : Int32)))), .unset, .unset] [])) _
      refine XS.iconst X9.here hx rfl (hb hby at_22) ?_
      show Steps p.tables e below (T9.setTop (mkF m 23 #[.val (.int i0), .val (.int i1), .val (.int i2), .val (.int (0 : Int32)), .val (.ref w0), .val (.int ((-1 : Int32) - (i1 &&& (1073741823 : Int32)))), .unset, .unset] [(.int (1 : Int32))])) _
      refine XS.iloadN X9.here hx rfl (hb hby at_23) rfl ?_
      show Steps p.tables e below (T9.setTop (mkF m 24 #[.val (.int i0), .val (.int i1), .val (.int i2), .val (.int (0 : Int32)), .val (.ref w0), .val (.int ((-1 : Int32) - (i1 &&& (1073741823 : Int32)))), .unset, .unset] [(.int i2), (.int (1 : Int32))])) _
      refine X9.ldcInt hx hown (mvT hZ (hw _ (List.mem_of_getElem? (i := 8) rfl))) (g := (mkF m 24 #[.val (.int i0), .val (.int i1), .val (.int i2), .val (.int (0 : Int32)), .val (.ref w0), .val (.int ((-1 : Int32) - (i1 &&& (1073741823 : Int32)))), .unset, .unset] [(.int i2), (.int (1 : Int32))])) rfl (hb hby at_24) _ ?_
      show Steps p.tables e below (T9.setTop (mkF m 26 #[.val (.int i0), .val (.int i1), .val (.int i2), .val (.int (0 : Int32)), .val (.ref w0), .val (.int ((-1 : Int32) - (i1 &&& (1073741823 : Int32)))), .unset, .unset] [(.int (1073741823 : Int32)), (.int i2), (.int (1 : Int32))])) _
      refine XS.iand X9.here hx rfl (hb hby at_26) rfl ?_
      show Steps p.tables e below (T9.setTop (mkF m 27 #[.val (.int i0), .val (.int i1), .val (.int i2), .val (.int (0 : Int32)), .val (.ref w0), .val (.int ((-1 : Int32) - (i1 &&& (1073741823 : Int32)))), .unset, .unset] [(.int (i2 &&& (1073741823 : Int32))), (.int (1 : Int32))])) _
      refine XS.iadd X9.here hx rfl (hb hby at_27) rfl ?_
      show Steps p.tables e below (T9.setTop (mkF m 28 #[.val (.int i0), .val (.int i1), .val (.int i2), .val (.int (0 : Int32)), .val (.ref w0), .val (.int ((-1 : Int32) - (i1 &&& (1073741823 : Int32)))), .unset, .unset] [(.int ((1 : Int32) + (i2 &&& (1073741823 : Int32))))])) _
      refine XS.istore X9.here hx rfl (hb hby at_28) rfl (l' := #[.val (.int i0), .val (.int i1), .val (.int i2), .val (.int (0 : Int32)), .val (.ref w0), .val (.int ((-1 : Int32) - (i1 &&& (1073741823 : Int32)))), .val (.int ((1 : Int32) + (i2 &&& (1073741823 : Int32)))), .unset]) rfl ?_
      show Steps p.tables e below (T9.setTop (mkF m 30 #[.val (.int i0), .val (.int i1), .val (.int i2), .val (.int (0 : Int32)), .val (.ref w0), .val (.int ((-1 : Int32) - (i1 &&& (1073741823 : Int32)))), .val (.int ((1 : Int32) + (i2 &&& (1073741823 : Int32)))), .unset] [])) _
      refine XS.aload X9.here hx rfl (hb hby at_30) rfl rfl ?_
      show Steps p.tables e below (T9.setTop (mkF m 32 #[.val (.int i0), .val (.int i1), .val (.int i2), .val (.int (0 : Int32)), .val (.ref w0), .val (.int ((-1 : Int32) - (i1 &&& (1073741823 : Int32)))), .val (.int ((1 : Int32) + (i2 &&& (1073741823 : Int32)))), .unset] [(.ref w0)])) _
      refine XS.iload X9.here hx rfl (hb hby at_32) rfl ?_
      show Steps p.tables e below (T9.setTop (mkF m 34 #[.val (.int i0), .val (.int i1), .val (.int i2), .val (.int (0 : Int32)), .val (.ref w0), .val (.int ((-1 : Int32) - (i1 &&& (1073741823 : Int32)))), .val (.int ((1 : Int32) + (i2 &&& (1073741823 : Int32)))), .unset] [(.int ((-1 : Int32) - (i1 &&& (1073741823 : Int32)))), (.ref w0)])) _
      refine st14.trans ?_
      show Steps p.tables e below (T14.setTop (mkF m 37 #[.val (.int i0), .val (.int i1), .val (.int i2), .val (.int (0 : Int32)), .val (.ref w0), .val (.int ((-1 : Int32) - (i1 &&& (1073741823 : Int32)))), .val (.int ((1 : Int32) + (i2 &&& (1073741823 : Int32)))), .unset] [(.int (1 : Int32))])) _
      refine XS.aload X14.here hx rfl (hb hby at_37) rfl rfl ?_
      show Steps p.tables e below (T14.setTop (mkF m 39 #[.val (.int i0), .val (.int i1), .val (.int i2), .val (.int (0 : Int32)), .val (.ref w0), .val (.int ((-1 : Int32) - (i1 &&& (1073741823 : Int32)))), .val (.int ((1 : Int32) + (i2 &&& (1073741823 : Int32)))), .unset] [(.ref w0), (.int (1 : Int32))])) _
      refine XS.iload X14.here hx rfl (hb hby at_39) rfl ?_
      show Steps p.tables e below (T14.setTop (mkF m 41 #[.val (.int i0), .val (.int i1), .val (.int i2), .val (.int (0 : Int32)), .val (.ref w0), .val (.int ((-1 : Int32) - (i1 &&& (1073741823 : Int32)))), .val (.int ((1 : Int32) + (i2 &&& (1073741823 : Int32)))), .unset] [(.int ((1 : Int32) + (i2 &&& (1073741823 : Int32)))), (.ref w0), (.int (1 : Int32))])) _
      refine st16.trans ?_
      show Steps p.tables e below (T16.setTop (mkF m 44 #[.val (.int i0), .val (.int i1), .val (.int i2), .val (.int (0 : Int32)), .val (.ref w0), .val (.int ((-1 : Int32) - (i1 &&& (1073741823 : Int32)))), .val (.int ((1 : Int32) + (i2 &&& (1073741823 : Int32)))), .unset] [(.int (0 : Int32)), (.int (1 : Int32))])) _
      refine XS.icmpYes X16.here hx rfl (pc0 := 44) (pc' := 51) rfl (hb hby at_44) rfl (by decide) (by decide) (by decide) ?_
      show Steps p.tables e below (T16.setTop (mkF m 51 #[.val (.int i0), .val (.int i1), .val (.int i2), .val (.int (0 : Int32)), .val (.ref w0), .val (.int ((-1 : Int32) - (i1 &&& (1073741823 : Int32)))), .val (.int ((1 : Int32) + (i2 &&& (1073741823 : Int32)))), .unset] [])) _
      refine XS.iconst X16.here hx rfl (hb hby at_51) ?_
      show Steps p.tables e below (T16.setTop (mkF m 52 #[.val (.int i0), .val (.int i1), .val (.int i2), .val (.int (0 : Int32)), .val (.ref w0), .val (.int ((-1 : Int32) - (i1 &&& (1073741823 : Int32)))), .val (.int ((1 : Int32) + (i2 &&& (1073741823 : Int32)))), .unset] [(.int (0 : Int32))])) _
      refine XS.istore X16.here hx rfl (hb hby at_52) rfl (l' := #[.val (.int i0), .val (.int i1), .val (.int i2), .val (.int (0 : Int32)), .val (.ref w0), .val (.int ((-1 : Int32) - (i1 &&& (1073741823 : Int32)))), .val (.int ((1 : Int32) + (i2 &&& (1073741823 : Int32)))), .val (.int (0 : Int32))]) rfl ?_
      show Steps p.tables e below (T16.setTop (mkF m 54 #[.val (.int i0), .val (.int i1), .val (.int i2), .val (.int (0 : Int32)), .val (.ref w0), .val (.int ((-1 : Int32) - (i1 &&& (1073741823 : Int32)))), .val (.int ((1 : Int32) + (i2 &&& (1073741823 : Int32)))), .val (.int (0 : Int32))] [])) _
      refine XS.aload X16.here hx rfl (hb hby at_54) rfl rfl ?_
      show Steps p.tables e below (T16.setTop (mkF m 56 #[.val (.int i0), .val (.int i1), .val (.int i2), .val (.int (0 : Int32)), .val (.ref w0), .val (.int ((-1 : Int32) - (i1 &&& (1073741823 : Int32)))), .val (.int ((1 : Int32) + (i2 &&& (1073741823 : Int32)))), .val (.int (0 : Int32))] [(.ref w0)])) _
      refine st19.trans ?_
      show Steps p.tables e below (T19.setTop (mkF m 59 #[.val (.int i0), .val (.int i1), .val (.int i2), .val (.int (0 : Int32)), .val (.ref w0), .val (.int ((-1 : Int32) - (i1 &&& (1073741823 : Int32)))), .val (.int ((1 : Int32) + (i2 &&& (1073741823 : Int32)))), .val (.int (0 : Int32))] [(.int (0 : Int32))])) _
      refine XS.iload X19.here hx rfl (hb hby at_59) rfl ?_
      show Steps p.tables e below (T19.setTop (mkF m 61 #[.val (.int i0), .val (.int i1), .val (.int i2), .val (.int (0 : Int32)), .val (.ref w0), .val (.int ((-1 : Int32) - (i1 &&& (1073741823 : Int32)))), .val (.int ((1 : Int32) + (i2 &&& (1073741823 : Int32)))), .val (.int (0 : Int32))] [(.int (0 : Int32)), (.int (0 : Int32))])) _
      refine XS.icmpNo X19.here hx rfl (hb hby at_61) rfl (by decide) ?_
      show Steps p.tables e below (T19.setTop (mkF m 64 #[.val (.int i0), .val (.int i1), .val (.int i2), .val (.int (0 : Int32)), .val (.ref w0), .val (.int ((-1 : Int32) - (i1 &&& (1073741823 : Int32)))), .val (.int ((1 : Int32) + (i2 &&& (1073741823 : Int32)))), .val (.int (0 : Int32))] [])) _
      refine XS.iconst X19.here hx rfl (hb hby at_64) ?_
      show Steps p.tables e below (T19.setTop (mkF m 65 #[.val (.int i0), .val (.int i1), .val (.int i2), .val (.int (0 : Int32)), .val (.ref w0), .val (.int ((-1 : Int32) - (i1 &&& (1073741823 : Int32)))), .val (.int ((1 : Int32) + (i2 &&& (1073741823 : Int32)))), .val (.int (0 : Int32))] [(.int (1 : Int32))])) _
      refine XS.goto X19.here hx rfl (pc0 := 65) (pc' := 69) rfl (hb hby at_65) (by decide) (by decide) ?_
      show Steps p.tables e below (T19.setTop (mkF m 69 #[.val (.int i0), .val (.int i1), .val (.int i2), .val (.int (0 : Int32)), .val (.ref w0), .val (.int ((-1 : Int32) - (i1 &&& (1073741823 : Int32)))), .val (.int ((1 : Int32) + (i2 &&& (1073741823 : Int32)))), .val (.int (0 : Int32))] [(.int (1 : Int32))])) _
      exact retN X19 hx (t := .boolean) Bd.returns (by simp) (hb hby at_69) hr
    · show Ql n0 _ T19.heap _
      exact ⟨rfl, N19⟩
  · obtain ⟨_, _, ⟨T21, L21, k21, n21⟩, -, X21, ⟨Lc21, hQ21, l21, y21, z21⟩, st21⟩ := Jvm.LawKit.callS X0 hx (y := (⟨"com/example/libgate/libgate/OperatorIsEqualityPinLaw", "pickOp", "(I)Lcom/example/libgate/libgate/Condition$Operator;"⟩ : MethodName)) hown (mvT hZ (hw _ (List.mem_of_getElem? (i := 1) rfl))) (mvT hZ (hw _ (List.mem_of_getElem? (i := 2) rfl))) (mvT hZ (hw _ (List.mem_of_getElem? (i := 3) rfl))) (mvT hZ (hw _ (List.mem_of_getElem? (i := 4) rfl))) (by decide) (backOf (W := 0) (rm6 l Z a0 hw [] w0 w1 w2 w3 w4 w5 h0 n0 hWd O0) hZ (hw _ (List.mem_of_getElem? (i := 4) rfl)) (hw _ (List.mem_of_getElem? (i := 3) rfl)) (by decide) (by decide)) (g := (mkF m 9 #[.val (.int i0), .val (.int i1), .val (.int i2), .val (.int (1 : Int32)), .unset, .unset, .unset, .unset] [(.int (1 : Int32))])) rfl (by rw [hml]; rfl) (argsL := [(.int (1 : Int32))]) (rest := []) (lenOf pd0 rfl) rfl (by show 2 * 0 + _ ≤ _; exact Nat.le_of_eq rfl) (hb hby at_9) (fun _ _ => ⟨rfl, e0, (by decide : 0 + 0 ≤ _), (by decide : 0 + 0 ≤ _)⟩)
    dsimp only [Pt.U, Pt.locs, Pt.cells, Pt.slots] at X21 l21 y21 z21 st21 hQ21
    subst l21 y21 z21
    obtain ⟨rfl, N21q, e21⟩ := hQ21
    have N21 := Fr.app N0 N21q
    obtain ⟨ha22, hb22, hc22⟩ := own_below i1
    obtain ⟨ha23, hb23, hc23⟩ := own_above i2
    obtain ⟨cq26, kq26, q26a, q26b, q26c⟩ := isOf hZ e21 (wE3.ext O0.2)
    obtain ⟨_, _, ⟨T26, L26, k26, n26⟩, -, X26, ⟨Lc26, hQ26, l26, y26, z26⟩, st26⟩ := X21.virtualBack hx (y := (⟨"com/example/libgate/libgate/Condition$Operator", "holds", "(I)Z"⟩ : MethodName)) (z := (⟨"com/example/libgate/libgate/Condition$Operator", "holds", "(I)Z"⟩ : MethodName)) hown (mvT hZ (hw _ (List.mem_of_getElem? (i := 9) rfl))) (mvT hZ (hw _ (List.mem_of_getElem? (i := 10) rfl))) (notFace_of_selects (args := #[]) (mvT hZ (hw _ (List.mem_of_getElem? (i := 12) rfl)))) (mvT hZ (hw _ (List.mem_of_getElem? (i := 12) rfl))) (mvT hZ (hw _ (List.mem_of_getElem? (i := 11) rfl))) (by decide) (backOf (W := 0) (rm7 l Z a0 hw [] w0 w1 w2 w3 w4 w5 ((-1 : Int32) - (i1 &&& (1073741823 : Int32))) h0 n0 hWd O0 ha22 hb22 hc22) hZ (hw _ (List.mem_of_getElem? (i := 13) rfl)) (hw _ (List.mem_of_getElem? (i := 6) rfl)) (by decide) (by decide)) q26a q26c (g := (mkF m 34 #[.val (.int i0), .val (.int i1), .val (.int i2), .val (.int (1 : Int32)), .val (.ref w3), .val (.int ((-1 : Int32) - (i1 &&& (1073741823 : Int32)))), .val (.int ((1 : Int32) + (i2 &&& (1073741823 : Int32)))), .unset] [(.int ((-1 : Int32) - (i1 &&& (1073741823 : Int32)))), (.ref w3)])) rfl (by rw [hml]; rfl) (Steps.refl _) (argsL := [(.int ((-1 : Int32) - (i1 &&& (1073741823 : Int32))))]) (rest := []) (lenOf pd2 rfl) rfl (by show 2 * 0 + _ ≤ _; exact Nat.le_of_eq rfl) (hb hby at_34) (fun _ _ => ⟨rfl, e21, (by decide : 0 + 0 ≤ _), (by decide : 0 + 0 ≤ _)⟩)
    dsimp only [Pt.U, Pt.locs, Pt.cells, Pt.slots] at X26 l26 y26 z26 st26 hQ26
    subst l26 y26 z26
    obtain ⟨rfl, N26q, e26⟩ := hQ26
    have N26 := Fr.app N21 N26q
    obtain ⟨cq28, kq28, q28a, q28b, q28c⟩ := isOf hZ e26 (wE3.ext O0.2)
    obtain ⟨_, _, ⟨T28, L28, k28, n28⟩, -, X28, ⟨Lc28, hQ28, l28, y28, z28⟩, st28⟩ := X26.virtualBack hx (y := (⟨"com/example/libgate/libgate/Condition$Operator", "holds", "(I)Z"⟩ : MethodName)) (z := (⟨"com/example/libgate/libgate/Condition$Operator", "holds", "(I)Z"⟩ : MethodName)) hown (mvT hZ (hw _ (List.mem_of_getElem? (i := 9) rfl))) (mvT hZ (hw _ (List.mem_of_getElem? (i := 10) rfl))) (notFace_of_selects (args := #[]) (mvT hZ (hw _ (List.mem_of_getElem? (i := 12) rfl)))) (mvT hZ (hw _ (List.mem_of_getElem? (i := 12) rfl))) (mvT hZ (hw _ (List.mem_of_getElem? (i := 11) rfl))) (by decide) (backOf (W := 1) (rm9 l Z a0 hw [] w0 w1 w2 w3 w4 w5 ((1 : Int32) + (i2 &&& (1073741823 : Int32))) h0 n0 hWd O0 ha23 hb23 hc23) hZ (hw _ (List.mem_of_getElem? (i := 13) rfl)) (hw _ (List.mem_of_getElem? (i := 6) rfl)) (by decide) (by decide)) q28a q28c (g := (mkF m 41 #[.val (.int i0), .val (.int i1), .val (.int i2), .val (.int (1 : Int32)), .val (.ref w3), .val (.int ((-1 : Int32) - (i1 &&& (1073741823 : Int32)))), .val (.int ((1 : Int32) + (i2 &&& (1073741823 : Int32)))), .unset] [(.int ((1 : Int32) + (i2 &&& (1073741823 : Int32)))), (.ref w3), (.int (1 : Int32))])) rfl (by rw [hml]; rfl) (Steps.refl _) (argsL := [(.int ((1 : Int32) + (i2 &&& (1073741823 : Int32))))]) (rest := [(.int (1 : Int32))]) (lenOf pd2 rfl) rfl (by show 2 * 0 + _ ≤ _; exact Nat.le_of_eq rfl) (hb hby at_41) (fun _ _ => ⟨rfl, e26, (by decide : 0 + 0 ≤ _), (by decide : 0 + 0 ≤ _)⟩)
    dsimp only [Pt.U, Pt.locs, Pt.cells, Pt.slots] at X28 l28 y28 z28 st28 hQ28
    subst l28 y28 z28
    obtain ⟨rfl, N28q, e28⟩ := hQ28
    have N28 := Fr.app N26 N28q
    obtain ⟨cq31, kq31, q31a, q31b, q31c⟩ := isOf hZ e28 (wE3.ext O0.2)
    obtain ⟨_, _, ⟨T31, L31, k31, n31⟩, -, X31, ⟨Lc31, hQ31, l31, y31, z31⟩, st31⟩ := X28.virtualBack hx (y := (⟨"com/example/libgate/libgate/Condition$Operator", "isEquality", "()Z"⟩ : MethodName)) (z := (⟨"com/example/libgate/libgate/Condition$Operator", "isEquality", "()Z"⟩ : MethodName)) hown (mvT hZ (hw _ (List.mem_of_getElem? (i := 23) rfl))) (mvT hZ (hw _ (List.mem_of_getElem? (i := 24) rfl))) (notFace_of_selects (args := #[]) (mvT hZ (hw _ (List.mem_of_getElem? (i := 26) rfl)))) (mvT hZ (hw _ (List.mem_of_getElem? (i := 26) rfl))) (mvT hZ (hw _ (List.mem_of_getElem? (i := 25) rfl))) (by decide) (backOf (W := 0) (rm10 l Z a0 hw [] w0 w1 w2 w3 w4 w5 h0 n0 hWd O0) hZ (hw _ (List.mem_of_getElem? (i := 27) rfl)) (hw _ (List.mem_of_getElem? (i := 6) rfl)) (by decide) (by decide)) q31a q31c (g := (mkF m 56 #[.val (.int i0), .val (.int i1), .val (.int i2), .val (.int (1 : Int32)), .val (.ref w3), .val (.int ((-1 : Int32) - (i1 &&& (1073741823 : Int32)))), .val (.int ((1 : Int32) + (i2 &&& (1073741823 : Int32)))), .val (.int (0 : Int32))] [(.ref w3)])) rfl (by rw [hml]; rfl) (Steps.refl _) (argsL := []) (rest := []) (lenOf pd3 rfl) rfl (by show 2 * 0 + _ ≤ _; exact Nat.le_of_eq rfl) (hb hby at_56) (fun _ _ => ⟨rfl, e28, (by decide : 0 + 0 ≤ _), (by decide : 0 + 0 ≤ _)⟩)
    dsimp only [Pt.U, Pt.locs, Pt.cells, Pt.slots] at X31 l31 y31 z31 st31 hQ31
    subst l31 y31 z31
    obtain ⟨rfl, N31q, e31⟩ := hQ31
    have N31 := Fr.app N28 N31q
    obtain ⟨fs, hr, hrun, hended, hWr, hsame⟩ := X31.leave (v := some (.int (1 : Int32))) (fun h => by rw [Bd.returns] at h; cases h) hlk
    refine ⟨_, _, pre1 _ ?_, hrun, hended, _, _, rfl, ?_, ⟨_, rfl⟩, hWr, hsame.mono (Nat.le_of_ble_eq_true rfl) (Nat.le_of_ble_eq_true rfl)⟩
    · show Steps p.tables e below (s₁.setTop (mkF m 6 #[.val (.int i0), .val (.int i1), .val (.int i2), .unset, .unset, .unset, .unset, .unset] [(.int (6 : Int32)), (.int (i0 &&& (2147483647 : Int32)))])) _
      refine iremM X0 hx rfl (hb hby at_6) rfl (by decide) ?_
      show Steps p.tables e below (s₁.setTop (mkF m 7 #[.val (.int i0), .val (.int i1), .val (.int i2), .unset, .unset, .unset, .unset, .unset] [(.int ((i0 &&& (2147483647 : Int32)) % (6 : Int32)))])) _
      rw [hk3]
      show Steps p.tables e below (s₁.setTop (mkF m 7 #[.val (.int i0), .val (.int i1), .val (.int i2), .unset, .unset, .unset, .unset, .unset] [(.int (1 : Int32))])) _
      refine XS.istoreN X0.here hx rfl (hb hby at_7) rfl (l' := #[.val (.int i0), .val (.int i1), .val (.int i2), .val (.int (1 : Int32)), .unset, .unset, .unset, .unset]) rfl ?_
      show Steps p.tables e below (s₁.setTop (mkF m 8 #[.val (.int i0), .val (.int i1), .val (.int i2), .val (.int (1 : Int32)), .unset, .unset, .unset, .unset] [])) _
      refine XS.iloadN X0.here hx rfl (hb hby at_8) rfl ?_
      show Steps p.tables e below (s₁.setTop (mkF m 9 #[.val (.int i0), .val (.int i1), .val (.int i2), .val (.int (1 : Int32)), .unset, .unset, .unset, .unset] [(.int (1 : Int32))])) _
      refine st21 _ ?_
      show Steps p.tables e below (T21.setTop (mkF m 12 #[.val (.int i0), .val (.int i1), .val (.int i2), .val (.int (1 : Int32)), .unset, .unset, .unset, .unset] [(.ref w3)])) _
      refine XS.astore X21.here hx rfl (hb hby at_12) rfl rfl (l' := #[.val (.int i0), .val (.int i1), .val (.int i2), .val (.int (1 : Int32)), .val (.ref w3), .unset, .unset, .unset]) rfl ?_
      show Steps p.tables e below (T21.setTop (mkF m 14 #[.val (.int i0), .val (.int i1), .val (.int i2), .val (.int (1 : Int32)), .val (.ref w3), .unset, .unset, .unset] [])) _
      refine XS.iconst X21.here hx rfl (hb hby at_14) ?_
      show Steps p.tables e below (T21.setTop (mkF m 15 #[.val (.int i0), .val (.int i1), .val (.int i2), .val (.int (1 : Int32)), .val (.ref w3), .unset, .unset, .unset] [(.int (-1 : Int32))])) _
      refine XS.iloadN X21.here hx rfl (hb hby at_15) rfl ?_
      show Steps p.tables e below (T21.setTop (mkF m 16 #[.val (.int i0), .val (.int i1), .val (.int i2), .val (.int (1 : Int32)), .val (.ref w3), .unset, .unset, .unset] [(.int i1), (.int (-1 : Int32))])) _
      refine X21.ldcInt hx hown (mvT hZ (hw _ (List.mem_of_getElem? (i := 8) rfl))) (g := (mkF m 16 #[.val (.int i0), .val (.int i1), .val (.int i2), .val (.int (1 : Int32)), .val (.ref w3), .unset, .unset, .unset] [(.int i1), (.int (-1 : Int32))])) rfl (hb hby at_16) _ ?_
      show Steps p.tables e below (T21.setTop (mkF m 18 #[.val (.int i0), .val (.int i1), .val (.int i2), .val (.int (1 : Int32)), .val (.ref w3), .unset, .unset, .unset] [(.int (1073741823 : Int32)), (.int i1), (.int (-1 : Int32))])) _
      refine XS.iand X21.here hx rfl (hb hby at_18) rfl ?_
      show Steps p.tables e below (T21.setTop (mkF m 19 #[.val (.int i0), .val (.int i1), .val (.int i2), .val (.int (1 : Int32)), .val (.ref w3), .unset, .unset, .unset] [(.int (i1 &&& (1073741823 : Int32))), (.int (-1 : Int32))])) _
      refine XS.isub X21.here hx rfl (hb hby at_19) rfl ?_
      show Steps p.tables e below (T21.setTop (mkF m 20 #[.val (.int i0), .val (.int i1), .val (.int i2), .val (.int (1 : Int32)), .val (.ref w3), .unset, .unset, .unset] [(.int ((-1 : Int32) - (i1 &&& (1073741823 : Int32))))])) _
      refine XS.istore X21.here hx rfl (hb hby at_20) rfl (l' := #[.val (.int i0), .val (.int i1), .val (.int i2), .val (.int (1 : Int32)), .val (.ref w3), .val (.int ((-1 : Int32) - (i1 &&& (1073741823 : Int32)))), .unset, .unset]) rfl ?_
      show Steps p.tables e below (T21.setTop (mkF m 22 #[.val (.int i0), .val (.int i1), .val (.int i2), .val (.int (1 : Int32)), .val (.ref w3), .val (.int ((-1 : Int32) - (i1 &&& (1073741823 : Int32)))), .unset, .unset] [])) _
      refine XS.iconst X21.here hx rfl (hb hby at_22) ?_
      show Steps p.tables e below (T21.setTop (mkF m 23 #[.val (.int i0), .val (.int i1), .val (.int i2), .val (.int (1 : Int32)), .val (.ref w3), .val (.int ((-1 : Int32) - (i1 &&& (1073741823 : Int32)))), .unset, .unset] [(.int (1 : Int32))])) _
      refine XS.iloadN X21.here hx rfl (hb hby at_23) rfl ?_
      show Steps p.tables e below (T21.setTop (mkF m 24 #[.val (.int i0), .val (.int i1), .val (.int i2), .val (.int (1 : Int32)), .val (.ref w3), .val (.int ((-1 : Int32) - (i1 &&& (1073741823 : Int32)))), .unset, .unset] [(.int i2), (.int (1 : Int32))])) _
      refine X21.ldcInt hx hown (mvT hZ (hw _ (List.mem_of_getElem? (i := 8) rfl))) (g := (mkF m 24 #[.val (.int i0), .val (.int i1), .val (.int i2), .val (.int (1 : Int32)), .val (.ref w3), .val (.int ((-1 : Int32) - (i1 &&& (1073741823 : Int32)))), .unset, .unset] [(.int i2), (.int (1 : Int32))])) rfl (hb hby at_24) _ ?_
      show Steps p.tables e below (T21.setTop (mkF m 26 #[.val (.int i0), .val (.int i1), .val (.int i2), .val (.int (1 : Int32)), .val (.ref w3), .val (.int ((-1 : Int32) - (i1 &&& (1073741823 : Int32)))), .unset, .unset] [(.int (1073741823 : Int32)), (.int i2), (.int (1 : Int32))])) _
      refine XS.iand X21.here hx rfl (hb hby at_26) rfl ?_
      show Steps p.tables e below (T21.setTop (mkF m 27 #[.val (.int i0), .val (.int i1), .val (.int i2), .val (.int (1 : Int32)), .val (.ref w3), .val (.int ((-1 : Int32) - (i1 &&& (1073741823 : Int32)))), .unset, .unset] [(.int (i2 &&& (1073741823 : Int32))), (.int (1 : Int32))])) _
      refine XS.iadd X21.here hx rfl (hb hby at_27) rfl ?_
      show Steps p.tables e below (T21.setTop (mkF m 28 #[.val (.int i0), .val (.int i1), .val (.int i2), .val (.int (1 : Int32)), .val (.ref w3), .val (.int ((-1 : Int32) - (i1 &&& (1073741823 : Int32)))), .unset, .unset] [(.int ((1 : Int32) + (i2 &&& (1073741823 : Int32))))])) _
      refine XS.istore X21.here hx rfl (hb hby at_28) rfl (l' := #[.val (.int i0), .val (.int i1), .val (.int i2), .val (.int (1 : Int32)), .val (.ref w3), .val (.int ((-1 : Int32) - (i1 &&& (1073741823 : Int32)))), .val (.int ((1 : Int32) + (i2 &&& (1073741823 : Int32)))), .unset]) rfl ?_
      show Steps p.tables e below (T21.setTop (mkF m 30 #[.val (.int i0), .val (.int i1), .val (.int i2), .val (.int (1 : Int32)), .val (.ref w3), .val (.int ((-1 : Int32) - (i1 &&& (1073741823 : Int32)))), .val (.int ((1 : Int32) + (i2 &&& (1073741823 : Int32)))), .unset] [])) _
      refine XS.aload X21.here hx rfl (hb hby at_30) rfl rfl ?_
      show Steps p.tables e below (T21.setTop (mkF m 32 #[.val (.int i0), .val (.int i1), .val (.int i2), .val (.int (1 : Int32)), .val (.ref w3), .val (.int ((-1 : Int32) - (i1 &&& (1073741823 : Int32)))), .val (.int ((1 : Int32) + (i2 &&& (1073741823 : Int32)))), .unset] [(.ref w3)])) _
      refine XS.iload X21.here hx rfl (hb hby at_32) rfl ?_
      show Steps p.tables e below (T21.setTop (mkF m 34 #[.val (.int i0), .val (.int i1), .val (.int i2), .val (.int (1 : Int32)), .val (.ref w3), .val (.int ((-1 : Int32) - (i1 &&& (1073741823 : Int32)))), .val (.int ((1 : Int32) + (i2 &&& (1073741823 : Int32)))), .unset] [(.int ((-1 : Int32) - (i1 &&& (1073741823 : Int32)))), (.ref w3)])) _
      refine st26.trans ?_
      show Steps p.tables e below (T26.setTop (mkF m 37 #[.val (.int i0), .val (.int i1), .val (.int i2), .val (.int (1 : Int32)), .val (.ref w3), .val (.int ((-1 : Int32) - (i1 &&& (1073741823 : Int32)))), .val (.int ((1 : Int32) + (i2 &&& (1073741823 : Int32)))), .unset] [(.int (1 : Int32))])) _
      refine XS.aload X26.here hx rfl (hb hby at_37) rfl rfl ?_
      show Steps p.tables e below (T26.setTop (mkF m 39 #[.val (.int i0), .val (.int i1), .val (.int i2), .val (.int (1 : Int32)), .val (.ref w3), .val (.int ((-1 : Int32) - (i1 &&& (1073741823 : Int32)))), .val (.int ((1 : Int32) + (i2 &&& (1073741823 : Int32)))), .unset] [(.ref w3), (.int (1 : Int32))])) _
      refine XS.iload X26.here hx rfl (hb hby at_39) rfl ?_
      show Steps p.tables e below (T26.setTop (mkF m 41 #[.val (.int i0), .val (.int i1), .val (.int i2), .val (.int (1 : Int32)), .val (.ref w3), .val (.int ((-1 : Int32) - (i1 &&& (1073741823 : Int32)))), .val (.int ((1 : Int32) + (i2 &&& (1073741823 : Int32)))), .unset] [(.int ((1 : Int32) + (i2 &&& (1073741823 : Int32)))), (.ref w3), (.int (1 : Int32))])) _
      refine st28.trans ?_
      show Steps p.tables e below (T28.setTop (mkF m 44 #[.val (.int i0), .val (.int i1), .val (.int i2), .val (.int (1 : Int32)), .val (.ref w3), .val (.int ((-1 : Int32) - (i1 &&& (1073741823 : Int32)))), .val (.int ((1 : Int32) + (i2 &&& (1073741823 : Int32)))), .unset] [(.int (0 : Int32)), (.int (1 : Int32))])) _
      refine XS.icmpYes X28.here hx rfl (pc0 := 44) (pc' := 51) rfl (hb hby at_44) rfl (by decide) (by decide) (by decide) ?_
      show Steps p.tables e below (T28.setTop (mkF m 51 #[.val (.int i0), .val (.int i1), .val (.int i2), .val (.int (1 : Int32)), .val (.ref w3), .val (.int ((-1 : Int32) - (i1 &&& (1073741823 : Int32)))), .val (.int ((1 : Int32) + (i2 &&& (1073741823 : Int32)))), .unset] [])) _
      refine XS.iconst X28.here hx rfl (hb hby at_51) ?_
      show Steps p.tables e below (T28.setTop (mkF m 52 #[.val (.int i0), .val (.int i1), .val (.int i2), .val (.int (1 : Int32)), .val (.ref w3), .val (.int ((-1 : Int32) - (i1 &&& (1073741823 : Int32)))), .val (.int ((1 : Int32) + (i2 &&& (1073741823 : Int32)))), .unset] [(.int (0 : Int32))])) _
      refine XS.istore X28.here hx rfl (hb hby at_52) rfl (l' := #[.val (.int i0), .val (.int i1), .val (.int i2), .val (.int (1 : Int32)), .val (.ref w3), .val (.int ((-1 : Int32) - (i1 &&& (1073741823 : Int32)))), .val (.int ((1 : Int32) + (i2 &&& (1073741823 : Int32)))), .val (.int (0 : Int32))]) rfl ?_
      show Steps p.tables e below (T28.setTop (mkF m 54 #[.val (.int i0), .val (.int i1), .val (.int i2), .val (.int (1 : Int32)), .val (.ref w3), .val (.int ((-1 : Int32) - (i1 &&& (1073741823 : Int32)))), .val (.int ((1 : Int32) + (i2 &&& (1073741823 : Int32)))), .val (.int (0 : Int32))] [])) _
      refine XS.aload X28.here hx rfl (hb hby at_54) rfl rfl ?_
      show Steps p.tables e below (T28.setTop (mkF m 56 #[.val (.int i0), .val (.int i1), .val (.int i2), .val (.int (1 : Int32)), .val (.ref w3), .val (.int ((-1 : Int32) - (i1 &&& (1073741823 : Int32)))), .val (.int ((1 : Int32) + (i2 &&& (1073741823 : Int32)))), .val (.int (0 : Int32))] [(.ref w3)])) _
      refine st31.trans ?_
      show Steps p.tables e below (T31.setTop (mkF m 59 #[.val (.int i0), .val (.int i1), .val (.int i2), .val (.int (1 : Int32)), .val (.ref w3), .val (.int ((-1 : Int32) - (i1 &&& (1073741823 : Int32)))), .val (.int ((1 : Int32) + (i2 &&& (1073741823 : Int32)))), .val (.int (0 : Int32))] [(.int (0 : Int32))])) _
      refine XS.iload X31.here hx rfl (hb hby at_59) rfl ?_
      show Steps p.tables e below (T31.setTop (mkF m 61 #[.val (.int i0), .val (.int i1), .val (.int i2), .val (.int (1 : Int32)), .val (.ref w3), .val (.int ((-1 : Int32) - (i1 &&& (1073741823 : Int32)))), .val (.int ((1 : Int32) + (i2 &&& (1073741823 : Int32)))), .val (.int (0 : Int32))] [(.int (0 : Int32)), (.int (0 : Int32))])) _
      refine XS.icmpNo X31.here hx rfl (hb hby at_61) rfl (by decide) ?_
      show Steps p.tables e below (T31.setTop (mkF m 64 #[.val (.int i0), .val (.int i1), .val (.int i2), .val (.int (1 : Int32)), .val (.ref w3), .val (.int ((-1 : Int32) - (i1 &&& (1073741823 : Int32)))), .val (.int ((1 : Int32) + (i2 &&& (1073741823 : Int32)))), .val (.int (0 : Int32))] [])) _
      refine XS.iconst X31.here hx rfl (hb hby at_64) ?_
      show Steps p.tables e below (T31.setTop (mkF m 65 #[.val (.int i0), .val (.int i1), .val (.int i2), .val (.int (1 : Int32)), .val (.ref w3), .val (.int ((-1 : Int32) - (i1 &&& (1073741823 : Int32)))), .val (.int ((1 : Int32) + (i2 &&& (1073741823 : Int32)))), .val (.int (0 : Int32))] [(.int (1 : Int32))])) _
      refine XS.goto X31.here hx rfl (pc0 := 65) (pc' := 69) rfl (hb hby at_65) (by decide) (by decide) ?_
      show Steps p.tables e below (T31.setTop (mkF m 69 #[.val (.int i0), .val (.int i1), .val (.int i2), .val (.int (1 : Int32)), .val (.ref w3), .val (.int ((-1 : Int32) - (i1 &&& (1073741823 : Int32)))), .val (.int ((1 : Int32) + (i2 &&& (1073741823 : Int32)))), .val (.int (0 : Int32))] [(.int (1 : Int32))])) _
      exact retN X31 hx (t := .boolean) Bd.returns (by simp) (hb hby at_69) hr
    · show Ql n0 _ T31.heap _
      exact ⟨rfl, N31⟩
  · obtain ⟨_, _, ⟨T33, L33, k33, n33⟩, -, X33, ⟨Lc33, hQ33, l33, y33, z33⟩, st33⟩ := Jvm.LawKit.callS X0 hx (y := (⟨"com/example/libgate/libgate/OperatorIsEqualityPinLaw", "pickOp", "(I)Lcom/example/libgate/libgate/Condition$Operator;"⟩ : MethodName)) hown (mvT hZ (hw _ (List.mem_of_getElem? (i := 1) rfl))) (mvT hZ (hw _ (List.mem_of_getElem? (i := 2) rfl))) (mvT hZ (hw _ (List.mem_of_getElem? (i := 3) rfl))) (mvT hZ (hw _ (List.mem_of_getElem? (i := 4) rfl))) (by decide) (backOf (W := 0) (rm11 l Z a0 hw [] w0 w1 w2 w3 w4 w5 h0 n0 hWd O0) hZ (hw _ (List.mem_of_getElem? (i := 4) rfl)) (hw _ (List.mem_of_getElem? (i := 3) rfl)) (by decide) (by decide)) (g := (mkF m 9 #[.val (.int i0), .val (.int i1), .val (.int i2), .val (.int (2 : Int32)), .unset, .unset, .unset, .unset] [(.int (2 : Int32))])) rfl (by rw [hml]; rfl) (argsL := [(.int (2 : Int32))]) (rest := []) (lenOf pd0 rfl) rfl (by show 2 * 0 + _ ≤ _; exact Nat.le_of_eq rfl) (hb hby at_9) (fun _ _ => ⟨rfl, e0, (by decide : 0 + 0 ≤ _), (by decide : 0 + 0 ≤ _)⟩)
    dsimp only [Pt.U, Pt.locs, Pt.cells, Pt.slots] at X33 l33 y33 z33 st33 hQ33
    subst l33 y33 z33
    obtain ⟨rfl, N33q, e33⟩ := hQ33
    have N33 := Fr.app N0 N33q
    obtain ⟨ha34, hb34, hc34⟩ := own_below i1
    obtain ⟨ha35, hb35, hc35⟩ := own_above i2
    obtain ⟨cq38, kq38, q38a, q38b, q38c⟩ := isOf hZ e33 (wE4.ext O0.2)
    obtain ⟨_, _, ⟨T38, L38, k38, n38⟩, -, X38, ⟨Lc38, hQ38, l38, y38, z38⟩, st38⟩ := X33.virtualBack hx (y := (⟨"com/example/libgate/libgate/Condition$Operator", "holds", "(I)Z"⟩ : MethodName)) (z := (⟨"com/example/libgate/libgate/Condition$Operator", "holds", "(I)Z"⟩ : MethodName)) hown (mvT hZ (hw _ (List.mem_of_getElem? (i := 9) rfl))) (mvT hZ (hw _ (List.mem_of_getElem? (i := 10) rfl))) (notFace_of_selects (args := #[]) (mvT hZ (hw _ (List.mem_of_getElem? (i := 12) rfl)))) (mvT hZ (hw _ (List.mem_of_getElem? (i := 12) rfl))) (mvT hZ (hw _ (List.mem_of_getElem? (i := 11) rfl))) (by decide) (backOf (W := 0) (rm12 l Z a0 hw [] w0 w1 w2 w3 w4 w5 ((-1 : Int32) - (i1 &&& (1073741823 : Int32))) h0 n0 hWd O0 ha34 hb34 hc34) hZ (hw _ (List.mem_of_getElem? (i := 13) rfl)) (hw _ (List.mem_of_getElem? (i := 6) rfl)) (by decide) (by decide)) q38a q38c (g := (mkF m 34 #[.val (.int i0), .val (.int i1), .val (.int i2), .val (.int (2 : Int32)), .val (.ref w4), .val (.int ((-1 : Int32) - (i1 &&& (1073741823 : Int32)))), .val (.int ((1 : Int32) + (i2 &&& (1073741823 : Int32)))), .unset] [(.int ((-1 : Int32) - (i1 &&& (1073741823 : Int32)))), (.ref w4)])) rfl (by rw [hml]; rfl) (Steps.refl _) (argsL := [(.int ((-1 : Int32) - (i1 &&& (1073741823 : Int32))))]) (rest := []) (lenOf pd2 rfl) rfl (by show 2 * 0 + _ ≤ _; exact Nat.le_of_eq rfl) (hb hby at_34) (fun _ _ => ⟨rfl, e33, (by decide : 0 + 0 ≤ _), (by decide : 0 + 0 ≤ _)⟩)
    dsimp only [Pt.U, Pt.locs, Pt.cells, Pt.slots] at X38 l38 y38 z38 st38 hQ38
    subst l38 y38 z38
    obtain ⟨rfl, N38q, e38⟩ := hQ38
    have N38 := Fr.app N33 N38q
    obtain ⟨cq40, kq40, q40a, q40b, q40c⟩ := isOf hZ e38 (wE4.ext O0.2)
    obtain ⟨_, _, ⟨T40, L40, k40, n40⟩, -, X40, ⟨Lc40, hQ40, l40, y40, z40⟩, st40⟩ := X38.virtualBack hx (y := (⟨"com/example/libgate/libgate/Condition$Operator", "holds", "(I)Z"⟩ : MethodName)) (z := (⟨"com/example/libgate/libgate/Condition$Operator", "holds", "(I)Z"⟩ : MethodName)) hown (mvT hZ (hw _ (List.mem_of_getElem? (i := 9) rfl))) (mvT hZ (hw _ (List.mem_of_getElem? (i := 10) rfl))) (notFace_of_selects (args := #[]) (mvT hZ (hw _ (List.mem_of_getElem? (i := 12) rfl)))) (mvT hZ (hw _ (List.mem_of_getElem? (i := 12) rfl))) (mvT hZ (hw _ (List.mem_of_getElem? (i := 11) rfl))) (by decide) (backOf (W := 1) (rm14 l Z a0 hw [] w0 w1 w2 w3 w4 w5 ((1 : Int32) + (i2 &&& (1073741823 : Int32))) h0 n0 hWd O0 ha35 hb35 hc35) hZ (hw _ (List.mem_of_getElem? (i := 13) rfl)) (hw _ (List.mem_of_getElem? (i := 6) rfl)) (by decide) (by decide)) q40a q40c (g := (mkF m 41 #[.val (.int i0), .val (.int i1), .val (.int i2), .val (.int (2 : Int32)), .val (.ref w4), .val (.int ((-1 : Int32) - (i1 &&& (1073741823 : Int32)))), .val (.int ((1 : Int32) + (i2 &&& (1073741823 : Int32)))), .unset] [(.int ((1 : Int32) + (i2 &&& (1073741823 : Int32)))), (.ref w4), (.int (0 : Int32))])) rfl (by rw [hml]; rfl) (Steps.refl _) (argsL := [(.int ((1 : Int32) + (i2 &&& (1073741823 : Int32))))]) (rest := [(.int (0 : Int32))]) (lenOf pd2 rfl) rfl (by show 2 * 0 + _ ≤ _; exact Nat.le_of_eq rfl) (hb hby at_41) (fun _ _ => ⟨rfl, e38, (by decide : 0 + 0 ≤ _), (by decide : 0 + 0 ≤ _)⟩)
    dsimp only [Pt.U, Pt.locs, Pt.cells, Pt.slots] at X40 l40 y40 z40 st40 hQ40
    subst l40 y40 z40
    obtain ⟨rfl, N40q, e40⟩ := hQ40
    have N40 := Fr.app N38 N40q
    obtain ⟨cq43, kq43, q43a, q43b, q43c⟩ := isOf hZ e40 (wE4.ext O0.2)
    obtain ⟨_, _, ⟨T43, L43, k43, n43⟩, -, X43, ⟨Lc43, hQ43, l43, y43, z43⟩, st43⟩ := X40.virtualBack hx (y := (⟨"com/example/libgate/libgate/Condition$Operator", "isEquality", "()Z"⟩ : MethodName)) (z := (⟨"com/example/libgate/libgate/Condition$Operator", "isEquality", "()Z"⟩ : MethodName)) hown (mvT hZ (hw _ (List.mem_of_getElem? (i := 23) rfl))) (mvT hZ (hw _ (List.mem_of_getElem? (i := 24) rfl))) (notFace_of_selects (args := #[]) (mvT hZ (hw _ (List.mem_of_getElem? (i := 26) rfl)))) (mvT hZ (hw _ (List.mem_of_getElem? (i := 26) rfl))) (mvT hZ (hw _ (List.mem_of_getElem? (i := 25) rfl))) (by decide) (backOf (W := 0) (rm15 l Z a0 hw [] w0 w1 w2 w3 w4 w5 h0 n0 hWd O0) hZ (hw _ (List.mem_of_getElem? (i := 27) rfl)) (hw _ (List.mem_of_getElem? (i := 6) rfl)) (by decide) (by decide)) q43a q43c (g := (mkF m 56 #[.val (.int i0), .val (.int i1), .val (.int i2), .val (.int (2 : Int32)), .val (.ref w4), .val (.int ((-1 : Int32) - (i1 &&& (1073741823 : Int32)))), .val (.int ((1 : Int32) + (i2 &&& (1073741823 : Int32)))), .val (.int (0 : Int32))] [(.ref w4)])) rfl (by rw [hml]; rfl) (Steps.refl _) (argsL := []) (rest := []) (lenOf pd3 rfl) rfl (by show 2 * 0 + _ ≤ _; exact Nat.le_of_eq rfl) (hb hby at_56) (fun _ _ => ⟨rfl, e40, (by decide : 0 + 0 ≤ _), (by decide : 0 + 0 ≤ _)⟩)
    dsimp only [Pt.U, Pt.locs, Pt.cells, Pt.slots] at X43 l43 y43 z43 st43 hQ43
    subst l43 y43 z43
    obtain ⟨rfl, N43q, e43⟩ := hQ43
    have N43 := Fr.app N40 N43q
    obtain ⟨fs, hr, hrun, hended, hWr, hsame⟩ := X43.leave (v := some (.int (1 : Int32))) (fun h => by rw [Bd.returns] at h; cases h) hlk
    refine ⟨_, _, pre1 _ ?_, hrun, hended, _, _, rfl, ?_, ⟨_, rfl⟩, hWr, hsame.mono (Nat.le_of_ble_eq_true rfl) (Nat.le_of_ble_eq_true rfl)⟩
    · show Steps p.tables e below (s₁.setTop (mkF m 6 #[.val (.int i0), .val (.int i1), .val (.int i2), .unset, .unset, .unset, .unset, .unset] [(.int (6 : Int32)), (.int (i0 &&& (2147483647 : Int32)))])) _
      refine iremM X0 hx rfl (hb hby at_6) rfl (by decide) ?_
      show Steps p.tables e below (s₁.setTop (mkF m 7 #[.val (.int i0), .val (.int i1), .val (.int i2), .unset, .unset, .unset, .unset, .unset] [(.int ((i0 &&& (2147483647 : Int32)) % (6 : Int32)))])) _
      rw [hk4]
      show Steps p.tables e below (s₁.setTop (mkF m 7 #[.val (.int i0), .val (.int i1), .val (.int i2), .unset, .unset, .unset, .unset, .unset] [(.int (2 : Int32))])) _
      refine XS.istoreN X0.here hx rfl (hb hby at_7) rfl (l' := #[.val (.int i0), .val (.int i1), .val (.int i2), .val (.int (2 : Int32)), .unset, .unset, .unset, .unset]) rfl ?_
      show Steps p.tables e below (s₁.setTop (mkF m 8 #[.val (.int i0), .val (.int i1), .val (.int i2), .val (.int (2 : Int32)), .unset, .unset, .unset, .unset] [])) _
      refine XS.iloadN X0.here hx rfl (hb hby at_8) rfl ?_
      show Steps p.tables e below (s₁.setTop (mkF m 9 #[.val (.int i0), .val (.int i1), .val (.int i2), .val (.int (2 : Int32)), .unset, .unset, .unset, .unset] [(.int (2 : Int32))])) _
      refine st33 _ ?_
      show Steps p.tables e below (T33.setTop (mkF m 12 #[.val (.int i0), .val (.int i1), .val (.int i2), .val (.int (2 : Int32)), .unset, .unset, .unset, .unset] [(.ref w4)])) _
      refine XS.astore X33.here hx rfl (hb hby at_12) rfl rfl (l' := #[.val (.int i0), .val (.int i1), .val (.int i2), .val (.int (2 : Int32)), .val (.ref w4), .unset, .unset, .unset]) rfl ?_
      show Steps p.tables e below (T33.setTop (mkF m 14 #[.val (.int i0), .val (.int i1), .val (.int i2), .val (.int (2 : Int32)), .val (.ref w4), .unset, .unset, .unset] [])) _
      refine XS.iconst X33.here hx rfl (hb hby at_14) ?_
      show Steps p.tables e below (T33.setTop (mkF m 15 #[.val (.int i0), .val (.int i1), .val (.int i2), .val (.int (2 : Int32)), .val (.ref w4), .unset, .unset, .unset] [(.int (-1 : Int32))])) _
      refine XS.iloadN X33.here hx rfl (hb hby at_15) rfl ?_
      show Steps p.tables e below (T33.setTop (mkF m 16 #[.val (.int i0), .val (.int i1), .val (.int i2), .val (.int (2 : Int32)), .val (.ref w4), .unset, .unset, .unset] [(.int i1), (.int (-1 : Int32))])) _
      refine X33.ldcInt hx hown (mvT hZ (hw _ (List.mem_of_getElem? (i := 8) rfl))) (g := (mkF m 16 #[.val (.int i0), .val (.int i1), .val (.int i2), .val (.int (2 : Int32)), .val (.ref w4), .unset, .unset, .unset] [(.int i1), (.int (-1 : Int32))])) rfl (hb hby at_16) _ ?_
      show Steps p.tables e below (T33.setTop (mkF m 18 #[.val (.int i0), .val (.int i1), .val (.int i2), .val (.int (2 : Int32)), .val (.ref w4), .unset, .unset, .unset] [(.int (1073741823 : Int32)), (.int i1), (.int (-1 : Int32))])) _
      refine XS.iand X33.here hx rfl (hb hby at_18) rfl ?_
      show Steps p.tables e below (T33.setTop (mkF m 19 #[.val (.int i0), .val (.int i1), .val (.int i2), .val (.int (2 : Int32)), .val (.ref w4), .unset, .unset, .unset] [(.int (i1 &&& (1073741823 : Int32))), (.int (-1 : Int32))])) _
      refine XS.isub X33.here hx rfl (hb hby at_19) rfl ?_
      show Steps p.tables e below (T33.setTop (mkF m 20 #[.val (.int i0), .val (.int i1), .val (.int i2), .val (.int (2 : Int32)), .val (.ref w4), .unset, .unset, .unset] [(.int ((-1 : Int32) - (i1 &&& (1073741823 : Int32))))])) _
      refine XS.istore X33.here hx rfl (hb hby at_20) rfl (l' := #[.val (.int i0), .val (.int i1), .val (.int i2), .val (.int (2 : Int32)), .val (.ref w4), .val (.int ((-1 : Int32) - (i1 &&& (1073741823 : Int32)))), .unset, .unset]) rfl ?_
      show Steps p.tables e below (T33.setTop (mkF m 22 #[.val (.int i0), .val (.int i1), .val (.int i2), .val (.int (2 : Int32)), .val (.ref w4), .val (.int ((-1 : Int32) - (i1 &&& (1073741823 : Int32)))), .unset, .unset] [])) _
      refine XS.iconst X33.here hx rfl (hb hby at_22) ?_
      show Steps p.tables e below (T33.setTop (mkF m 23 #[.val (.int i0), .val (.int i1), .val (.int i2), .val (.int (2 : Int32)), .val (.ref w4), .val (.int ((-1 : Int32) - (i1 &&& (1073741823 : Int32)))), .unset, .unset] [(.int (1 : Int32))])) _
      refine XS.iloadN X33.here hx rfl (hb hby at_23) rfl ?_
      show Steps p.tables e below (T33.setTop (mkF m 24 #[.val (.int i0), .val (.int i1), .val (.int i2), .val (.int (2 : Int32)), .val (.ref w4), .val (.int ((-1 : Int32) - (i1 &&& (1073741823 : Int32)))), .unset, .unset] [(.int i2), (.int (1 : Int32))])) _
      refine X33.ldcInt hx hown (mvT hZ (hw _ (List.mem_of_getElem? (i := 8) rfl))) (g := (mkF m 24 #[.val (.int i0), .val (.int i1), .val (.int i2), .val (.int (2 : Int32)), .val (.ref w4), .val (.int ((-1 : Int32) - (i1 &&& (1073741823 : Int32)))), .unset, .unset] [(.int i2), (.int (1 : Int32))])) rfl (hb hby at_24) _ ?_
      show Steps p.tables e below (T33.setTop (mkF m 26 #[.val (.int i0), .val (.int i1), .val (.int i2), .val (.int (2 : Int32)), .val (.ref w4), .val (.int ((-1 : Int32) - (i1 &&& (1073741823 : Int32)))), .unset, .unset] [(.int (1073741823 : Int32)), (.int i2), (.int (1 : Int32))])) _
      refine XS.iand X33.here hx rfl (hb hby at_26) rfl ?_
      show Steps p.tables e below (T33.setTop (mkF m 27 #[.val (.int i0), .val (.int i1), .val (.int i2), .val (.int (2 : Int32)), .val (.ref w4), .val (.int ((-1 : Int32) - (i1 &&& (1073741823 : Int32)))), .unset, .unset] [(.int (i2 &&& (1073741823 : Int32))), (.int (1 : Int32))])) _
      refine XS.iadd X33.here hx rfl (hb hby at_27) rfl ?_
      show Steps p.tables e below (T33.setTop (mkF m 28 #[.val (.int i0), .val (.int i1), .val (.int i2), .val (.int (2 : Int32)), .val (.ref w4), .val (.int ((-1 : Int32) - (i1 &&& (1073741823 : Int32)))), .unset, .unset] [(.int ((1 : Int32) + (i2 &&& (1073741823 : Int32))))])) _
      refine XS.istore X33.here hx rfl (hb hby at_28) rfl (l' := #[.val (.int i0), .val (.int i1), .val (.int i2), .val (.int (2 : Int32)), .val (.ref w4), .val (.int ((-1 : Int32) - (i1 &&& (1073741823 : Int32)))), .val (.int ((1 : Int32) + (i2 &&& (1073741823 : Int32)))), .unset]) rfl ?_
      show Steps p.tables e below (T33.setTop (mkF m 30 #[.val (.int i0), .val (.int i1), .val (.int i2), .val (.int (2 : Int32)), .val (.ref w4), .val (.int ((-1 : Int32) - (i1 &&& (1073741823 : Int32)))), .val (.int ((1 : Int32) + (i2 &&& (1073741823 : Int32)))), .unset] [])) _
      refine XS.aload X33.here hx rfl (hb hby at_30) rfl rfl ?_
      show Steps p.tables e below (T33.setTop (mkF m 32 #[.val (.int i0), .val (.int i1), .val (.int i2), .val (.int (2 : Int32)), .val (.ref w4), .val (.int ((-1 : Int32) - (i1 &&& (1073741823 : Int32)))), .val (.int ((1 : Int32) + (i2 &&& (1073741823 : Int32)))), .unset] [(.ref w4)])) _
      refine XS.iload X33.here hx rfl (hb hby at_32) rfl ?_
      show Steps p.tables e below (T33.setTop (mkF m 34 #[.val (.int i0), .val (.int i1), .val (.int i2), .val (.int (2 : Int32)), .val (.ref w4), .val (.int ((-1 : Int32) - (i1 &&& (1073741823 : Int32)))), .val (.int ((1 : Int32) + (i2 &&& (1073741823 : Int32)))), .unset] [(.int ((-1 : Int32) - (i1 &&& (1073741823 : Int32)))), (.ref w4)])) _
      refine st38.trans ?_
      show Steps p.tables e below (T38.setTop (mkF m 37 #[.val (.int i0), .val (.int i1), .val (.int i2), .val (.int (2 : Int32)), .val (.ref w4), .val (.int ((-1 : Int32) - (i1 &&& (1073741823 : Int32)))), .val (.int ((1 : Int32) + (i2 &&& (1073741823 : Int32)))), .unset] [(.int (0 : Int32))])) _
      refine XS.aload X38.here hx rfl (hb hby at_37) rfl rfl ?_
      show Steps p.tables e below (T38.setTop (mkF m 39 #[.val (.int i0), .val (.int i1), .val (.int i2), .val (.int (2 : Int32)), .val (.ref w4), .val (.int ((-1 : Int32) - (i1 &&& (1073741823 : Int32)))), .val (.int ((1 : Int32) + (i2 &&& (1073741823 : Int32)))), .unset] [(.ref w4), (.int (0 : Int32))])) _
      refine XS.iload X38.here hx rfl (hb hby at_39) rfl ?_
      show Steps p.tables e below (T38.setTop (mkF m 41 #[.val (.int i0), .val (.int i1), .val (.int i2), .val (.int (2 : Int32)), .val (.ref w4), .val (.int ((-1 : Int32) - (i1 &&& (1073741823 : Int32)))), .val (.int ((1 : Int32) + (i2 &&& (1073741823 : Int32)))), .unset] [(.int ((1 : Int32) + (i2 &&& (1073741823 : Int32)))), (.ref w4), (.int (0 : Int32))])) _
      refine st40.trans ?_
      show Steps p.tables e below (T40.setTop (mkF m 44 #[.val (.int i0), .val (.int i1), .val (.int i2), .val (.int (2 : Int32)), .val (.ref w4), .val (.int ((-1 : Int32) - (i1 &&& (1073741823 : Int32)))), .val (.int ((1 : Int32) + (i2 &&& (1073741823 : Int32)))), .unset] [(.int (1 : Int32)), (.int (0 : Int32))])) _
      refine XS.icmpYes X40.here hx rfl (pc0 := 44) (pc' := 51) rfl (hb hby at_44) rfl (by decide) (by decide) (by decide) ?_
      show Steps p.tables e below (T40.setTop (mkF m 51 #[.val (.int i0), .val (.int i1), .val (.int i2), .val (.int (2 : Int32)), .val (.ref w4), .val (.int ((-1 : Int32) - (i1 &&& (1073741823 : Int32)))), .val (.int ((1 : Int32) + (i2 &&& (1073741823 : Int32)))), .unset] [])) _
      refine XS.iconst X40.here hx rfl (hb hby at_51) ?_
      show Steps p.tables e below (T40.setTop (mkF m 52 #[.val (.int i0), .val (.int i1), .val (.int i2), .val (.int (2 : Int32)), .val (.ref w4), .val (.int ((-1 : Int32) - (i1 &&& (1073741823 : Int32)))), .val (.int ((1 : Int32) + (i2 &&& (1073741823 : Int32)))), .unset] [(.int (0 : Int32))])) _
      refine XS.istore X40.here hx rfl (hb hby at_52) rfl (l' := #[.val (.int i0), .val (.int i1), .val (.int i2), .val (.int (2 : Int32)), .val (.ref w4), .val (.int ((-1 : Int32) - (i1 &&& (1073741823 : Int32)))), .val (.int ((1 : Int32) + (i2 &&& (1073741823 : Int32)))), .val (.int (0 : Int32))]) rfl ?_
      show Steps p.tables e below (T40.setTop (mkF m 54 #[.val (.int i0), .val (.int i1), .val (.int i2), .val (.int (2 : Int32)), .val (.ref w4), .val (.int ((-1 : Int32) - (i1 &&& (1073741823 : Int32)))), .val (.int ((1 : Int32) + (i2 &&& (1073741823 : Int32)))), .val (.int (0 : Int32))] [])) _
      refine XS.aload X40.here hx rfl (hb hby at_54) rfl rfl ?_
      show Steps p.tables e below (T40.setTop (mkF m 56 #[.val (.int i0), .val (.int i1), .val (.int i2), .val (.int (2 : Int32)), .val (.ref w4), .val (.int ((-1 : Int32) - (i1 &&& (1073741823 : Int32)))), .val (.int ((1 : Int32) + (i2 &&& (1073741823 : Int32)))), .val (.int (0 : Int32))] [(.ref w4)])) _
      refine st43.trans ?_
      show Steps p.tables e below (T43.setTop (mkF m 59 #[.val (.int i0), .val (.int i1), .val (.int i2), .val (.int (2 : Int32)), .val (.ref w4), .val (.int ((-1 : Int32) - (i1 &&& (1073741823 : Int32)))), .val (.int ((1 : Int32) + (i2 &&& (1073741823 : Int32)))), .val (.int (0 : Int32))] [(.int (0 : Int32))])) _
      refine XS.iload X43.here hx rfl (hb hby at_59) rfl ?_
      show Steps p.tables e below (T43.setTop (mkF m 61 #[.val (.int i0), .val (.int i1), .val (.int i2), .val (.int (2 : Int32)), .val (.ref w4), .val (.int ((-1 : Int32) - (i1 &&& (1073741823 : Int32)))), .val (.int ((1 : Int32) + (i2 &&& (1073741823 : Int32)))), .val (.int (0 : Int32))] [(.int (0 : Int32)), (.int (0 : Int32))])) _
      refine XS.icmpNo X43.here hx rfl (hb hby at_61) rfl (by decide) ?_
      show Steps p.tables e below (T43.setTop (mkF m 64 #[.val (.int i0), .val (.int i1), .val (.int i2), .val (.int (2 : Int32)), .val (.ref w4), .val (.int ((-1 : Int32) - (i1 &&& (1073741823 : Int32)))), .val (.int ((1 : Int32) + (i2 &&& (1073741823 : Int32)))), .val (.int (0 : Int32))] [])) _
      refine XS.iconst X43.here hx rfl (hb hby at_64) ?_
      show Steps p.tables e below (T43.setTop (mkF m 65 #[.val (.int i0), .val (.int i1), .val (.int i2), .val (.int (2 : Int32)), .val (.ref w4), .val (.int ((-1 : Int32) - (i1 &&& (1073741823 : Int32)))), .val (.int ((1 : Int32) + (i2 &&& (1073741823 : Int32)))), .val (.int (0 : Int32))] [(.int (1 : Int32))])) _
      refine XS.goto X43.here hx rfl (pc0 := 65) (pc' := 69) rfl (hb hby at_65) (by decide) (by decide) ?_
      show Steps p.tables e below (T43.setTop (mkF m 69 #[.val (.int i0), .val (.int i1), .val (.int i2), .val (.int (2 : Int32)), .val (.ref w4), .val (.int ((-1 : Int32) - (i1 &&& (1073741823 : Int32)))), .val (.int ((1 : Int32) + (i2 &&& (1073741823 : Int32)))), .val (.int (0 : Int32))] [(.int (1 : Int32))])) _
      exact retN X43 hx (t := .boolean) Bd.returns (by simp) (hb hby at_69) hr
    · show Ql n0 _ T43.heap _
      exact ⟨rfl, N43⟩
  · obtain ⟨_, _, ⟨T45, L45, k45, n45⟩, -, X45, ⟨Lc45, hQ45, l45, y45, z45⟩, st45⟩ := Jvm.LawKit.callS X0 hx (y := (⟨"com/example/libgate/libgate/OperatorIsEqualityPinLaw", "pickOp", "(I)Lcom/example/libgate/libgate/Condition$Operator;"⟩ : MethodName)) hown (mvT hZ (hw _ (List.mem_of_getElem? (i := 1) rfl))) (mvT hZ (hw _ (List.mem_of_getElem? (i := 2) rfl))) (mvT hZ (hw _ (List.mem_of_getElem? (i := 3) rfl))) (mvT hZ (hw _ (List.mem_of_getElem? (i := 4) rfl))) (by decide) (backOf (W := 0) (rm16 l Z a0 hw [] w0 w1 w2 w3 w4 w5 h0 n0 hWd O0) hZ (hw _ (List.mem_of_getElem? (i := 4) rfl)) (hw _ (List.mem_of_getElem? (i := 3) rfl)) (by decide) (by decide)) (g := (mkF m 9 #[.val (.int i0), .val (.int i1), .val (.int i2), .val (.int (3 : Int32)), .unset, .unset, .unset, .unset] [(.int (3 : Int32))])) rfl (by rw [hml]; rfl) (argsL := [(.int (3 : Int32))]) (rest := []) (lenOf pd0 rfl) rfl (by show 2 * 0 + _ ≤ _; exact Nat.le_of_eq rfl) (hb hby at_9) (fun _ _ => ⟨rfl, e0, (by decide : 0 + 0 ≤ _), (by decide : 0 + 0 ≤ _)⟩)
    dsimp only [Pt.U, Pt.locs, Pt.cells, Pt.slots] at X45 l45 y45 z45 st45 hQ45
    subst l45 y45 z45
    obtain ⟨rfl, N45q, e45⟩ := hQ45
    have N45 := Fr.app N0 N45q
    obtain ⟨ha46, hb46, hc46⟩ := own_below i1
    obtain ⟨ha47, hb47, hc47⟩ := own_above i2
    obtain ⟨cq50, kq50, q50a, q50b, q50c⟩ := isOf hZ e45 (wE5.ext O0.2)
    obtain ⟨_, _, ⟨T50, L50, k50, n50⟩, -, X50, ⟨Lc50, hQ50, l50, y50, z50⟩, st50⟩ := X45.virtualBack hx (y := (⟨"com/example/libgate/libgate/Condition$Operator", "holds", "(I)Z"⟩ : MethodName)) (z := (⟨"com/example/libgate/libgate/Condition$Operator", "holds", "(I)Z"⟩ : MethodName)) hown (mvT hZ (hw _ (List.mem_of_getElem? (i := 9) rfl))) (mvT hZ (hw _ (List.mem_of_getElem? (i := 10) rfl))) (notFace_of_selects (args := #[]) (mvT hZ (hw _ (List.mem_of_getElem? (i := 12) rfl)))) (mvT hZ (hw _ (List.mem_of_getElem? (i := 12) rfl))) (mvT hZ (hw _ (List.mem_of_getElem? (i := 11) rfl))) (by decide) (backOf (W := 0) (rm17 l Z a0 hw [] w0 w1 w2 w3 w4 w5 ((-1 : Int32) - (i1 &&& (1073741823 : Int32))) h0 n0 hWd O0 ha46 hb46 hc46) hZ (hw _ (List.mem_of_getElem? (i := 13) rfl)) (hw _ (List.mem_of_getElem? (i := 6) rfl)) (by decide) (by decide)) q50a q50c (g := (mkF m 34 #[.val (.int i0), .val (.int i1), .val (.int i2), .val (.int (3 : Int32)), .val (.ref w5), .val (.int ((-1 : Int32) - (i1 &&& (1073741823 : Int32)))), .val (.int ((1 : Int32) + (i2 &&& (1073741823 : Int32)))), .unset] [(.int ((-1 : Int32) - (i1 &&& (1073741823 : Int32)))), (.ref w5)])) rfl (by rw [hml]; rfl) (Steps.refl _) (argsL := [(.int ((-1 : Int32) - (i1 &&& (1073741823 : Int32))))]) (rest := []) (lenOf pd2 rfl) rfl (by show 2 * 0 + _ ≤ _; exact Nat.le_of_eq rfl) (hb hby at_34) (fun _ _ => ⟨rfl, e45, (by decide : 0 + 0 ≤ _), (by decide : 0 + 0 ≤ _)⟩)
    dsimp only [Pt.U, Pt.locs, Pt.cells, Pt.slots] at X50 l50 y50 z50 st50 hQ50
    subst l50 y50 z50
    obtain ⟨rfl, N50q, e50⟩ := hQ50
    have N50 := Fr.app N45 N50q
    obtain ⟨cq52, kq52, q52a, q52b, q52c⟩ := isOf hZ e50 (wE5.ext O0.2)
    obtain ⟨_, _, ⟨T52, L52, k52, n52⟩, -, X52, ⟨Lc52, hQ52, l52, y52, z52⟩, st52⟩ := X50.virtualBack hx (y := (⟨"com/example/libgate/libgate/Condition$Operator", "holds", "(I)Z"⟩ : MethodName)) (z := (⟨"com/example/libgate/libgate/Condition$Operator", "holds", "(I)Z"⟩ : MethodName)) hown (mvT hZ (hw _ (List.mem_of_getElem? (i := 9) rfl))) (mvT hZ (hw _ (List.mem_of_getElem? (i := 10) rfl))) (notFace_of_selects (args := #[]) (mvT hZ (hw _ (List.mem_of_getElem? (i := 12) rfl)))) (mvT hZ (hw _ (List.mem_of_getElem? (i := 12) rfl))) (mvT hZ (hw _ (List.mem_of_getElem? (i := 11) rfl))) (by decide) (backOf (W := 1) (rm19 l Z a0 hw [] w0 w1 w2 w3 w4 w5 ((1 : Int32) + (i2 &&& (1073741823 : Int32))) h0 n0 hWd O0 ha47 hb47 hc47) hZ (hw _ (List.mem_of_getElem? (i := 13) rfl)) (hw _ (List.mem_of_getElem? (i := 6) rfl)) (by decide) (by decide)) q52a q52c (g := (mkF m 41 #[.val (.int i0), .val (.int i1), .val (.int i2), .val (.int (3 : Int32)), .val (.ref w5), .val (.int ((-1 : Int32) - (i1 &&& (1073741823 : Int32)))), .val (.int ((1 : Int32) + (i2 &&& (1073741823 : Int32)))), .unset] [(.int ((1 : Int32) + (i2 &&& (1073741823 : Int32)))), (.ref w5), (.int (0 : Int32))])) rfl (by rw [hml]; rfl) (Steps.refl _) (argsL := [(.int ((1 : Int32) + (i2 &&& (1073741823 : Int32))))]) (rest := [(.int (0 : Int32))]) (lenOf pd2 rfl) rfl (by show 2 * 0 + _ ≤ _; exact Nat.le_of_eq rfl) (hb hby at_41) (fun _ _ => ⟨rfl, e50, (by decide : 0 + 0 ≤ _), (by decide : 0 + 0 ≤ _)⟩)
    dsimp only [Pt.U, Pt.locs, Pt.cells, Pt.slots] at X52 l52 y52 z52 st52 hQ52
    subst l52 y52 z52
    obtain ⟨rfl, N52q, e52⟩ := hQ52
    have N52 := Fr.app N50 N52q
    obtain ⟨cq55, kq55, q55a, q55b, q55c⟩ := isOf hZ e52 (wE5.ext O0.2)
    obtain ⟨_, _, ⟨T55, L55, k55, n55⟩, -, X55, ⟨Lc55, hQ55, l55, y55, z55⟩, st55⟩ := X52.virtualBack hx (y := (⟨"com/example/libgate/libgate/Condition$Operator", "isEquality", "()Z"⟩ : MethodName)) (z := (⟨"com/example/libgate/libgate/Condition$Operator", "isEquality", "()Z"⟩ : MethodName)) hown (mvT hZ (hw _ (List.mem_of_getElem? (i := 23) rfl))) (mvT hZ (hw _ (List.mem_of_getElem? (i := 24) rfl))) (notFace_of_selects (args := #[]) (mvT hZ (hw _ (List.mem_of_getElem? (i := 26) rfl)))) (mvT hZ (hw _ (List.mem_of_getElem? (i := 26) rfl))) (mvT hZ (hw _ (List.mem_of_getElem? (i := 25) rfl))) (by decide) (backOf (W := 0) (rm20 l Z a0 hw [] w0 w1 w2 w3 w4 w5 h0 n0 hWd O0) hZ (hw _ (List.mem_of_getElem? (i := 27) rfl)) (hw _ (List.mem_of_getElem? (i := 6) rfl)) (by decide) (by decide)) q55a q55c (g := (mkF m 56 #[.val (.int i0), .val (.int i1), .val (.int i2), .val (.int (3 : Int32)), .val (.ref w5), .val (.int ((-1 : Int32) - (i1 &&& (1073741823 : Int32)))), .val (.int ((1 : Int32) + (i2 &&& (1073741823 : Int32)))), .val (.int (0 : Int32))] [(.ref w5)])) rfl (by rw [hml]; rfl) (Steps.refl _) (argsL := []) (rest := []) (lenOf pd3 rfl) rfl (by show 2 * 0 + _ ≤ _; exact Nat.le_of_eq rfl) (hb hby at_56) (fun _ _ => ⟨rfl, e52, (by decide : 0 + 0 ≤ _), (by decide : 0 + 0 ≤ _)⟩)
    dsimp only [Pt.U, Pt.locs, Pt.cells, Pt.slots] at X55 l55 y55 z55 st55 hQ55
    subst l55 y55 z55
    obtain ⟨rfl, N55q, e55⟩ := hQ55
    have N55 := Fr.app N52 N55q
    obtain ⟨fs, hr, hrun, hended, hWr, hsame⟩ := X55.leave (v := some (.int (1 : Int32))) (fun h => by rw [Bd.returns] at h; cases h) hlk
    refine ⟨_, _, pre1 _ ?_, hrun, hended, _, _, rfl, ?_, ⟨_, rfl⟩, hWr, hsame.mono (Nat.le_of_ble_eq_true rfl) (Nat.le_of_ble_eq_true rfl)⟩
    · show Steps p.tables e below (s₁.setTop (mkF m 6 #[.val (.int i0), .val (.int i1), .val (.int i2), .unset, .unset, .unset, .unset, .unset] [(.int (6 : Int32)), (.int (i0 &&& (2147483647 : Int32)))])) _
      refine iremM X0 hx rfl (hb hby at_6) rfl (by decide) ?_
      show Steps p.tables e below (s₁.setTop (mkF m 7 #[.val (.int i0), .val (.int i1), .val (.int i2), .unset, .unset, .unset, .unset, .unset] [(.int ((i0 &&& (2147483647 : Int32)) % (6 : Int32)))])) _
      rw [hk5]
      show Steps p.tables e below (s₁.setTop (mkF m 7 #[.val (.int i0), .val (.int i1), .val (.int i2), .unset, .unset, .unset, .unset, .unset] [(.int (3 : Int32))])) _
      refine XS.istoreN X0.here hx rfl (hb hby at_7) rfl (l' := #[.val (.int i0), .val (.int i1), .val (.int i2), .val (.int (3 : Int32)), .unset, .unset, .unset, .unset]) rfl ?_
      show Steps p.tables e below (s₁.setTop (mkF m 8 #[.val (.int i0), .val (.int i1), .val (.int i2), .val (.int (3 : Int32)), .unset, .unset, .unset, .unset] [])) _
      refine XS.iloadN X0.here hx rfl (hb hby at_8) rfl ?_
      show Steps p.tables e below (s₁.setTop (mkF m 9 #[.val (.int i0), .val (.int i1), .val (.int i2), .val (.int (3 : Int32)), .unset, .unset, .unset, .unset] [(.int (3 : Int32))])) _
      refine st45 _ ?_
      show Steps p.tables e below (T45.setTop (mkF m 12 #[.val (.int i0), .val (.int i1), .val (.int i2), .val (.int (3 : Int32)), .unset, .unset, .unset, .unset] [(.ref w5)])) _
      refine XS.astore X45.here hx rfl (hb hby at_12) rfl rfl (l' := #[.val (.int i0), .val (.int i1), .val (.int i2), .val (.int (3 : Int32)), .val (.ref w5), .unset, .unset, .unset]) rfl ?_
      show Steps p.tables e below (T45.setTop (mkF m 14 #[.val (.int i0), .val (.int i1), .val (.int i2), .val (.int (3 : Int32)), .val (.ref w5), .unset, .unset, .unset] [])) _
      refine XS.iconst X45.here hx rfl (hb hby at_14) ?_
      show Steps p.tables e below (T45.setTop (mkF m 15 #[.val (.int i0), .val (.int i1), .val (.int i2), .val (.int (3 : Int32)), .val (.ref w5), .unset, .unset, .unset] [(.int (-1 : Int32))])) _
      refine XS.iloadN X45.here hx rfl (hb hby at_15) rfl ?_
      show Steps p.tables e below (T45.setTop (mkF m 16 #[.val (.int i0), .val (.int i1), .val (.int i2), .val (.int (3 : Int32)), .val (.ref w5), .unset, .unset, .unset] [(.int i1), (.int (-1 : Int32))])) _
      refine X45.ldcInt hx hown (mvT hZ (hw _ (List.mem_of_getElem? (i := 8) rfl))) (g := (mkF m 16 #[.val (.int i0), .val (.int i1), .val (.int i2), .val (.int (3 : Int32)), .val (.ref w5), .unset, .unset, .unset] [(.int i1), (.int (-1 : Int32))])) rfl (hb hby at_16) _ ?_
      show Steps p.tables e below (T45.setTop (mkF m 18 #[.val (.int i0), .val (.int i1), .val (.int i2), .val (.int (3 : Int32)), .val (.ref w5), .unset, .unset, .unset] [(.int (1073741823 : Int32)), (.int i1), (.int (-1 : Int32))])) _
      refine XS.iand X45.here hx rfl (hb hby at_18) rfl ?_
      show Steps p.tables e below (T45.setTop (mkF m 19 #[.val (.int i0), .val (.int i1), .val (.int i2), .val (.int (3 : Int32)), .val (.ref w5), .unset, .unset, .unset] [(.int (i1 &&& (1073741823 : Int32))), (.int (-1 : Int32))])) _
      refine XS.isub X45.here hx rfl (hb hby at_19) rfl ?_
      show Steps p.tables e below (T45.setTop (mkF m 20 #[.val (.int i0), .val (.int i1), .val (.int i2), .val (.int (3 : Int32)), .val (.ref w5), .unset, .unset, .unset] [(.int ((-1 : Int32) - (i1 &&& (1073741823 : Int32))))])) _
      refine XS.istore X45.here hx rfl (hb hby at_20) rfl (l' := #[.val (.int i0), .val (.int i1), .val (.int i2), .val (.int (3 : Int32)), .val (.ref w5), .val (.int ((-1 : Int32) - (i1 &&& (1073741823 : Int32)))), .unset, .unset]) rfl ?_
      show Steps p.tables e below (T45.setTop (mkF m 22 #[.val (.int i0), .val (.int i1), .val (.int i2), .val (.int (3 : Int32)), .val (.ref w5), .val (.int ((-1 : Int32) - (i1 &&& (1073741823 : Int32)))), .unset, .unset] [])) _
      refine XS.iconst X45.here hx rfl (hb hby at_22) ?_
      show Steps p.tables e below (T45.setTop (mkF m 23 #[.val (.int i0), .val (.int i1), .val (.int i2), .val (.int (3 : Int32)), .val (.ref w5), .val (.int ((-1 : Int32) - (i1 &&& (1073741823 : Int32)))), .unset, .unset] [(.int (1 : Int32))])) _
      refine XS.iloadN X45.here hx rfl (hb hby at_23) rfl ?_
      show Steps p.tables e below (T45.setTop (mkF m 24 #[.val (.int i0), .val (.int i1), .val (.int i2), .val (.int (3 : Int32)), .val (.ref w5), .val (.int ((-1 : Int32) - (i1 &&& (1073741823 : Int32)))), .unset, .unset] [(.int i2), (.int (1 : Int32))])) _
      refine X45.ldcInt hx hown (mvT hZ (hw _ (List.mem_of_getElem? (i := 8) rfl))) (g := (mkF m 24 #[.val (.int i0), .val (.int i1), .val (.int i2), .val (.int (3 : Int32)), .val (.ref w5), .val (.int ((-1 : Int32) - (i1 &&& (1073741823 : Int32)))), .unset, .unset] [(.int i2), (.int (1 : Int32))])) rfl (hb hby at_24) _ ?_
      show Steps p.tables e below (T45.setTop (mkF m 26 #[.val (.int i0), .val (.int i1), .val (.int i2), .val (.int (3 : Int32)), .val (.ref w5), .val (.int ((-1 : Int32) - (i1 &&& (1073741823 : Int32)))), .unset, .unset] [(.int (1073741823 : Int32)), (.int i2), (.int (1 : Int32))])) _
      refine XS.iand X45.here hx rfl (hb hby at_26) rfl ?_
      show Steps p.tables e below (T45.setTop (mkF m 27 #[.val (.int i0), .val (.int i1), .val (.int i2), .val (.int (3 : Int32)), .val (.ref w5), .val (.int ((-1 : Int32) - (i1 &&& (1073741823 : Int32)))), .unset, .unset] [(.int (i2 &&& (1073741823 : Int32))), (.int (1 : Int32))])) _
      refine XS.iadd X45.here hx rfl (hb hby at_27) rfl ?_
      show Steps p.tables e below (T45.setTop (mkF m 28 #[.val (.int i0), .val (.int i1), .val (.int i2), .val (.int (3 : Int32)), .val (.ref w5), .val (.int ((-1 : Int32) - (i1 &&& (1073741823 : Int32)))), .unset, .unset] [(.int ((1 : Int32) + (i2 &&& (1073741823 : Int32))))])) _
      refine XS.istore X45.here hx rfl (hb hby at_28) rfl (l' := #[.val (.int i0), .val (.int i1), .val (.int i2), .val (.int (3 : Int32)), .val (.ref w5), .val (.int ((-1 : Int32) - (i1 &&& (1073741823 : Int32)))), .val (.int ((1 : Int32) + (i2 &&& (1073741823 : Int32)))), .unset]) rfl ?_
      show Steps p.tables e below (T45.setTop (mkF m 30 #[.val (.int i0), .val (.int i1), .val (.int i2), .val (.int (3 : Int32)), .val (.ref w5), .val (.int ((-1 : Int32) - (i1 &&& (1073741823 : Int32)))), .val (.int ((1 : Int32) + (i2 &&& (1073741823 : Int32)))), .unset] [])) _
      refine XS.aload X45.here hx rfl (hb hby at_30) rfl rfl ?_
      show Steps p.tables e below (T45.setTop (mkF m 32 #[.val (.int i0), .val (.int i1), .val (.int i2), .val (.int (3 : Int32)), .val (.ref w5), .val (.int ((-1 : Int32) - (i1 &&& (1073741823 : Int32)))), .val (.int ((1 : Int32) + (i2 &&& (1073741823 : Int32)))), .unset] [(.ref w5)])) _
      refine XS.iload X45.here hx rfl (hb hby at_32) rfl ?_
      show Steps p.tables e below (T45.setTop (mkF m 34 #[.val (.int i0), .val (.int i1), .val (.int i2), .val (.int (3 : Int32)), .val (.ref w5), .val (.int ((-1 : Int32) - (i1 &&& (1073741823 : Int32)))), .val (.int ((1 : Int32) + (i2 &&& (1073741823 : Int32)))), .unset] [(.int ((-1 : Int32) - (i1 &&& (1073741823 : Int32)))), (.ref w5)])) _
      refine st50.trans ?_
      show Steps p.tables e below (T50.setTop (mkF m 37 #[.val (.int i0), .val (.int i1), .val (.int i2), .val (.int (3 : Int32)), .val (.ref w5), .val (.int ((-1 : Int32) - (i1 &&& (1073741823 : Int32)))), .val (.int ((1 : Int32) + (i2 &&& (1073741823 : Int32)))), .unset] [(.int (0 : Int32))])) _
      refine XS.aload X50.here hx rfl (hb hby at_37) rfl rfl ?_
      show Steps p.tables e below (T50.setTop (mkF m 39 #[.val (.int i0), .val (.int i1), .val (.int i2), .val (.int (3 : Int32)), .val (.ref w5), .val (.int ((-1 : Int32) - (i1 &&& (1073741823 : Int32)))), .val (.int ((1 : Int32) + (i2 &&& (1073741823 : Int32)))), .unset] [(.ref w5), (.int (0 : Int32))])) _
      refine XS.iload X50.here hx rfl (hb hby at_39) rfl ?_
      show Steps p.tables e below (T50.setTop (mkF m 41 #[.val (.int i0), .val (.int i1), .val (.int i2), .val (.int (3 : Int32)), .val (.ref w5), .val (.int ((-1 : Int32) - (i1 &&& (1073741823 : Int32)))), .val (.int ((1 : Int32) + (i2 &&& (1073741823 : Int32)))), .unset] [(.int ((1 : Int32) + (i2 &&& (1073741823 : Int32)))), (.ref w5), (.int (0 : Int32))])) _
      refine st52.trans ?_
      show Steps p.tables e below (T52.setTop (mkF m 44 #[.val (.int i0), .val (.int i1), .val (.int i2), .val (.int (3 : Int32)), .val (.ref w5), .val (.int ((-1 : Int32) - (i1 &&& (1073741823 : Int32)))), .val (.int ((1 : Int32) + (i2 &&& (1073741823 : Int32)))), .unset] [(.int (1 : Int32)), (.int (0 : Int32))])) _
      refine XS.icmpYes X52.here hx rfl (pc0 := 44) (pc' := 51) rfl (hb hby at_44) rfl (by decide) (by decide) (by decide) ?_
      show Steps p.tables e below (T52.setTop (mkF m 51 #[.val (.int i0), .val (.int i1), .val (.int i2), .val (.int (3 : Int32)), .val (.ref w5), .val (.int ((-1 : Int32) - (i1 &&& (1073741823 : Int32)))), .val (.int ((1 : Int32) + (i2 &&& (1073741823 : Int32)))), .unset] [])) _
      refine XS.iconst X52.here hx rfl (hb hby at_51) ?_
      show Steps p.tables e below (T52.setTop (mkF m 52 #[.val (.int i0), .val (.int i1), .val (.int i2), .val (.int (3 : Int32)), .val (.ref w5), .val (.int ((-1 : Int32) - (i1 &&& (1073741823 : Int32)))), .val (.int ((1 : Int32) + (i2 &&& (1073741823 : Int32)))), .unset] [(.int (0 : Int32))])) _
      refine XS.istore X52.here hx rfl (hb hby at_52) rfl (l' := #[.val (.int i0), .val (.int i1), .val (.int i2), .val (.int (3 : Int32)), .val (.ref w5), .val (.int ((-1 : Int32) - (i1 &&& (1073741823 : Int32)))), .val (.int ((1 : Int32) + (i2 &&& (1073741823 : Int32)))), .val (.int (0 : Int32))]) rfl ?_
      show Steps p.tables e below (T52.setTop (mkF m 54 #[.val (.int i0), .val (.int i1), .val (.int i2), .val (.int (3 : Int32)), .val (.ref w5), .val (.int ((-1 : Int32) - (i1 &&& (1073741823 : Int32)))), .val (.int ((1 : Int32) + (i2 &&& (1073741823 : Int32)))), .val (.int (0 : Int32))] [])) _
      refine XS.aload X52.here hx rfl (hb hby at_54) rfl rfl ?_
      show Steps p.tables e below (T52.setTop (mkF m 56 #[.val (.int i0), .val (.int i1), .val (.int i2), .val (.int (3 : Int32)), .val (.ref w5), .val (.int ((-1 : Int32) - (i1 &&& (1073741823 : Int32)))), .val (.int ((1 : Int32) + (i2 &&& (1073741823 : Int32)))), .val (.int (0 : Int32))] [(.ref w5)])) _
      refine st55.trans ?_
      show Steps p.tables e below (T55.setTop (mkF m 59 #[.val (.int i0), .val (.int i1), .val (.int i2), .val (.int (3 : Int32)), .val (.ref w5), .val (.int ((-1 : Int32) - (i1 &&& (1073741823 : Int32)))), .val (.int ((1 : Int32) + (i2 &&& (1073741823 : Int32)))), .val (.int (0 : Int32))] [(.int (0 : Int32))])) _
      refine XS.iload X55.here hx rfl (hb hby at_59) rfl ?_
      show Steps p.tables e below (T55.setTop (mkF m 61 #[.val (.int i0), .val (.int i1), .val (.int i2), .val (.int (3 : Int32)), .val (.ref w5), .val (.int ((-1 : Int32) - (i1 &&& (1073741823 : Int32)))), .val (.int ((1 : Int32) + (i2 &&& (1073741823 : Int32)))), .val (.int (0 : Int32))] [(.int (0 : Int32)), (.int (0 : Int32))])) _
      refine XS.icmpNo X55.here hx rfl (hb hby at_61) rfl (by decide) ?_
      show Steps p.tables e below (T55.setTop (mkF m 64 #[.val (.int i0), .val (.int i1), .val (.int i2), .val (.int (3 : Int32)), .val (.ref w5), .val (.int ((-1 : Int32) - (i1 &&& (1073741823 : Int32)))), .val (.int ((1 : Int32) + (i2 &&& (1073741823 : Int32)))), .val (.int (0 : Int32))] [])) _
      refine XS.iconst X55.here hx rfl (hb hby at_64) ?_
      show Steps p.tables e below (T55.setTop (mkF m 65 #[.val (.int i0), .val (.int i1), .val (.int i2), .val (.int (3 : Int32)), .val (.ref w5), .val (.int ((-1 : Int32) - (i1 &&& (1073741823 : Int32)))), .val (.int ((1 : Int32) + (i2 &&& (1073741823 : Int32)))), .val (.int (0 : Int32))] [(.int (1 : Int32))])) _
      refine XS.goto X55.here hx rfl (pc0 := 65) (pc' := 69) rfl (hb hby at_65) (by decide) (by decide) ?_
      show Steps p.tables e below (T55.setTop (mkF m 69 #[.val (.int i0), .val (.int i1), .val (.int i2), .val (.int (3 : Int32)), .val (.ref w5), .val (.int ((-1 : Int32) - (i1 &&& (1073741823 : Int32)))), .val (.int ((1 : Int32) + (i2 &&& (1073741823 : Int32)))), .val (.int (0 : Int32))] [(.int (1 : Int32))])) _
      exact retN X55 hx (t := .boolean) Bd.returns (by simp) (hb hby at_69) hr
    · show Ql n0 _ T55.heap _
      exact ⟨rfl, N55⟩
  · obtain ⟨_, _, ⟨T57, L57, k57, n57⟩, -, X57, ⟨Lc57, hQ57, l57, y57, z57⟩, st57⟩ := Jvm.LawKit.callS X0 hx (y := (⟨"com/example/libgate/libgate/OperatorIsEqualityPinLaw", "pickOp", "(I)Lcom/example/libgate/libgate/Condition$Operator;"⟩ : MethodName)) hown (mvT hZ (hw _ (List.mem_of_getElem? (i := 1) rfl))) (mvT hZ (hw _ (List.mem_of_getElem? (i := 2) rfl))) (mvT hZ (hw _ (List.mem_of_getElem? (i := 3) rfl))) (mvT hZ (hw _ (List.mem_of_getElem? (i := 4) rfl))) (by decide) (backOf (W := 0) (rm21 l Z a0 hw [] w0 w1 w2 w3 w4 w5 h0 n0 hWd O0) hZ (hw _ (List.mem_of_getElem? (i := 4) rfl)) (hw _ (List.mem_of_getElem? (i := 3) rfl)) (by decide) (by decide)) (g := (mkF m 9 #[.val (.int i0), .val (.int i1), .val (.int i2), .val (.int (4 : Int32)), .unset, .unset, .unset, .unset] [(.int (4 : Int32))])) rfl (by rw [hml]; rfl) (argsL := [(.int (4 : Int32))]) (rest := []) (lenOf pd0 rfl) rfl (by show 2 * 0 + _ ≤ _; exact Nat.le_of_eq rfl) (hb hby at_9) (fun _ _ => ⟨rfl, e0, (by decide : 0 + 0 ≤ _), (by decide : 0 + 0 ≤ _)⟩)
    dsimp only [Pt.U, Pt.locs, Pt.cells, Pt.slots] at X57 l57 y57 z57 st57 hQ57
    subst l57 y57 z57
    obtain ⟨rfl, N57q, e57⟩ := hQ57
    have N57 := Fr.app N0 N57q
    obtain ⟨ha58, hb58, hc58⟩ := own_below i1
    obtain ⟨ha59, hb59, hc59⟩ := own_above i2
    obtain ⟨cq62, kq62, q62a, q62b, q62c⟩ := isOf hZ e57 (wE1.ext O0.2)
    obtain ⟨_, _, ⟨T62, L62, k62, n62⟩, -, X62, ⟨Lc62, hQ62, l62, y62, z62⟩, st62⟩ := X57.virtualBack hx (y := (⟨"com/example/libgate/libgate/Condition$Operator", "holds", "(I)Z"⟩ : MethodName)) (z := (⟨"com/example/libgate/libgate/Condition$Operator", "holds", "(I)Z"⟩ : MethodName)) hown (mvT hZ (hw _ (List.mem_of_getElem? (i := 9) rfl))) (mvT hZ (hw _ (List.mem_of_getElem? (i := 10) rfl))) (notFace_of_selects (args := #[]) (mvT hZ (hw _ (List.mem_of_getElem? (i := 12) rfl)))) (mvT hZ (hw _ (List.mem_of_getElem? (i := 12) rfl))) (mvT hZ (hw _ (List.mem_of_getElem? (i := 11) rfl))) (by decide) (backOf (W := 0) (rm22 l Z a0 hw [] w0 w1 w2 w3 w4 w5 ((-1 : Int32) - (i1 &&& (1073741823 : Int32))) h0 n0 hWd O0 ha58 hb58 hc58) hZ (hw _ (List.mem_of_getElem? (i := 13) rfl)) (hw _ (List.mem_of_getElem? (i := 6) rfl)) (by decide) (by decide)) q62a q62c (g := (mkF m 34 #[.val (.int i0), .val (.int i1), .val (.int i2), .val (.int (4 : Int32)), .val (.ref w1), .val (.int ((-1 : Int32) - (i1 &&& (1073741823 : Int32)))), .val (.int ((1 : Int32) + (i2 &&& (1073741823 : Int32)))), .unset] [(.int ((-1 : Int32) - (i1 &&& (1073741823 : Int32)))), (.ref w1)])) rfl (by rw [hml]; rfl) (Steps.refl _) (argsL := [(.int ((-1 : Int32) - (i1 &&& (1073741823 : Int32))))]) (rest := []) (lenOf pd2 rfl) rfl (by show 2 * 0 + _ ≤ _; exact Nat.le_of_eq rfl) (hb hby at_34) (fun _ _ => ⟨rfl, e57, (by decide : 0 + 0 ≤ _), (by decide : 0 + 0 ≤ _)⟩)
    dsimp only [Pt.U, Pt.locs, Pt.cells, Pt.slots] at X62 l62 y62 z62 st62 hQ62
    subst l62 y62 z62
    obtain ⟨rfl, N62q, e62⟩ := hQ62
    have N62 := Fr.app N57 N62q
    obtain ⟨cq64, kq64, q64a, q64b, q64c⟩ := isOf hZ e62 (wE1.ext O0.2)
    obtain ⟨_, _, ⟨T64, L64, k64, n64⟩, -, X64, ⟨Lc64, hQ64, l64, y64, z64⟩, st64⟩ := X62.virtualBack hx (y := (⟨"com/example/libgate/libgate/Condition$Operator", "holds", "(I)Z"⟩ : MethodName)) (z := (⟨"com/example/libgate/libgate/Condition$Operator", "holds", "(I)Z"⟩ : MethodName)) hown (mvT hZ (hw _ (List.mem_of_getElem? (i := 9) rfl))) (mvT hZ (hw _ (List.mem_of_getElem? (i := 10) rfl))) (notFace_of_selects (args := #[]) (mvT hZ (hw _ (List.mem_of_getElem? (i := 12) rfl)))) (mvT hZ (hw _ (List.mem_of_getElem? (i := 12) rfl))) (mvT hZ (hw _ (List.mem_of_getElem? (i := 11) rfl))) (by decide) (backOf (W := 1) (rm24 l Z a0 hw [] w0 w1 w2 w3 w4 w5 ((1 : Int32) + (i2 &&& (1073741823 : Int32))) h0 n0 hWd O0 ha59 hb59 hc59) hZ (hw _ (List.mem_of_getElem? (i := 13) rfl)) (hw _ (List.mem_of_getElem? (i := 6) rfl)) (by decide) (by decide)) q64a q64c (g := (mkF m 41 #[.val (.int i0), .val (.int i1), .val (.int i2), .val (.int (4 : Int32)), .val (.ref w1), .val (.int ((-1 : Int32) - (i1 &&& (1073741823 : Int32)))), .val (.int ((1 : Int32) + (i2 &&& (1073741823 : Int32)))), .unset] [(.int ((1 : Int32) + (i2 &&& (1073741823 : Int32)))), (.ref w1), (.int (0 : Int32))])) rfl (by rw [hml]; rfl) (Steps.refl _) (argsL := [(.int ((1 : Int32) + (i2 &&& (1073741823 : Int32))))]) (rest := [(.int (0 : Int32))]) (lenOf pd2 rfl) rfl (by show 2 * 0 + _ ≤ _; exact Nat.le_of_eq rfl) (hb hby at_41) (fun _ _ => ⟨rfl, e62, (by decide : 0 + 0 ≤ _), (by decide : 0 + 0 ≤ _)⟩)
    dsimp only [Pt.U, Pt.locs, Pt.cells, Pt.slots] at X64 l64 y64 z64 st64 hQ64
    subst l64 y64 z64
    obtain ⟨rfl, N64q, e64⟩ := hQ64
    have N64 := Fr.app N62 N64q
    obtain ⟨cq66, kq66, q66a, q66b, q66c⟩ := isOf hZ e64 (wE1.ext O0.2)
    obtain ⟨_, _, ⟨T66, L66, k66, n66⟩, -, X66, ⟨Lc66, hQ66, l66, y66, z66⟩, st66⟩ := X64.virtualBack hx (y := (⟨"com/example/libgate/libgate/Condition$Operator", "isEquality", "()Z"⟩ : MethodName)) (z := (⟨"com/example/libgate/libgate/Condition$Operator", "isEquality", "()Z"⟩ : MethodName)) hown (mvT hZ (hw _ (List.mem_of_getElem? (i := 23) rfl))) (mvT hZ (hw _ (List.mem_of_getElem? (i := 24) rfl))) (notFace_of_selects (args := #[]) (mvT hZ (hw _ (List.mem_of_getElem? (i := 26) rfl)))) (mvT hZ (hw _ (List.mem_of_getElem? (i := 26) rfl))) (mvT hZ (hw _ (List.mem_of_getElem? (i := 25) rfl))) (by decide) (backOf (W := 0) (rm25 l Z a0 hw [] w0 w1 w2 w3 w4 w5 h0 n0 hWd O0) hZ (hw _ (List.mem_of_getElem? (i := 27) rfl)) (hw _ (List.mem_of_getElem? (i := 6) rfl)) (by decide) (by decide)) q66a q66c (g := (mkF m 56 #[.val (.int i0), .val (.int i1), .val (.int i2), .val (.int (4 : Int32)), .val (.ref w1), .val (.int ((-1 : Int32) - (i1 &&& (1073741823 : Int32)))), .val (.int ((1 : Int32) + (i2 &&& (1073741823 : Int32)))), .val (.int (1 : Int32))] [(.ref w1)])) rfl (by rw [hml]; rfl) (Steps.refl _) (argsL := []) (rest := []) (lenOf pd3 rfl) rfl (by show 2 * 0 + _ ≤ _; exact Nat.le_of_eq rfl) (hb hby at_56) (fun _ _ => ⟨rfl, e64, (by decide : 0 + 0 ≤ _), (by decide : 0 + 0 ≤ _)⟩)
    dsimp only [Pt.U, Pt.locs, Pt.cells, Pt.slots] at X66 l66 y66 z66 st66 hQ66
    subst l66 y66 z66
    obtain ⟨rfl, N66q, e66⟩ := hQ66
    have N66 := Fr.app N64 N66q
    obtain ⟨fs, hr, hrun, hended, hWr, hsame⟩ := X66.leave (v := some (.int (1 : Int32))) (fun h => by rw [Bd.returns] at h; cases h) hlk
    refine ⟨_, _, pre1 _ ?_, hrun, hended, _, _, rfl, ?_, ⟨_, rfl⟩, hWr, hsame.mono (Nat.le_of_ble_eq_true rfl) (Nat.le_of_ble_eq_true rfl)⟩
    · show Steps p.tables e below (s₁.setTop (mkF m 6 #[.val (.int i0), .val (.int i1), .val (.int i2), .unset, .unset, .unset, .unset, .unset] [(.int (6 : Int32)), (.int (i0 &&& (2147483647 : Int32)))])) _
      refine iremM X0 hx rfl (hb hby at_6) rfl (by decide) ?_
      show Steps p.tables e below (s₁.setTop (mkF m 7 #[.val (.int i0), .val (.int i1), .val (.int i2), .unset, .unset, .unset, .unset, .unset] [(.int ((i0 &&& (2147483647 : Int32)) % (6 : Int32)))])) _
      rw [hk6]
      show Steps p.tables e below (s₁.setTop (mkF m 7 #[.val (.int i0), .val (.int i1), .val (.int i2), .unset, .unset, .unset, .unset, .unset] [(.int (4 : Int32))])) _
      refine XS.istoreN X0.here hx rfl (hb hby at_7) rfl (l' := #[.val (.int i0), .val (.int i1), .val (.int i2), .val (.int (4 : Int32)), .unset, .unset, .unset, .unset]) rfl ?_
      show Steps p.tables e below (s₁.setTop (mkF m 8 #[.val (.int i0), .val (.int i1), .val (.int i2), .val (.int (4 : Int32)), .unset, .unset, .unset, .unset] [])) _
      refine XS.iloadN X0.here hx rfl (hb hby at_8) rfl ?_
      show Steps p.tables e below (s₁.setTop (mkF m 9 #[.val (.int i0), .val (.int i1), .val (.int i2), .val (.int (4 : Int32)), .unset, .unset, .unset, .unset] [(.int (4 : Int32))])) _
      refine st57 _ ?_
      show Steps p.tables e below (T57.setTop (mkF m 12 #[.val (.int i0), .val (.int i1), .val (.int i2), .val (.int (4 : Int32)), .unset, .unset, .unset, .unset] [(.ref w1)])) _
      refine XS.astore X57.here hx rfl (hb hby at_12) rfl rfl (l' := #[.val (.int i0), .val (.int i1), .val (.int i2), .val (.int (4 : Int32)), .val (.ref w1), .unset, .unset, .unset]) rfl ?_
      show Steps p.tables e below (T57.setTop (mkF m 14 #[.val (.int i0), .val (.int i1), .val (.int i2), .val (.int (4 : Int32)), .val (.ref w1), .unset, .unset, .unset] [])) _
      refine XS.iconst X57.here hx rfl (hb hby at_14) ?_
      show Steps p.tables e below (T57.setTop (mkF m 15 #[.val (.int i0), .val (.int i1), .val (.int i2), .val (.int (4 : Int32)), .val (.ref w1), .unset, .unset, .unset] [(.int (-1 : Int32))])) _
      refine XS.iloadN X57.here hx rfl (hb hby at_15) rfl ?_
      show Steps p.tables e below (T57.setTop (mkF m 16 #[.val (.int i0), .val (.int i1), .val (.int i2), .val (.int (4 : Int32)), .val (.ref w1), .unset, .unset, .unset] [(.int i1), (.int (-1 : Int32))])) _
      refine X57.ldcInt hx hown (mvT hZ (hw _ (List.mem_of_getElem? (i := 8) rfl))) (g := (mkF m 16 #[.val (.int i0), .val (.int i1), .val (.int i2), .val (.int (4 : Int32)), .val (.ref w1), .unset, .unset, .unset] [(.int i1), (.int (-1 : Int32))])) rfl (hb hby at_16) _ ?_
      show Steps p.tables e below (T57.setTop (mkF m 18 #[.val (.int i0), .val (.int i1), .val (.int i2), .val (.int (4 : Int32)), .val (.ref w1), .unset, .unset, .unset] [(.int (1073741823 : Int32)), (.int i1), (.int (-1 : Int32))])) _
      refine XS.iand X57.here hx rfl (hb hby at_18) rfl ?_
      show Steps p.tables e below (T57.setTop (mkF m 19 #[.val (.int i0), .val (.int i1), .val (.int i2), .val (.int (4 : Int32)), .val (.ref w1), .unset, .unset, .unset] [(.int (i1 &&& (1073741823 : Int32))), (.int (-1 : Int32))])) _
      refine XS.isub X57.here hx rfl (hb hby at_19) rfl ?_
      show Steps p.tables e below (T57.setTop (mkF m 20 #[.val (.int i0), .val (.int i1), .val (.int i2), .val (.int (4 : Int32)), .val (.ref w1), .unset, .unset, .unset] [(.int ((-1 : Int32) - (i1 &&& (1073741823 : Int32))))])) _
      refine XS.istore X57.here hx rfl (hb hby at_20) rfl (l' := #[.val (.int i0), .val (.int i1), .val (.int i2), .val (.int (4 : Int32)), .val (.ref w1), .val (.int ((-1 : Int32) - (i1 &&& (1073741823 : Int32)))), .unset, .unset]) rfl ?_
      show Steps p.tables e below (T57.setTop (mkF m 22 #[.val (.int i0), .val (.int i1), .val (.int i2), .val (.int (4 : Int32)), .val (.ref w1), .val (.int ((-1 : Int32) - (i1 &&& (1073741823 : Int32)))), .unset, .unset] [])) _
      refine XS.iconst X57.here hx rfl (hb hby at_22) ?_
      show Steps p.tables e below (T57.setTop (mkF m 23 #[.val (.int i0), .val (.int i1), .val (.int i2), .val (.int (4 : Int32)), .val (.ref w1), .val (.int ((-1 : Int32) - (i1 &&& (1073741823 : Int32)))), .unset, .unset] [(.int (1 : Int32))])) _
      refine XS.iloadN X57.here hx rfl (hb hby at_23) rfl ?_
      show Steps p.tables e below (T57.setTop (mkF m 24 #[.val (.int i0), .val (.int i1), .val (.int i2), .val (.int (4 : Int32)), .val (.ref w1), .val (.int ((-1 : Int32) - (i1 &&& (1073741823 : Int32)))), .unset, .unset] [(.int i2), (.int (1 : Int32))])) _
      refine X57.ldcInt hx hown (mvT hZ (hw _ (List.mem_of_getElem? (i := 8) rfl))) (g := (mkF m 24 #[.val (.int i0), .val (.int i1), .val (.int i2), .val (.int (4 : Int32)), .val (.ref w1), .val (.int ((-1 : Int32) - (i1 &&& (1073741823 : Int32)))), .unset, .unset] [(.int i2), (.int (1 : Int32))])) rfl (hb hby at_24) _ ?_
      show Steps p.tables e below (T57.setTop (mkF m 26 #[.val (.int i0), .val (.int i1), .val (.int i2), .val (.int (4 : Int32)), .val (.ref w1), .val (.int ((-1 : Int32) - (i1 &&& (1073741823 : Int32)))), .unset, .unset] [(.int (1073741823 : Int32)), (.int i2), (.int (1 : Int32))])) _
      refine XS.iand X57.here hx rfl (hb hby at_26) rfl ?_
      show Steps p.tables e below (T57.setTop (mkF m 27 #[.val (.int i0), .val (.int i1), .val (.int i2), .val (.int (4 : Int32)), .val (.ref w1), .val (.int ((-1 : Int32) - (i1 &&& (1073741823 : Int32)))), .unset, .unset] [(.int (i2 &&& (1073741823 : Int32))), (.int (1 : Int32))])) _
      refine XS.iadd X57.here hx rfl (hb hby at_27) rfl ?_
      show Steps p.tables e below (T57.setTop (mkF m 28 #[.val (.int i0), .val (.int i1), .val (.int i2), .val (.int (4 : Int32)), .val (.ref w1), .val (.int ((-1 : Int32) - (i1 &&& (1073741823 : Int32)))), .unset, .unset] [(.int ((1 : Int32) + (i2 &&& (1073741823 : Int32))))])) _
      refine XS.istore X57.here hx rfl (hb hby at_28) rfl (l' := #[.val (.int i0), .val (.int i1), .val (.int i2), .val (.int (4 : Int32)), .val (.ref w1), .val (.int ((-1 : Int32) - (i1 &&& (1073741823 : Int32)))), .val (.int ((1 : Int32) + (i2 &&& (1073741823 : Int32)))), .unset]) rfl ?_
      show Steps p.tables e below (T57.setTop (mkF m 30 #[.val (.int i0), .val (.int i1), .val (.int i2), .val (.int (4 : Int32)), .val (.ref w1), .val (.int ((-1 : Int32) - (i1 &&& (1073741823 : Int32)))), .val (.int ((1 : Int32) + (i2 &&& (1073741823 : Int32)))), .unset] [])) _
      refine XS.aload X57.here hx rfl (hb hby at_30) rfl rfl ?_
      show Steps p.tables e below (T57.setTop (mkF m 32 #[.val (.int i0), .val (.int i1), .val (.int i2), .val (.int (4 : Int32)), .val (.ref w1), .val (.int ((-1 : Int32) - (i1 &&& (1073741823 : Int32)))), .val (.int ((1 : Int32) + (i2 &&& (1073741823 : Int32)))), .unset] [(.ref w1)])) _
      refine XS.iload X57.here hx rfl (hb hby at_32) rfl ?_
      show Steps p.tables e below (T57.setTop (mkF m 34 #[.val (.int i0), .val (.int i1), .val (.int i2), .val (.int (4 : Int32)), .val (.ref w1), .val (.int ((-1 : Int32) - (i1 &&& (1073741823 : Int32)))), .val (.int ((1 : Int32) + (i2 &&& (1073741823 : Int32)))), .unset] [(.int ((-1 : Int32) - (i1 &&& (1073741823 : Int32)))), (.ref w1)])) _
      refine st62.trans ?_
      show Steps p.tables e below (T62.setTop (mkF m 37 #[.val (.int i0), .val (.int i1), .val (.int i2), .val (.int (4 : Int32)), .val (.ref w1), .val (.int ((-1 : Int32) - (i1 &&& (1073741823 : Int32)))), .val (.int ((1 : Int32) + (i2 &&& (1073741823 : Int32)))), .unset] [(.int (0 : Int32))])) _
      refine XS.aload X62.here hx rfl (hb hby at_37) rfl rfl ?_
      show Steps p.tables e below (T62.setTop (mkF m 39 #[.val (.int i0), .val (.int i1), .val (.int i2), .val (.int (4 : Int32)), .val (.ref w1), .val (.int ((-1 : Int32) - (i1 &&& (1073741823 : Int32)))), .val (.int ((1 : Int32) + (i2 &&& (1073741823 : Int32)))), .unset] [(.ref w1), (.int (0 : Int32))])) _
      refine XS.iload X62.here hx rfl (hb hby at_39) rfl ?_
      show Steps p.tables e below (T62.setTop (mkF m 41 #[.val (.int i0), .val (.int i1), .val (.int i2), .val (.int (4 : Int32)), .val (.ref w1), .val (.int ((-1 : Int32) - (i1 &&& (1073741823 : Int32)))), .val (.int ((1 : Int32) + (i2 &&& (1073741823 : Int32)))), .unset] [(.int ((1 : Int32) + (i2 &&& (1073741823 : Int32)))), (.ref w1), (.int (0 : Int32))])) _
      refine st64.trans ?_
      show Steps p.tables e below (T64.setTop (mkF m 44 #[.val (.int i0), .val (.int i1), .val (.int i2), .val (.int (4 : Int32)), .val (.ref w1), .val (.int ((-1 : Int32) - (i1 &&& (1073741823 : Int32)))), .val (.int ((1 : Int32) + (i2 &&& (1073741823 : Int32)))), .unset] [(.int (0 : Int32)), (.int (0 : Int32))])) _
      refine XS.icmpNo X64.here hx rfl (hb hby at_44) rfl (by decide) ?_
      show Steps p.tables e below (T64.setTop (mkF m 47 #[.val (.int i0), .val (.int i1), .val (.int i2), .val (.int (4 : Int32)), .val (.ref w1), .val (.int ((-1 : Int32) - (i1 &&& (1073741823 : Int32)))), .val (.int ((1 : Int32) + (i2 &&& (1073741823 : Int32)))), .unset] [])) _
      refine XS.iconst X64.here hx rfl (hb hby at_47) ?_
      show Steps p.tables e below (T64.setTop (mkF m 48 #[.val (.int i0), .val (.int i1), .val (.int i2), .val (.int (4 : Int32)), .val (.ref w1), .val (.int ((-1 : Int32) - (i1 &&& (1073741823 : Int32)))), .val (.int ((1 : Int32) + (i2 &&& (1073741823 : Int32)))), .unset] [(.int (1 : Int32))])) _
      refine XS.goto X64.here hx rfl (pc0 := 48) (pc' := 52) rfl (hb hby at_48) (by decide) (by decide) ?_
      show Steps p.tables e below (T64.setTop (mkF m 52 #[.val (.int i0), .val (.int i1), .val (.int i2), .val (.int (4 : Int32)), .val (.ref w1), .val (.int ((-1 : Int32) - (i1 &&& (1073741823 : Int32)))), .val (.int ((1 : Int32) + (i2 &&& (1073741823 : Int32)))), .unset] [(.int (1 : Int32))])) _
      refine XS.istore X64.here hx rfl (hb hby at_52) rfl (l' := #[.val (.int i0), .val (.int i1), .val (.int i2), .val (.int (4 : Int32)), .val (.ref w1), .val (.int ((-1 : Int32) - (i1 &&& (1073741823 : Int32)))), .val (.int ((1 : Int32) + (i2 &&& (1073741823 : Int32)))), .val (.int (1 : Int32))]) rfl ?_
      show Steps p.tables e below (T64.setTop (mkF m 54 #[.val (.int i0), .val (.int i1), .val (.int i2), .val (.int (4 : Int32)), .val (.ref w1), .val (.int ((-1 : Int32) - (i1 &&& (1073741823 : Int32)))), .val (.int ((1 : Int32) + (i2 &&& (1073741823 : Int32)))), .val (.int (1 : Int32))] [])) _
      refine XS.aload X64.here hx rfl (hb hby at_54) rfl rfl ?_
      show Steps p.tables e below (T64.setTop (mkF m 56 #[.val (.int i0), .val (.int i1), .val (.int i2), .val (.int (4 : Int32)), .val (.ref w1), .val (.int ((-1 : Int32) - (i1 &&& (1073741823 : Int32)))), .val (.int ((1 : Int32) + (i2 &&& (1073741823 : Int32)))), .val (.int (1 : Int32))] [(.ref w1)])) _
      refine st66.trans ?_
      show Steps p.tables e below (T66.setTop (mkF m 59 #[.val (.int i0), .val (.int i1), .val (.int i2), .val (.int (4 : Int32)), .val (.ref w1), .val (.int ((-1 : Int32) - (i1 &&& (1073741823 : Int32)))), .val (.int ((1 : Int32) + (i2 &&& (1073741823 : Int32)))), .val (.int (1 : Int32))] [(.int (1 : Int32))])) _
      refine XS.iload X66.here hx rfl (hb hby at_59) rfl ?_
      show Steps p.tables e below (T66.setTop (mkF m 61 #[.val (.int i0), .val (.int i1), .val (.int i2), .val (.int (4 : Int32)), .val (.ref w1), .val (.int ((-1 : Int32) - (i1 &&& (1073741823 : Int32)))), .val (.int ((1 : Int32) + (i2 &&& (1073741823 : Int32)))), .val (.int (1 : Int32))] [(.int (1 : Int32)), (.int (1 : Int32))])) _
      refine XS.icmpNo X66.here hx rfl (hb hby at_61) rfl (by decide) ?_
      show Steps p.tables e below (T66.setTop (mkF m 64 #[.val (.int i0), .val (.int i1), .val (.int i2), .val (.int (4 : Int32)), .val (.ref w1), .val (.int ((-1 : Int32) - (i1 &&& (1073741823 : Int32)))), .val (.int ((1 : Int32) + (i2 &&& (1073741823 : Int32)))), .val (.int (1 : Int32))] [])) _
      refine XS.iconst X66.here hx rfl (hb hby at_64) ?_
      show Steps p.tables e below (T66.setTop (mkF m 65 #[.val (.int i0), .val (.int i1), .val (.int i2), .val (.int (4 : Int32)), .val (.ref w1), .val (.int ((-1 : Int32) - (i1 &&& (1073741823 : Int32)))), .val (.int ((1 : Int32) + (i2 &&& (1073741823 : Int32)))), .val (.int (1 : Int32))] [(.int (1 : Int32))])) _
      refine XS.goto X66.here hx rfl (pc0 := 65) (pc' := 69) rfl (hb hby at_65) (by decide) (by decide) ?_
      show Steps p.tables e below (T66.setTop (mkF m 69 #[.val (.int i0), .val (.int i1), .val (.int i2), .val (.int (4 : Int32)), .val (.ref w1), .val (.int ((-1 : Int32) - (i1 &&& (1073741823 : Int32)))), .val (.int ((1 : Int32) + (i2 &&& (1073741823 : Int32)))), .val (.int (1 : Int32))] [(.int (1 : Int32))])) _
      exact retN X66 hx (t := .boolean) Bd.returns (by simp) (hb hby at_69) hr
    · show Ql n0 _ T66.heap _
      exact ⟨rfl, N66⟩
  · obtain ⟨_, _, ⟨T68, L68, k68, n68⟩, -, X68, ⟨Lc68, hQ68, l68, y68, z68⟩, st68⟩ := Jvm.LawKit.callS X0 hx (y := (⟨"com/example/libgate/libgate/OperatorIsEqualityPinLaw", "pickOp", "(I)Lcom/example/libgate/libgate/Condition$Operator;"⟩ : MethodName)) hown (mvT hZ (hw _ (List.mem_of_getElem? (i := 1) rfl))) (mvT hZ (hw _ (List.mem_of_getElem? (i := 2) rfl))) (mvT hZ (hw _ (List.mem_of_getElem? (i := 3) rfl))) (mvT hZ (hw _ (List.mem_of_getElem? (i := 4) rfl))) (by decide) (backOf (W := 0) (rm26 l Z a0 hw [] w0 w1 w2 w3 w4 w5 h0 n0 hWd O0) hZ (hw _ (List.mem_of_getElem? (i := 4) rfl)) (hw _ (List.mem_of_getElem? (i := 3) rfl)) (by decide) (by decide)) (g := (mkF m 9 #[.val (.int i0), .val (.int i1), .val (.int i2), .val (.int (5 : Int32)), .unset, .unset, .unset, .unset] [(.int (5 : Int32))])) rfl (by rw [hml]; rfl) (argsL := [(.int (5 : Int32))]) (rest := []) (lenOf pd0 rfl) rfl (by show 2 * 0 + _ ≤ _; exact Nat.le_of_eq rfl) (hb hby at_9) (fun _ _ => ⟨rfl, e0, (by decide : 0 + 0 ≤ _), (by decide : 0 + 0 ≤ _)⟩)
    dsimp only [Pt.U, Pt.locs, Pt.cells, Pt.slots] at X68 l68 y68 z68 st68 hQ68
    subst l68 y68 z68
    obtain ⟨rfl, N68q, e68⟩ := hQ68
    have N68 := Fr.app N0 N68q
    obtain ⟨ha69, hb69, hc69⟩ := own_below i1
    obtain ⟨ha70, hb70, hc70⟩ := own_above i2
    obtain ⟨cq73, kq73, q73a, q73b, q73c⟩ := isOf hZ e68 (wE2.ext O0.2)
    obtain ⟨_, _, ⟨T73, L73, k73, n73⟩, -, X73, ⟨Lc73, hQ73, l73, y73, z73⟩, st73⟩ := X68.virtualBack hx (y := (⟨"com/example/libgate/libgate/Condition$Operator", "holds", "(I)Z"⟩ : MethodName)) (z := (⟨"com/example/libgate/libgate/Condition$Operator", "holds", "(I)Z"⟩ : MethodName)) hown (mvT hZ (hw _ (List.mem_of_getElem? (i := 9) rfl))) (mvT hZ (hw _ (List.mem_of_getElem? (i := 10) rfl))) (notFace_of_selects (args := #[]) (mvT hZ (hw _ (List.mem_of_getElem? (i := 12) rfl)))) (mvT hZ (hw _ (List.mem_of_getElem? (i := 12) rfl))) (mvT hZ (hw _ (List.mem_of_getElem? (i := 11) rfl))) (by decide) (backOf (W := 0) (rm27 l Z a0 hw [] w0 w1 w2 w3 w4 w5 ((-1 : Int32) - (i1 &&& (1073741823 : Int32))) h0 n0 hWd O0 ha69 hb69 hc69) hZ (hw _ (List.mem_of_getElem? (i := 13) rfl)) (hw _ (List.mem_of_getElem? (i := 6) rfl)) (by decide) (by decide)) q73a q73c (g := (mkF m 34 #[.val (.int i0), .val (.int i1), .val (.int i2), .val (.int (5 : Int32)), .val (.ref w2), .val (.int ((-1 : Int32) - (i1 &&& (1073741823 : Int32)))), .val (.int ((1 : Int32) + (i2 &&& (1073741823 : Int32)))), .unset] [(.int ((-1 : Int32) - (i1 &&& (1073741823 : Int32)))), (.ref w2)])) rfl (by rw [hml]; rfl) (Steps.refl _) (argsL := [(.int ((-1 : Int32) - (i1 &&& (1073741823 : Int32))))]) (rest := []) (lenOf pd2 rfl) rfl (by show 2 * 0 + _ ≤ _; exact Nat.le_of_eq rfl) (hb hby at_34) (fun _ _ => ⟨rfl, e68, (by decide : 0 + 0 ≤ _), (by decide : 0 + 0 ≤ _)⟩)
    dsimp only [Pt.U, Pt.locs, Pt.cells, Pt.slots] at X73 l73 y73 z73 st73 hQ73
    subst l73 y73 z73
    obtain ⟨rfl, N73q, e73⟩ := hQ73
    have N73 := Fr.app N68 N73q
    obtain ⟨cq75, kq75, q75a, q75b, q75c⟩ := isOf hZ e73 (wE2.ext O0.2)
    obtain ⟨_, _, ⟨T75, L75, k75, n75⟩, -, X75, ⟨Lc75, hQ75, l75, y75, z75⟩, st75⟩ := X73.virtualBack hx (y := (⟨"com/example/libgate/libgate/Condition$Operator", "holds", "(I)Z"⟩ : MethodName)) (z := (⟨"com/example/libgate/libgate/Condition$Operator", "holds", "(I)Z"⟩ : MethodName)) hown (mvT hZ (hw _ (List.mem_of_getElem? (i := 9) rfl))) (mvT hZ (hw _ (List.mem_of_getElem? (i := 10) rfl))) (notFace_of_selects (args := #[]) (mvT hZ (hw _ (List.mem_of_getElem? (i := 12) rfl)))) (mvT hZ (hw _ (List.mem_of_getElem? (i := 12) rfl))) (mvT hZ (hw _ (List.mem_of_getElem? (i := 11) rfl))) (by decide) (backOf (W := 1) (rm29 l Z a0 hw [] w0 w1 w2 w3 w4 w5 ((1 : Int32) + (i2 &&& (1073741823 : Int32))) h0 n0 hWd O0 ha70 hb70 hc70) hZ (hw _ (List.mem_of_getElem? (i := 13) rfl)) (hw _ (List.mem_of_getElem? (i := 6) rfl)) (by decide) (by decide)) q75a q75c (g := (mkF m 41 #[.val (.int i0), .val (.int i1), .val (.int i2), .val (.int (5 : Int32)), .val (.ref w2), .val (.int ((-1 : Int32) - (i1 &&& (1073741823 : Int32)))), .val (.int ((1 : Int32) + (i2 &&& (1073741823 : Int32)))), .unset] [(.int ((1 : Int32) + (i2 &&& (1073741823 : Int32)))), (.ref w2), (.int (1 : Int32))])) rfl (by rw [hml]; rfl) (Steps.refl _) (argsL := [(.int ((1 : Int32) + (i2 &&& (1073741823 : Int32))))]) (rest := [(.int (1 : Int32))]) (lenOf pd2 rfl) rfl (by show 2 * 0 + _ ≤ _; exact Nat.le_of_eq rfl) (hb hby at_41) (fun _ _ => ⟨rfl, e73, (by decide : 0 + 0 ≤ _), (by decide : 0 + 0 ≤ _)⟩)
    dsimp only [Pt.U, Pt.locs, Pt.cells, Pt.slots] at X75 l75 y75 z75 st75 hQ75
    subst l75 y75 z75
    obtain ⟨rfl, N75q, e75⟩ := hQ75
    have N75 := Fr.app N73 N75q
    obtain ⟨cq78, kq78, q78a, q78b, q78c⟩ := isOf hZ e75 (wE2.ext O0.2)
    obtain ⟨_, _, ⟨T78, L78, k78, n78⟩, -, X78, ⟨Lc78, hQ78, l78, y78, z78⟩, st78⟩ := X75.virtualBack hx (y := (⟨"com/example/libgate/libgate/Condition$Operator", "isEquality", "()Z"⟩ : MethodName)) (z := (⟨"com/example/libgate/libgate/Condition$Operator", "isEquality", "()Z"⟩ : MethodName)) hown (mvT hZ (hw _ (List.mem_of_getElem? (i := 23) rfl))) (mvT hZ (hw _ (List.mem_of_getElem? (i := 24) rfl))) (notFace_of_selects (args := #[]) (mvT hZ (hw _ (List.mem_of_getElem? (i := 26) rfl)))) (mvT hZ (hw _ (List.mem_of_getElem? (i := 26) rfl))) (mvT hZ (hw _ (List.mem_of_getElem? (i := 25) rfl))) (by decide) (backOf (W := 0) (rm30 l Z a0 hw [] w0 w1 w2 w3 w4 w5 h0 n0 hWd O0) hZ (hw _ (List.mem_of_getElem? (i := 27) rfl)) (hw _ (List.mem_of_getElem? (i := 6) rfl)) (by decide) (by decide)) q78a q78c (g := (mkF m 56 #[.val (.int i0), .val (.int i1), .val (.int i2), .val (.int (5 : Int32)), .val (.ref w2), .val (.int ((-1 : Int32) - (i1 &&& (1073741823 : Int32)))), .val (.int ((1 : Int32) + (i2 &&& (1073741823 : Int32)))), .val (.int (1 : Int32))] [(.ref w2)])) rfl (by rw [hml]; rfl) (Steps.refl _) (argsL := []) (rest := []) (lenOf pd3 rfl) rfl (by show 2 * 0 + _ ≤ _; exact Nat.le_of_eq rfl) (hb hby at_56) (fun _ _ => ⟨rfl, e75, (by decide : 0 + 0 ≤ _), (by decide : 0 + 0 ≤ _)⟩)
    dsimp only [Pt.U, Pt.locs, Pt.cells, Pt.slots] at X78 l78 y78 z78 st78 hQ78
    subst l78 y78 z78
    obtain ⟨rfl, N78q, e78⟩ := hQ78
    have N78 := Fr.app N75 N78q
    obtain ⟨fs, hr, hrun, hended, hWr, hsame⟩ := X78.leave (v := some (.int (1 : Int32))) (fun h => by rw [Bd.returns] at h; cases h) hlk
    refine ⟨_, _, pre1 _ ?_, hrun, hended, _, _, rfl, ?_, ⟨_, rfl⟩, hWr, hsame.mono (Nat.le_of_ble_eq_true rfl) (Nat.le_of_ble_eq_true rfl)⟩
    · show Steps p.tables e below (s₁.setTop (mkF m 6 #[.val (.int i0), .val (.int i1), .val (.int i2), .unset, .unset, .unset, .unset, .unset] [(.int (6 : Int32)), (.int (i0 &&& (2147483647 : Int32)))])) _
      refine iremM X0 hx rfl (hb hby at_6) rfl (by decide) ?_
      show Steps p.tables e below (s₁.setTop (mkF m 7 #[.val (.int i0), .val (.int i1), .val (.int i2), .unset, .unset, .unset, .unset, .unset] [(.int ((i0 &&& (2147483647 : Int32)) % (6 : Int32)))])) _
      rw [hk7]
      show Steps p.tables e below (s₁.setTop (mkF m 7 #[.val (.int i0), .val (.int i1), .val (.int i2), .unset, .unset, .unset, .unset, .unset] [(.int (5 : Int32))])) _
      refine XS.istoreN X0.here hx rfl (hb hby at_7) rfl (l' := #[.val (.int i0), .val (.int i1), .val (.int i2), .val (.int (5 : Int32)), .unset, .unset, .unset, .unset]) rfl ?_
      show Steps p.tables e below (s₁.setTop (mkF m 8 #[.val (.int i0), .val (.int i1), .val (.int i2), .val (.int (5 : Int32)), .unset, .unset, .unset, .unset] [])) _
      refine XS.iloadN X0.here hx rfl (hb hby at_8) rfl ?_
      show Steps p.tables e below (s₁.setTop (mkF m 9 #[.val (.int i0), .val (.int i1), .val (.int i2), .val (.int (5 : Int32)), .unset, .unset, .unset, .unset] [(.int (5 : Int32))])) _
      refine st68 _ ?_
      show Steps p.tables e below (T68.setTop (mkF m 12 #[.val (.int i0), .val (.int i1), .val (.int i2), .val (.int (5 : Int32)), .unset, .unset, .unset, .unset] [(.ref w2)])) _
      refine XS.astore X68.here hx rfl (hb hby at_12) rfl rfl (l' := #[.val (.int i0), .val (.int i1), .val (.int i2), .val (.int (5 : Int32)), .val (.ref w2), .unset, .unset, .unset]) rfl ?_
      show Steps p.tables e below (T68.setTop (mkF m 14 #[.val (.int i0), .val (.int i1), .val (.int i2), .val (.int (5 : Int32)), .val (.ref w2), .unset, .unset, .unset] [])) _
      refine XS.iconst X68.here hx rfl (hb hby at_14) ?_
      show Steps p.tables e below (T68.setTop (mkF m 15 #[.val (.int i0), .val (.int i1), .val (.int i2), .val (.int (5 : Int32)), .val (.ref w2), .unset, .unset, .unset] [(.int (-1 : Int32))])) _
      refine XS.iloadN X68.here hx rfl (hb hby at_15) rfl ?_
      show Steps p.tables e below (T68.setTop (mkF m 16 #[.val (.int i0), .val (.int i1), .val (.int i2), .val (.int (5 : Int32)), .val (.ref w2), .unset, .unset, .unset] [(.int i1), (.int (-1 : Int32))])) _
      refine X68.ldcInt hx hown (mvT hZ (hw _ (List.mem_of_getElem? (i := 8) rfl))) (g := (mkF m 16 #[.val (.int i0), .val (.int i1), .val (.int i2), .val (.int (5 : Int32)), .val (.ref w2), .unset, .unset, .unset] [(.int i1), (.int (-1 : Int32))])) rfl (hb hby at_16) _ ?_
      show Steps p.tables e below (T68.setTop (mkF m 18 #[.val (.int i0), .val (.int i1), .val (.int i2), .val (.int (5 : Int32)), .val (.ref w2), .unset, .unset, .unset] [(.int (1073741823 : Int32)), (.int i1), (.int (-1 : Int32))])) _
      refine XS.iand X68.here hx rfl (hb hby at_18) rfl ?_
      show Steps p.tables e below (T68.setTop (mkF m 19 #[.val (.int i0), .val (.int i1), .val (.int i2), .val (.int (5 : Int32)), .val (.ref w2), .unset, .unset, .unset] [(.int (i1 &&& (1073741823 : Int32))), (.int (-1 : Int32))])) _
      refine XS.isub X68.here hx rfl (hb hby at_19) rfl ?_
      show Steps p.tables e below (T68.setTop (mkF m 20 #[.val (.int i0), .val (.int i1), .val (.int i2), .val (.int (5 : Int32)), .val (.ref w2), .unset, .unset, .unset] [(.int ((-1 : Int32) - (i1 &&& (1073741823 : Int32))))])) _
      refine XS.istore X68.here hx rfl (hb hby at_20) rfl (l' := #[.val (.int i0), .val (.int i1), .val (.int i2), .val (.int (5 : Int32)), .val (.ref w2), .val (.int ((-1 : Int32) - (i1 &&& (1073741823 : Int32)))), .unset, .unset]) rfl ?_
      show Steps p.tables e below (T68.setTop (mkF m 22 #[.val (.int i0), .val (.int i1), .val (.int i2), .val (.int (5 : Int32)), .val (.ref w2), .val (.int ((-1 : Int32) - (i1 &&& (1073741823 : Int32)))), .unset, .unset] [])) _
      refine XS.iconst X68.here hx rfl (hb hby at_22) ?_
      show Steps p.tables e below (T68.setTop (mkF m 23 #[.val (.int i0), .val (.int i1), .val (.int i2), .val (.int (5 : Int32)), .val (.ref w2), .val (.int ((-1 : Int32) - (i1 &&& (1073741823 : Int32)))), .unset, .unset] [(.int (1 : Int32))])) _
      refine XS.iloadN X68.here hx rfl (hb hby at_23) rfl ?_
      show Steps p.tables e below (T68.setTop (mkF m 24 #[.val (.int i0), .val (.int i1), .val (.int i2), .val (.int (5 : Int32)), .val (.ref w2), .val (.int ((-1 : Int32) - (i1 &&& (1073741823 : Int32)))), .unset, .unset] [(.int i2), (.int (1 : Int32))])) _
      refine X68.ldcInt hx hown (mvT hZ (hw _ (List.mem_of_getElem? (i := 8) rfl))) (g := (mkF m 24 #[.val (.int i0), .val (.int i1), .val (.int i2), .val (.int (5 : Int32)), .val (.ref w2), .val (.int ((-1 : Int32) - (i1 &&& (1073741823 : Int32)))), .unset, .unset] [(.int i2), (.int (1 : Int32))])) rfl (hb hby at_24) _ ?_
      show Steps p.tables e below (T68.setTop (mkF m 26 #[.val (.int i0), .val (.int i1), .val (.int i2), .val (.int (5 : Int32)), .val (.ref w2), .val (.int ((-1 : Int32) - (i1 &&& (1073741823 : Int32)))), .unset, .unset] [(.int (1073741823 : Int32)), (.int i2), (.int (1 : Int32))])) _
      refine XS.iand X68.here hx rfl (hb hby at_26) rfl ?_
      show Steps p.tables e below (T68.setTop (mkF m 27 #[.val (.int i0), .val (.int i1), .val (.int i2), .val (.int (5 : Int32)), .val (.ref w2), .val (.int ((-1 : Int32) - (i1 &&& (1073741823 : Int32)))), .unset, .unset] [(.int (i2 &&& (1073741823 : Int32))), (.int (1 : Int32))])) _
      refine XS.iadd X68.here hx rfl (hb hby at_27) rfl ?_
      show Steps p.tables e below (T68.setTop (mkF m 28 #[.val (.int i0), .val (.int i1), .val (.int i2), .val (.int (5 : Int32)), .val (.ref w2), .val (.int ((-1 : Int32) - (i1 &&& (1073741823 : Int32)))), .unset, .unset] [(.int ((1 : Int32) + (i2 &&& (1073741823 : Int32))))])) _
      refine XS.istore X68.here hx rfl (hb hby at_28) rfl (l' := #[.val (.int i0), .val (.int i1), .val (.int i2), .val (.int (5 : Int32)), .val (.ref w2), .val (.int ((-1 : Int32) - (i1 &&& (1073741823 : Int32)))), .val (.int ((1 : Int32) + (i2 &&& (1073741823 : Int32)))), .unset]) rfl ?_
      show Steps p.tables e below (T68.setTop (mkF m 30 #[.val (.int i0), .val (.int i1), .val (.int i2), .val (.int (5 : Int32)), .val (.ref w2), .val (.int ((-1 : Int32) - (i1 &&& (1073741823 : Int32)))), .val (.int ((1 : Int32) + (i2 &&& (1073741823 : Int32)))), .unset] [])) _
      refine XS.aload X68.here hx rfl (hb hby at_30) rfl rfl ?_
      show Steps p.tables e below (T68.setTop (mkF m 32 #[.val (.int i0), .val (.int i1), .val (.int i2), .val (.int (5 : Int32)), .val (.ref w2), .val (.int ((-1 : Int32) - (i1 &&& (1073741823 : Int32)))), .val (.int ((1 : Int32) + (i2 &&& (1073741823 : Int32)))), .unset] [(.ref w2)])) _
      refine XS.iload X68.here hx rfl (hb hby at_32) rfl ?_
      show Steps p.tables e below (T68.setTop (mkF m 34 #[.val (.int i0), .val (.int i1), .val (.int i2), .val (.int (5 : Int32)), .val (.ref w2), .val (.int ((-1 : Int32) - (i1 &&& (1073741823 : Int32)))), .val (.int ((1 : Int32) + (i2 &&& (1073741823 : Int32)))), .unset] [(.int ((-1 : Int32) - (i1 &&& (1073741823 : Int32)))), (.ref w2)])) _
      refine st73.trans ?_
      show Steps p.tables e below (T73.setTop (mkF m 37 #[.val (.int i0), .val (.int i1), .val (.int i2), .val (.int (5 : Int32)), .val (.ref w2), .val (.int ((-1 : Int32) - (i1 &&& (1073741823 : Int32)))), .val (.int ((1 : Int32) + (i2 &&& (1073741823 : Int32)))), .unset] [(.int (1 : Int32))])) _
      refine XS.aload X73.here hx rfl (hb hby at_37) rfl rfl ?_
      show Steps p.tables e below (T73.setTop (mkF m 39 #[.val (.int i0), .val (.int i1), .val (.int i2), .val (.int (5 : Int32)), .val (.ref w2), .val (.int ((-1 : Int32) - (i1 &&& (1073741823 : Int32)))), .val (.int ((1 : Int32) + (i2 &&& (1073741823 : Int32)))), .unset] [(.ref w2), (.int (1 : Int32))])) _
      refine XS.iload X73.here hx rfl (hb hby at_39) rfl ?_
      show Steps p.tables e below (T73.setTop (mkF m 41 #[.val (.int i0), .val (.int i1), .val (.int i2), .val (.int (5 : Int32)), .val (.ref w2), .val (.int ((-1 : Int32) - (i1 &&& (1073741823 : Int32)))), .val (.int ((1 : Int32) + (i2 &&& (1073741823 : Int32)))), .unset] [(.int ((1 : Int32) + (i2 &&& (1073741823 : Int32)))), (.ref w2), (.int (1 : Int32))])) _
      refine st75.trans ?_
      show Steps p.tables e below (T75.setTop (mkF m 44 #[.val (.int i0), .val (.int i1), .val (.int i2), .val (.int (5 : Int32)), .val (.ref w2), .val (.int ((-1 : Int32) - (i1 &&& (1073741823 : Int32)))), .val (.int ((1 : Int32) + (i2 &&& (1073741823 : Int32)))), .unset] [(.int (1 : Int32)), (.int (1 : Int32))])) _
      refine XS.icmpNo X75.here hx rfl (hb hby at_44) rfl (by decide) ?_
      show Steps p.tables e below (T75.setTop (mkF m 47 #[.val (.int i0), .val (.int i1), .val (.int i2), .val (.int (5 : Int32)), .val (.ref w2), .val (.int ((-1 : Int32) - (i1 &&& (1073741823 : Int32)))), .val (.int ((1 : Int32) + (i2 &&& (1073741823 : Int32)))), .unset] [])) _
      refine XS.iconst X75.here hx rfl (hb hby at_47) ?_
      show Steps p.tables e below (T75.setTop (mkF m 48 #[.val (.int i0), .val (.int i1), .val (.int i2), .val (.int (5 : Int32)), .val (.ref w2), .val (.int ((-1 : Int32) - (i1 &&& (1073741823 : Int32)))), .val (.int ((1 : Int32) + (i2 &&& (1073741823 : Int32)))), .unset] [(.int (1 : Int32))])) _
      refine XS.goto X75.here hx rfl (pc0 := 48) (pc' := 52) rfl (hb hby at_48) (by decide) (by decide) ?_
      show Steps p.tables e below (T75.setTop (mkF m 52 #[.val (.int i0), .val (.int i1), .val (.int i2), .val (.int (5 : Int32)), .val (.ref w2), .val (.int ((-1 : Int32) - (i1 &&& (1073741823 : Int32)))), .val (.int ((1 : Int32) + (i2 &&& (1073741823 : Int32)))), .unset] [(.int (1 : Int32))])) _
      refine XS.istore X75.here hx rfl (hb hby at_52) rfl (l' := #[.val (.int i0), .val (.int i1), .val (.int i2), .val (.int (5 : Int32)), .val (.ref w2), .val (.int ((-1 : Int32) - (i1 &&& (1073741823 : Int32)))), .val (.int ((1 : Int32) + (i2 &&& (1073741823 : Int32)))), .val (.int (1 : Int32))]) rfl ?_
      show Steps p.tables e below (T75.setTop (mkF m 54 #[.val (.int i0), .val (.int i1), .val (.int i2), .val (.int (5 : Int32)), .val (.ref w2), .val (.int ((-1 : Int32) - (i1 &&& (1073741823 : Int32)))), .val (.int ((1 : Int32) + (i2 &&& (1073741823 : Int32)))), .val (.int (1 : Int32))] [])) _
      refine XS.aload X75.here hx rfl (hb hby at_54) rfl rfl ?_
      show Steps p.tables e below (T75.setTop (mkF m 56 #[.val (.int i0), .val (.int i1), .val (.int i2), .val (.int (5 : Int32)), .val (.ref w2), .val (.int ((-1 : Int32) - (i1 &&& (1073741823 : Int32)))), .val (.int ((1 : Int32) + (i2 &&& (1073741823 : Int32)))), .val (.int (1 : Int32))] [(.ref w2)])) _
      refine st78.trans ?_
      show Steps p.tables e below (T78.setTop (mkF m 59 #[.val (.int i0), .val (.int i1), .val (.int i2), .val (.int (5 : Int32)), .val (.ref w2), .val (.int ((-1 : Int32) - (i1 &&& (1073741823 : Int32)))), .val (.int ((1 : Int32) + (i2 &&& (1073741823 : Int32)))), .val (.int (1 : Int32))] [(.int (1 : Int32))])) _
      refine XS.iload X78.here hx rfl (hb hby at_59) rfl ?_
      show Steps p.tables e below (T78.setTop (mkF m 61 #[.val (.int i0), .val (.int i1), .val (.int i2), .val (.int (5 : Int32)), .val (.ref w2), .val (.int ((-1 : Int32) - (i1 &&& (1073741823 : Int32)))), .val (.int ((1 : Int32) + (i2 &&& (1073741823 : Int32)))), .val (.int (1 : Int32))] [(.int (1 : Int32)), (.int (1 : Int32))])) _
      refine XS.icmpNo X78.here hx rfl (hb hby at_61) rfl (by decide) ?_
      show Steps p.tables e below (T78.setTop (mkF m 64 #[.val (.int i0), .val (.int i1), .val (.int i2), .val (.int (5 : Int32)), .val (.ref w2), .val (.int ((-1 : Int32) - (i1 &&& (1073741823 : Int32)))), .val (.int ((1 : Int32) + (i2 &&& (1073741823 : Int32)))), .val (.int (1 : Int32))] [])) _
      refine XS.iconst X78.here hx rfl (hb hby at_64) ?_
      show Steps p.tables e below (T78.setTop (mkF m 65 #[.val (.int i0), .val (.int i1), .val (.int i2), .val (.int (5 : Int32)), .val (.ref w2), .val (.int ((-1 : Int32) - (i1 &&& (1073741823 : Int32)))), .val (.int ((1 : Int32) + (i2 &&& (1073741823 : Int32)))), .val (.int (1 : Int32))] [(.int (1 : Int32))])) _
      refine XS.goto X78.here hx rfl (pc0 := 65) (pc' := 69) rfl (hb hby at_65) (by decide) (by decide) ?_
      show Steps p.tables e below (T78.setTop (mkF m 69 #[.val (.int i0), .val (.int i1), .val (.int i2), .val (.int (5 : Int32)), .val (.ref w2), .val (.int ((-1 : Int32) - (i1 &&& (1073741823 : Int32)))), .val (.int ((1 : Int32) + (i2 &&& (1073741823 : Int32)))), .val (.int (1 : Int32))] [(.int (1 : Int32))])) _
      exact retN X78 hx (t := .boolean) Bd.returns (by simp) (hb hby at_69) hr
    · show Ql n0 _ T78.heap _
      exact ⟨rfl, N78⟩
set_option maxRecDepth 65536 in
set_option maxHeartbeats 40000000 in
theorem comes_1 {Post : Tables → Env → Array Value → State → Outcome → State → Prop} (hpost : ∀ tb e args s v u, (limb_1_1.after args s (.returned v) u = true ∧ limb_1_2.after args s (.returned v) u = true ∧ True) → FrameEnd s (.returned v) u (Jvm.fieldLocs frame_1_writes args s ++ Jvm.arrayLocs frame_1_arrays args s ++ Jvm.staticLocs frame_1_statics s) 0 0 → Post tb e args s (.returned v) u) :
    ArmFor flags0 classFile x code maxLocals ret World_1 tables_1 room_1 Calls_1 rest_1 Pre_1 Post := by
  intro l hfl _ _ p e ha hc hk s m args below hf hA hF happ hP
  obtain ⟨hcalls, hrest, hpre⟩ := hP
  obtain ⟨-, -, -, hnamed, -, -, -, hat⟩ := (Spec.applies_iff hf).mp happ
  obtain ⟨hg, hn⟩ := and_e (Cond.before_iff.mp (show (Jvm.Cond.and given_1 narrow_1).before args s = true from hpre))
  obtain ⟨gc, g0⟩ := and_e hg
  obtain ⟨ga0, g1⟩ := and_e g0
  obtain ⟨ga1, g2⟩ := and_e g1
  obtain ⟨x0, x1, x2, rfl⟩ : ∃ x0 x1 x2 : Value, args = #[x0, x1, x2] := by
    have hs : args.size = 3 := by simpa [Cond.value, given_1] using gc
    obtain ⟨L⟩ := args
    match L, hs with
    | [x0, x1, x2], _ => exact ⟨x0, x1, x2, rfl⟩
  have hw := fun d (hd : d ∈ tables_1) => atoms_spec (ws := Jvm.Cond.code x code maxLocals ret :: tables_1) hat d (List.mem_cons_of_mem _ hd)
  have hfit : Fit s := fun {y c} hc i hi => by
    obtain ⟨ha, rfl⟩ := Array.getElem?_eq_some_iff.mp hc
    have q := List.all_eq_true.mp ((Array.all_eq_true_iff_forall_mem.mp hF) _ (Array.getElem_mem ha)) i (List.mem_range.mpr hi)
    simpa [Array.getElem?_eq_getElem hi] using q
  obtain ⟨i0, ei0⟩ := is_v ga0
  obtain rfl : x0 = (.int i0) := Option.some.inj ei0
  obtain ⟨i1, ei1⟩ := is_v ga1
  obtain rfl : x1 = (.int i1) := Option.some.inj ei1
  obtain ⟨i2, ei2⟩ := is_v g2
  obtain rfl : x2 = (.int i2) := Option.some.inj ei2
  obtain ⟨c0, r0⟩ := and_e hn
  obtain ⟨c1, r1⟩ := and_e r0
  obtain ⟨c2, r2⟩ := and_e r1
  obtain ⟨c3, r3⟩ := and_e r2
  obtain ⟨c4, r4⟩ := and_e r3
  obtain ⟨c5, r5⟩ := and_e r4
  obtain ⟨c6, r6⟩ := and_e r5
  obtain ⟨c7, r7⟩ := and_e r6
  obtain ⟨c8, r8⟩ := and_e r7
  obtain ⟨c9, r9⟩ := and_e r8
  obtain ⟨c10, r10⟩ := and_e r9
  obtain ⟨w0, ev0⟩ := exa_v c0
  have wE0 : Exa s s.heap w0 "com/example/libgate/libgate/Condition$Operator" := Exa.start ev0 c0
  have wS0 : Sta s s.heap "com/example/libgate/libgate/Condition$Operator" "LESS" "Lcom/example/libgate/libgate/Condition$Operator;" (.ref w0) := Sta.start ev0 (Or.inr ⟨(hw _ (List.mem_of_getElem? (i := 6) rfl)), (hw _ (List.mem_of_getElem? (i := 7) rfl))⟩)
  obtain ⟨w1, ev1⟩ := exa_v c2
  have wE1 : Exa s s.heap w1 "com/example/libgate/libgate/Condition$Operator" := Exa.start ev1 c2
  have wS1 : Sta s s.heap "com/example/libgate/libgate/Condition$Operator" "EQUAL" "Lcom/example/libgate/libgate/Condition$Operator;" (.ref w1) := Sta.start ev1 (Or.inr ⟨(hw _ (List.mem_of_getElem? (i := 6) rfl)), (hw _ (List.mem_of_getElem? (i := 29) rfl))⟩)
  obtain ⟨w2, ev2⟩ := exa_v c4
  have wE2 : Exa s s.heap w2 "com/example/libgate/libgate/Condition$Operator" := Exa.start ev2 c4
  have wS2 : Sta s s.heap "com/example/libgate/libgate/Condition$Operator" "NOT_EQUAL" "Lcom/example/libgate/libgate/Condition$Operator;" (.ref w2) := Sta.start ev2 (Or.inr ⟨(hw _ (List.mem_of_getElem? (i := 6) rfl)), (hw _ (List.mem_of_getElem? (i := 31) rfl))⟩)
  obtain ⟨w3, ev3⟩ := exa_v c6
  have wE3 : Exa s s.heap w3 "com/example/libgate/libgate/Condition$Operator" := Exa.start ev3 c6
  have wS3 : Sta s s.heap "com/example/libgate/libgate/Condition$Operator" "LESS_OR_EQUAL" "Lcom/example/libgate/libgate/Condition$Operator;" (.ref w3) := Sta.start ev3 (Or.inr ⟨(hw _ (List.mem_of_getElem? (i := 6) rfl)), (hw _ (List.mem_of_getElem? (i := 33) rfl))⟩)
  obtain ⟨w4, ev4⟩ := exa_v c8
  have wE4 : Exa s s.heap w4 "com/example/libgate/libgate/Condition$Operator" := Exa.start ev4 c8
  have wS4 : Sta s s.heap "com/example/libgate/libgate/Condition$Operator" "GREATER" "Lcom/example/libgate/libgate/Condition$Operator;" (.ref w4) := Sta.start ev4 (Or.inr ⟨(hw _ (List.mem_of_getElem? (i := 6) rfl)), (hw _ (List.mem_of_getElem? (i := 35) rfl))⟩)
  obtain ⟨w5, ev5⟩ := exa_v c10
  have wE5 : Exa s s.heap w5 "com/example/libgate/libgate/Condition$Operator" := Exa.start ev5 c10
  have wS5 : Sta s s.heap "com/example/libgate/libgate/Condition$Operator" "GREATER_OR_EQUAL" "Lcom/example/libgate/libgate/Condition$Operator;" (.ref w5) := Sta.start ev5 (Or.inr ⟨(hw _ (List.mem_of_getElem? (i := 6) rfl)), (hw _ (List.mem_of_getElem? (i := 38) rfl))⟩)
  have wF0_ordinal : Fld s s.heap w0 "java/lang/Enum" "ordinal" "I" (.int (0 : Int32)) := Fld.start ((fld_at ev0).symm.trans (eqv_i (Term.int_eval _) c1))
  have wF1_ordinal : Fld s s.heap w1 "java/lang/Enum" "ordinal" "I" (.int (4 : Int32)) := Fld.start ((fld_at ev1).symm.trans (eqv_i (Term.int_eval _) c3))
  have wF2_ordinal : Fld s s.heap w2 "java/lang/Enum" "ordinal" "I" (.int (5 : Int32)) := Fld.start ((fld_at ev2).symm.trans (eqv_i (Term.int_eval _) c5))
  have wF3_ordinal : Fld s s.heap w3 "java/lang/Enum" "ordinal" "I" (.int (1 : Int32)) := Fld.start ((fld_at ev3).symm.trans (eqv_i (Term.int_eval _) c7))
  have wF4_ordinal : Fld s s.heap w4 "java/lang/Enum" "ordinal" "I" (.int (2 : Int32)) := Fld.start ((fld_at ev4).symm.trans (eqv_i (Term.int_eval _) c9))
  have wF5_ordinal : Fld s s.heap w5 "java/lang/Enum" "ordinal" "I" (.int (3 : Int32)) := Fld.start ((fld_at ev5).symm.trans (eqv_i (Term.int_eval _) r10))
  have hWd : Wd s w0 w1 w2 w3 w4 w5 := ⟨wS0, wE0, wS1, wE1, wS2, wE2, wS3, wE3, wS4, wE4, wS5, wE5, wF0_ordinal, wF1_ordinal, wF2_ordinal, wF3_ordinal, wF4_ordinal, wF5_ordinal, trivial⟩
  obtain ⟨n, o, h1, h2, h3, _, L, rfl, ⟨rfl, N⟩, hq⟩ := rm0 l s _ hw tables_1 w0 w1 w2 w3 w4 w5 i0 i1 i2 s.heap s.heap.size hWd (Old.start s) p e ha hc hk s m _ below hf ((Spec.applies_iff_loose hf).mp happ).1 ⟨rfl, State.Warmed39.refl s, rfl⟩ trivial
  exact ⟨n, _, h1, h2, h3, hpost _ _ _ _ _ _ ⟨Cond.after_iff.mpr rfl, Cond.after_iff.mpr (eq_i res_at (Term.int_eval (1)) rfl), trivial⟩ ⟨hq.1, hq.2.1, (hq.2.2.sift fun y hy => Or.inr (N y hy)).mono (by decide) (by decide)⟩⟩
theorem main_1_1 : Claimed_1_1 := comes_1 fun _ _ _ _ _ _ h hF => ⟨h.1, hF⟩
theorem main_1_2 : Claimed_1_2 := comes_1 fun _ _ _ _ _ _ h hF => ⟨h.2.1, hF⟩
end Jvm.Pilot.@@N@@
namespace Jvm.Pilot.@@N@@
open Jvm Jvm.ClassFile Sem Op Lib Jvm.Free Jvm.Stand Jvm.Pilot.@@N@@.Jvm.D
/-! MADE BY PROGRAM (witnessworld.py) out of the Statement's table words and the real class files: 12 classes; the members and pool entries that the words name. The judged class is class 1, her method 1. -/
namespace start1
open Jvm.ClassFile
def u (s : String) : CpInfo := .utf8 (stringToUtf16 s)
/-- a pool by its gaps: so many unusable entries, then the entry; so many at the end -/
def gap : Nat → List CpInfo → List CpInfo
  | 0, r => r
  | n + 1, r => .unusable :: gap n r
def poolList (es : List (Nat × CpInfo)) (last : Nat) : List CpInfo := es.foldr (fun e r => gap e.1 (e.2 :: r)) (gap last [])
def pool (es : List (Nat × CpInfo)) (last : Nat) : Array CpInfo := ⟨poolList es last⟩
def fileOf (pool : Array CpInfo) (this : Nat) (attrs : Array Attribute := #[]) (ms : Array MethodInfo := #[]) (fl : Nat := 33) (sup : Nat := 0) (ifs : Array Nat := #[]) (fds : Array FieldInfo := #[]) : ClassFile where
  minorVersion := 0
  majorVersion := 65
  constantPool := pool
  accessFlags := fl
  thisClass := this
  superClass := sup
  interfaces := ifs
  fields := fds
  methods := ms
  attributes := attrs
def plain (name : String) (sup : Option ClassId) : Class where
  name := name
  kind := .ordinary
  loader := none
  accessFlags := 33
  super := sup
  interfaces := #[]
  cf := none
  fields := #[]
  methods := #[]
  instanceTypes := #[]
  staticTypes := #[]
  resolved := #[]
  callSites := []
  init := .initialized
  statics := none
  mirror := none

def pool0 : Array CpInfo := pool [(5, u "<init>"), (0, u "()V"), (1, .class_ 10), (1, u "java/lang/Object")] 113

def k0m0 : Method := { name := "<init>", desc := "()V", sig := { parameters := [], returnType := none }, accessFlags := 1, code := none }
/-- java/lang/Object -/
def k0 : Class := { plain "java/lang/Object" none with
  accessFlags := 33
  interfaces := #[]
  cf := some (fileOf pool0 8 #[] #[{ accessFlags := 1, nameIndex := 5, descriptorIndex := 6, attributes := #[] }] 33 0 #[] #[])
  fields := #[]
  methods := #[k0m0]
  instanceTypes := #[]
  staticTypes := #[]
  resolved := Array.replicate 124 none
  statics := none }

def pool1 : Array CpInfo := pool [(2, .class_ 4), (1, u "java/lang/Object"), (0, u "<init>"), (0, u "()V"), (0, .integer 2147483647), (0, .methodref 9 10), (0, .class_ 11), (0, .nameAndType 12 13), (0, u "com/example/libgate/libgate/OperatorIsEqualityPinLaw"), (0, u "pickOp"), (0, u "(I)Lcom/example/libgate/libgate/Condition$Operator;"), (0, .integer 1073741823), (0, .methodref 16 17), (0, .class_ 18), (0, .nameAndType 19 20), (0, u "com/example/libgate/libgate/Condition$Operator"), (0, u "holds"), (0, u "(I)Z"), (0, .methodref 16 22), (0, .nameAndType 23 24), (0, u "isEquality"), (0, u "()Z"), (0, .fieldref 16 26), (0, .nameAndType 27 28), (0, u "LESS"), (0, u "Lcom/example/libgate/libgate/Condition$Operator;"), (0, .fieldref 16 30), (0, .nameAndType 31 28), (0, u "LESS_OR_EQUAL"), (0, .fieldref 16 33), (0, .nameAndType 34 28), (0, u "GREATER"), (0, .fieldref 16 36), (0, .nameAndType 37 28), (0, u "GREATER_OR_EQUAL"), (0, .fieldref 16 39), (0, .nameAndType 40 28), (0, u "EQUAL"), (0, .fieldref 16 42), (0, .nameAndType 43 28), (0, u "NOT_EQUAL"), (2, u "law"), (0, u "(III)Z")] 7

def k1m0 : Method := { name := "<init>", desc := "()V", sig := { parameters := [], returnType := none }, accessFlags := 1, code := none }
def k1c1 : Code := { maxStack := 3, maxLocals := 8, code := code, exceptionTable := #[], attributes := #[] }
def k1m1 : Method := { name := "law", desc := "(III)Z", sig := { parameters := [.int, .int, .int], returnType := some .boolean }, accessFlags := 9, code := some k1c1 }
def k1c2 : Code := { maxStack := 2, maxLocals := 1, code := method_3_code, exceptionTable := #[], attributes := #[] }
def k1m2 : Method := { name := "pickOp", desc := "(I)Lcom/example/libgate/libgate/Condition$Operator;", sig := { parameters := [.int], returnType := some (.object "com/example/libgate/libgate/Condition$Operator") }, accessFlags := 10, code := some k1c2 }
/-- com/example/libgate/libgate/OperatorIsEqualityPinLaw -/
def k1 : Class := { plain "com/example/libgate/libgate/OperatorIsEqualityPinLaw" (some 0) with
  accessFlags := 49
  interfaces := #[]
  cf := some (fileOf pool1 9 #[] #[{ accessFlags := 1, nameIndex := 5, descriptorIndex := 6, attributes := #[] }, { accessFlags := 9, nameIndex := 46, descriptorIndex := 47, attributes := #[] }, { accessFlags := 10, nameIndex := 12, descriptorIndex := 13, attributes := #[] }] 49 2 #[] #[])
  fields := #[]
  methods := #[k1m0, k1m1, k1m2]
  instanceTypes := #[]
  staticTypes := #[]
  resolved := Array.replicate 55 none
  statics := none }

def pool2 : Array CpInfo := pool [(1, .class_ 2), (0, u "java/lang/constant/Constable"), (0, .class_ 4), (0, u "java/lang/Object")] 6

/-- java/lang/constant/Constable -/
def k2 : Class := { plain "java/lang/constant/Constable" (some 0) with
  accessFlags := 1537
  interfaces := #[]
  cf := some (fileOf pool2 1 #[] #[] 1537 3 #[] #[])
  fields := #[]
  methods := #[]
  instanceTypes := #[]
  staticTypes := #[]
  resolved := Array.replicate 11 none
  statics := none }

def pool3 : Array CpInfo := pool [(1, .class_ 2), (0, u "java/lang/Comparable"), (0, .class_ 4), (0, u "java/lang/Object")] 7

/-- java/lang/Comparable -/
def k3 : Class := { plain "java/lang/Comparable" (some 0) with
  accessFlags := 1537
  interfaces := #[]
  cf := some (fileOf pool3 1 #[] #[] 1537 3 #[] #[])
  fields := #[]
  methods := #[]
  instanceTypes := #[]
  staticTypes := #[]
  resolved := Array.replicate 12 none
  statics := none }

def pool4 : Array CpInfo := pool [(1, .class_ 2), (0, u "java/io/Serializable"), (0, .class_ 4), (0, u "java/lang/Object")] 2

/-- java/io/Serializable -/
def k4 : Class := { plain "java/io/Serializable" (some 0) with
  accessFlags := 1537
  interfaces := #[]
  cf := some (fileOf pool4 1 #[] #[] 1537 3 #[] #[])
  fields := #[]
  methods := #[]
  instanceTypes := #[]
  staticTypes := #[]
  resolved := Array.replicate 7 none
  statics := none }

def pool5 : Array CpInfo := pool [(2, .class_ 4), (1, u "java/lang/Enum"), (0, u "name"), (0, u "Ljava/lang/String;"), (0, .fieldref 2 8), (0, .nameAndType 9 10), (0, u "ordinal"), (0, u "I"), (1, .class_ 14), (1, u "java/lang/Object"), (4, u "hash"), (86, .class_ 108), (1, u "java/lang/Enum$EnumDesc"), (2, .class_ 112), (0, u "java/lang/constant/Constable"), (0, .class_ 114), (0, u "java/lang/Comparable"), (0, .class_ 116), (0, u "java/io/Serializable"), (9, u "()I")] 77

def k5c0 : Code := { maxStack := 1, maxLocals := 1, code := jdk_37_method_2_code, exceptionTable := #[], attributes := #[] }
def k5m0 : Method := { name := "ordinal", desc := "()I", sig := { parameters := [], returnType := some .int }, accessFlags := 17, code := some k5c0 }
/-- java/lang/Enum -/
def k5 : Class := { plain "java/lang/Enum" (some 0) with
  accessFlags := 1057
  interfaces := #[2, 3, 4]
  cf := some (fileOf pool5 2 #[.nestMembers #[106]] #[{ accessFlags := 17, nameIndex := 9, descriptorIndex := 126, attributes := #[] }] 1057 12 #[111, 113, 115] #[{ accessFlags := 18, nameIndex := 5, descriptorIndex := 6, attributes := #[] }, { accessFlags := 18, nameIndex := 9, descriptorIndex := 10, attributes := #[] }, { accessFlags := 2, nameIndex := 19, descriptorIndex := 10, attributes := #[] }])
  fields := #[{ name := "name", type := (.object "java/lang/String"), accessFlags := 18, slot := 0, constantValue := 0 }, { name := "ordinal", type := .int, accessFlags := 18, slot := 1, constantValue := 0 }, { name := "hash", type := .int, accessFlags := 2, slot := 2, constantValue := 0 }]
  methods := #[k5m0]
  instanceTypes := #[(.object "java/lang/String"), .int, .int]
  staticTypes := #[]
  resolved := Array.replicate 204 none
  statics := none }

def pool6 : Array CpInfo := pool [(1, .class_ 2), (0, u "com/example/libgate/libgate/Condition$Operator"), (2, u "LESS"), (0, u "Lcom/example/libgate/libgate/Condition$Operator;"), (2, u "LESS_OR_EQUAL"), (2, u "GREATER"), (2, u "GREATER_OR_EQUAL"), (0, .fieldref 1 17), (0, .nameAndType 18 6), (0, u "EQUAL"), (0, .fieldref 1 20), (0, .nameAndType 21 6), (0, u "NOT_EQUAL"), (2, u "$VALUES"), (0, u "[Lcom/example/libgate/libgate/Condition$Operator;"), (6, .class_ 34), (1, u "java/lang/Enum"), (8, u "symbol"), (0, u "Ljava/lang/String;"), (0, .methodref 1 46), (0, .nameAndType 47 48), (0, u "ordinal"), (0, u "()I"), (38, u "isEquality"), (0, u "()Z"), (1, u "holds"), (0, u "(I)Z"), (6, .class_ 99), (0, u "com/example/libgate/libgate/Condition")] 2

def k6c0 : Code := { maxStack := 2, maxLocals := 1, code := prog_17_method_5_code, exceptionTable := #[], attributes := #[] }
def k6m0 : Method := { name := "isEquality", desc := "()Z", sig := { parameters := [], returnType := some .boolean }, accessFlags := 0, code := some k6c0 }
def k6c1 : Code := { maxStack := 4, maxLocals := 2, code := prog_17_method_6_code, exceptionTable := #[], attributes := #[] }
def k6m1 : Method := { name := "holds", desc := "(I)Z", sig := { parameters := [.int], returnType := some .boolean }, accessFlags := 0, code := some k6c1 }
/-- com/example/libgate/libgate/Condition$Operator -/
def k6 : Class := { plain "com/example/libgate/libgate/Condition$Operator" (some 5) with
  accessFlags := 16433
  interfaces := #[]
  cf := some (fileOf pool6 1 #[.nestHost 98] #[{ accessFlags := 0, nameIndex := 87, descriptorIndex := 88, attributes := #[] }, { accessFlags := 0, nameIndex := 90, descriptorIndex := 91, attributes := #[] }] 16433 32 #[] #[{ accessFlags := 16409, nameIndex := 5, descriptorIndex := 6, attributes := #[] }, { accessFlags := 16409, nameIndex := 9, descriptorIndex := 6, attributes := #[] }, { accessFlags := 16409, nameIndex := 12, descriptorIndex := 6, attributes := #[] }, { accessFlags := 16409, nameIndex := 15, descriptorIndex := 6, attributes := #[] }, { accessFlags := 16409, nameIndex := 18, descriptorIndex := 6, attributes := #[] }, { accessFlags := 16409, nameIndex := 21, descriptorIndex := 6, attributes := #[] }, { accessFlags := 18, nameIndex := 43, descriptorIndex := 44, attributes := #[] }, { accessFlags := 4122, nameIndex := 24, descriptorIndex := 25, attributes := #[] }])
  fields := #[{ name := "LESS", type := (.object "com/example/libgate/libgate/Condition$Operator"), accessFlags := 16409, slot := 0, constantValue := 0 }, { name := "LESS_OR_EQUAL", type := (.object "com/example/libgate/libgate/Condition$Operator"), accessFlags := 16409, slot := 1, constantValue := 0 }, { name := "GREATER", type := (.object "com/example/libgate/libgate/Condition$Operator"), accessFlags := 16409, slot := 2, constantValue := 0 }, { name := "GREATER_OR_EQUAL", type := (.object "com/example/libgate/libgate/Condition$Operator"), accessFlags := 16409, slot := 3, constantValue := 0 }, { name := "EQUAL", type := (.object "com/example/libgate/libgate/Condition$Operator"), accessFlags := 16409, slot := 4, constantValue := 0 }, { name := "NOT_EQUAL", type := (.object "com/example/libgate/libgate/Condition$Operator"), accessFlags := 16409, slot := 5, constantValue := 0 }, { name := "symbol", type := (.object "java/lang/String"), accessFlags := 18, slot := 3, constantValue := 0 }, { name := "$VALUES", type := (.array (.object "com/example/libgate/libgate/Condition$Operator")), accessFlags := 4122, slot := 6, constantValue := 0 }]
  methods := #[k6m0, k6m1]
  instanceTypes := #[(.object "java/lang/String"), .int, .int, (.object "java/lang/String")]
  staticTypes := #[(.object "com/example/libgate/libgate/Condition$Operator"), (.object "com/example/libgate/libgate/Condition$Operator"), (.object "com/example/libgate/libgate/Condition$Operator"), (.object "com/example/libgate/libgate/Condition$Operator"), (.object "com/example/libgate/libgate/Condition$Operator"), (.object "com/example/libgate/libgate/Condition$Operator"), (.array (.object "com/example/libgate/libgate/Condition$Operator"))]
  resolved := Array.replicate 102 none
  statics := some 0 }

def pool7 : Array CpInfo := pool [(1, u "java/lang/Cloneable"), (0, .class_ 1), (0, u "java/lang/Object"), (0, .class_ 3)] 3

/-- java/lang/Cloneable -/
def k7 : Class := { plain "java/lang/Cloneable" (some 0) with
  accessFlags := 1537
  interfaces := #[]
  cf := some (fileOf pool7 2 #[] #[] 1537 4 #[] #[])
  fields := #[]
  methods := #[]
  instanceTypes := #[]
  staticTypes := #[]
  resolved := Array.replicate 8 none
  statics := none }

/-- the primitive byte -/
def k8 : Class := { plain "byte" none with kind := .primitive 'B', accessFlags := 0x411 }
/-- [B -/
def k9 : Class := { plain "[B" (some 0) with kind := .array 8 .byte, interfaces := #[7, 4], accessFlags := 1041 }

/-- the primitive int -/
def k10 : Class := { plain "int" none with kind := .primitive 'I', accessFlags := 0x411 }
/-- [I -/
def k11 : Class := { plain "[I" (some 0) with kind := .array 10 .int, interfaces := #[7, 4], accessFlags := 1041 }

def heap : Heap := #[{ cls := 6, slots := #[.ref 1, .ref 4, .ref 5, .ref 6, .ref 2, .ref 3, .null], vm := .statics 6 },
  { cls := 6, slots := #[.null, .int 0, .int 0, .null], vm := .none },
  { cls := 6, slots := #[.null, .int 4, .int 0, .null], vm := .none },
  { cls := 6, slots := #[.null, .int 5, .int 0, .null], vm := .none },
  { cls := 6, slots := #[.null, .int 1, .int 0, .null], vm := .none },
  { cls := 6, slots := #[.null, .int 2, .int 0, .null], vm := .none },
  { cls := 6, slots := #[.null, .int 3, .int 0, .null], vm := .none }]
def classes : Array Class := #[k0, k1, k2, k3, k4, k5, k6, k7, k8, k9, k10, k11]
def interned : List (Array UInt16 × Addr) := []
def slotsUsed : Nat := 31
def theMethod : MethodId := ⟨1, 1⟩
def args0 : Array Value := #[.int 5, .int 5, .int 5]
def aboutOver (below : List Frame) : State where
  vm := { classes := classes, interned := interned.toArray }
  heap := heap
  slotsUsed := slotsUsed
  threads := #[{ frames := .invoking theMethod args0 :: below }]
def below0 : List Frame := [.native { method := ⟨0, 0⟩, args := #[] }]
def about1 : State := aboutOver below0
def p0 : Program := .bare "" "" ""
def e0 : Env := launch0.env 0 0 0
theorem w_frames : about1.frames = Frame.invoking theMethod args0 :: below0 := rfl
set_option maxRecDepth 65536 in
theorem w_args : argsFit about1.vm theMethod args0 = true := by decide +kernel
set_option maxRecDepth 65536 in
theorem w_heap : heapFits about1 = true := by decide +kernel
set_option maxRecDepth 65536 in
theorem w_runnable : about1.curStatus? = some .runnable := by decide +kernel
set_option maxRecDepth 65536 in
theorem w_alone : about1.alone = true := by decide +kernel
set_option maxRecDepth 65536 in
theorem w_named : about1.methodNamed? x = some theMethod := by decide +kernel
set_option maxRecDepth 65536 in
theorem w_hears : about1.hears theMethod below0 = true := by decide +kernel
set_option maxRecDepth 65536 in
theorem w_ripe : about1.ripe theMethod args0 below0 = true := by decide +kernel
theorem w_running : about1.status = .running := rfl
set_option maxRecDepth 65536 in
theorem w_room : about1.hasRoom e0.platform room_1 = true :=
  launch0.hasRoom_least _ room_1 (by decide +kernel) (by decide +kernel) (by decide +kernel) (by decide +kernel) (by decide +kernel) (by decide +kernel)
theorem allAtoms_all (ts : List Jvm.Cond) (a : Array Jvm.Value) (st : Jvm.State) : (allAtoms ts).before a st = ts.all (fun c => c.before a st) := by
  induction ts with
  | nil => rfl
  | cons c t ih =>
    show (Jvm.Cond.and c (allAtoms t)).before a st = _
    rw [Jvm.Cond.before_and, ih, List.all_cons]
def words1 : List Jvm.Cond := Jvm.Cond.code x code maxLocals ret :: tables_1
/-- a 'code' word, met by the world's own term for the bytes: nothing is compared byte by byte -/
theorem code_word {y : MethodName} {bytes : ByteArray} {mx : Nat} {rt : Option FieldType} {a : Array Value} {s : State} {m : MethodId} {meth : Method} {c : Code} (h1 : s.methodNamed? y = some m) (h2 : s.vm.method? m = some meth) (h3 : meth.code = some c) (h4 : c.code = bytes)
    (h5 : (c.maxLocals == mx && c.exceptionTable.isEmpty && decide (c.maxStack ≤ mostOperands) && decide (meth.sig.returnType = rt) && !meth.locks && decide (parseMethodDescriptor y.desc = some meth.sig)) = true) : (Jvm.Cond.code y bytes mx rt).before a s = true := by
  simp only [Bool.and_eq_true, beq_iff_eq, Bool.not_eq_true', decide_eq_true_eq] at h5
  obtain ⟨⟨⟨⟨⟨g1, g2⟩, g3⟩, g4⟩, g5⟩, g6⟩ := h5
  simp [Cond.before, Cond.holds, Cond.value, h1, h2, h3, h4, g1, g2, g3, g4, g5, g6]
def isCode : Jvm.Cond → Bool
  | .code _ _ _ _ => true
  | _ => false
theorem all_split {L : List Jvm.Cond} {P : Jvm.Cond → Bool} (h1 : L.all (fun c => isCode c || P c) = true) (h2 : ∀ c ∈ L.filter isCode, P c = true) : L.all P = true := by
  refine List.all_eq_true.mpr fun c hc => ?_
  have h := List.all_eq_true.mp h1 c hc
  rcases Bool.eq_false_or_eq_true (isCode c) with hi | hi
  · exact h2 c (List.mem_filter.mpr ⟨hc, hi⟩)
  · simpa [hi] using h
set_option maxRecDepth 65536 in
theorem w_c0 : (Jvm.Cond.code x code maxLocals ret).before args0 about1 = true := code_word (m := ⟨1, 1⟩) (meth := k1m1) (c := k1c1) (by decide +kernel) rfl rfl rfl (by decide +kernel)
set_option maxRecDepth 65536 in
theorem w_c1 : (Jvm.Cond.code ({ cls := "com/example/libgate/libgate/OperatorIsEqualityPinLaw", name := "pickOp", desc := "(I)Lcom/example/libgate/libgate/Condition$Operator;" } : Jvm.MethodName) method_3_code (1 : Nat) (Option.some (Jvm.ClassFile.FieldType.object "com/example/libgate/libgate/Condition$Operator"))).before args0 about1 = true := code_word (m := ⟨1, 2⟩) (meth := k1m2) (c := k1c2) (by decide +kernel) rfl rfl rfl (by decide +kernel)
set_option maxRecDepth 65536 in
theorem w_c2 : (Jvm.Cond.code ({ cls := "com/example/libgate/libgate/Condition$Operator", name := "holds", desc := "(I)Z" } : Jvm.MethodName) prog_17_method_6_code (2 : Nat) (Option.some Jvm.ClassFile.FieldType.boolean)).before args0 about1 = true := code_word (m := ⟨6, 1⟩) (meth := k6m1) (c := k6c1) (by decide +kernel) rfl rfl rfl (by decide +kernel)
set_option maxRecDepth 65536 in
theorem w_c3 : (Jvm.Cond.code ({ cls := "java/lang/Enum", name := "ordinal", desc := "()I" } : Jvm.MethodName) jdk_37_method_2_code (1 : Nat) (Option.some Jvm.ClassFile.FieldType.int)).before args0 about1 = true := code_word (m := ⟨5, 0⟩) (meth := k5m0) (c := k5c0) (by decide +kernel) rfl rfl rfl (by decide +kernel)
set_option maxRecDepth 65536 in
theorem w_c4 : (Jvm.Cond.code ({ cls := "com/example/libgate/libgate/Condition$Operator", name := "isEquality", desc := "()Z" } : Jvm.MethodName) prog_17_method_5_code (1 : Nat) (Option.some Jvm.ClassFile.FieldType.boolean)).before args0 about1 = true := code_word (m := ⟨6, 0⟩) (meth := k6m0) (c := k6c0) (by decide +kernel) rfl rfl rfl (by decide +kernel)
def codes1 : List Jvm.Cond := [Jvm.Cond.code x code maxLocals ret, Jvm.Cond.code ({ cls := "com/example/libgate/libgate/OperatorIsEqualityPinLaw", name := "pickOp", desc := "(I)Lcom/example/libgate/libgate/Condition$Operator;" } : Jvm.MethodName) method_3_code (1 : Nat) (Option.some (Jvm.ClassFile.FieldType.object "com/example/libgate/libgate/Condition$Operator")), Jvm.Cond.code ({ cls := "com/example/libgate/libgate/Condition$Operator", name := "holds", desc := "(I)Z" } : Jvm.MethodName) prog_17_method_6_code (2 : Nat) (Option.some Jvm.ClassFile.FieldType.boolean), Jvm.Cond.code ({ cls := "java/lang/Enum", name := "ordinal", desc := "()I" } : Jvm.MethodName) jdk_37_method_2_code (1 : Nat) (Option.some Jvm.ClassFile.FieldType.int), Jvm.Cond.code ({ cls := "com/example/libgate/libgate/Condition$Operator", name := "isEquality", desc := "()Z" } : Jvm.MethodName) prog_17_method_5_code (1 : Nat) (Option.some Jvm.ClassFile.FieldType.boolean)]
set_option maxRecDepth 65536 in
theorem codes_eq : words1.filter isCode = codes1 := rfl
theorem w_codes : ∀ c ∈ words1.filter isCode, c.before args0 about1 = true := by
  rw [codes_eq]
  intro c hc
  simp only [codes1, List.mem_cons, List.not_mem_nil, or_false] at hc
  rcases hc with rfl | rfl | rfl | rfl | rfl
  · exact w_c0
  · exact w_c1
  · exact w_c2
  · exact w_c3
  · exact w_c4
set_option maxRecDepth 65536 in
theorem w_t1 : (words1.take 24).all (fun c => isCode c || c.before args0 about1) = true := by decide +kernel
set_option maxRecDepth 65536 in
theorem w_t2 : (words1.drop 24).all (fun c => isCode c || c.before args0 about1) = true := by decide +kernel
theorem w_tables : (allAtoms (Jvm.Cond.code x code maxLocals ret :: tables_1)).before args0 about1 = true := by
  rw [allAtoms_all]
  show words1.all (fun c => c.before args0 about1) = true
  refine all_split ?_ w_codes
  rw [← List.take_append_drop 24 words1, List.all_append, w_t1, w_t2]
  rfl
set_option maxRecDepth 65536 in
theorem w_case : (Jvm.Cond.and given_1 narrow_1).before args0 about1 = true := by decide +kernel
theorem w_applies : (headSpec (Jvm.Cond.code x code maxLocals ret :: tables_1) room_1).applies x e0.platform about1 = true :=
  (Spec.applies_iff w_frames).mpr ⟨w_running, w_runnable, w_alone, w_named, w_hears, w_ripe, w_room, w_tables⟩
theorem atStart : AtStart classFile x code maxLocals ret World_1 tables_1 room_1 Calls_1 rest_1 Pre_1 launch0 p0 e0 about1 theMethod args0 below0 :=
  ⟨lists_1, trivial, launch0.admits_env _ _ _, launch0.least_env, fairChoices_fair.cas, fairChoices_fair.clock, w_frames, w_args, w_heap, w_applies, trivial, trivial, w_case⟩
end start1
theorem witness_1 : WitnessClaimed_1 := ⟨start1.p0, start1.e0, start1.about1, start1.theMethod, start1.args0, start1.below0, start1.atStart⟩
end Jvm.Pilot.@@N@@
