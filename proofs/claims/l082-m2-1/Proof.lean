import JvmDerived
import JvmDerived.Pilot.@@N@@Statement
import JvmDerived.Pilot.@@N@@Code
set_option linter.unusedVariables false
set_option linter.unusedSimpArgs false
namespace Jvm.Pilot.@@N@@
open Jvm Jvm.ClassFile Sem Op Lib Jvm.Free Jvm.Stand Jvm.LawKit Jvm.RoadKit Bundle Jvm.Pilot.@@N@@.Jvm.D
theorem own_ofNat {y : Int32} {n : Nat} (h : y.toBitVec.toNat = n) : y = Int32.ofNat n := by
  subst h
  apply Int32.toBitVec_inj.mp
  apply BitVec.eq_of_toNat_eq
  simp
theorem own_and_le (x m : Int32) : (x &&& m).toBitVec.toNat ≤ m.toBitVec.toNat := by
  rw [Int32.toBitVec_and, BitVec.toNat_and]; exact Nat.and_le_right
theorem own_nonneg (x : Int32) : 0 ≤ (x &&& (2147483647 : Int32)).toInt := by
  have h := own_and_le x 2147483647
  have e : (2147483647 : Int32).toBitVec.toNat = 2147483647 := by decide
  rw [e] at h
  have : (x &&& (2147483647 : Int32)).toInt = (x &&& (2147483647 : Int32)).toBitVec.toInt := rfl
  rw [this, BitVec.toInt_eq_toNat_cond, if_pos (by omega)]
  omega
theorem own_rem_12 (x : Int32) : ((x &&& (2147483647 : Int32)) % (12 : Int32)) = (0 : Int32) ∨ ((x &&& (2147483647 : Int32)) % (12 : Int32)) = (1 : Int32) ∨ ((x &&& (2147483647 : Int32)) % (12 : Int32)) = (2 : Int32) ∨ ((x &&& (2147483647 : Int32)) % (12 : Int32)) = (3 : Int32) ∨ ((x &&& (2147483647 : Int32)) % (12 : Int32)) = (4 : Int32) ∨ ((x &&& (2147483647 : Int32)) % (12 : Int32)) = (5 : Int32) ∨ ((x &&& (2147483647 : Int32)) % (12 : Int32)) = (6 : Int32) ∨ ((x &&& (2147483647 : Int32)) % (12 : Int32)) = (7 : Int32) ∨ ((x &&& (2147483647 : Int32)) % (12 : Int32)) = (8 : Int32) ∨ ((x &&& (2147483647 : Int32)) % (12 : Int32)) = (9 : Int32) ∨ ((x &&& (2147483647 : Int32)) % (12 : Int32)) = (10 : Int32) ∨ ((x &&& (2147483647 : Int32)) % (12 : Int32)) = (11 : Int32) := by
  have h := own_nonneg x
  generalize x &&& (2147483647 : Int32) = y at h ⊢
  have e : (y % (12 : Int32)).toInt = y.toInt.tmod 12 := by rw [Int32.toInt_mod]; rfl
  have e1 : y.toInt.tmod 12 = y.toInt % 12 := Int.tmod_eq_emod_of_nonneg h
  have q : (y % (12 : Int32)).toInt = 0 ∨ (y % (12 : Int32)).toInt = 1 ∨ (y % (12 : Int32)).toInt = 2 ∨ (y % (12 : Int32)).toInt = 3 ∨ (y % (12 : Int32)).toInt = 4 ∨ (y % (12 : Int32)).toInt = 5 ∨ (y % (12 : Int32)).toInt = 6 ∨ (y % (12 : Int32)).toInt = 7 ∨ (y % (12 : Int32)).toInt = 8 ∨ (y % (12 : Int32)).toInt = 9 ∨ (y % (12 : Int32)).toInt = 10 ∨ (y % (12 : Int32)).toInt = 11 := by omega
  rcases q with q | q | q | q | q | q | q | q | q | q | q | q
  · exact Or.inl (Int32.toInt_inj.mp (q.trans (by decide)))
  · exact Or.inr (Or.inl (Int32.toInt_inj.mp (q.trans (by decide))))
  · exact Or.inr (Or.inr (Or.inl (Int32.toInt_inj.mp (q.trans (by decide)))))
  · exact Or.inr (Or.inr (Or.inr (Or.inl (Int32.toInt_inj.mp (q.trans (by decide))))))
  · exact Or.inr (Or.inr (Or.inr (Or.inr (Or.inl (Int32.toInt_inj.mp (q.trans (by decide)))))))
  · exact Or.inr (Or.inr (Or.inr (Or.inr (Or.inr (Or.inl (Int32.toInt_inj.mp (q.trans (by decide))))))))
  · exact Or.inr (Or.inr (Or.inr (Or.inr (Or.inr (Or.inr (Or.inl (Int32.toInt_inj.mp (q.trans (by decide)))))))))
  · exact Or.inr (Or.inr (Or.inr (Or.inr (Or.inr (Or.inr (Or.inr (Or.inl (Int32.toInt_inj.mp (q.trans (by decide))))))))))
  · exact Or.inr (Or.inr (Or.inr (Or.inr (Or.inr (Or.inr (Or.inr (Or.inr (Or.inl (Int32.toInt_inj.mp (q.trans (by decide)))))))))))
  · exact Or.inr (Or.inr (Or.inr (Or.inr (Or.inr (Or.inr (Or.inr (Or.inr (Or.inr (Or.inl (Int32.toInt_inj.mp (q.trans (by decide))))))))))))
  · exact Or.inr (Or.inr (Or.inr (Or.inr (Or.inr (Or.inr (Or.inr (Or.inr (Or.inr (Or.inr (Or.inl (Int32.toInt_inj.mp (q.trans (by decide)))))))))))))
  · exact Or.inr (Or.inr (Or.inr (Or.inr (Or.inr (Or.inr (Or.inr (Or.inr (Or.inr (Or.inr (Or.inr (Int32.toInt_inj.mp (q.trans (by decide)))))))))))))
def Wd (Z : State) (w0 w1 w2 w3 w4 w5 w6 w7 w8 w9 w10 w11 : Addr) : Prop := Sta Z Z.heap "com/example/weaverbird/weaverbird/codes/RunState" "SUBMITTED" "Lcom/example/weaverbird/weaverbird/codes/RunState;" (.ref w0) ∧ Exa Z Z.heap w0 "com/example/weaverbird/weaverbird/codes/RunState" ∧ Sta Z Z.heap "com/example/weaverbird/weaverbird/codes/RunState" "RUNNING" "Lcom/example/weaverbird/weaverbird/codes/RunState;" (.ref w1) ∧ Exa Z Z.heap w1 "com/example/weaverbird/weaverbird/codes/RunState" ∧ Sta Z Z.heap "com/example/weaverbird/weaverbird/codes/RunState" "PAUSING" "Lcom/example/weaverbird/weaverbird/codes/RunState;" (.ref w2) ∧ Exa Z Z.heap w2 "com/example/weaverbird/weaverbird/codes/RunState" ∧ Sta Z Z.heap "com/example/weaverbird/weaverbird/codes/RunState" "PAUSED" "Lcom/example/weaverbird/weaverbird/codes/RunState;" (.ref w3) ∧ Exa Z Z.heap w3 "com/example/weaverbird/weaverbird/codes/RunState" ∧ Sta Z Z.heap "com/example/weaverbird/weaverbird/codes/RunState" "STOPPING" "Lcom/example/weaverbird/weaverbird/codes/RunState;" (.ref w4) ∧ Exa Z Z.heap w4 "com/example/weaverbird/weaverbird/codes/RunState" ∧ Sta Z Z.heap "com/example/weaverbird/weaverbird/codes/RunState" "STOPPED" "Lcom/example/weaverbird/weaverbird/codes/RunState;" (.ref w5) ∧ Exa Z Z.heap w5 "com/example/weaverbird/weaverbird/codes/RunState" ∧ Sta Z Z.heap "com/example/weaverbird/weaverbird/codes/RunState" "FAILED" "Lcom/example/weaverbird/weaverbird/codes/RunState;" (.ref w6) ∧ Exa Z Z.heap w6 "com/example/weaverbird/weaverbird/codes/RunState" ∧ Sta Z Z.heap "com/example/weaverbird/weaverbird/codes/RunState" "SUCCEEDED" "Lcom/example/weaverbird/weaverbird/codes/RunState;" (.ref w7) ∧ Exa Z Z.heap w7 "com/example/weaverbird/weaverbird/codes/RunState" ∧ Sta Z Z.heap "com/example/weaverbird/weaverbird/codes/RunState" "NEEDS_FAILOVER" "Lcom/example/weaverbird/weaverbird/codes/RunState;" (.ref w8) ∧ Exa Z Z.heap w8 "com/example/weaverbird/weaverbird/codes/RunState" ∧ Sta Z Z.heap "com/example/weaverbird/weaverbird/codes/RunState" "KILLED" "Lcom/example/weaverbird/weaverbird/codes/RunState;" (.ref w9) ∧ Exa Z Z.heap w9 "com/example/weaverbird/weaverbird/codes/RunState" ∧ Sta Z Z.heap "com/example/weaverbird/weaverbird/codes/RunState" "WAITING_THREAD" "Lcom/example/weaverbird/weaverbird/codes/RunState;" (.ref w10) ∧ Exa Z Z.heap w10 "com/example/weaverbird/weaverbird/codes/RunState" ∧ Sta Z Z.heap "com/example/weaverbird/weaverbird/codes/RunState" "WAITING_DEPENDENCY" "Lcom/example/weaverbird/weaverbird/codes/RunState;" (.ref w11) ∧ Exa Z Z.heap w11 "com/example/weaverbird/weaverbird/codes/RunState" ∧ Fld Z Z.heap w3 "java/lang/Enum" "ordinal" "I" (.int (3 : Int32)) ∧ Fld Z Z.heap w0 "java/lang/Enum" "ordinal" "I" (.int (0 : Int32)) ∧ Fld Z Z.heap w1 "java/lang/Enum" "ordinal" "I" (.int (1 : Int32)) ∧ Fld Z Z.heap w4 "java/lang/Enum" "ordinal" "I" (.int (4 : Int32)) ∧ Fld Z Z.heap w2 "java/lang/Enum" "ordinal" "I" (.int (2 : Int32)) ∧ Fld Z Z.heap w7 "java/lang/Enum" "ordinal" "I" (.int (7 : Int32)) ∧ Fld Z Z.heap w11 "java/lang/Enum" "ordinal" "I" (.int (11 : Int32)) ∧ Fld Z Z.heap w8 "java/lang/Enum" "ordinal" "I" (.int (8 : Int32)) ∧ Fld Z Z.heap w10 "java/lang/Enum" "ordinal" "I" (.int (10 : Int32)) ∧ Fld Z Z.heap w9 "java/lang/Enum" "ordinal" "I" (.int (9 : Int32)) ∧ Fld Z Z.heap w6 "java/lang/Enum" "ordinal" "I" (.int (6 : Int32)) ∧ Fld Z Z.heap w5 "java/lang/Enum" "ordinal" "I" (.int (5 : Int32)) ∧ True
def Qp (r : Option Value) (h0 : Heap) (n0 : Nat) (v : Option Value) (h : Heap) (L : List Loc) : Prop := v = r ∧ Fr n0 L ∧ h = h0
def Ql (n0 : Nat) (v : Option Value) (h : Heap) (L : List Loc) : Prop := v = some (.int (1 : Int32)) ∧ Fr n0 L
theorem d_prog_10_method_5_code_0 : decode prog_10_method_5_code 0 = .ok (.aload_n 0, 1) := by decide +kernel
theorem d_prog_10_method_5_code_1 : decode prog_10_method_5_code 1 = .ok (.getstatic 3, 3) := by decide +kernel
theorem d_prog_10_method_5_code_4 : decode prog_10_method_5_code 4 = .ok (.if_acmp .eq 24, 3) := by decide +kernel
theorem d_prog_10_method_5_code_28 : decode prog_10_method_5_code 28 = .ok (.iconst 1, 1) := by decide +kernel
theorem d_prog_10_method_5_code_29 : decode prog_10_method_5_code 29 = .ok (.goto 4, 3) := by decide +kernel
theorem d_prog_10_method_5_code_33 : decode prog_10_method_5_code 33 = .ok (.ireturn, 1) := by decide +kernel
theorem pn0 : plainName "com/example/weaverbird/weaverbird/codes/RunState" = true := by first | (simp [plainName, overriddenIn]; done) | decide +kernel
theorem ef0 (m : MethodId)   (w0 : Addr) : entryFrame m #[(.ref w0)] 1 = mkF m 0 #[.val (.ref w0)] [] := by first | (simp [entryFrame, mkF, argsToLocals, Value.category]; done) | rfl
set_option maxRecDepth 65536 in
set_option maxHeartbeats 40000000 in
theorem rm1 (l : Launch) (Z : State) (a0 : Array Value) (hw : ∀ d ∈ tables_1, d.before a0 Z = true) (ws : List Jvm.Cond) (w0 w1 w2 w3 w4 w5 w6 w7 w8 w9 w10 w11 : Addr) (h0 : Heap) (n0 : Nat) (hWd : Wd Z w0 w1 w2 w3 w4 w5 w6 w7 w8 w9 w10 w11) (O0 : Old Z n0 h0) :
    MetFree l (⟨"com/example/weaverbird/weaverbird/codes/RunState", "unended", "()Z"⟩ : MethodName) (head1 (Jvm.Cond.code (⟨"com/example/weaverbird/weaverbird/codes/RunState", "unended", "()Z"⟩ : MethodName) prog_10_method_5_code 1 (some .boolean) :: ws) ({ frames := 0, cells := 0, slots := 0, locals := 0 } : Room)) (fun a U => a = #[(.ref w0)] ∧ Z.Warmed39 U.vm ∧ U.heap = h0) (fun _ _ _ _ _ => True) (fun _ U o U' => ∃ v L, o = .returned v ∧ Qp (some (.int (1 : Int32))) h0 n0 v U'.heap L ∧ FrameEnd U o U' L ({ frames := 0, cells := 0, slots := 0, locals := 0 } : Room).cells ({ frames := 0, cells := 0, slots := 0, locals := 0 } : Room).slots) := by
  refine MetFree.of_bodySF (plainFor_of_name pn0) hisR ?_
  intro p e s m args below meth c s₁ Bd hml0 hP hK
  obtain ⟨rfl, hZ, hh⟩ := hP
  have hx := Bd.exec
  have hby := Bd.bytes
  have hml : c.maxLocals = 1 := hml0
  have hown : s.vm.findClass "com/example/weaverbird/weaverbird/codes/RunState" = some m.cls := findClass_of_methodNamed Bd.named
  have hnm := (name_of_methodNamed Bd.named Bd.method).1
  have X0 : Stand p l e ({ frames := 0, cells := 0, slots := 0, locals := 0 } : Room) s m #[(.ref w0)] below meth c s₁ [] 0 0 := Stand.of_body Bd
  have e0 : s₁.heap = h0 := by rw [← hh, Bd.state]; rfl
  have N0 := Fr.nil n0
  obtain ⟨wS0, wE0, wS1, wE1, wS2, wE2, wS3, wE3, wS4, wE4, wS5, wE5, wS6, wE6, wS7, wE7, wS8, wE8, wS9, wE9, wS10, wE10, wS11, wE11, wF3_ordinal, wF0_ordinal, wF1_ordinal, wF4_ordinal, wF2_ordinal, wF7_ordinal, wF11_ordinal, wF8_ordinal, wF10_ordinal, wF9_ordinal, wF6_ordinal, wF5_ordinal, -⟩ := id hWd
  have pre0 : ∀ t, Steps p.tables e below (s₁.setTop (mkF m 0 #[.val (.ref w0)] [])) t → Steps p.tables e below (s₁.setTop (entryFrame m #[(.ref w0)] 1)) t := fun t k => castTop (ef0 m w0) k
  obtain ⟨T40, X40, e40, st40⟩ := getS2 X0 hx hZ hown (host := "") (Or.inl (hw _ (List.mem_of_getElem? (i := 34) rfl))) Via.refl e0 (wS0.ext O0.2) (g := (mkF m 1 #[.val (.ref w0)] [(.ref w0)])) rfl (hb hby d_prog_10_method_5_code_1)
  obtain ⟨fs, hr, hrun, hended, hWr, hsame⟩ := X40.leave (v := some (.int (1 : Int32))) (fun h => by rw [Bd.returns] at h; cases h)
  refine ⟨_, _, pre0 _ ?_, hrun, hended, _, _, rfl, ?_, ⟨_, rfl⟩, hWr, hsame.mono (Nat.le_of_ble_eq_true rfl) (Nat.le_of_ble_eq_true rfl)⟩
  · show Steps p.tables e below (s₁.setTop (mkF m 0 #[.val (.ref w0)] [])) _
    refine XS.aloadN X0.here hx rfl (hb hby d_prog_10_method_5_code_0) rfl rfl ?_
    show Steps p.tables e below (s₁.setTop (mkF m 1 #[.val (.ref w0)] [(.ref w0)])) _
    refine st40 _ ?_
    show Steps p.tables e below (T40.setTop (mkF m 4 #[.val (.ref w0)] [(.ref w0), (.ref w0)])) _
    refine Jvm.RoadKit.acmp (g := (mkF m 4 #[.val (.ref w0)] [(.ref w0), (.ref w0)])) X40 hx rfl rfl rfl (pc0 := 4) (pc' := 28) (same := true) rfl (hb hby d_prog_10_method_5_code_4) rfl (decide_eq_true rfl) (by decide) (by decide) ?_
    show Steps p.tables e below (T40.setTop (mkF m 28 #[.val (.ref w0)] [])) _
    refine XS.iconst X40.here hx rfl (hb hby d_prog_10_method_5_code_28) ?_
    show Steps p.tables e below (T40.setTop (mkF m 29 #[.val (.ref w0)] [(.int (1 : Int32))])) _
    refine XS.goto X40.here hx rfl (pc0 := 29) (pc' := 33) rfl (hb hby d_prog_10_method_5_code_29) (by decide) (by decide) ?_
    show Steps p.tables e below (T40.setTop (mkF m 33 #[.val (.ref w0)] [(.int (1 : Int32))])) _
    exact retN X40 hx (t := .boolean) Bd.returns (by simp) (hb hby d_prog_10_method_5_code_33) hr
  · show Qp (some (.int (1 : Int32))) h0 n0 _ T40.heap _
    rw [e40]
    exact ⟨rfl, N0, rfl⟩
theorem pd0 : parseMethodDescriptor "()Z" = some ⟨[], some .boolean⟩ := by decide +kernel
theorem d_prog_10_method_5_code_7 : decode prog_10_method_5_code 7 = .ok (.aload_n 0, 1) := by decide +kernel
theorem d_prog_10_method_5_code_8 : decode prog_10_method_5_code 8 = .ok (.getstatic 7, 3) := by decide +kernel
theorem d_prog_10_method_5_code_11 : decode prog_10_method_5_code 11 = .ok (.if_acmp .eq 17, 3) := by decide +kernel
theorem ef1 (m : MethodId)   (w1 : Addr) : entryFrame m #[(.ref w1)] 1 = mkF m 0 #[.val (.ref w1)] [] := by first | (simp [entryFrame, mkF, argsToLocals, Value.category]; done) | rfl
set_option maxRecDepth 65536 in
set_option maxHeartbeats 40000000 in
theorem rm2 (l : Launch) (Z : State) (a0 : Array Value) (hw : ∀ d ∈ tables_1, d.before a0 Z = true) (ws : List Jvm.Cond) (w0 w1 w2 w3 w4 w5 w6 w7 w8 w9 w10 w11 : Addr) (h0 : Heap) (n0 : Nat) (hWd : Wd Z w0 w1 w2 w3 w4 w5 w6 w7 w8 w9 w10 w11) (O0 : Old Z n0 h0) :
    MetFree l (⟨"com/example/weaverbird/weaverbird/codes/RunState", "unended", "()Z"⟩ : MethodName) (head1 (Jvm.Cond.code (⟨"com/example/weaverbird/weaverbird/codes/RunState", "unended", "()Z"⟩ : MethodName) prog_10_method_5_code 1 (some .boolean) :: ws) ({ frames := 0, cells := 0, slots := 0, locals := 0 } : Room)) (fun a U => a = #[(.ref w1)] ∧ Z.Warmed39 U.vm ∧ U.heap = h0) (fun _ _ _ _ _ => True) (fun _ U o U' => ∃ v L, o = .returned v ∧ Qp (some (.int (1 : Int32))) h0 n0 v U'.heap L ∧ FrameEnd U o U' L ({ frames := 0, cells := 0, slots := 0, locals := 0 } : Room).cells ({ frames := 0, cells := 0, slots := 0, locals := 0 } : Room).slots) := by
  refine MetFree.of_bodySF (plainFor_of_name pn0) hisR ?_
  intro p e s m args below meth c s₁ Bd hml0 hP hK
  obtain ⟨rfl, hZ, hh⟩ := hP
  have hx := Bd.exec
  have hby := Bd.bytes
  have hml : c.maxLocals = 1 := hml0
  have hown : s.vm.findClass "com/example/weaverbird/weaverbird/codes/RunState" = some m.cls := findClass_of_methodNamed Bd.named
  have hnm := (name_of_methodNamed Bd.named Bd.method).1
  have X0 : Stand p l e ({ frames := 0, cells := 0, slots := 0, locals := 0 } : Room) s m #[(.ref w1)] below meth c s₁ [] 0 0 := Stand.of_body Bd
  have e0 : s₁.heap = h0 := by rw [← hh, Bd.state]; rfl
  have N0 := Fr.nil n0
  obtain ⟨wS0, wE0, wS1, wE1, wS2, wE2, wS3, wE3, wS4, wE4, wS5, wE5, wS6, wE6, wS7, wE7, wS8, wE8, wS9, wE9, wS10, wE10, wS11, wE11, wF3_ordinal, wF0_ordinal, wF1_ordinal, wF4_ordinal, wF2_ordinal, wF7_ordinal, wF11_ordinal, wF8_ordinal, wF10_ordinal, wF9_ordinal, wF6_ordinal, wF5_ordinal, -⟩ := id hWd
  have pre0 : ∀ t, Steps p.tables e below (s₁.setTop (mkF m 0 #[.val (.ref w1)] [])) t → Steps p.tables e below (s₁.setTop (entryFrame m #[(.ref w1)] 1)) t := fun t k => castTop (ef1 m w1) k
  obtain ⟨T43, X43, e43, st43⟩ := getS2 X0 hx hZ hown (host := "") (Or.inl (hw _ (List.mem_of_getElem? (i := 34) rfl))) Via.refl e0 (wS0.ext O0.2) (g := (mkF m 1 #[.val (.ref w1)] [(.ref w1)])) rfl (hb hby d_prog_10_method_5_code_1)
  obtain ⟨T44, X44, e44, st44⟩ := getS2 X43 hx hZ hown (host := "") (Or.inl (hw _ (List.mem_of_getElem? (i := 35) rfl))) Via.refl e43 (wS1.ext O0.2) (g := (mkF m 8 #[.val (.ref w1)] [(.ref w1)])) rfl (hb hby d_prog_10_method_5_code_8)
  obtain ⟨fs, hr, hrun, hended, hWr, hsame⟩ := X44.leave (v := some (.int (1 : Int32))) (fun h => by rw [Bd.returns] at h; cases h)
  refine ⟨_, _, pre0 _ ?_, hrun, hended, _, _, rfl, ?_, ⟨_, rfl⟩, hWr, hsame.mono (Nat.le_of_ble_eq_true rfl) (Nat.le_of_ble_eq_true rfl)⟩
  · show Steps p.tables e below (s₁.setTop (mkF m 0 #[.val (.ref w1)] [])) _
    refine XS.aloadN X0.here hx rfl (hb hby d_prog_10_method_5_code_0) rfl rfl ?_
    show Steps p.tables e below (s₁.setTop (mkF m 1 #[.val (.ref w1)] [(.ref w1)])) _
    refine st43 _ ?_
    show Steps p.tables e below (T43.setTop (mkF m 4 #[.val (.ref w1)] [(.ref w0), (.ref w1)])) _
    refine Jvm.RoadKit.acmp (g := (mkF m 4 #[.val (.ref w1)] [(.ref w0), (.ref w1)])) X43 hx rfl rfl rfl (pc0 := 4) (pc' := 7) (same := false) rfl (hb hby d_prog_10_method_5_code_4) rfl (decide_eq_false fun q => (Fld.ne wF1_ordinal wF0_ordinal (fun q => absurd (Value.int.inj q) (by decide))) (Value.ref.inj q)) (by decide) (by decide) ?_
    show Steps p.tables e below (T43.setTop (mkF m 7 #[.val (.ref w1)] [])) _
    refine XS.aloadN X43.here hx rfl (hb hby d_prog_10_method_5_code_7) rfl rfl ?_
    show Steps p.tables e below (T43.setTop (mkF m 8 #[.val (.ref w1)] [(.ref w1)])) _
    refine st44 _ ?_
    show Steps p.tables e below (T44.setTop (mkF m 11 #[.val (.ref w1)] [(.ref w1), (.ref w1)])) _
    refine Jvm.RoadKit.acmp (g := (mkF m 11 #[.val (.ref w1)] [(.ref w1), (.ref w1)])) X44 hx rfl rfl rfl (pc0 := 11) (pc' := 28) (same := true) rfl (hb hby d_prog_10_method_5_code_11) rfl (decide_eq_true rfl) (by decide) (by decide) ?_
    show Steps p.tables e below (T44.setTop (mkF m 28 #[.val (.ref w1)] [])) _
    refine XS.iconst X44.here hx rfl (hb hby d_prog_10_method_5_code_28) ?_
    show Steps p.tables e below (T44.setTop (mkF m 29 #[.val (.ref w1)] [(.int (1 : Int32))])) _
    refine XS.goto X44.here hx rfl (pc0 := 29) (pc' := 33) rfl (hb hby d_prog_10_method_5_code_29) (by decide) (by decide) ?_
    show Steps p.tables e below (T44.setTop (mkF m 33 #[.val (.ref w1)] [(.int (1 : Int32))])) _
    exact retN X44 hx (t := .boolean) Bd.returns (by simp) (hb hby d_prog_10_method_5_code_33) hr
  · show Qp (some (.int (1 : Int32))) h0 n0 _ T44.heap _
    rw [e44]
    exact ⟨rfl, N0, rfl⟩
theorem d_prog_10_method_5_code_14 : decode prog_10_method_5_code 14 = .ok (.aload_n 0, 1) := by decide +kernel
theorem d_prog_10_method_5_code_15 : decode prog_10_method_5_code 15 = .ok (.getstatic 16, 3) := by decide +kernel
theorem d_prog_10_method_5_code_18 : decode prog_10_method_5_code 18 = .ok (.if_acmp .eq 10, 3) := by decide +kernel
theorem d_prog_10_method_5_code_21 : decode prog_10_method_5_code 21 = .ok (.aload_n 0, 1) := by decide +kernel
theorem d_prog_10_method_5_code_22 : decode prog_10_method_5_code 22 = .ok (.getstatic 13, 3) := by decide +kernel
theorem d_prog_10_method_5_code_25 : decode prog_10_method_5_code 25 = .ok (.if_acmp .ne 7, 3) := by decide +kernel
theorem d_prog_10_method_5_code_32 : decode prog_10_method_5_code 32 = .ok (.iconst 0, 1) := by decide +kernel
theorem ef2 (m : MethodId)   (w2 : Addr) : entryFrame m #[(.ref w2)] 1 = mkF m 0 #[.val (.ref w2)] [] := by first | (simp [entryFrame, mkF, argsToLocals, Value.category]; done) | rfl
set_option maxRecDepth 65536 in
set_option maxHeartbeats 40000000 in
theorem rm3 (l : Launch) (Z : State) (a0 : Array Value) (hw : ∀ d ∈ tables_1, d.before a0 Z = true) (ws : List Jvm.Cond) (w0 w1 w2 w3 w4 w5 w6 w7 w8 w9 w10 w11 : Addr) (h0 : Heap) (n0 : Nat) (hWd : Wd Z w0 w1 w2 w3 w4 w5 w6 w7 w8 w9 w10 w11) (O0 : Old Z n0 h0) :
    MetFree l (⟨"com/example/weaverbird/weaverbird/codes/RunState", "unended", "()Z"⟩ : MethodName) (head1 (Jvm.Cond.code (⟨"com/example/weaverbird/weaverbird/codes/RunState", "unended", "()Z"⟩ : MethodName) prog_10_method_5_code 1 (some .boolean) :: ws) ({ frames := 0, cells := 0, slots := 0, locals := 0 } : Room)) (fun a U => a = #[(.ref w2)] ∧ Z.Warmed39 U.vm ∧ U.heap = h0) (fun _ _ _ _ _ => True) (fun _ U o U' => ∃ v L, o = .returned v ∧ Qp (some (.int (0 : Int32))) h0 n0 v U'.heap L ∧ FrameEnd U o U' L ({ frames := 0, cells := 0, slots := 0, locals := 0 } : Room).cells ({ frames := 0, cells := 0, slots := 0, locals := 0 } : Room).slots) := by
  refine MetFree.of_bodySF (plainFor_of_name pn0) hisR ?_
  intro p e s m args below meth c s₁ Bd hml0 hP hK
  obtain ⟨rfl, hZ, hh⟩ := hP
  have hx := Bd.exec
  have hby := Bd.bytes
  have hml : c.maxLocals = 1 := hml0
  have hown : s.vm.findClass "com/example/weaverbird/weaverbird/codes/RunState" = some m.cls := findClass_of_methodNamed Bd.named
  have hnm := (name_of_methodNamed Bd.named Bd.method).1
  have X0 : Stand p l e ({ frames := 0, cells := 0, slots := 0, locals := 0 } : Room) s m #[(.ref w2)] below meth c s₁ [] 0 0 := Stand.of_body Bd
  have e0 : s₁.heap = h0 := by rw [← hh, Bd.state]; rfl
  have N0 := Fr.nil n0
  obtain ⟨wS0, wE0, wS1, wE1, wS2, wE2, wS3, wE3, wS4, wE4, wS5, wE5, wS6, wE6, wS7, wE7, wS8, wE8, wS9, wE9, wS10, wE10, wS11, wE11, wF3_ordinal, wF0_ordinal, wF1_ordinal, wF4_ordinal, wF2_ordinal, wF7_ordinal, wF11_ordinal, wF8_ordinal, wF10_ordinal, wF9_ordinal, wF6_ordinal, wF5_ordinal, -⟩ := id hWd
  have pre0 : ∀ t, Steps p.tables e below (s₁.setTop (mkF m 0 #[.val (.ref w2)] [])) t → Steps p.tables e below (s₁.setTop (entryFrame m #[(.ref w2)] 1)) t := fun t k => castTop (ef2 m w2) k
  obtain ⟨T47, X47, e47, st47⟩ := getS2 X0 hx hZ hown (host := "") (Or.inl (hw _ (List.mem_of_getElem? (i := 34) rfl))) Via.refl e0 (wS0.ext O0.2) (g := (mkF m 1 #[.val (.ref w2)] [(.ref w2)])) rfl (hb hby d_prog_10_method_5_code_1)
  obtain ⟨T48, X48, e48, st48⟩ := getS2 X47 hx hZ hown (host := "") (Or.inl (hw _ (List.mem_of_getElem? (i := 35) rfl))) Via.refl e47 (wS1.ext O0.2) (g := (mkF m 8 #[.val (.ref w2)] [(.ref w2)])) rfl (hb hby d_prog_10_method_5_code_8)
  obtain ⟨T49, X49, e49, st49⟩ := getS2 X48 hx hZ hown (host := "") (Or.inl (hw _ (List.mem_of_getElem? (i := 36) rfl))) Via.refl e48 (wS4.ext O0.2) (g := (mkF m 15 #[.val (.ref w2)] [(.ref w2)])) rfl (hb hby d_prog_10_method_5_code_15)
  obtain ⟨T50, X50, e50, st50⟩ := getS2 X49 hx hZ hown (host := "") (Or.inl (hw _ (List.mem_of_getElem? (i := 37) rfl))) Via.refl e49 (wS3.ext O0.2) (g := (mkF m 22 #[.val (.ref w2)] [(.ref w2)])) rfl (hb hby d_prog_10_method_5_code_22)
  obtain ⟨fs, hr, hrun, hended, hWr, hsame⟩ := X50.leave (v := some (.int (0 : Int32))) (fun h => by rw [Bd.returns] at h; cases h)
  refine ⟨_, _, pre0 _ ?_, hrun, hended, _, _, rfl, ?_, ⟨_, rfl⟩, hWr, hsame.mono (Nat.le_of_ble_eq_true rfl) (Nat.le_of_ble_eq_true rfl)⟩
  · show Steps p.tables e below (s₁.setTop (mkF m 0 #[.val (.ref w2)] [])) _
    refine XS.aloadN X0.here hx rfl (hb hby d_prog_10_method_5_code_0) rfl rfl ?_
    show Steps p.tables e below (s₁.setTop (mkF m 1 #[.val (.ref w2)] [(.ref w2)])) _
    refine st47 _ ?_
    show Steps p.tables e below (T47.setTop (mkF m 4 #[.val (.ref w2)] [(.ref w0), (.ref w2)])) _
    refine Jvm.RoadKit.acmp (g := (mkF m 4 #[.val (.ref w2)] [(.ref w0), (.ref w2)])) X47 hx rfl rfl rfl (pc0 := 4) (pc' := 7) (same := false) rfl (hb hby d_prog_10_method_5_code_4) rfl (decide_eq_false fun q => (Fld.ne wF2_ordinal wF0_ordinal (fun q => absurd (Value.int.inj q) (by decide))) (Value.ref.inj q)) (by decide) (by decide) ?_
    show Steps p.tables e below (T47.setTop (mkF m 7 #[.val (.ref w2)] [])) _
    refine XS.aloadN X47.here hx rfl (hb hby d_prog_10_method_5_code_7) rfl rfl ?_
    show Steps p.tables e below (T47.setTop (mkF m 8 #[.val (.ref w2)] [(.ref w2)])) _
    refine st48 _ ?_
    show Steps p.tables e below (T48.setTop (mkF m 11 #[.val (.ref w2)] [(.ref w1), (.ref w2)])) _
    refine Jvm.RoadKit.acmp (g := (mkF m 11 #[.val (.ref w2)] [(.ref w1), (.ref w2)])) X48 hx rfl rfl rfl (pc0 := 11) (pc' := 14) (same := false) rfl (hb hby d_prog_10_method_5_code_11) rfl (decide_eq_false fun q => (Fld.ne wF2_ordinal wF1_ordinal (fun q => absurd (Value.int.inj q) (by decide))) (Value.ref.inj q)) (by decide) (by decide) ?_
    show Steps p.tables e below (T48.setTop (mkF m 14 #[.val (.ref w2)] [])) _
    refine XS.aloadN X48.here hx rfl (hb hby d_prog_10_method_5_code_14) rfl rfl ?_
    show Steps p.tables e below (T48.setTop (mkF m 15 #[.val (.ref w2)] [(.ref w2)])) _
    refine st49 _ ?_
    show Steps p.tables e below (T49.setTop (mkF m 18 #[.val (.ref w2)] [(.ref w4), (.ref w2)])) _
    refine Jvm.RoadKit.acmp (g := (mkF m 18 #[.val (.ref w2)] [(.ref w4), (.ref w2)])) X49 hx rfl rfl rfl (pc0 := 18) (pc' := 21) (same := false) rfl (hb hby d_prog_10_method_5_code_18) rfl (decide_eq_false fun q => (Fld.ne wF2_ordinal wF4_ordinal (fun q => absurd (Value.int.inj q) (by decide))) (Value.ref.inj q)) (by decide) (by decide) ?_
    show Steps p.tables e below (T49.setTop (mkF m 21 #[.val (.ref w2)] [])) _
    refine XS.aloadN X49.here hx rfl (hb hby d_prog_10_method_5_code_21) rfl rfl ?_
    show Steps p.tables e below (T49.setTop (mkF m 22 #[.val (.ref w2)] [(.ref w2)])) _
    refine st50 _ ?_
    show Steps p.tables e below (T50.setTop (mkF m 25 #[.val (.ref w2)] [(.ref w3), (.ref w2)])) _
    refine Jvm.RoadKit.acmp (g := (mkF m 25 #[.val (.ref w2)] [(.ref w3), (.ref w2)])) X50 hx rfl rfl rfl (pc0 := 25) (pc' := 32) (same := false) rfl (hb hby d_prog_10_method_5_code_25) rfl (decide_eq_false fun q => (Fld.ne wF2_ordinal wF3_ordinal (fun q => absurd (Value.int.inj q) (by decide))) (Value.ref.inj q)) (by decide) (by decide) ?_
    show Steps p.tables e below (T50.setTop (mkF m 32 #[.val (.ref w2)] [])) _
    refine XS.iconst X50.here hx rfl (hb hby d_prog_10_method_5_code_32) ?_
    show Steps p.tables e below (T50.setTop (mkF m 33 #[.val (.ref w2)] [(.int (0 : Int32))])) _
    exact retN X50 hx (t := .boolean) Bd.returns (by simp) (hb hby d_prog_10_method_5_code_33) hr
  · show Qp (some (.int (0 : Int32))) h0 n0 _ T50.heap _
    rw [e50]
    exact ⟨rfl, N0, rfl⟩
theorem ef3 (m : MethodId)   (w3 : Addr) : entryFrame m #[(.ref w3)] 1 = mkF m 0 #[.val (.ref w3)] [] := by first | (simp [entryFrame, mkF, argsToLocals, Value.category]; done) | rfl
set_option maxRecDepth 65536 in
set_option maxHeartbeats 40000000 in
theorem rm4 (l : Launch) (Z : State) (a0 : Array Value) (hw : ∀ d ∈ tables_1, d.before a0 Z = true) (ws : List Jvm.Cond) (w0 w1 w2 w3 w4 w5 w6 w7 w8 w9 w10 w11 : Addr) (h0 : Heap) (n0 : Nat) (hWd : Wd Z w0 w1 w2 w3 w4 w5 w6 w7 w8 w9 w10 w11) (O0 : Old Z n0 h0) :
    MetFree l (⟨"com/example/weaverbird/weaverbird/codes/RunState", "unended", "()Z"⟩ : MethodName) (head1 (Jvm.Cond.code (⟨"com/example/weaverbird/weaverbird/codes/RunState", "unended", "()Z"⟩ : MethodName) prog_10_method_5_code 1 (some .boolean) :: ws) ({ frames := 0, cells := 0, slots := 0, locals := 0 } : Room)) (fun a U => a = #[(.ref w3)] ∧ Z.Warmed39 U.vm ∧ U.heap = h0) (fun _ _ _ _ _ => True) (fun _ U o U' => ∃ v L, o = .returned v ∧ Qp (some (.int (1 : Int32))) h0 n0 v U'.heap L ∧ FrameEnd U o U' L ({ frames := 0, cells := 0, slots := 0, locals := 0 } : Room).cells ({ frames := 0, cells := 0, slots := 0, locals := 0 } : Room).slots) := by
  refine MetFree.of_bodySF (plainFor_of_name pn0) hisR ?_
  intro p e s m args below meth c s₁ Bd hml0 hP hK
  obtain ⟨rfl, hZ, hh⟩ := hP
  have hx := Bd.exec
  have hby := Bd.bytes
  have hml : c.maxLocals = 1 := hml0
  have hown : s.vm.findClass "com/example/weaverbird/weaverbird/codes/RunState" = some m.cls := findClass_of_methodNamed Bd.named
  have hnm := (name_of_methodNamed Bd.named Bd.method).1
  have X0 : Stand p l e ({ frames := 0, cells := 0, slots := 0, locals := 0 } : Room) s m #[(.ref w3)] below meth c s₁ [] 0 0 := Stand.of_body Bd
  have e0 : s₁.heap = h0 := by rw [← hh, Bd.state]; rfl
  have N0 := Fr.nil n0
  obtain ⟨wS0, wE0, wS1, wE1, wS2, wE2, wS3, wE3, wS4, wE4, wS5, wE5, wS6, wE6, wS7, wE7, wS8, wE8, wS9, wE9, wS10, wE10, wS11, wE11, wF3_ordinal, wF0_ordinal, wF1_ordinal, wF4_ordinal, wF2_ordinal, wF7_ordinal, wF11_ordinal, wF8_ordinal, wF10_ordinal, wF9_ordinal, wF6_ordinal, wF5_ordinal, -⟩ := id hWd
  have pre0 : ∀ t, Steps p.tables e below (s₁.setTop (mkF m 0 #[.val (.ref w3)] [])) t → Steps p.tables e below (s₁.setTop (entryFrame m #[(.ref w3)] 1)) t := fun t k => castTop (ef3 m w3) k
  obtain ⟨T53, X53, e53, st53⟩ := getS2 X0 hx hZ hown (host := "") (Or.inl (hw _ (List.mem_of_getElem? (i := 34) rfl))) Via.refl e0 (wS0.ext O0.2) (g := (mkF m 1 #[.val (.ref w3)] [(.ref w3)])) rfl (hb hby d_prog_10_method_5_code_1)
  obtain ⟨T54, X54, e54, st54⟩ := getS2 X53 hx hZ hown (host := "") (Or.inl (hw _ (List.mem_of_getElem? (i := 35) rfl))) Via.refl e53 (wS1.ext O0.2) (g := (mkF m 8 #[.val (.ref w3)] [(.ref w3)])) rfl (hb hby d_prog_10_method_5_code_8)
  obtain ⟨T55, X55, e55, st55⟩ := getS2 X54 hx hZ hown (host := "") (Or.inl (hw _ (List.mem_of_getElem? (i := 36) rfl))) Via.refl e54 (wS4.ext O0.2) (g := (mkF m 15 #[.val (.ref w3)] [(.ref w3)])) rfl (hb hby d_prog_10_method_5_code_15)
  obtain ⟨T56, X56, e56, st56⟩ := getS2 X55 hx hZ hown (host := "") (Or.inl (hw _ (List.mem_of_getElem? (i := 37) rfl))) Via.refl e55 (wS3.ext O0.2) (g := (mkF m 22 #[.val (.ref w3)] [(.ref w3)])) rfl (hb hby d_prog_10_method_5_code_22)
  obtain ⟨fs, hr, hrun, hended, hWr, hsame⟩ := X56.leave (v := some (.int (1 : Int32))) (fun h => by rw [Bd.returns] at h; cases h)
  refine ⟨_, _, pre0 _ ?_, hrun, hended, _, _, rfl, ?_, ⟨_, rfl⟩, hWr, hsame.mono (Nat.le_of_ble_eq_true rfl) (Nat.le_of_ble_eq_true rfl)⟩
  · show Steps p.tables e below (s₁.setTop (mkF m 0 #[.val (.ref w3)] [])) _
    refine XS.aloadN X0.here hx rfl (hb hby d_prog_10_method_5_code_0) rfl rfl ?_
    show Steps p.tables e below (s₁.setTop (mkF m 1 #[.val (.ref w3)] [(.ref w3)])) _
    refine st53 _ ?_
    show Steps p.tables e below (T53.setTop (mkF m 4 #[.val (.ref w3)] [(.ref w0), (.ref w3)])) _
    refine Jvm.RoadKit.acmp (g := (mkF m 4 #[.val (.ref w3)] [(.ref w0), (.ref w3)])) X53 hx rfl rfl rfl (pc0 := 4) (pc' := 7) (same := false) rfl (hb hby d_prog_10_method_5_code_4) rfl (decide_eq_false fun q => (Fld.ne wF3_ordinal wF0_ordinal (fun q => absurd (Value.int.inj q) (by decide))) (Value.ref.inj q)) (by decide) (by decide) ?_
    show Steps p.tables e below (T53.setTop (mkF m 7 #[.val (.ref w3)] [])) _
    refine XS.aloadN X53.here hx rfl (hb hby d_prog_10_method_5_code_7) rfl rfl ?_
    show Steps p.tables e below (T53.setTop (mkF m 8 #[.val (.ref w3)] [(.ref w3)])) _
    refine st54 _ ?_
    show Steps p.tables e below (T54.setTop (mkF m 11 #[.val (.ref w3)] [(.ref w1), (.ref w3)])) _
    refine Jvm.RoadKit.acmp (g := (mkF m 11 #[.val (.ref w3)] [(.ref w1), (.ref w3)])) X54 hx rfl rfl rfl (pc0 := 11) (pc' := 14) (same := false) rfl (hb hby d_prog_10_method_5_code_11) rfl (decide_eq_false fun q => (Fld.ne wF3_ordinal wF1_ordinal (fun q => absurd (Value.int.inj q) (by decide))) (Value.ref.inj q)) (by decide) (by decide) ?_
    show Steps p.tables e below (T54.setTop (mkF m 14 #[.val (.ref w3)] [])) _
    refine XS.aloadN X54.here hx rfl (hb hby d_prog_10_method_5_code_14) rfl rfl ?_
    show Steps p.tables e below (T54.setTop (mkF m 15 #[.val (.ref w3)] [(.ref w3)])) _
    refine st55 _ ?_
    show Steps p.tables e below (T55.setTop (mkF m 18 #[.val (.ref w3)] [(.ref w4), (.ref w3)])) _
    refine Jvm.RoadKit.acmp (g := (mkF m 18 #[.val (.ref w3)] [(.ref w4), (.ref w3)])) X55 hx rfl rfl rfl (pc0 := 18) (pc' := 21) (same := false) rfl (hb hby d_prog_10_method_5_code_18) rfl (decide_eq_false fun q => (Fld.ne wF3_ordinal wF4_ordinal (fun q => absurd (Value.int.inj q) (by decide))) (Value.ref.inj q)) (by decide) (by decide) ?_
    show Steps p.tables e below (T55.setTop (mkF m 21 #[.val (.ref w3)] [])) _
    refine XS.aloadN X55.here hx rfl (hb hby d_prog_10_method_5_code_21) rfl rfl ?_
    show Steps p.tables e below (T55.setTop (mkF m 22 #[.val (.ref w3)] [(.ref w3)])) _
    refine st56 _ ?_
    show Steps p.tables e below (T56.setTop (mkF m 25 #[.val (.ref w3)] [(.ref w3), (.ref w3)])) _
    refine Jvm.RoadKit.acmp (g := (mkF m 25 #[.val (.ref w3)] [(.ref w3), (.ref w3)])) X56 hx rfl rfl rfl (pc0 := 25) (pc' := 28) (same := true) rfl (hb hby d_prog_10_method_5_code_25) rfl (decide_eq_true rfl) (by decide) (by decide) ?_
    show Steps p.tables e below (T56.setTop (mkF m 28 #[.val (.ref w3)] [])) _
    refine XS.iconst X56.here hx rfl (hb hby d_prog_10_method_5_code_28) ?_
    show Steps p.tables e below (T56.setTop (mkF m 29 #[.val (.ref w3)] [(.int (1 : Int32))])) _
    refine XS.goto X56.here hx rfl (pc0 := 29) (pc' := 33) rfl (hb hby d_prog_10_method_5_code_29) (by decide) (by decide) ?_
    show Steps p.tables e below (T56.setTop (mkF m 33 #[.val (.ref w3)] [(.int (1 : Int32))])) _
    exact retN X56 hx (t := .boolean) Bd.returns (by simp) (hb hby d_prog_10_method_5_code_33) hr
  · show Qp (some (.int (1 : Int32))) h0 n0 _ T56.heap _
    rw [e56]
    exact ⟨rfl, N0, rfl⟩
theorem ef4 (m : MethodId)   (w4 : Addr) : entryFrame m #[(.ref w4)] 1 = mkF m 0 #[.val (.ref w4)] [] := by first | (simp [entryFrame, mkF, argsToLocals, Value.category]; done) | rfl
set_option maxRecDepth 65536 in
set_option maxHeartbeats 40000000 in
theorem rm5 (l : Launch) (Z : State) (a0 : Array Value) (hw : ∀ d ∈ tables_1, d.before a0 Z = true) (ws : List Jvm.Cond) (w0 w1 w2 w3 w4 w5 w6 w7 w8 w9 w10 w11 : Addr) (h0 : Heap) (n0 : Nat) (hWd : Wd Z w0 w1 w2 w3 w4 w5 w6 w7 w8 w9 w10 w11) (O0 : Old Z n0 h0) :
    MetFree l (⟨"com/example/weaverbird/weaverbird/codes/RunState", "unended", "()Z"⟩ : MethodName) (head1 (Jvm.Cond.code (⟨"com/example/weaverbird/weaverbird/codes/RunState", "unended", "()Z"⟩ : MethodName) prog_10_method_5_code 1 (some .boolean) :: ws) ({ frames := 0, cells := 0, slots := 0, locals := 0 } : Room)) (fun a U => a = #[(.ref w4)] ∧ Z.Warmed39 U.vm ∧ U.heap = h0) (fun _ _ _ _ _ => True) (fun _ U o U' => ∃ v L, o = .returned v ∧ Qp (some (.int (1 : Int32))) h0 n0 v U'.heap L ∧ FrameEnd U o U' L ({ frames := 0, cells := 0, slots := 0, locals := 0 } : Room).cells ({ frames := 0, cells := 0, slots := 0, locals := 0 } : Room).slots) := by
  refine MetFree.of_bodySF (plainFor_of_name pn0) hisR ?_
  intro p e s m args below meth c s₁ Bd hml0 hP hK
  obtain ⟨rfl, hZ, hh⟩ := hP
  have hx := Bd.exec
  have hby := Bd.bytes
  have hml : c.maxLocals = 1 := hml0
  have hown : s.vm.findClass "com/example/weaverbird/weaverbird/codes/RunState" = some m.cls := findClass_of_methodNamed Bd.named
  have hnm := (name_of_methodNamed Bd.named Bd.method).1
  have X0 : Stand p l e ({ frames := 0, cells := 0, slots := 0, locals := 0 } : Room) s m #[(.ref w4)] below meth c s₁ [] 0 0 := Stand.of_body Bd
  have e0 : s₁.heap = h0 := by rw [← hh, Bd.state]; rfl
  have N0 := Fr.nil n0
  obtain ⟨wS0, wE0, wS1, wE1, wS2, wE2, wS3, wE3, wS4, wE4, wS5, wE5, wS6, wE6, wS7, wE7, wS8, wE8, wS9, wE9, wS10, wE10, wS11, wE11, wF3_ordinal, wF0_ordinal, wF1_ordinal, wF4_ordinal, wF2_ordinal, wF7_ordinal, wF11_ordinal, wF8_ordinal, wF10_ordinal, wF9_ordinal, wF6_ordinal, wF5_ordinal, -⟩ := id hWd
  have pre0 : ∀ t, Steps p.tables e below (s₁.setTop (mkF m 0 #[.val (.ref w4)] [])) t → Steps p.tables e below (s₁.setTop (entryFrame m #[(.ref w4)] 1)) t := fun t k => castTop (ef4 m w4) k
  obtain ⟨T59, X59, e59, st59⟩ := getS2 X0 hx hZ hown (host := "") (Or.inl (hw _ (List.mem_of_getElem? (i := 34) rfl))) Via.refl e0 (wS0.ext O0.2) (g := (mkF m 1 #[.val (.ref w4)] [(.ref w4)])) rfl (hb hby d_prog_10_method_5_code_1)
  obtain ⟨T60, X60, e60, st60⟩ := getS2 X59 hx hZ hown (host := "") (Or.inl (hw _ (List.mem_of_getElem? (i := 35) rfl))) Via.refl e59 (wS1.ext O0.2) (g := (mkF m 8 #[.val (.ref w4)] [(.ref w4)])) rfl (hb hby d_prog_10_method_5_code_8)
  obtain ⟨T61, X61, e61, st61⟩ := getS2 X60 hx hZ hown (host := "") (Or.inl (hw _ (List.mem_of_getElem? (i := 36) rfl))) Via.refl e60 (wS4.ext O0.2) (g := (mkF m 15 #[.val (.ref w4)] [(.ref w4)])) rfl (hb hby d_prog_10_method_5_code_15)
  obtain ⟨fs, hr, hrun, hended, hWr, hsame⟩ := X61.leave (v := some (.int (1 : Int32))) (fun h => by rw [Bd.returns] at h; cases h)
  refine ⟨_, _, pre0 _ ?_, hrun, hended, _, _, rfl, ?_, ⟨_, rfl⟩, hWr, hsame.mono (Nat.le_of_ble_eq_true rfl) (Nat.le_of_ble_eq_true rfl)⟩
  · show Steps p.tables e below (s₁.setTop (mkF m 0 #[.val (.ref w4)] [])) _
    refine XS.aloadN X0.here hx rfl (hb hby d_prog_10_method_5_code_0) rfl rfl ?_
    show Steps p.tables e below (s₁.setTop (mkF m 1 #[.val (.ref w4)] [(.ref w4)])) _
    refine st59 _ ?_
    show Steps p.tables e below (T59.setTop (mkF m 4 #[.val (.ref w4)] [(.ref w0), (.ref w4)])) _
    refine Jvm.RoadKit.acmp (g := (mkF m 4 #[.val (.ref w4)] [(.ref w0), (.ref w4)])) X59 hx rfl rfl rfl (pc0 := 4) (pc' := 7) (same := false) rfl (hb hby d_prog_10_method_5_code_4) rfl (decide_eq_false fun q => (Fld.ne wF4_ordinal wF0_ordinal (fun q => absurd (Value.int.inj q) (by decide))) (Value.ref.inj q)) (by decide) (by decide) ?_
    show Steps p.tables e below (T59.setTop (mkF m 7 #[.val (.ref w4)] [])) _
    refine XS.aloadN X59.here hx rfl (hb hby d_prog_10_method_5_code_7) rfl rfl ?_
    show Steps p.tables e below (T59.setTop (mkF m 8 #[.val (.ref w4)] [(.ref w4)])) _
    refine st60 _ ?_
    show Steps p.tables e below (T60.setTop (mkF m 11 #[.val (.ref w4)] [(.ref w1), (.ref w4)])) _
    refine Jvm.RoadKit.acmp (g := (mkF m 11 #[.val (.ref w4)] [(.ref w1), (.ref w4)])) X60 hx rfl rfl rfl (pc0 := 11) (pc' := 14) (same := false) rfl (hb hby d_prog_10_method_5_code_11) rfl (decide_eq_false fun q => (Fld.ne wF4_ordinal wF1_ordinal (fun q => absurd (Value.int.inj q) (by decide))) (Value.ref.inj q)) (by decide) (by decide) ?_
    show Steps p.tables e below (T60.setTop (mkF m 14 #[.val (.ref w4)] [])) _
    refine XS.aloadN X60.here hx rfl (hb hby d_prog_10_method_5_code_14) rfl rfl ?_
    show Steps p.tables e below (T60.setTop (mkF m 15 #[.val (.ref w4)] [(.ref w4)])) _
    refine st61 _ ?_
    show Steps p.tables e below (T61.setTop (mkF m 18 #[.val (.ref w4)] [(.ref w4), (.ref w4)])) _
    refine Jvm.RoadKit.acmp (g := (mkF m 18 #[.val (.ref w4)] [(.ref w4), (.ref w4)])) X61 hx rfl rfl rfl (pc0 := 18) (pc' := 28) (same := true) rfl (hb hby d_prog_10_method_5_code_18) rfl (decide_eq_true rfl) (by decide) (by decide) ?_
    show Steps p.tables e below (T61.setTop (mkF m 28 #[.val (.ref w4)] [])) _
    refine XS.iconst X61.here hx rfl (hb hby d_prog_10_method_5_code_28) ?_
    show Steps p.tables e below (T61.setTop (mkF m 29 #[.val (.ref w4)] [(.int (1 : Int32))])) _
    refine XS.goto X61.here hx rfl (pc0 := 29) (pc' := 33) rfl (hb hby d_prog_10_method_5_code_29) (by decide) (by decide) ?_
    show Steps p.tables e below (T61.setTop (mkF m 33 #[.val (.ref w4)] [(.int (1 : Int32))])) _
    exact retN X61 hx (t := .boolean) Bd.returns (by simp) (hb hby d_prog_10_method_5_code_33) hr
  · show Qp (some (.int (1 : Int32))) h0 n0 _ T61.heap _
    rw [e61]
    exact ⟨rfl, N0, rfl⟩
theorem ef5 (m : MethodId)   (w5 : Addr) : entryFrame m #[(.ref w5)] 1 = mkF m 0 #[.val (.ref w5)] [] := by first | (simp [entryFrame, mkF, argsToLocals, Value.category]; done) | rfl
set_option maxRecDepth 65536 in
set_option maxHeartbeats 40000000 in
theorem rm6 (l : Launch) (Z : State) (a0 : Array Value) (hw : ∀ d ∈ tables_1, d.before a0 Z = true) (ws : List Jvm.Cond) (w0 w1 w2 w3 w4 w5 w6 w7 w8 w9 w10 w11 : Addr) (h0 : Heap) (n0 : Nat) (hWd : Wd Z w0 w1 w2 w3 w4 w5 w6 w7 w8 w9 w10 w11) (O0 : Old Z n0 h0) :
    MetFree l (⟨"com/example/weaverbird/weaverbird/codes/RunState", "unended", "()Z"⟩ : MethodName) (head1 (Jvm.Cond.code (⟨"com/example/weaverbird/weaverbird/codes/RunState", "unended", "()Z"⟩ : MethodName) prog_10_method_5_code 1 (some .boolean) :: ws) ({ frames := 0, cells := 0, slots := 0, locals := 0 } : Room)) (fun a U => a = #[(.ref w5)] ∧ Z.Warmed39 U.vm ∧ U.heap = h0) (fun _ _ _ _ _ => True) (fun _ U o U' => ∃ v L, o = .returned v ∧ Qp (some (.int (0 : Int32))) h0 n0 v U'.heap L ∧ FrameEnd U o U' L ({ frames := 0, cells := 0, slots := 0, locals := 0 } : Room).cells ({ frames := 0, cells := 0, slots := 0, locals := 0 } : Room).slots) := by
  refine MetFree.of_bodySF (plainFor_of_name pn0) hisR ?_
  intro p e s m args below meth c s₁ Bd hml0 hP hK
  obtain ⟨rfl, hZ, hh⟩ := hP
  have hx := Bd.exec
  have hby := Bd.bytes
  have hml : c.maxLocals = 1 := hml0
  have hown : s.vm.findClass "com/example/weaverbird/weaverbird/codes/RunState" = some m.cls := findClass_of_methodNamed Bd.named
  have hnm := (name_of_methodNamed Bd.named Bd.method).1
  have X0 : Stand p l e ({ frames := 0, cells := 0, slots := 0, locals := 0 } : Room) s m #[(.ref w5)] below meth c s₁ [] 0 0 := Stand.of_body Bd
  have e0 : s₁.heap = h0 := by rw [← hh, Bd.state]; rfl
  have N0 := Fr.nil n0
  obtain ⟨wS0, wE0, wS1, wE1, wS2, wE2, wS3, wE3, wS4, wE4, wS5, wE5, wS6, wE6, wS7, wE7, wS8, wE8, wS9, wE9, wS10, wE10, wS11, wE11, wF3_ordinal, wF0_ordinal, wF1_ordinal, wF4_ordinal, wF2_ordinal, wF7_ordinal, wF11_ordinal, wF8_ordinal, wF10_ordinal, wF9_ordinal, wF6_ordinal, wF5_ordinal, -⟩ := id hWd
  have pre0 : ∀ t, Steps p.tables e below (s₁.setTop (mkF m 0 #[.val (.ref w5)] [])) t → Steps p.tables e below (s₁.setTop (entryFrame m #[(.ref w5)] 1)) t := fun t k => castTop (ef5 m w5) k
  obtain ⟨T64, X64, e64, st64⟩ := getS2 X0 hx hZ hown (host := "") (Or.inl (hw _ (List.mem_of_getElem? (i := 34) rfl))) Via.refl e0 (wS0.ext O0.2) (g := (mkF m 1 #[.val (.ref w5)] [(.ref w5)])) rfl (hb hby d_prog_10_method_5_code_1)
  obtain ⟨T65, X65, e65, st65⟩ := getS2 X64 hx hZ hown (host := "") (Or.inl (hw _ (List.mem_of_getElem? (i := 35) rfl))) Via.refl e64 (wS1.ext O0.2) (g := (mkF m 8 #[.val (.ref w5)] [(.ref w5)])) rfl (hb hby d_prog_10_method_5_code_8)
  obtain ⟨T66, X66, e66, st66⟩ := getS2 X65 hx hZ hown (host := "") (Or.inl (hw _ (List.mem_of_getElem? (i := 36) rfl))) Via.refl e65 (wS4.ext O0.2) (g := (mkF m 15 #[.val (.ref w5)] [(.ref w5)])) rfl (hb hby d_prog_10_method_5_code_15)
  obtain ⟨T67, X67, e67, st67⟩ := getS2 X66 hx hZ hown (host := "") (Or.inl (hw _ (List.mem_of_getElem? (i := 37) rfl))) Via.refl e66 (wS3.ext O0.2) (g := (mkF m 22 #[.val (.ref w5)] [(.ref w5)])) rfl (hb hby d_prog_10_method_5_code_22)
  obtain ⟨fs, hr, hrun, hended, hWr, hsame⟩ := X67.leave (v := some (.int (0 : Int32))) (fun h => by rw [Bd.returns] at h; cases h)
  refine ⟨_, _, pre0 _ ?_, hrun, hended, _, _, rfl, ?_, ⟨_, rfl⟩, hWr, hsame.mono (Nat.le_of_ble_eq_true rfl) (Nat.le_of_ble_eq_true rfl)⟩
  · show Steps p.tables e below (s₁.setTop (mkF m 0 #[.val (.ref w5)] [])) _
    refine XS.aloadN X0.here hx rfl (hb hby d_prog_10_method_5_code_0) rfl rfl ?_
    show Steps p.tables e below (s₁.setTop (mkF m 1 #[.val (.ref w5)] [(.ref w5)])) _
    refine st64 _ ?_
    show Steps p.tables e below (T64.setTop (mkF m 4 #[.val (.ref w5)] [(.ref w0), (.ref w5)])) _
    refine Jvm.RoadKit.acmp (g := (mkF m 4 #[.val (.ref w5)] [(.ref w0), (.ref w5)])) X64 hx rfl rfl rfl (pc0 := 4) (pc' := 7) (same := false) rfl (hb hby d_prog_10_method_5_code_4) rfl (decide_eq_false fun q => (Fld.ne wF5_ordinal wF0_ordinal (fun q => absurd (Value.int.inj q) (by decide))) (Value.ref.inj q)) (by decide) (by decide) ?_
    show Steps p.tables e below (T64.setTop (mkF m 7 #[.val (.ref w5)] [])) _
    refine XS.aloadN X64.here hx rfl (hb hby d_prog_10_method_5_code_7) rfl rfl ?_
    show Steps p.tables e below (T64.setTop (mkF m 8 #[.val (.ref w5)] [(.ref w5)])) _
    refine st65 _ ?_
    show Steps p.tables e below (T65.setTop (mkF m 11 #[.val (.ref w5)] [(.ref w1), (.ref w5)])) _
    refine Jvm.RoadKit.acmp (g := (mkF m 11 #[.val (.ref w5)] [(.ref w1), (.ref w5)])) X65 hx rfl rfl rfl (pc0 := 11) (pc' := 14) (same := false) rfl (hb hby d_prog_10_method_5_code_11) rfl (decide_eq_false fun q => (Fld.ne wF5_ordinal wF1_ordinal (fun q => absurd (Value.int.inj q) (by decide))) (Value.ref.inj q)) (by decide) (by decide) ?_
    show Steps p.tables e below (T65.setTop (mkF m 14 #[.val (.ref w5)] [])) _
    refine XS.aloadN X65.here hx rfl (hb hby d_prog_10_method_5_code_14) rfl rfl ?_
    show Steps p.tables e below (T65.setTop (mkF m 15 #[.val (.ref w5)] [(.ref w5)])) _
    refine st66 _ ?_
    show Steps p.tables e below (T66.setTop (mkF m 18 #[.val (.ref w5)] [(.ref w4), (.ref w5)])) _
    refine Jvm.RoadKit.acmp (g := (mkF m 18 #[.val (.ref w5)] [(.ref w4), (.ref w5)])) X66 hx rfl rfl rfl (pc0 := 18) (pc' := 21) (same := false) rfl (hb hby d_prog_10_method_5_code_18) rfl (decide_eq_false fun q => (Fld.ne wF5_ordinal wF4_ordinal (fun q => absurd (Value.int.inj q) (by decide))) (Value.ref.inj q)) (by decide) (by decide) ?_
    show Steps p.tables e below (T66.setTop (mkF m 21 #[.val (.ref w5)] [])) _
    refine XS.aloadN X66.here hx rfl (hb hby d_prog_10_method_5_code_21) rfl rfl ?_
    show Steps p.tables e below (T66.setTop (mkF m 22 #[.val (.ref w5)] [(.ref w5)])) _
    refine st67 _ ?_
    show Steps p.tables e below (T67.setTop (mkF m 25 #[.val (.ref w5)] [(.ref w3), (.ref w5)])) _
    refine Jvm.RoadKit.acmp (g := (mkF m 25 #[.val (.ref w5)] [(.ref w3), (.ref w5)])) X67 hx rfl rfl rfl (pc0 := 25) (pc' := 32) (same := false) rfl (hb hby d_prog_10_method_5_code_25) rfl (decide_eq_false fun q => (Fld.ne wF5_ordinal wF3_ordinal (fun q => absurd (Value.int.inj q) (by decide))) (Value.ref.inj q)) (by decide) (by decide) ?_
    show Steps p.tables e below (T67.setTop (mkF m 32 #[.val (.ref w5)] [])) _
    refine XS.iconst X67.here hx rfl (hb hby d_prog_10_method_5_code_32) ?_
    show Steps p.tables e below (T67.setTop (mkF m 33 #[.val (.ref w5)] [(.int (0 : Int32))])) _
    exact retN X67 hx (t := .boolean) Bd.returns (by simp) (hb hby d_prog_10_method_5_code_33) hr
  · show Qp (some (.int (0 : Int32))) h0 n0 _ T67.heap _
    rw [e67]
    exact ⟨rfl, N0, rfl⟩
theorem ef6 (m : MethodId)   (w6 : Addr) : entryFrame m #[(.ref w6)] 1 = mkF m 0 #[.val (.ref w6)] [] := by first | (simp [entryFrame, mkF, argsToLocals, Value.category]; done) | rfl
set_option maxRecDepth 65536 in
set_option maxHeartbeats 40000000 in
theorem rm7 (l : Launch) (Z : State) (a0 : Array Value) (hw : ∀ d ∈ tables_1, d.before a0 Z = true) (ws : List Jvm.Cond) (w0 w1 w2 w3 w4 w5 w6 w7 w8 w9 w10 w11 : Addr) (h0 : Heap) (n0 : Nat) (hWd : Wd Z w0 w1 w2 w3 w4 w5 w6 w7 w8 w9 w10 w11) (O0 : Old Z n0 h0) :
    MetFree l (⟨"com/example/weaverbird/weaverbird/codes/RunState", "unended", "()Z"⟩ : MethodName) (head1 (Jvm.Cond.code (⟨"com/example/weaverbird/weaverbird/codes/RunState", "unended", "()Z"⟩ : MethodName) prog_10_method_5_code 1 (some .boolean) :: ws) ({ frames := 0, cells := 0, slots := 0, locals := 0 } : Room)) (fun a U => a = #[(.ref w6)] ∧ Z.Warmed39 U.vm ∧ U.heap = h0) (fun _ _ _ _ _ => True) (fun _ U o U' => ∃ v L, o = .returned v ∧ Qp (some (.int (0 : Int32))) h0 n0 v U'.heap L ∧ FrameEnd U o U' L ({ frames := 0, cells := 0, slots := 0, locals := 0 } : Room).cells ({ frames := 0, cells := 0, slots := 0, locals := 0 } : Room).slots) := by
  refine MetFree.of_bodySF (plainFor_of_name pn0) hisR ?_
  intro p e s m args below meth c s₁ Bd hml0 hP hK
  obtain ⟨rfl, hZ, hh⟩ := hP
  have hx := Bd.exec
  have hby := Bd.bytes
  have hml : c.maxLocals = 1 := hml0
  have hown : s.vm.findClass "com/example/weaverbird/weaverbird/codes/RunState" = some m.cls := findClass_of_methodNamed Bd.named
  have hnm := (name_of_methodNamed Bd.named Bd.method).1
  have X0 : Stand p l e ({ frames := 0, cells := 0, slots := 0, locals := 0 } : Room) s m #[(.ref w6)] below meth c s₁ [] 0 0 := Stand.of_body Bd
  have e0 : s₁.heap = h0 := by rw [← hh, Bd.state]; rfl
  have N0 := Fr.nil n0
  obtain ⟨wS0, wE0, wS1, wE1, wS2, wE2, wS3, wE3, wS4, wE4, wS5, wE5, wS6, wE6, wS7, wE7, wS8, wE8, wS9, wE9, wS10, wE10, wS11, wE11, wF3_ordinal, wF0_ordinal, wF1_ordinal, wF4_ordinal, wF2_ordinal, wF7_ordinal, wF11_ordinal, wF8_ordinal, wF10_ordinal, wF9_ordinal, wF6_ordinal, wF5_ordinal, -⟩ := id hWd
  have pre0 : ∀ t, Steps p.tables e below (s₁.setTop (mkF m 0 #[.val (.ref w6)] [])) t → Steps p.tables e below (s₁.setTop (entryFrame m #[(.ref w6)] 1)) t := fun t k => castTop (ef6 m w6) k
  obtain ⟨T70, X70, e70, st70⟩ := getS2 X0 hx hZ hown (host := "") (Or.inl (hw _ (List.mem_of_getElem? (i := 34) rfl))) Via.refl e0 (wS0.ext O0.2) (g := (mkF m 1 #[.val (.ref w6)] [(.ref w6)])) rfl (hb hby d_prog_10_method_5_code_1)
  obtain ⟨T71, X71, e71, st71⟩ := getS2 X70 hx hZ hown (host := "") (Or.inl (hw _ (List.mem_of_getElem? (i := 35) rfl))) Via.refl e70 (wS1.ext O0.2) (g := (mkF m 8 #[.val (.ref w6)] [(.ref w6)])) rfl (hb hby d_prog_10_method_5_code_8)
  obtain ⟨T72, X72, e72, st72⟩ := getS2 X71 hx hZ hown (host := "") (Or.inl (hw _ (List.mem_of_getElem? (i := 36) rfl))) Via.refl e71 (wS4.ext O0.2) (g := (mkF m 15 #[.val (.ref w6)] [(.ref w6)])) rfl (hb hby d_prog_10_method_5_code_15)
  obtain ⟨T73, X73, e73, st73⟩ := getS2 X72 hx hZ hown (host := "") (Or.inl (hw _ (List.mem_of_getElem? (i := 37) rfl))) Via.refl e72 (wS3.ext O0.2) (g := (mkF m 22 #[.val (.ref w6)] [(.ref w6)])) rfl (hb hby d_prog_10_method_5_code_22)
  obtain ⟨fs, hr, hrun, hended, hWr, hsame⟩ := X73.leave (v := some (.int (0 : Int32))) (fun h => by rw [Bd.returns] at h; cases h)
  refine ⟨_, _, pre0 _ ?_, hrun, hended, _, _, rfl, ?_, ⟨_, rfl⟩, hWr, hsame.mono (Nat.le_of_ble_eq_true rfl) (Nat.le_of_ble_eq_true rfl)⟩
  · show Steps p.tables e below (s₁.setTop (mkF m 0 #[.val (.ref w6)] [])) _
    refine XS.aloadN X0.here hx rfl (hb hby d_prog_10_method_5_code_0) rfl rfl ?_
    show Steps p.tables e below (s₁.setTop (mkF m 1 #[.val (.ref w6)] [(.ref w6)])) _
    refine st70 _ ?_
    show Steps p.tables e below (T70.setTop (mkF m 4 #[.val (.ref w6)] [(.ref w0), (.ref w6)])) _
    refine Jvm.RoadKit.acmp (g := (mkF m 4 #[.val (.ref w6)] [(.ref w0), (.ref w6)])) X70 hx rfl rfl rfl (pc0 := 4) (pc' := 7) (same := false) rfl (hb hby d_prog_10_method_5_code_4) rfl (decide_eq_false fun q => (Fld.ne wF6_ordinal wF0_ordinal (fun q => absurd (Value.int.inj q) (by decide))) (Value.ref.inj q)) (by decide) (by decide) ?_
    show Steps p.tables e below (T70.setTop (mkF m 7 #[.val (.ref w6)] [])) _
    refine XS.aloadN X70.here hx rfl (hb hby d_prog_10_method_5_code_7) rfl rfl ?_
    show Steps p.tables e below (T70.setTop (mkF m 8 #[.val (.ref w6)] [(.ref w6)])) _
    refine st71 _ ?_
    show Steps p.tables e below (T71.setTop (mkF m 11 #[.val (.ref w6)] [(.ref w1), (.ref w6)])) _
    refine Jvm.RoadKit.acmp (g := (mkF m 11 #[.val (.ref w6)] [(.ref w1), (.ref w6)])) X71 hx rfl rfl rfl (pc0 := 11) (pc' := 14) (same := false) rfl (hb hby d_prog_10_method_5_code_11) rfl (decide_eq_false fun q => (Fld.ne wF6_ordinal wF1_ordinal (fun q => absurd (Value.int.inj q) (by decide))) (Value.ref.inj q)) (by decide) (by decide) ?_
    show Steps p.tables e below (T71.setTop (mkF m 14 #[.val (.ref w6)] [])) _
    refine XS.aloadN X71.here hx rfl (hb hby d_prog_10_method_5_code_14) rfl rfl ?_
    show Steps p.tables e below (T71.setTop (mkF m 15 #[.val (.ref w6)] [(.ref w6)])) _
    refine st72 _ ?_
    show Steps p.tables e below (T72.setTop (mkF m 18 #[.val (.ref w6)] [(.ref w4), (.ref w6)])) _
    refine Jvm.RoadKit.acmp (g := (mkF m 18 #[.val (.ref w6)] [(.ref w4), (.ref w6)])) X72 hx rfl rfl rfl (pc0 := 18) (pc' := 21) (same := false) rfl (hb hby d_prog_10_method_5_code_18) rfl (decide_eq_false fun q => (Fld.ne wF6_ordinal wF4_ordinal (fun q => absurd (Value.int.inj q) (by decide))) (Value.ref.inj q)) (by decide) (by decide) ?_
    show Steps p.tables e below (T72.setTop (mkF m 21 #[.val (.ref w6)] [])) _
    refine XS.aloadN X72.here hx rfl (hb hby d_prog_10_method_5_code_21) rfl rfl ?_
    show Steps p.tables e below (T72.setTop (mkF m 22 #[.val (.ref w6)] [(.ref w6)])) _
    refine st73 _ ?_
    show Steps p.tables e below (T73.setTop (mkF m 25 #[.val (.ref w6)] [(.ref w3), (.ref w6)])) _
    refine Jvm.RoadKit.acmp (g := (mkF m 25 #[.val (.ref w6)] [(.ref w3), (.ref w6)])) X73 hx rfl rfl rfl (pc0 := 25) (pc' := 32) (same := false) rfl (hb hby d_prog_10_method_5_code_25) rfl (decide_eq_false fun q => (Fld.ne wF6_ordinal wF3_ordinal (fun q => absurd (Value.int.inj q) (by decide))) (Value.ref.inj q)) (by decide) (by decide) ?_
    show Steps p.tables e below (T73.setTop (mkF m 32 #[.val (.ref w6)] [])) _
    refine XS.iconst X73.here hx rfl (hb hby d_prog_10_method_5_code_32) ?_
    show Steps p.tables e below (T73.setTop (mkF m 33 #[.val (.ref w6)] [(.int (0 : Int32))])) _
    exact retN X73 hx (t := .boolean) Bd.returns (by simp) (hb hby d_prog_10_method_5_code_33) hr
  · show Qp (some (.int (0 : Int32))) h0 n0 _ T73.heap _
    rw [e73]
    exact ⟨rfl, N0, rfl⟩
theorem ef7 (m : MethodId)   (w7 : Addr) : entryFrame m #[(.ref w7)] 1 = mkF m 0 #[.val (.ref w7)] [] := by first | (simp [entryFrame, mkF, argsToLocals, Value.category]; done) | rfl
set_option maxRecDepth 65536 in
set_option maxHeartbeats 40000000 in
theorem rm8 (l : Launch) (Z : State) (a0 : Array Value) (hw : ∀ d ∈ tables_1, d.before a0 Z = true) (ws : List Jvm.Cond) (w0 w1 w2 w3 w4 w5 w6 w7 w8 w9 w10 w11 : Addr) (h0 : Heap) (n0 : Nat) (hWd : Wd Z w0 w1 w2 w3 w4 w5 w6 w7 w8 w9 w10 w11) (O0 : Old Z n0 h0) :
    MetFree l (⟨"com/example/weaverbird/weaverbird/codes/RunState", "unended", "()Z"⟩ : MethodName) (head1 (Jvm.Cond.code (⟨"com/example/weaverbird/weaverbird/codes/RunState", "unended", "()Z"⟩ : MethodName) prog_10_method_5_code 1 (some .boolean) :: ws) ({ frames := 0, cells := 0, slots := 0, locals := 0 } : Room)) (fun a U => a = #[(.ref w7)] ∧ Z.Warmed39 U.vm ∧ U.heap = h0) (fun _ _ _ _ _ => True) (fun _ U o U' => ∃ v L, o = .returned v ∧ Qp (some (.int (0 : Int32))) h0 n0 v U'.heap L ∧ FrameEnd U o U' L ({ frames := 0, cells := 0, slots := 0, locals := 0 } : Room).cells ({ frames := 0, cells := 0, slots := 0, locals := 0 } : Room).slots) := by
  refine MetFree.of_bodySF (plainFor_of_name pn0) hisR ?_
  intro p e s m args below meth c s₁ Bd hml0 hP hK
  obtain ⟨rfl, hZ, hh⟩ := hP
  have hx := Bd.exec
  have hby := Bd.bytes
  have hml : c.maxLocals = 1 := hml0
  have hown : s.vm.findClass "com/example/weaverbird/weaverbird/codes/RunState" = some m.cls := findClass_of_methodNamed Bd.named
  have hnm := (name_of_methodNamed Bd.named Bd.method).1
  have X0 : Stand p l e ({ frames := 0, cells := 0, slots := 0, locals := 0 } : Room) s m #[(.ref w7)] below meth c s₁ [] 0 0 := Stand.of_body Bd
  have e0 : s₁.heap = h0 := by rw [← hh, Bd.state]; rfl
  have N0 := Fr.nil n0
  obtain ⟨wS0, wE0, wS1, wE1, wS2, wE2, wS3, wE3, wS4, wE4, wS5, wE5, wS6, wE6, wS7, wE7, wS8, wE8, wS9, wE9, wS10, wE10, wS11, wE11, wF3_ordinal, wF0_ordinal, wF1_ordinal, wF4_ordinal, wF2_ordinal, wF7_ordinal, wF11_ordinal, wF8_ordinal, wF10_ordinal, wF9_ordinal, wF6_ordinal, wF5_ordinal, -⟩ := id hWd
  have pre0 : ∀ t, Steps p.tables e below (s₁.setTop (mkF m 0 #[.val (.ref w7)] [])) t → Steps p.tables e below (s₁.setTop (entryFrame m #[(.ref w7)] 1)) t := fun t k => castTop (ef7 m w7) k
  obtain ⟨T76, X76, e76, st76⟩ := getS2 X0 hx hZ hown (host := "") (Or.inl (hw _ (List.mem_of_getElem? (i := 34) rfl))) Via.refl e0 (wS0.ext O0.2) (g := (mkF m 1 #[.val (.ref w7)] [(.ref w7)])) rfl (hb hby d_prog_10_method_5_code_1)
  obtain ⟨T77, X77, e77, st77⟩ := getS2 X76 hx hZ hown (host := "") (Or.inl (hw _ (List.mem_of_getElem? (i := 35) rfl))) Via.refl e76 (wS1.ext O0.2) (g := (mkF m 8 #[.val (.ref w7)] [(.ref w7)])) rfl (hb hby d_prog_10_method_5_code_8)
  obtain ⟨T78, X78, e78, st78⟩ := getS2 X77 hx hZ hown (host := "") (Or.inl (hw _ (List.mem_of_getElem? (i := 36) rfl))) Via.refl e77 (wS4.ext O0.2) (g := (mkF m 15 #[.val (.ref w7)] [(.ref w7)])) rfl (hb hby d_prog_10_method_5_code_15)
  obtain ⟨T79, X79, e79, st79⟩ := getS2 X78 hx hZ hown (host := "") (Or.inl (hw _ (List.mem_of_getElem? (i := 37) rfl))) Via.refl e78 (wS3.ext O0.2) (g := (mkF m 22 #[.val (.ref w7)] [(.ref w7)])) rfl (hb hby d_prog_10_method_5_code_22)
  obtain ⟨fs, hr, hrun, hended, hWr, hsame⟩ := X79.leave (v := some (.int (0 : Int32))) (fun h => by rw [Bd.returns] at h; cases h)
  refine ⟨_, _, pre0 _ ?_, hrun, hended, _, _, rfl, ?_, ⟨_, rfl⟩, hWr, hsame.mono (Nat.le_of_ble_eq_true rfl) (Nat.le_of_ble_eq_true rfl)⟩
  · show Steps p.tables e below (s₁.setTop (mkF m 0 #[.val (.ref w7)] [])) _
    refine XS.aloadN X0.here hx rfl (hb hby d_prog_10_method_5_code_0) rfl rfl ?_
    show Steps p.tables e below (s₁.setTop (mkF m 1 #[.val (.ref w7)] [(.ref w7)])) _
    refine st76 _ ?_
    show Steps p.tables e below (T76.setTop (mkF m 4 #[.val (.ref w7)] [(.ref w0), (.ref w7)])) _
    refine Jvm.RoadKit.acmp (g := (mkF m 4 #[.val (.ref w7)] [(.ref w0), (.ref w7)])) X76 hx rfl rfl rfl (pc0 := 4) (pc' := 7) (same := false) rfl (hb hby d_prog_10_method_5_code_4) rfl (decide_eq_false fun q => (Fld.ne wF7_ordinal wF0_ordinal (fun q => absurd (Value.int.inj q) (by decide))) (Value.ref.inj q)) (by decide) (by decide) ?_
    show Steps p.tables e below (T76.setTop (mkF m 7 #[.val (.ref w7)] [])) _
    refine XS.aloadN X76.here hx rfl (hb hby d_prog_10_method_5_code_7) rfl rfl ?_
    show Steps p.tables e below (T76.setTop (mkF m 8 #[.val (.ref w7)] [(.ref w7)])) _
    refine st77 _ ?_
    show Steps p.tables e below (T77.setTop (mkF m 11 #[.val (.ref w7)] [(.ref w1), (.ref w7)])) _
    refine Jvm.RoadKit.acmp (g := (mkF m 11 #[.val (.ref w7)] [(.ref w1), (.ref w7)])) X77 hx rfl rfl rfl (pc0 := 11) (pc' := 14) (same := false) rfl (hb hby d_prog_10_method_5_code_11) rfl (decide_eq_false fun q => (Fld.ne wF7_ordinal wF1_ordinal (fun q => absurd (Value.int.inj q) (by decide))) (Value.ref.inj q)) (by decide) (by decide) ?_
    show Steps p.tables e below (T77.setTop (mkF m 14 #[.val (.ref w7)] [])) _
    refine XS.aloadN X77.here hx rfl (hb hby d_prog_10_method_5_code_14) rfl rfl ?_
    show Steps p.tables e below (T77.setTop (mkF m 15 #[.val (.ref w7)] [(.ref w7)])) _
    refine st78 _ ?_
    show Steps p.tables e below (T78.setTop (mkF m 18 #[.val (.ref w7)] [(.ref w4), (.ref w7)])) _
    refine Jvm.RoadKit.acmp (g := (mkF m 18 #[.val (.ref w7)] [(.ref w4), (.ref w7)])) X78 hx rfl rfl rfl (pc0 := 18) (pc' := 21) (same := false) rfl (hb hby d_prog_10_method_5_code_18) rfl (decide_eq_false fun q => (Fld.ne wF7_ordinal wF4_ordinal (fun q => absurd (Value.int.inj q) (by decide))) (Value.ref.inj q)) (by decide) (by decide) ?_
    show Steps p.tables e below (T78.setTop (mkF m 21 #[.val (.ref w7)] [])) _
    refine XS.aloadN X78.here hx rfl (hb hby d_prog_10_method_5_code_21) rfl rfl ?_
    show Steps p.tables e below (T78.setTop (mkF m 22 #[.val (.ref w7)] [(.ref w7)])) _
    refine st79 _ ?_
    show Steps p.tables e below (T79.setTop (mkF m 25 #[.val (.ref w7)] [(.ref w3), (.ref w7)])) _
    refine Jvm.RoadKit.acmp (g := (mkF m 25 #[.val (.ref w7)] [(.ref w3), (.ref w7)])) X79 hx rfl rfl rfl (pc0 := 25) (pc' := 32) (same := false) rfl (hb hby d_prog_10_method_5_code_25) rfl (decide_eq_false fun q => (Fld.ne wF7_ordinal wF3_ordinal (fun q => absurd (Value.int.inj q) (by decide))) (Value.ref.inj q)) (by decide) (by decide) ?_
    show Steps p.tables e below (T79.setTop (mkF m 32 #[.val (.ref w7)] [])) _
    refine XS.iconst X79.here hx rfl (hb hby d_prog_10_method_5_code_32) ?_
    show Steps p.tables e below (T79.setTop (mkF m 33 #[.val (.ref w7)] [(.int (0 : Int32))])) _
    exact retN X79 hx (t := .boolean) Bd.returns (by simp) (hb hby d_prog_10_method_5_code_33) hr
  · show Qp (some (.int (0 : Int32))) h0 n0 _ T79.heap _
    rw [e79]
    exact ⟨rfl, N0, rfl⟩
theorem ef8 (m : MethodId)   (w8 : Addr) : entryFrame m #[(.ref w8)] 1 = mkF m 0 #[.val (.ref w8)] [] := by first | (simp [entryFrame, mkF, argsToLocals, Value.category]; done) | rfl
set_option maxRecDepth 65536 in
set_option maxHeartbeats 40000000 in
theorem rm9 (l : Launch) (Z : State) (a0 : Array Value) (hw : ∀ d ∈ tables_1, d.before a0 Z = true) (ws : List Jvm.Cond) (w0 w1 w2 w3 w4 w5 w6 w7 w8 w9 w10 w11 : Addr) (h0 : Heap) (n0 : Nat) (hWd : Wd Z w0 w1 w2 w3 w4 w5 w6 w7 w8 w9 w10 w11) (O0 : Old Z n0 h0) :
    MetFree l (⟨"com/example/weaverbird/weaverbird/codes/RunState", "unended", "()Z"⟩ : MethodName) (head1 (Jvm.Cond.code (⟨"com/example/weaverbird/weaverbird/codes/RunState", "unended", "()Z"⟩ : MethodName) prog_10_method_5_code 1 (some .boolean) :: ws) ({ frames := 0, cells := 0, slots := 0, locals := 0 } : Room)) (fun a U => a = #[(.ref w8)] ∧ Z.Warmed39 U.vm ∧ U.heap = h0) (fun _ _ _ _ _ => True) (fun _ U o U' => ∃ v L, o = .returned v ∧ Qp (some (.int (0 : Int32))) h0 n0 v U'.heap L ∧ FrameEnd U o U' L ({ frames := 0, cells := 0, slots := 0, locals := 0 } : Room).cells ({ frames := 0, cells := 0, slots := 0, locals := 0 } : Room).slots) := by
  refine MetFree.of_bodySF (plainFor_of_name pn0) hisR ?_
  intro p e s m args below meth c s₁ Bd hml0 hP hK
  obtain ⟨rfl, hZ, hh⟩ := hP
  have hx := Bd.exec
  have hby := Bd.bytes
  have hml : c.maxLocals = 1 := hml0
  have hown : s.vm.findClass "com/example/weaverbird/weaverbird/codes/RunState" = some m.cls := findClass_of_methodNamed Bd.named
  have hnm := (name_of_methodNamed Bd.named Bd.method).1
  have X0 : Stand p l e ({ frames := 0, cells := 0, slots := 0, locals := 0 } : Room) s m #[(.ref w8)] below meth c s₁ [] 0 0 := Stand.of_body Bd
  have e0 : s₁.heap = h0 := by rw [← hh, Bd.state]; rfl
  have N0 := Fr.nil n0
  obtain ⟨wS0, wE0, wS1, wE1, wS2, wE2, wS3, wE3, wS4, wE4, wS5, wE5, wS6, wE6, wS7, wE7, wS8, wE8, wS9, wE9, wS10, wE10, wS11, wE11, wF3_ordinal, wF0_ordinal, wF1_ordinal, wF4_ordinal, wF2_ordinal, wF7_ordinal, wF11_ordinal, wF8_ordinal, wF10_ordinal, wF9_ordinal, wF6_ordinal, wF5_ordinal, -⟩ := id hWd
  have pre0 : ∀ t, Steps p.tables e below (s₁.setTop (mkF m 0 #[.val (.ref w8)] [])) t → Steps p.tables e below (s₁.setTop (entryFrame m #[(.ref w8)] 1)) t := fun t k => castTop (ef8 m w8) k
  obtain ⟨T82, X82, e82, st82⟩ := getS2 X0 hx hZ hown (host := "") (Or.inl (hw _ (List.mem_of_getElem? (i := 34) rfl))) Via.refl e0 (wS0.ext O0.2) (g := (mkF m 1 #[.val (.ref w8)] [(.ref w8)])) rfl (hb hby d_prog_10_method_5_code_1)
  obtain ⟨T83, X83, e83, st83⟩ := getS2 X82 hx hZ hown (host := "") (Or.inl (hw _ (List.mem_of_getElem? (i := 35) rfl))) Via.refl e82 (wS1.ext O0.2) (g := (mkF m 8 #[.val (.ref w8)] [(.ref w8)])) rfl (hb hby d_prog_10_method_5_code_8)
  obtain ⟨T84, X84, e84, st84⟩ := getS2 X83 hx hZ hown (host := "") (Or.inl (hw _ (List.mem_of_getElem? (i := 36) rfl))) Via.refl e83 (wS4.ext O0.2) (g := (mkF m 15 #[.val (.ref w8)] [(.ref w8)])) rfl (hb hby d_prog_10_method_5_code_15)
  obtain ⟨T85, X85, e85, st85⟩ := getS2 X84 hx hZ hown (host := "") (Or.inl (hw _ (List.mem_of_getElem? (i := 37) rfl))) Via.refl e84 (wS3.ext O0.2) (g := (mkF m 22 #[.val (.ref w8)] [(.ref w8)])) rfl (hb hby d_prog_10_method_5_code_22)
  obtain ⟨fs, hr, hrun, hended, hWr, hsame⟩ := X85.leave (v := some (.int (0 : Int32))) (fun h => by rw [Bd.returns] at h; cases h)
  refine ⟨_, _, pre0 _ ?_, hrun, hended, _, _, rfl, ?_, ⟨_, rfl⟩, hWr, hsame.mono (Nat.le_of_ble_eq_true rfl) (Nat.le_of_ble_eq_true rfl)⟩
  · show Steps p.tables e below (s₁.setTop (mkF m 0 #[.val (.ref w8)] [])) _
    refine XS.aloadN X0.here hx rfl (hb hby d_prog_10_method_5_code_0) rfl rfl ?_
    show Steps p.tables e below (s₁.setTop (mkF m 1 #[.val (.ref w8)] [(.ref w8)])) _
    refine st82 _ ?_
    show Steps p.tables e below (T82.setTop (mkF m 4 #[.val (.ref w8)] [(.ref w0), (.ref w8)])) _
    refine Jvm.RoadKit.acmp (g := (mkF m 4 #[.val (.ref w8)] [(.ref w0), (.ref w8)])) X82 hx rfl rfl rfl (pc0 := 4) (pc' := 7) (same := false) rfl (hb hby d_prog_10_method_5_code_4) rfl (decide_eq_false fun q => (Fld.ne wF8_ordinal wF0_ordinal (fun q => absurd (Value.int.inj q) (by decide))) (Value.ref.inj q)) (by decide) (by decide) ?_
    show Steps p.tables e below (T82.setTop (mkF m 7 #[.val (.ref w8)] [])) _
    refine XS.aloadN X82.here hx rfl (hb hby d_prog_10_method_5_code_7) rfl rfl ?_
    show Steps p.tables e below (T82.setTop (mkF m 8 #[.val (.ref w8)] [(.ref w8)])) _
    refine st83 _ ?_
    show Steps p.tables e below (T83.setTop (mkF m 11 #[.val (.ref w8)] [(.ref w1), (.ref w8)])) _
    refine Jvm.RoadKit.acmp (g := (mkF m 11 #[.val (.ref w8)] [(.ref w1), (.ref w8)])) X83 hx rfl rfl rfl (pc0 := 11) (pc' := 14) (same := false) rfl (hb hby d_prog_10_method_5_code_11) rfl (decide_eq_false fun q => (Fld.ne wF8_ordinal wF1_ordinal (fun q => absurd (Value.int.inj q) (by decide))) (Value.ref.inj q)) (by decide) (by decide) ?_
    show Steps p.tables e below (T83.setTop (mkF m 14 #[.val (.ref w8)] [])) _
    refine XS.aloadN X83.here hx rfl (hb hby d_prog_10_method_5_code_14) rfl rfl ?_
    show Steps p.tables e below (T83.setTop (mkF m 15 #[.val (.ref w8)] [(.ref w8)])) _
    refine st84 _ ?_
    show Steps p.tables e below (T84.setTop (mkF m 18 #[.val (.ref w8)] [(.ref w4), (.ref w8)])) _
    refine Jvm.RoadKit.acmp (g := (mkF m 18 #[.val (.ref w8)] [(.ref w4), (.ref w8)])) X84 hx rfl rfl rfl (pc0 := 18) (pc' := 21) (same := false) rfl (hb hby d_prog_10_method_5_code_18) rfl (decide_eq_false fun q => (Fld.ne wF8_ordinal wF4_ordinal (fun q => absurd (Value.int.inj q) (by decide))) (Value.ref.inj q)) (by decide) (by decide) ?_
    show Steps p.tables e below (T84.setTop (mkF m 21 #[.val (.ref w8)] [])) _
    refine XS.aloadN X84.here hx rfl (hb hby d_prog_10_method_5_code_21) rfl rfl ?_
    show Steps p.tables e below (T84.setTop (mkF m 22 #[.val (.ref w8)] [(.ref w8)])) _
    refine st85 _ ?_
    show Steps p.tables e below (T85.setTop (mkF m 25 #[.val (.ref w8)] [(.ref w3), (.ref w8)])) _
    refine Jvm.RoadKit.acmp (g := (mkF m 25 #[.val (.ref w8)] [(.ref w3), (.ref w8)])) X85 hx rfl rfl rfl (pc0 := 25) (pc' := 32) (same := false) rfl (hb hby d_prog_10_method_5_code_25) rfl (decide_eq_false fun q => (Fld.ne wF8_ordinal wF3_ordinal (fun q => absurd (Value.int.inj q) (by decide))) (Value.ref.inj q)) (by decide) (by decide) ?_
    show Steps p.tables e below (T85.setTop (mkF m 32 #[.val (.ref w8)] [])) _
    refine XS.iconst X85.here hx rfl (hb hby d_prog_10_method_5_code_32) ?_
    show Steps p.tables e below (T85.setTop (mkF m 33 #[.val (.ref w8)] [(.int (0 : Int32))])) _
    exact retN X85 hx (t := .boolean) Bd.returns (by simp) (hb hby d_prog_10_method_5_code_33) hr
  · show Qp (some (.int (0 : Int32))) h0 n0 _ T85.heap _
    rw [e85]
    exact ⟨rfl, N0, rfl⟩
theorem ef9 (m : MethodId)   (w9 : Addr) : entryFrame m #[(.ref w9)] 1 = mkF m 0 #[.val (.ref w9)] [] := by first | (simp [entryFrame, mkF, argsToLocals, Value.category]; done) | rfl
set_option maxRecDepth 65536 in
set_option maxHeartbeats 40000000 in
theorem rm10 (l : Launch) (Z : State) (a0 : Array Value) (hw : ∀ d ∈ tables_1, d.before a0 Z = true) (ws : List Jvm.Cond) (w0 w1 w2 w3 w4 w5 w6 w7 w8 w9 w10 w11 : Addr) (h0 : Heap) (n0 : Nat) (hWd : Wd Z w0 w1 w2 w3 w4 w5 w6 w7 w8 w9 w10 w11) (O0 : Old Z n0 h0) :
    MetFree l (⟨"com/example/weaverbird/weaverbird/codes/RunState", "unended", "()Z"⟩ : MethodName) (head1 (Jvm.Cond.code (⟨"com/example/weaverbird/weaverbird/codes/RunState", "unended", "()Z"⟩ : MethodName) prog_10_method_5_code 1 (some .boolean) :: ws) ({ frames := 0, cells := 0, slots := 0, locals := 0 } : Room)) (fun a U => a = #[(.ref w9)] ∧ Z.Warmed39 U.vm ∧ U.heap = h0) (fun _ _ _ _ _ => True) (fun _ U o U' => ∃ v L, o = .returned v ∧ Qp (some (.int (0 : Int32))) h0 n0 v U'.heap L ∧ FrameEnd U o U' L ({ frames := 0, cells := 0, slots := 0, locals := 0 } : Room).cells ({ frames := 0, cells := 0, slots := 0, locals := 0 } : Room).slots) := by
  refine MetFree.of_bodySF (plainFor_of_name pn0) hisR ?_
  intro p e s m args below meth c s₁ Bd hml0 hP hK
  obtain ⟨rfl, hZ, hh⟩ := hP
  have hx := Bd.exec
  have hby := Bd.bytes
  have hml : c.maxLocals = 1 := hml0
  have hown : s.vm.findClass "com/example/weaverbird/weaverbird/codes/RunState" = some m.cls := findClass_of_methodNamed Bd.named
  have hnm := (name_of_methodNamed Bd.named Bd.method).1
  have X0 : Stand p l e ({ frames := 0, cells := 0, slots := 0, locals := 0 } : Room) s m #[(.ref w9)] below meth c s₁ [] 0 0 := Stand.of_body Bd
  have e0 : s₁.heap = h0 := by rw [← hh, Bd.state]; rfl
  have N0 := Fr.nil n0
  obtain ⟨wS0, wE0, wS1, wE1, wS2, wE2, wS3, wE3, wS4, wE4, wS5, wE5, wS6, wE6, wS7, wE7, wS8, wE8, wS9, wE9, wS10, wE10, wS11, wE11, wF3_ordinal, wF0_ordinal, wF1_ordinal, wF4_ordinal, wF2_ordinal, wF7_ordinal, wF11_ordinal, wF8_ordinal, wF10_ordinal, wF9_ordinal, wF6_ordinal, wF5_ordinal, -⟩ := id hWd
  have pre0 : ∀ t, Steps p.tables e below (s₁.setTop (mkF m 0 #[.val (.ref w9)] [])) t → Steps p.tables e below (s₁.setTop (entryFrame m #[(.ref w9)] 1)) t := fun t k => castTop (ef9 m w9) k
  obtain ⟨T88, X88, e88, st88⟩ := getS2 X0 hx hZ hown (host := "") (Or.inl (hw _ (List.mem_of_getElem? (i := 34) rfl))) Via.refl e0 (wS0.ext O0.2) (g := (mkF m 1 #[.val (.ref w9)] [(.ref w9)])) rfl (hb hby d_prog_10_method_5_code_1)
  obtain ⟨T89, X89, e89, st89⟩ := getS2 X88 hx hZ hown (host := "") (Or.inl (hw _ (List.mem_of_getElem? (i := 35) rfl))) Via.refl e88 (wS1.ext O0.2) (g := (mkF m 8 #[.val (.ref w9)] [(.ref w9)])) rfl (hb hby d_prog_10_method_5_code_8)
  obtain ⟨T90, X90, e90, st90⟩ := getS2 X89 hx hZ hown (host := "") (Or.inl (hw _ (List.mem_of_getElem? (i := 36) rfl))) Via.refl e89 (wS4.ext O0.2) (g := (mkF m 15 #[.val (.ref w9)] [(.ref w9)])) rfl (hb hby d_prog_10_method_5_code_15)
  obtain ⟨T91, X91, e91, st91⟩ := getS2 X90 hx hZ hown (host := "") (Or.inl (hw _ (List.mem_of_getElem? (i := 37) rfl))) Via.refl e90 (wS3.ext O0.2) (g := (mkF m 22 #[.val (.ref w9)] [(.ref w9)])) rfl (hb hby d_prog_10_method_5_code_22)
  obtain ⟨fs, hr, hrun, hended, hWr, hsame⟩ := X91.leave (v := some (.int (0 : Int32))) (fun h => by rw [Bd.returns] at h; cases h)
  refine ⟨_, _, pre0 _ ?_, hrun, hended, _, _, rfl, ?_, ⟨_, rfl⟩, hWr, hsame.mono (Nat.le_of_ble_eq_true rfl) (Nat.le_of_ble_eq_true rfl)⟩
  · show Steps p.tables e below (s₁.setTop (mkF m 0 #[.val (.ref w9)] [])) _
    refine XS.aloadN X0.here hx rfl (hb hby d_prog_10_method_5_code_0) rfl rfl ?_
    show Steps p.tables e below (s₁.setTop (mkF m 1 #[.val (.ref w9)] [(.ref w9)])) _
    refine st88 _ ?_
    show Steps p.tables e below (T88.setTop (mkF m 4 #[.val (.ref w9)] [(.ref w0), (.ref w9)])) _
    refine Jvm.RoadKit.acmp (g := (mkF m 4 #[.val (.ref w9)] [(.ref w0), (.ref w9)])) X88 hx rfl rfl rfl (pc0 := 4) (pc' := 7) (same := false) rfl (hb hby d_prog_10_method_5_code_4) rfl (decide_eq_false fun q => (Fld.ne wF9_ordinal wF0_ordinal (fun q => absurd (Value.int.inj q) (by decide))) (Value.ref.inj q)) (by decide) (by decide) ?_
    show Steps p.tables e below (T88.setTop (mkF m 7 #[.val (.ref w9)] [])) _
    refine XS.aloadN X88.here hx rfl (hb hby d_prog_10_method_5_code_7) rfl rfl ?_
    show Steps p.tables e below (T88.setTop (mkF m 8 #[.val (.ref w9)] [(.ref w9)])) _
    refine st89 _ ?_
    show Steps p.tables e below (T89.setTop (mkF m 11 #[.val (.ref w9)] [(.ref w1), (.ref w9)])) _
    refine Jvm.RoadKit.acmp (g := (mkF m 11 #[.val (.ref w9)] [(.ref w1), (.ref w9)])) X89 hx rfl rfl rfl (pc0 := 11) (pc' := 14) (same := false) rfl (hb hby d_prog_10_method_5_code_11) rfl (decide_eq_false fun q => (Fld.ne wF9_ordinal wF1_ordinal (fun q => absurd (Value.int.inj q) (by decide))) (Value.ref.inj q)) (by decide) (by decide) ?_
    show Steps p.tables e below (T89.setTop (mkF m 14 #[.val (.ref w9)] [])) _
    refine XS.aloadN X89.here hx rfl (hb hby d_prog_10_method_5_code_14) rfl rfl ?_
    show Steps p.tables e below (T89.setTop (mkF m 15 #[.val (.ref w9)] [(.ref w9)])) _
    refine st90 _ ?_
    show Steps p.tables e below (T90.setTop (mkF m 18 #[.val (.ref w9)] [(.ref w4), (.ref w9)])) _
    refine Jvm.RoadKit.acmp (g := (mkF m 18 #[.val (.ref w9)] [(.ref w4), (.ref w9)])) X90 hx rfl rfl rfl (pc0 := 18) (pc' := 21) (same := false) rfl (hb hby d_prog_10_method_5_code_18) rfl (decide_eq_false fun q => (Fld.ne wF9_ordinal wF4_ordinal (fun q => absurd (Value.int.inj q) (by decide))) (Value.ref.inj q)) (by decide) (by decide) ?_
    show Steps p.tables e below (T90.setTop (mkF m 21 #[.val (.ref w9)] [])) _
    refine XS.aloadN X90.here hx rfl (hb hby d_prog_10_method_5_code_21) rfl rfl ?_
    show Steps p.tables e below (T90.setTop (mkF m 22 #[.val (.ref w9)] [(.ref w9)])) _
    refine st91 _ ?_
    show Steps p.tables e below (T91.setTop (mkF m 25 #[.val (.ref w9)] [(.ref w3), (.ref w9)])) _
    refine Jvm.RoadKit.acmp (g := (mkF m 25 #[.val (.ref w9)] [(.ref w3), (.ref w9)])) X91 hx rfl rfl rfl (pc0 := 25) (pc' := 32) (same := false) rfl (hb hby d_prog_10_method_5_code_25) rfl (decide_eq_false fun q => (Fld.ne wF9_ordinal wF3_ordinal (fun q => absurd (Value.int.inj q) (by decide))) (Value.ref.inj q)) (by decide) (by decide) ?_
    show Steps p.tables e below (T91.setTop (mkF m 32 #[.val (.ref w9)] [])) _
    refine XS.iconst X91.here hx rfl (hb hby d_prog_10_method_5_code_32) ?_
    show Steps p.tables e below (T91.setTop (mkF m 33 #[.val (.ref w9)] [(.int (0 : Int32))])) _
    exact retN X91 hx (t := .boolean) Bd.returns (by simp) (hb hby d_prog_10_method_5_code_33) hr
  · show Qp (some (.int (0 : Int32))) h0 n0 _ T91.heap _
    rw [e91]
    exact ⟨rfl, N0, rfl⟩
theorem ef10 (m : MethodId)   (w10 : Addr) : entryFrame m #[(.ref w10)] 1 = mkF m 0 #[.val (.ref w10)] [] := by first | (simp [entryFrame, mkF, argsToLocals, Value.category]; done) | rfl
set_option maxRecDepth 65536 in
set_option maxHeartbeats 40000000 in
theorem rm11 (l : Launch) (Z : State) (a0 : Array Value) (hw : ∀ d ∈ tables_1, d.before a0 Z = true) (ws : List Jvm.Cond) (w0 w1 w2 w3 w4 w5 w6 w7 w8 w9 w10 w11 : Addr) (h0 : Heap) (n0 : Nat) (hWd : Wd Z w0 w1 w2 w3 w4 w5 w6 w7 w8 w9 w10 w11) (O0 : Old Z n0 h0) :
    MetFree l (⟨"com/example/weaverbird/weaverbird/codes/RunState", "unended", "()Z"⟩ : MethodName) (head1 (Jvm.Cond.code (⟨"com/example/weaverbird/weaverbird/codes/RunState", "unended", "()Z"⟩ : MethodName) prog_10_method_5_code 1 (some .boolean) :: ws) ({ frames := 0, cells := 0, slots := 0, locals := 0 } : Room)) (fun a U => a = #[(.ref w10)] ∧ Z.Warmed39 U.vm ∧ U.heap = h0) (fun _ _ _ _ _ => True) (fun _ U o U' => ∃ v L, o = .returned v ∧ Qp (some (.int (0 : Int32))) h0 n0 v U'.heap L ∧ FrameEnd U o U' L ({ frames := 0, cells := 0, slots := 0, locals := 0 } : Room).cells ({ frames := 0, cells := 0, slots := 0, locals := 0 } : Room).slots) := by
  refine MetFree.of_bodySF (plainFor_of_name pn0) hisR ?_
  intro p e s m args below meth c s₁ Bd hml0 hP hK
  obtain ⟨rfl, hZ, hh⟩ := hP
  have hx := Bd.exec
  have hby := Bd.bytes
  have hml : c.maxLocals = 1 := hml0
  have hown : s.vm.findClass "com/example/weaverbird/weaverbird/codes/RunState" = some m.cls := findClass_of_methodNamed Bd.named
  have hnm := (name_of_methodNamed Bd.named Bd.method).1
  have X0 : Stand p l e ({ frames := 0, cells := 0, slots := 0, locals := 0 } : Room) s m #[(.ref w10)] below meth c s₁ [] 0 0 := Stand.of_body Bd
  have e0 : s₁.heap = h0 := by rw [← hh, Bd.state]; rfl
  have N0 := Fr.nil n0
  obtain ⟨wS0, wE0, wS1, wE1, wS2, wE2, wS3, wE3, wS4, wE4, wS5, wE5, wS6, wE6, wS7, wE7, wS8, wE8, wS9, wE9, wS10, wE10, wS11, wE11, wF3_ordinal, wF0_ordinal, wF1_ordinal, wF4_ordinal, wF2_ordinal, wF7_ordinal, wF11_ordinal, wF8_ordinal, wF10_ordinal, wF9_ordinal, wF6_ordinal, wF5_ordinal, -⟩ := id hWd
  have pre0 : ∀ t, Steps p.tables e below (s₁.setTop (mkF m 0 #[.val (.ref w10)] [])) t → Steps p.tables e below (s₁.setTop (entryFrame m #[(.ref w10)] 1)) t := fun t k => castTop (ef10 m w10) k
  obtain ⟨T94, X94, e94, st94⟩ := getS2 X0 hx hZ hown (host := "") (Or.inl (hw _ (List.mem_of_getElem? (i := 34) rfl))) Via.refl e0 (wS0.ext O0.2) (g := (mkF m 1 #[.val (.ref w10)] [(.ref w10)])) rfl (hb hby d_prog_10_method_5_code_1)
  obtain ⟨T95, X95, e95, st95⟩ := getS2 X94 hx hZ hown (host := "") (Or.inl (hw _ (List.mem_of_getElem? (i := 35) rfl))) Via.refl e94 (wS1.ext O0.2) (g := (mkF m 8 #[.val (.ref w10)] [(.ref w10)])) rfl (hb hby d_prog_10_method_5_code_8)
  obtain ⟨T96, X96, e96, st96⟩ := getS2 X95 hx hZ hown (host := "") (Or.inl (hw _ (List.mem_of_getElem? (i := 36) rfl))) Via.refl e95 (wS4.ext O0.2) (g := (mkF m 15 #[.val (.ref w10)] [(.ref w10)])) rfl (hb hby d_prog_10_method_5_code_15)
  obtain ⟨T97, X97, e97, st97⟩ := getS2 X96 hx hZ hown (host := "") (Or.inl (hw _ (List.mem_of_getElem? (i := 37) rfl))) Via.refl e96 (wS3.ext O0.2) (g := (mkF m 22 #[.val (.ref w10)] [(.ref w10)])) rfl (hb hby d_prog_10_method_5_code_22)
  obtain ⟨fs, hr, hrun, hended, hWr, hsame⟩ := X97.leave (v := some (.int (0 : Int32))) (fun h => by rw [Bd.returns] at h; cases h)
  refine ⟨_, _, pre0 _ ?_, hrun, hended, _, _, rfl, ?_, ⟨_, rfl⟩, hWr, hsame.mono (Nat.le_of_ble_eq_true rfl) (Nat.le_of_ble_eq_true rfl)⟩
  · show Steps p.tables e below (s₁.setTop (mkF m 0 #[.val (.ref w10)] [])) _
    refine XS.aloadN X0.here hx rfl (hb hby d_prog_10_method_5_code_0) rfl rfl ?_
    show Steps p.tables e below (s₁.setTop (mkF m 1 #[.val (.ref w10)] [(.ref w10)])) _
    refine st94 _ ?_
    show Steps p.tables e below (T94.setTop (mkF m 4 #[.val (.ref w10)] [(.ref w0), (.ref w10)])) _
    refine Jvm.RoadKit.acmp (g := (mkF m 4 #[.val (.ref w10)] [(.ref w0), (.ref w10)])) X94 hx rfl rfl rfl (pc0 := 4) (pc' := 7) (same := false) rfl (hb hby d_prog_10_method_5_code_4) rfl (decide_eq_false fun q => (Fld.ne wF10_ordinal wF0_ordinal (fun q => absurd (Value.int.inj q) (by decide))) (Value.ref.inj q)) (by decide) (by decide) ?_
    show Steps p.tables e below (T94.setTop (mkF m 7 #[.val (.ref w10)] [])) _
    refine XS.aloadN X94.here hx rfl (hb hby d_prog_10_method_5_code_7) rfl rfl ?_
    show Steps p.tables e below (T94.setTop (mkF m 8 #[.val (.ref w10)] [(.ref w10)])) _
    refine st95 _ ?_
    show Steps p.tables e below (T95.setTop (mkF m 11 #[.val (.ref w10)] [(.ref w1), (.ref w10)])) _
    refine Jvm.RoadKit.acmp (g := (mkF m 11 #[.val (.ref w10)] [(.ref w1), (.ref w10)])) X95 hx rfl rfl rfl (pc0 := 11) (pc' := 14) (same := false) rfl (hb hby d_prog_10_method_5_code_11) rfl (decide_eq_false fun q => (Fld.ne wF10_ordinal wF1_ordinal (fun q => absurd (Value.int.inj q) (by decide))) (Value.ref.inj q)) (by decide) (by decide) ?_
    show Steps p.tables e below (T95.setTop (mkF m 14 #[.val (.ref w10)] [])) _
    refine XS.aloadN X95.here hx rfl (hb hby d_prog_10_method_5_code_14) rfl rfl ?_
    show Steps p.tables e below (T95.setTop (mkF m 15 #[.val (.ref w10)] [(.ref w10)])) _
    refine st96 _ ?_
    show Steps p.tables e below (T96.setTop (mkF m 18 #[.val (.ref w10)] [(.ref w4), (.ref w10)])) _
    refine Jvm.RoadKit.acmp (g := (mkF m 18 #[.val (.ref w10)] [(.ref w4), (.ref w10)])) X96 hx rfl rfl rfl (pc0 := 18) (pc' := 21) (same := false) rfl (hb hby d_prog_10_method_5_code_18) rfl (decide_eq_false fun q => (Fld.ne wF10_ordinal wF4_ordinal (fun q => absurd (Value.int.inj q) (by decide))) (Value.ref.inj q)) (by decide) (by decide) ?_
    show Steps p.tables e below (T96.setTop (mkF m 21 #[.val (.ref w10)] [])) _
    refine XS.aloadN X96.here hx rfl (hb hby d_prog_10_method_5_code_21) rfl rfl ?_
    show Steps p.tables e below (T96.setTop (mkF m 22 #[.val (.ref w10)] [(.ref w10)])) _
    refine st97 _ ?_
    show Steps p.tables e below (T97.setTop (mkF m 25 #[.val (.ref w10)] [(.ref w3), (.ref w10)])) _
    refine Jvm.RoadKit.acmp (g := (mkF m 25 #[.val (.ref w10)] [(.ref w3), (.ref w10)])) X97 hx rfl rfl rfl (pc0 := 25) (pc' := 32) (same := false) rfl (hb hby d_prog_10_method_5_code_25) rfl (decide_eq_false fun q => (Fld.ne wF10_ordinal wF3_ordinal (fun q => absurd (Value.int.inj q) (by decide))) (Value.ref.inj q)) (by decide) (by decide) ?_
    show Steps p.tables e below (T97.setTop (mkF m 32 #[.val (.ref w10)] [])) _
    refine XS.iconst X97.here hx rfl (hb hby d_prog_10_method_5_code_32) ?_
    show Steps p.tables e below (T97.setTop (mkF m 33 #[.val (.ref w10)] [(.int (0 : Int32))])) _
    exact retN X97 hx (t := .boolean) Bd.returns (by simp) (hb hby d_prog_10_method_5_code_33) hr
  · show Qp (some (.int (0 : Int32))) h0 n0 _ T97.heap _
    rw [e97]
    exact ⟨rfl, N0, rfl⟩
theorem ef11 (m : MethodId)   (w11 : Addr) : entryFrame m #[(.ref w11)] 1 = mkF m 0 #[.val (.ref w11)] [] := by first | (simp [entryFrame, mkF, argsToLocals, Value.category]; done) | rfl
set_option maxRecDepth 65536 in
set_option maxHeartbeats 40000000 in
theorem rm12 (l : Launch) (Z : State) (a0 : Array Value) (hw : ∀ d ∈ tables_1, d.before a0 Z = true) (ws : List Jvm.Cond) (w0 w1 w2 w3 w4 w5 w6 w7 w8 w9 w10 w11 : Addr) (h0 : Heap) (n0 : Nat) (hWd : Wd Z w0 w1 w2 w3 w4 w5 w6 w7 w8 w9 w10 w11) (O0 : Old Z n0 h0) :
    MetFree l (⟨"com/example/weaverbird/weaverbird/codes/RunState", "unended", "()Z"⟩ : MethodName) (head1 (Jvm.Cond.code (⟨"com/example/weaverbird/weaverbird/codes/RunState", "unended", "()Z"⟩ : MethodName) prog_10_method_5_code 1 (some .boolean) :: ws) ({ frames := 0, cells := 0, slots := 0, locals := 0 } : Room)) (fun a U => a = #[(.ref w11)] ∧ Z.Warmed39 U.vm ∧ U.heap = h0) (fun _ _ _ _ _ => True) (fun _ U o U' => ∃ v L, o = .returned v ∧ Qp (some (.int (0 : Int32))) h0 n0 v U'.heap L ∧ FrameEnd U o U' L ({ frames := 0, cells := 0, slots := 0, locals := 0 } : Room).cells ({ frames := 0, cells := 0, slots := 0, locals := 0 } : Room).slots) := by
  refine MetFree.of_bodySF (plainFor_of_name pn0) hisR ?_
  intro p e s m args below meth c s₁ Bd hml0 hP hK
  obtain ⟨rfl, hZ, hh⟩ := hP
  have hx := Bd.exec
  have hby := Bd.bytes
  have hml : c.maxLocals = 1 := hml0
  have hown : s.vm.findClass "com/example/weaverbird/weaverbird/codes/RunState" = some m.cls := findClass_of_methodNamed Bd.named
  have hnm := (name_of_methodNamed Bd.named Bd.method).1
  have X0 : Stand p l e ({ frames := 0, cells := 0, slots := 0, locals := 0 } : Room) s m #[(.ref w11)] below meth c s₁ [] 0 0 := Stand.of_body Bd
  have e0 : s₁.heap = h0 := by rw [← hh, Bd.state]; rfl
  have N0 := Fr.nil n0
  obtain ⟨wS0, wE0, wS1, wE1, wS2, wE2, wS3, wE3, wS4, wE4, wS5, wE5, wS6, wE6, wS7, wE7, wS8, wE8, wS9, wE9, wS10, wE10, wS11, wE11, wF3_ordinal, wF0_ordinal, wF1_ordinal, wF4_ordinal, wF2_ordinal, wF7_ordinal, wF11_ordinal, wF8_ordinal, wF10_ordinal, wF9_ordinal, wF6_ordinal, wF5_ordinal, -⟩ := id hWd
  have pre0 : ∀ t, Steps p.tables e below (s₁.setTop (mkF m 0 #[.val (.ref w11)] [])) t → Steps p.tables e below (s₁.setTop (entryFrame m #[(.ref w11)] 1)) t := fun t k => castTop (ef11 m w11) k
  obtain ⟨T100, X100, e100, st100⟩ := getS2 X0 hx hZ hown (host := "") (Or.inl (hw _ (List.mem_of_getElem? (i := 34) rfl))) Via.refl e0 (wS0.ext O0.2) (g := (mkF m 1 #[.val (.ref w11)] [(.ref w11)])) rfl (hb hby d_prog_10_method_5_code_1)
  obtain ⟨T101, X101, e101, st101⟩ := getS2 X100 hx hZ hown (host := "") (Or.inl (hw _ (List.mem_of_getElem? (i := 35) rfl))) Via.refl e100 (wS1.ext O0.2) (g := (mkF m 8 #[.val (.ref w11)] [(.ref w11)])) rfl (hb hby d_prog_10_method_5_code_8)
  obtain ⟨T102, X102, e102, st102⟩ := getS2 X101 hx hZ hown (host := "") (Or.inl (hw _ (List.mem_of_getElem? (i := 36) rfl))) Via.refl e101 (wS4.ext O0.2) (g := (mkF m 15 #[.val (.ref w11)] [(.ref w11)])) rfl (hb hby d_prog_10_method_5_code_15)
  obtain ⟨T103, X103, e103, st103⟩ := getS2 X102 hx hZ hown (host := "") (Or.inl (hw _ (List.mem_of_getElem? (i := 37) rfl))) Via.refl e102 (wS3.ext O0.2) (g := (mkF m 22 #[.val (.ref w11)] [(.ref w11)])) rfl (hb hby d_prog_10_method_5_code_22)
  obtain ⟨fs, hr, hrun, hended, hWr, hsame⟩ := X103.leave (v := some (.int (0 : Int32))) (fun h => by rw [Bd.returns] at h; cases h)
  refine ⟨_, _, pre0 _ ?_, hrun, hended, _, _, rfl, ?_, ⟨_, rfl⟩, hWr, hsame.mono (Nat.le_of_ble_eq_true rfl) (Nat.le_of_ble_eq_true rfl)⟩
  · show Steps p.tables e below (s₁.setTop (mkF m 0 #[.val (.ref w11)] [])) _
    refine XS.aloadN X0.here hx rfl (hb hby d_prog_10_method_5_code_0) rfl rfl ?_
    show Steps p.tables e below (s₁.setTop (mkF m 1 #[.val (.ref w11)] [(.ref w11)])) _
    refine st100 _ ?_
    show Steps p.tables e below (T100.setTop (mkF m 4 #[.val (.ref w11)] [(.ref w0), (.ref w11)])) _
    refine Jvm.RoadKit.acmp (g := (mkF m 4 #[.val (.ref w11)] [(.ref w0), (.ref w11)])) X100 hx rfl rfl rfl (pc0 := 4) (pc' := 7) (same := false) rfl (hb hby d_prog_10_method_5_code_4) rfl (decide_eq_false fun q => (Fld.ne wF11_ordinal wF0_ordinal (fun q => absurd (Value.int.inj q) (by decide))) (Value.ref.inj q)) (by decide) (by decide) ?_
    show Steps p.tables e below (T100.setTop (mkF m 7 #[.val (.ref w11)] [])) _
    refine XS.aloadN X100.here hx rfl (hb hby d_prog_10_method_5_code_7) rfl rfl ?_
    show Steps p.tables e below (T100.setTop (mkF m 8 #[.val (.ref w11)] [(.ref w11)])) _
    refine st101 _ ?_
    show Steps p.tables e below (T101.setTop (mkF m 11 #[.val (.ref w11)] [(.ref w1), (.ref w11)])) _
    refine Jvm.RoadKit.acmp (g := (mkF m 11 #[.val (.ref w11)] [(.ref w1), (.ref w11)])) X101 hx rfl rfl rfl (pc0 := 11) (pc' := 14) (same := false) rfl (hb hby d_prog_10_method_5_code_11) rfl (decide_eq_false fun q => (Fld.ne wF11_ordinal wF1_ordinal (fun q => absurd (Value.int.inj q) (by decide))) (Value.ref.inj q)) (by decide) (by decide) ?_
    show Steps p.tables e below (T101.setTop (mkF m 14 #[.val (.ref w11)] [])) _
    refine XS.aloadN X101.here hx rfl (hb hby d_prog_10_method_5_code_14) rfl rfl ?_
    show Steps p.tables e below (T101.setTop (mkF m 15 #[.val (.ref w11)] [(.ref w11)])) _
    refine st102 _ ?_
    show Steps p.tables e below (T102.setTop (mkF m 18 #[.val (.ref w11)] [(.ref w4), (.ref w11)])) _
    refine Jvm.RoadKit.acmp (g := (mkF m 18 #[.val (.ref w11)] [(.ref w4), (.ref w11)])) X102 hx rfl rfl rfl (pc0 := 18) (pc' := 21) (same := false) rfl (hb hby d_prog_10_method_5_code_18) rfl (decide_eq_false fun q => (Fld.ne wF11_ordinal wF4_ordinal (fun q => absurd (Value.int.inj q) (by decide))) (Value.ref.inj q)) (by decide) (by decide) ?_
    show Steps p.tables e below (T102.setTop (mkF m 21 #[.val (.ref w11)] [])) _
    refine XS.aloadN X102.here hx rfl (hb hby d_prog_10_method_5_code_21) rfl rfl ?_
    show Steps p.tables e below (T102.setTop (mkF m 22 #[.val (.ref w11)] [(.ref w11)])) _
    refine st103 _ ?_
    show Steps p.tables e below (T103.setTop (mkF m 25 #[.val (.ref w11)] [(.ref w3), (.ref w11)])) _
    refine Jvm.RoadKit.acmp (g := (mkF m 25 #[.val (.ref w11)] [(.ref w3), (.ref w11)])) X103 hx rfl rfl rfl (pc0 := 25) (pc' := 32) (same := false) rfl (hb hby d_prog_10_method_5_code_25) rfl (decide_eq_false fun q => (Fld.ne wF11_ordinal wF3_ordinal (fun q => absurd (Value.int.inj q) (by decide))) (Value.ref.inj q)) (by decide) (by decide) ?_
    show Steps p.tables e below (T103.setTop (mkF m 32 #[.val (.ref w11)] [])) _
    refine XS.iconst X103.here hx rfl (hb hby d_prog_10_method_5_code_32) ?_
    show Steps p.tables e below (T103.setTop (mkF m 33 #[.val (.ref w11)] [(.int (0 : Int32))])) _
    exact retN X103 hx (t := .boolean) Bd.returns (by simp) (hb hby d_prog_10_method_5_code_33) hr
  · show Qp (some (.int (0 : Int32))) h0 n0 _ T103.heap _
    rw [e103]
    exact ⟨rfl, N0, rfl⟩
theorem pn1 : plainName "com/example/weaverbird/weaverbird/codes/RunStateUnendedPinLaw" = true := by first | (simp [plainName, overriddenIn]; done) | decide +kernel
theorem ef12 (m : MethodId) (i0 : Int32)   : entryFrame m #[(.int i0)] maxLocals = mkF m 0 #[.val (.int i0), .unset, .unset, .unset, .unset] [] := by first | (simp [entryFrame, mkF, argsToLocals, Value.category, maxLocals]; done) | rfl
set_option maxRecDepth 65536 in
set_option maxHeartbeats 40000000 in
theorem rm0 (l : Launch) (Z : State) (a0 : Array Value) (hw : ∀ d ∈ tables_1, d.before a0 Z = true) (ws : List Jvm.Cond) (w0 w1 w2 w3 w4 w5 w6 w7 w8 w9 w10 w11 : Addr) (i0 : Int32) (h0 : Heap) (n0 : Nat) (hWd : Wd Z w0 w1 w2 w3 w4 w5 w6 w7 w8 w9 w10 w11) (O0 : Old Z n0 h0) :
    MetFree l x (head1 (Jvm.Cond.code x code maxLocals ret :: ws) room_1) (fun a U => a = #[(.int i0)] ∧ Z.Warmed39 U.vm ∧ U.heap = h0) (fun _ _ _ _ _ => True) (fun _ U o U' => ∃ v L, o = .returned v ∧ Ql n0 v U'.heap L ∧ FrameEnd U o U' L room_1.cells room_1.slots) := by
  refine MetFree.of_bodySF (plainFor_of_name pn1) hisR ?_
  intro p e s m args below meth c s₁ Bd hml0 hP hK
  obtain ⟨rfl, hZ, hh⟩ := hP
  have hx := Bd.exec
  have hby := Bd.bytes
  have hml : c.maxLocals = 5 := hml0
  have hown : s.vm.findClass "com/example/weaverbird/weaverbird/codes/RunStateUnendedPinLaw" = some m.cls := findClass_of_methodNamed Bd.named
  have hnm := (name_of_methodNamed Bd.named Bd.method).1
  have X0 : Stand p l e room_1 s m #[(.int i0)] below meth c s₁ [] 0 0 := Stand.of_body Bd
  have e0 : s₁.heap = h0 := by rw [← hh, Bd.state]; rfl
  have N0 := Fr.nil n0
  obtain ⟨wS0, wE0, wS1, wE1, wS2, wE2, wS3, wE3, wS4, wE4, wS5, wE5, wS6, wE6, wS7, wE7, wS8, wE8, wS9, wE9, wS10, wE10, wS11, wE11, wF3_ordinal, wF0_ordinal, wF1_ordinal, wF4_ordinal, wF2_ordinal, wF7_ordinal, wF11_ordinal, wF8_ordinal, wF10_ordinal, wF9_ordinal, wF6_ordinal, wF5_ordinal, -⟩ := id hWd
  have pre0 : ∀ t, Steps p.tables e below (s₁.setTop (mkF m 0 #[.val (.int i0), .unset, .unset, .unset, .unset] [])) t → Steps p.tables e below (s₁.setTop (entryFrame m #[(.int i0)] maxLocals)) t := fun t k => castTop (ef12 m i0) k
  obtain ⟨T1, h1, k1, X1, e1, E1, A1, O1, st1⟩ := newR X0 hx hZ hown (hw _ (List.mem_of_getElem? (i := 0) rfl)) (hw _ (List.mem_of_getElem? (i := 1) rfl)) e0 (g := (mkF m 2 #[.val (.int i0), .unset, .unset, .unset, .unset] [(.int (12 : Int32))])) rfl (hb hby at_2) rfl (by decide) (cap := 12) (by decide) (by decide) (by decide) (by decide)
  obtain ⟨b1, g1⟩ : ∃ z, z = h0.size := ⟨_, rfl⟩
  rw [← g1] at A1 st1
  have V1 : Arv Z h1 b1 k1 (.object "com/example/weaverbird/weaverbird/codes/RunState") (12 : Int32) [.null, .null, .null, .null, .null, .null, .null, .null, .null, .null, .null, .null] .null := (Arv.new A1 (by decide)).pad (pad_rep [] .null 12)
  have g_b1 : n0 ≤ b1 := Nat.le_trans (Nat.le_trans (Nat.le_of_eq O0.1.symm) O0.2.1) (Nat.le_of_eq g1.symm)
  have O_1 : Old Z n0 h1 := O0.ext E1
  obtain ⟨T2, X2, e2, st2⟩ := getS2 X1 hx hZ hown (host := "") (Or.inl (hw _ (List.mem_of_getElem? (i := 2) rfl))) Via.refl e1 (wS0.ext O_1.2) (g := (mkF m 7 #[.val (.int i0), .unset, .unset, .unset, .unset] [(.int (0 : Int32)), (.ref b1), (.ref b1)])) rfl (hb hby at_7)
  obtain ⟨cl3, Ar3, q3, S3, M3, H3, G3⟩ := V1
  have hin3 : ¬ ((0 : Int32) < 0 ∨ cl3.slots.size ≤ ((0 : Int32)).toNatClampNeg) := inb_of S3 ⟨by decide, by decide⟩
  obtain ⟨T3, h3, X3, e3, W3, st3⟩ := stR X2 hx hZ e2 Ar3 (j := (0 : Int32)) hin3 rfl (Sto.ofV Ar3 q3 O1 (Ins.self (wE0.ext O_1.2))) (g := (mkF m 10 #[.val (.int i0), .unset, .unset, .unset, .unset] [(.ref w0), (.int (0 : Int32)), (.ref b1), (.ref b1)])) rfl rfl (hb hby at_10)
  have V3 : Arv Z h3 b1 k1 (.object "com/example/weaverbird/weaverbird/codes/RunState") (12 : Int32) [(.ref w0), .null, .null, .null, .null, .null, .null, .null, .null, .null, .null, .null] .null := Arv.set Ar3 q3 S3 M3 H3 G3 rfl W3 0 rfl (Nat.le_of_ble_eq_true rfl)
  have N3 := Fr.snoc X3 N0 g_b1
  have O_3 : Old Z n0 h3 := O_1.wr W3 g_b1
  obtain ⟨T4, X4, e4, st4⟩ := getS2 X3 hx hZ hown (host := "") (Or.inl (hw _ (List.mem_of_getElem? (i := 6) rfl))) Via.refl e3 (wS1.ext O_3.2) (g := (mkF m 13 #[.val (.int i0), .unset, .unset, .unset, .unset] [(.int (1 : Int32)), (.ref b1), (.ref b1)])) rfl (hb hby at_13)
  obtain ⟨cl5, Ar5, q5, S5, M5, H5, G5⟩ := V3
  have hin5 : ¬ ((1 : Int32) < 0 ∨ cl5.slots.size ≤ ((1 : Int32)).toNatClampNeg) := inb_of S5 ⟨by decide, by decide⟩
  obtain ⟨T5, h5, X5, e5, W5, st5⟩ := stR X4 hx hZ e4 Ar5 (j := (1 : Int32)) hin5 rfl (Sto.ofV Ar5 q5 O1 (Ins.self (wE1.ext O_3.2))) (g := (mkF m 16 #[.val (.int i0), .unset, .unset, .unset, .unset] [(.ref w1), (.int (1 : Int32)), (.ref b1), (.ref b1)])) rfl rfl (hb hby at_16)
  have V5 : Arv Z h5 b1 k1 (.object "com/example/weaverbird/weaverbird/codes/RunState") (12 : Int32) [(.ref w0), (.ref w1), .null, .null, .null, .null, .null, .null, .null, .null, .null, .null] .null := Arv.set Ar5 q5 S5 M5 H5 G5 rfl W5 1 rfl (Nat.le_of_ble_eq_true rfl)
  have N5 := Fr.snoc X5 N3 g_b1
  have O_5 : Old Z n0 h5 := O_3.wr W5 g_b1
  obtain ⟨T6, X6, e6, st6⟩ := getS2 X5 hx hZ hown (host := "") (Or.inl (hw _ (List.mem_of_getElem? (i := 8) rfl))) Via.refl e5 (wS2.ext O_5.2) (g := (mkF m 19 #[.val (.int i0), .unset, .unset, .unset, .unset] [(.int (2 : Int32)), (.ref b1), (.ref b1)])) rfl (hb hby at_19)
  obtain ⟨cl7, Ar7, q7, S7, M7, H7, G7⟩ := V5
  have hin7 : ¬ ((2 : Int32) < 0 ∨ cl7.slots.size ≤ ((2 : Int32)).toNatClampNeg) := inb_of S7 ⟨by decide, by decide⟩
  obtain ⟨T7, h7, X7, e7, W7, st7⟩ := stR X6 hx hZ e6 Ar7 (j := (2 : Int32)) hin7 rfl (Sto.ofV Ar7 q7 O1 (Ins.self (wE2.ext O_5.2))) (g := (mkF m 22 #[.val (.int i0), .unset, .unset, .unset, .unset] [(.ref w2), (.int (2 : Int32)), (.ref b1), (.ref b1)])) rfl rfl (hb hby at_22)
  have V7 : Arv Z h7 b1 k1 (.object "com/example/weaverbird/weaverbird/codes/RunState") (12 : Int32) [(.ref w0), (.ref w1), (.ref w2), .null, .null, .null, .null, .null, .null, .null, .null, .null] .null := Arv.set Ar7 q7 S7 M7 H7 G7 rfl W7 2 rfl (Nat.le_of_ble_eq_true rfl)
  have N7 := Fr.snoc X7 N5 g_b1
  have O_7 : Old Z n0 h7 := O_5.wr W7 g_b1
  obtain ⟨T8, X8, e8, st8⟩ := getS2 X7 hx hZ hown (host := "") (Or.inl (hw _ (List.mem_of_getElem? (i := 10) rfl))) Via.refl e7 (wS3.ext O_7.2) (g := (mkF m 25 #[.val (.int i0), .unset, .unset, .unset, .unset] [(.int (3 : Int32)), (.ref b1), (.ref b1)])) rfl (hb hby at_25)
  obtain ⟨cl9, Ar9, q9, S9, M9, H9, G9⟩ := V7
  have hin9 : ¬ ((3 : Int32) < 0 ∨ cl9.slots.size ≤ ((3 : Int32)).toNatClampNeg) := inb_of S9 ⟨by decide, by decide⟩
  obtain ⟨T9, h9, X9, e9, W9, st9⟩ := stR X8 hx hZ e8 Ar9 (j := (3 : Int32)) hin9 rfl (Sto.ofV Ar9 q9 O1 (Ins.self (wE3.ext O_7.2))) (g := (mkF m 28 #[.val (.int i0), .unset, .unset, .unset, .unset] [(.ref w3), (.int (3 : Int32)), (.ref b1), (.ref b1)])) rfl rfl (hb hby at_28)
  have V9 : Arv Z h9 b1 k1 (.object "com/example/weaverbird/weaverbird/codes/RunState") (12 : Int32) [(.ref w0), (.ref w1), (.ref w2), (.ref w3), .null, .null, .null, .null, .null, .null, .null, .null] .null := Arv.set Ar9 q9 S9 M9 H9 G9 rfl W9 3 rfl (Nat.le_of_ble_eq_true rfl)
  have N9 := Fr.snoc X9 N7 g_b1
  have O_9 : Old Z n0 h9 := O_7.wr W9 g_b1
  obtain ⟨T10, X10, e10, st10⟩ := getS2 X9 hx hZ hown (host := "") (Or.inl (hw _ (List.mem_of_getElem? (i := 12) rfl))) Via.refl e9 (wS4.ext O_9.2) (g := (mkF m 31 #[.val (.int i0), .unset, .unset, .unset, .unset] [(.int (4 : Int32)), (.ref b1), (.ref b1)])) rfl (hb hby at_31)
  obtain ⟨cl11, Ar11, q11, S11, M11, H11, G11⟩ := V9
  have hin11 : ¬ ((4 : Int32) < 0 ∨ cl11.slots.size ≤ ((4 : Int32)).toNatClampNeg) := inb_of S11 ⟨by decide, by decide⟩
  obtain ⟨T11, h11, X11, e11, W11, st11⟩ := stR X10 hx hZ e10 Ar11 (j := (4 : Int32)) hin11 rfl (Sto.ofV Ar11 q11 O1 (Ins.self (wE4.ext O_9.2))) (g := (mkF m 34 #[.val (.int i0), .unset, .unset, .unset, .unset] [(.ref w4), (.int (4 : Int32)), (.ref b1), (.ref b1)])) rfl rfl (hb hby at_34)
  have V11 : Arv Z h11 b1 k1 (.object "com/example/weaverbird/weaverbird/codes/RunState") (12 : Int32) [(.ref w0), (.ref w1), (.ref w2), (.ref w3), (.ref w4), .null, .null, .null, .null, .null, .null, .null] .null := Arv.set Ar11 q11 S11 M11 H11 G11 rfl W11 4 rfl (Nat.le_of_ble_eq_true rfl)
  have N11 := Fr.snoc X11 N9 g_b1
  have O_11 : Old Z n0 h11 := O_9.wr W11 g_b1
  obtain ⟨T12, X12, e12, st12⟩ := getS2 X11 hx hZ hown (host := "") (Or.inl (hw _ (List.mem_of_getElem? (i := 14) rfl))) Via.refl e11 (wS5.ext O_11.2) (g := (mkF m 37 #[.val (.int i0), .unset, .unset, .unset, .unset] [(.int (5 : Int32)), (.ref b1), (.ref b1)])) rfl (hb hby at_37)
  obtain ⟨cl13, Ar13, q13, S13, M13, H13, G13⟩ := V11
  have hin13 : ¬ ((5 : Int32) < 0 ∨ cl13.slots.size ≤ ((5 : Int32)).toNatClampNeg) := inb_of S13 ⟨by decide, by decide⟩
  obtain ⟨T13, h13, X13, e13, W13, st13⟩ := stR X12 hx hZ e12 Ar13 (j := (5 : Int32)) hin13 rfl (Sto.ofV Ar13 q13 O1 (Ins.self (wE5.ext O_11.2))) (g := (mkF m 40 #[.val (.int i0), .unset, .unset, .unset, .unset] [(.ref w5), (.int (5 : Int32)), (.ref b1), (.ref b1)])) rfl rfl (hb hby at_40)
  have V13 : Arv Z h13 b1 k1 (.object "com/example/weaverbird/weaverbird/codes/RunState") (12 : Int32) [(.ref w0), (.ref w1), (.ref w2), (.ref w3), (.ref w4), (.ref w5), .null, .null, .null, .null, .null, .null] .null := Arv.set Ar13 q13 S13 M13 H13 G13 rfl W13 5 rfl (Nat.le_of_ble_eq_true rfl)
  have N13 := Fr.snoc X13 N11 g_b1
  have O_13 : Old Z n0 h13 := O_11.wr W13 g_b1
  obtain ⟨T14, X14, e14, st14⟩ := getS2 X13 hx hZ hown (host := "") (Or.inl (hw _ (List.mem_of_getElem? (i := 16) rfl))) Via.refl e13 (wS6.ext O_13.2) (g := (mkF m 44 #[.val (.int i0), .unset, .unset, .unset, .unset] [(.int (6 : Int32)), (.ref b1), (.ref b1)])) rfl (hb hby at_44)
  obtain ⟨cl15, Ar15, q15, S15, M15, H15, G15⟩ := V13
  have hin15 : ¬ ((6 : Int32) < 0 ∨ cl15.slots.size ≤ ((6 : Int32)).toNatClampNeg) := inb_of S15 ⟨by decide, by decide⟩
  obtain ⟨T15, h15, X15, e15, W15, st15⟩ := stR X14 hx hZ e14 Ar15 (j := (6 : Int32)) hin15 rfl (Sto.ofV Ar15 q15 O1 (Ins.self (wE6.ext O_13.2))) (g := (mkF m 47 #[.val (.int i0), .unset, .unset, .unset, .unset] [(.ref w6), (.int (6 : Int32)), (.ref b1), (.ref b1)])) rfl rfl (hb hby at_47)
  have V15 : Arv Z h15 b1 k1 (.object "com/example/weaverbird/weaverbird/codes/RunState") (12 : Int32) [(.ref w0), (.ref w1), (.ref w2), (.ref w3), (.ref w4), (.ref w5), (.ref w6), .null, .null, .null, .null, .null] .null := Arv.set Ar15 q15 S15 M15 H15 G15 rfl W15 6 rfl (Nat.le_of_ble_eq_true rfl)
  have N15 := Fr.snoc X15 N13 g_b1
  have O_15 : Old Z n0 h15 := O_13.wr W15 g_b1
  obtain ⟨T16, X16, e16, st16⟩ := getS2 X15 hx hZ hown (host := "") (Or.inl (hw _ (List.mem_of_getElem? (i := 18) rfl))) Via.refl e15 (wS7.ext O_15.2) (g := (mkF m 51 #[.val (.int i0), .unset, .unset, .unset, .unset] [(.int (7 : Int32)), (.ref b1), (.ref b1)])) rfl (hb hby at_51)
  obtain ⟨cl17, Ar17, q17, S17, M17, H17, G17⟩ := V15
  have hin17 : ¬ ((7 : Int32) < 0 ∨ cl17.slots.size ≤ ((7 : Int32)).toNatClampNeg) := inb_of S17 ⟨by decide, by decide⟩
  obtain ⟨T17, h17, X17, e17, W17, st17⟩ := stR X16 hx hZ e16 Ar17 (j := (7 : Int32)) hin17 rfl (Sto.ofV Ar17 q17 O1 (Ins.self (wE7.ext O_15.2))) (g := (mkF m 54 #[.val (.int i0), .unset, .unset, .unset, .unset] [(.ref w7), (.int (7 : Int32)), (.ref b1), (.ref b1)])) rfl rfl (hb hby at_54)
  have V17 : Arv Z h17 b1 k1 (.object "com/example/weaverbird/weaverbird/codes/RunState") (12 : Int32) [(.ref w0), (.ref w1), (.ref w2), (.ref w3), (.ref w4), (.ref w5), (.ref w6), (.ref w7), .null, .null, .null, .null] .null := Arv.set Ar17 q17 S17 M17 H17 G17 rfl W17 7 rfl (Nat.le_of_ble_eq_true rfl)
  have N17 := Fr.snoc X17 N15 g_b1
  have O_17 : Old Z n0 h17 := O_15.wr W17 g_b1
  obtain ⟨T18, X18, e18, st18⟩ := getS2 X17 hx hZ hown (host := "") (Or.inl (hw _ (List.mem_of_getElem? (i := 20) rfl))) Via.refl e17 (wS8.ext O_17.2) (g := (mkF m 58 #[.val (.int i0), .unset, .unset, .unset, .unset] [(.int (8 : Int32)), (.ref b1), (.ref b1)])) rfl (hb hby at_58)
  obtain ⟨cl19, Ar19, q19, S19, M19, H19, G19⟩ := V17
  have hin19 : ¬ ((8 : Int32) < 0 ∨ cl19.slots.size ≤ ((8 : Int32)).toNatClampNeg) := inb_of S19 ⟨by decide, by decide⟩
  obtain ⟨T19, h19, X19, e19, W19, st19⟩ := stR X18 hx hZ e18 Ar19 (j := (8 : Int32)) hin19 rfl (Sto.ofV Ar19 q19 O1 (Ins.self (wE8.ext O_17.2))) (g := (mkF m 61 #[.val (.int i0), .unset, .unset, .unset, .unset] [(.ref w8), (.int (8 : Int32)), (.ref b1), (.ref b1)])) rfl rfl (hb hby at_61)
  have V19 : Arv Z h19 b1 k1 (.object "com/example/weaverbird/weaverbird/codes/RunState") (12 : Int32) [(.ref w0), (.ref w1), (.ref w2), (.ref w3), (.ref w4), (.ref w5), (.ref w6), (.ref w7), (.ref w8), .null, .null, .null] .null := Arv.set Ar19 q19 S19 M19 H19 G19 rfl W19 8 rfl (Nat.le_of_ble_eq_true rfl)
  have N19 := Fr.snoc X19 N17 g_b1
  have O_19 : Old Z n0 h19 := O_17.wr W19 g_b1
  obtain ⟨T20, X20, e20, st20⟩ := getS2 X19 hx hZ hown (host := "") (Or.inl (hw _ (List.mem_of_getElem? (i := 22) rfl))) Via.refl e19 (wS9.ext O_19.2) (g := (mkF m 65 #[.val (.int i0), .unset, .unset, .unset, .unset] [(.int (9 : Int32)), (.ref b1), (.ref b1)])) rfl (hb hby at_65)
  obtain ⟨cl21, Ar21, q21, S21, M21, H21, G21⟩ := V19
  have hin21 : ¬ ((9 : Int32) < 0 ∨ cl21.slots.size ≤ ((9 : Int32)).toNatClampNeg) := inb_of S21 ⟨by decide, by decide⟩
  obtain ⟨T21, h21, X21, e21, W21, st21⟩ := stR X20 hx hZ e20 Ar21 (j := (9 : Int32)) hin21 rfl (Sto.ofV Ar21 q21 O1 (Ins.self (wE9.ext O_19.2))) (g := (mkF m 68 #[.val (.int i0), .unset, .unset, .unset, .unset] [(.ref w9), (.int (9 : Int32)), (.ref b1), (.ref b1)])) rfl rfl (hb hby at_68)
  have V21 : Arv Z h21 b1 k1 (.object "com/example/weaverbird/weaverbird/codes/RunState") (12 : Int32) [(.ref w0), (.ref w1), (.ref w2), (.ref w3), (.ref w4), (.ref w5), (.ref w6), (.ref w7), (.ref w8), (.ref w9), .null, .null] .null := Arv.set Ar21 q21 S21 M21 H21 G21 rfl W21 9 rfl (Nat.le_of_ble_eq_true rfl)
  have N21 := Fr.snoc X21 N19 g_b1
  have O_21 : Old Z n0 h21 := O_19.wr W21 g_b1
  obtain ⟨T22, X22, e22, st22⟩ := getS2 X21 hx hZ hown (host := "") (Or.inl (hw _ (List.mem_of_getElem? (i := 24) rfl))) Via.refl e21 (wS10.ext O_21.2) (g := (mkF m 72 #[.val (.int i0), .unset, .unset, .unset, .unset] [(.int (10 : Int32)), (.ref b1), (.ref b1)])) rfl (hb hby at_72)
  obtain ⟨cl23, Ar23, q23, S23, M23, H23, G23⟩ := V21
  have hin23 : ¬ ((10 : Int32) < 0 ∨ cl23.slots.size ≤ ((10 : Int32)).toNatClampNeg) := inb_of S23 ⟨by decide, by decide⟩
  obtain ⟨T23, h23, X23, e23, W23, st23⟩ := stR X22 hx hZ e22 Ar23 (j := (10 : Int32)) hin23 rfl (Sto.ofV Ar23 q23 O1 (Ins.self (wE10.ext O_21.2))) (g := (mkF m 75 #[.val (.int i0), .unset, .unset, .unset, .unset] [(.ref w10), (.int (10 : Int32)), (.ref b1), (.ref b1)])) rfl rfl (hb hby at_75)
  have V23 : Arv Z h23 b1 k1 (.object "com/example/weaverbird/weaverbird/codes/RunState") (12 : Int32) [(.ref w0), (.ref w1), (.ref w2), (.ref w3), (.ref w4), (.ref w5), (.ref w6), (.ref w7), (.ref w8), (.ref w9), (.ref w10), .null] .null := Arv.set Ar23 q23 S23 M23 H23 G23 rfl W23 10 rfl (Nat.le_of_ble_eq_true rfl)
  have N23 := Fr.snoc X23 N21 g_b1
  have O_23 : Old Z n0 h23 := O_21.wr W23 g_b1
  obtain ⟨T24, X24, e24, st24⟩ := getS2 X23 hx hZ hown (host := "") (Or.inl (hw _ (List.mem_of_getElem? (i := 26) rfl))) Via.refl e23 (wS11.ext O_23.2) (g := (mkF m 79 #[.val (.int i0), .unset, .unset, .unset, .unset] [(.int (11 : Int32)), (.ref b1), (.ref b1)])) rfl (hb hby at_79)
  obtain ⟨cl25, Ar25, q25, S25, M25, H25, G25⟩ := V23
  have hin25 : ¬ ((11 : Int32) < 0 ∨ cl25.slots.size ≤ ((11 : Int32)).toNatClampNeg) := inb_of S25 ⟨by decide, by decide⟩
  obtain ⟨T25, h25, X25, e25, W25, st25⟩ := stR X24 hx hZ e24 Ar25 (j := (11 : Int32)) hin25 rfl (Sto.ofV Ar25 q25 O1 (Ins.self (wE11.ext O_23.2))) (g := (mkF m 82 #[.val (.int i0), .unset, .unset, .unset, .unset] [(.ref w11), (.int (11 : Int32)), (.ref b1), (.ref b1)])) rfl rfl (hb hby at_82)
  have V25 : Arv Z h25 b1 k1 (.object "com/example/weaverbird/weaverbird/codes/RunState") (12 : Int32) [(.ref w0), (.ref w1), (.ref w2), (.ref w3), (.ref w4), (.ref w5), (.ref w6), (.ref w7), (.ref w8), (.ref w9), (.ref w10), (.ref w11)] .null := Arv.set Ar25 q25 S25 M25 H25 G25 rfl W25 11 rfl (Nat.le_of_ble_eq_true rfl)
  have N25 := Fr.snoc X25 N23 g_b1
  have O_25 : Old Z n0 h25 := O_23.wr W25 g_b1
  have pre26 : ∀ t, Steps p.tables e below (T25.setTop (mkF m 90 #[.val (.int i0), .val (.ref b1), .unset, .unset, .unset] [(.int (12 : Int32)), (.int (i0 &&& (2147483647 : Int32)))])) t → Steps p.tables e below (s₁.setTop (entryFrame m #[(.int i0)] maxLocals)) t := by
    intro t k
    refine pre0 _ ?_
    show Steps p.tables e below (s₁.setTop (mkF m 0 #[.val (.int i0), .unset, .unset, .unset, .unset] [])) _
    refine XS.bipush X0.here hx rfl (hb hby at_0) ?_
    show Steps p.tables e below (s₁.setTop (mkF m 2 #[.val (.int i0), .unset, .unset, .unset, .unset] [(.int (12 : Int32))])) _
    refine st1 _ ?_
    show Steps p.tables e below (T1.setTop (mkF m 5 #[.val (.int i0), .unset, .unset, .unset, .unset] [(.ref b1)])) _
    refine XS.dup X1.here hx rfl (hb hby at_5) rfl rfl ?_
    show Steps p.tables e below (T1.setTop (mkF m 6 #[.val (.int i0), .unset, .unset, .unset, .unset] [(.ref b1), (.ref b1)])) _
    refine XS.iconst X1.here hx rfl (hb hby at_6) ?_
    show Steps p.tables e below (T1.setTop (mkF m 7 #[.val (.int i0), .unset, .unset, .unset, .unset] [(.int (0 : Int32)), (.ref b1), (.ref b1)])) _
    refine st2 _ ?_
    show Steps p.tables e below (T2.setTop (mkF m 10 #[.val (.int i0), .unset, .unset, .unset, .unset] [(.ref w0), (.int (0 : Int32)), (.ref b1), (.ref b1)])) _
    refine st3 _ ?_
    show Steps p.tables e below (T3.setTop (mkF m 11 #[.val (.int i0), .unset, .unset, .unset, .unset] [(.ref b1)])) _
    refine XS.dup X3.here hx rfl (hb hby at_11) rfl rfl ?_
    show Steps p.tables e below (T3.setTop (mkF m 12 #[.val (.int i0), .unset, .unset, .unset, .unset] [(.ref b1), (.ref b1)])) _
    refine XS.iconst X3.here hx rfl (hb hby at_12) ?_
    show Steps p.tables e below (T3.setTop (mkF m 13 #[.val (.int i0), .unset, .unset, .unset, .unset] [(.int (1 : Int32)), (.ref b1), (.ref b1)])) _
    refine st4 _ ?_
    show Steps p.tables e below (T4.setTop (mkF m 16 #[.val (.int i0), .unset, .unset, .unset, .unset] [(.ref w1), (.int (1 : Int32)), (.ref b1), (.ref b1)])) _
    refine st5 _ ?_
    show Steps p.tables e below (T5.setTop (mkF m 17 #[.val (.int i0), .unset, .unset, .unset, .unset] [(.ref b1)])) _
    refine XS.dup X5.here hx rfl (hb hby at_17) rfl rfl ?_
    show Steps p.tables e below (T5.setTop (mkF m 18 #[.val (.int i0), .unset, .unset, .unset, .unset] [(.ref b1), (.ref b1)])) _
    refine XS.iconst X5.here hx rfl (hb hby at_18) ?_
    show Steps p.tables e below (T5.setTop (mkF m 19 #[.val (.int i0), .unset, .unset, .unset, .unset] [(.int (2 : Int32)), (.ref b1), (.ref b1)])) _
    refine st6 _ ?_
    show Steps p.tables e below (T6.setTop (mkF m 22 #[.val (.int i0), .unset, .unset, .unset, .unset] [(.ref w2), (.int (2 : Int32)), (.ref b1), (.ref b1)])) _
    refine st7 _ ?_
    show Steps p.tables e below (T7.setTop (mkF m 23 #[.val (.int i0), .unset, .unset, .unset, .unset] [(.ref b1)])) _
    refine XS.dup X7.here hx rfl (hb hby at_23) rfl rfl ?_
    show Steps p.tables e below (T7.setTop (mkF m 24 #[.val (.int i0), .unset, .unset, .unset, .unset] [(.ref b1), (.ref b1)])) _
    refine XS.iconst X7.here hx rfl (hb hby at_24) ?_
    show Steps p.tables e below (T7.setTop (mkF m 25 #[.val (.int i0), .unset, .unset, .unset, .unset] [(.int (3 : Int32)), (.ref b1), (.ref b1)])) _
    refine st8 _ ?_
    show Steps p.tables e below (T8.setTop (mkF m 28 #[.val (.int i0), .unset, .unset, .unset, .unset] [(.ref w3), (.int (3 : Int32)), (.ref b1), (.ref b1)])) _
    refine st9 _ ?_
    show Steps p.tables e below (T9.setTop (mkF m 29 #[.val (.int i0), .unset, .unset, .unset, .unset] [(.ref b1)])) _
    refine XS.dup X9.here hx rfl (hb hby at_29) rfl rfl ?_
    show Steps p.tables e below (T9.setTop (mkF m 30 #[.val (.int i0), .unset, .unset, .unset, .unset] [(.ref b1), (.ref b1)])) _
    refine XS.iconst X9.here hx rfl (hb hby at_30) ?_
    show Steps p.tables e below (T9.setTop (mkF m 31 #[.val (.int i0), .unset, .unset, .unset, .unset] [(.int (4 : Int32)), (.ref b1), (.ref b1)])) _
    refine st10 _ ?_
    show Steps p.tables e below (T10.setTop (mkF m 34 #[.val (.int i0), .unset, .unset, .unset, .unset] [(.ref w4), (.int (4 : Int32)), (.ref b1), (.ref b1)])) _
    refine st11 _ ?_
    show Steps p.tables e below (T11.setTop (mkF m 35 #[.val (.int i0), .unset, .unset, .unset, .unset] [(.ref b1)])) _
    refine XS.dup X11.here hx rfl (hb hby at_35) rfl rfl ?_
    show Steps p.tables e below (T11.setTop (mkF m 36 #[.val (.int i0), .unset, .unset, .unset, .unset] [(.ref b1), (.ref b1)])) _
    refine XS.iconst X11.here hx rfl (hb hby at_36) ?_
    show Steps p.tables e below (T11.setTop (mkF m 37 #[.val (.int i0), .unset, .unset, .unset, .unset] [(.int (5 : Int32)), (.ref b1), (.ref b1)])) _
    refine st12 _ ?_
    show Steps p.tables e below (T12.setTop (mkF m 40 #[.val (.int i0), .unset, .unset, .unset, .unset] [(.ref w5), (.int (5 : Int32)), (.ref b1), (.ref b1)])) _
    refine st13 _ ?_
    show Steps p.tables e below (T13.setTop (mkF m 41 #[.val (.int i0), .unset, .unset, .unset, .unset] [(.ref b1)])) _
    refine XS.dup X13.here hx rfl (hb hby at_41) rfl rfl ?_
    show Steps p.tables e below (T13.setTop (mkF m 42 #[.val (.int i0), .unset, .unset, .unset, .unset] [(.ref b1), (.ref b1)])) _
    refine XS.bipush X13.here hx rfl (hb hby at_42) ?_
    show Steps p.tables e below (T13.setTop (mkF m 44 #[.val (.int i0), .unset, .unset, .unset, .unset] [(.int (6 : Int32)), (.ref b1), (.ref b1)])) _
    refine st14 _ ?_
    show Steps p.tables e below (T14.setTop (mkF m 47 #[.val (.int i0), .unset, .unset, .unset, .unset] [(.ref w6), (.int (6 : Int32)), (.ref b1), (.ref b1)])) _
    refine st15 _ ?_
    show Steps p.tables e below (T15.setTop (mkF m 48 #[.val (.int i0), .unset, .unset, .unset, .unset] [(.ref b1)])) _
    refine XS.dup X15.here hx rfl (hb hby at_48) rfl rfl ?_
    show Steps p.tables e below (T15.setTop (mkF m 49 #[.val (.int i0), .unset, .unset, .unset, .unset] [(.ref b1), (.ref b1)])) _
    refine XS.bipush X15.here hx rfl (hb hby at_49) ?_
    show Steps p.tables e below (T15.setTop (mkF m 51 #[.val (.int i0), .unset, .unset, .unset, .unset] [(.int (7 : Int32)), (.ref b1), (.ref b1)])) _
    refine st16 _ ?_
    show Steps p.tables e below (T16.setTop (mkF m 54 #[.val (.int i0), .unset, .unset, .unset, .unset] [(.ref w7), (.int (7 : Int32)), (.ref b1), (.ref b1)])) _
    refine st17 _ ?_
    show Steps p.tables e below (T17.setTop (mkF m 55 #[.val (.int i0), .unset, .unset, .unset, .unset] [(.ref b1)])) _
    refine XS.dup X17.here hx rfl (hb hby at_55) rfl rfl ?_
    show Steps p.tables e below (T17.setTop (mkF m 56 #[.val (.int i0), .unset, .unset, .unset, .unset] [(.ref b1), (.ref b1)])) _
    refine XS.bipush X17.here hx rfl (hb hby at_56) ?_
    show Steps p.tables e below (T17.setTop (mkF m 58 #[.val (.int i0), .unset, .unset, .unset, .unset] [(.int (8 : Int32)), (.ref b1), (.ref b1)])) _
    refine st18 _ ?_
    show Steps p.tables e below (T18.setTop (mkF m 61 #[.val (.int i0), .unset, .unset, .unset, .unset] [(.ref w8), (.int (8 : Int32)), (.ref b1), (.ref b1)])) _
    refine st19 _ ?_
    show Steps p.tables e below (T19.setTop (mkF m 62 #[.val (.int i0), .unset, .unset, .unset, .unset] [(.ref b1)])) _
    refine XS.dup X19.here hx rfl (hb hby at_62) rfl rfl ?_
    show Steps p.tables e below (T19.setTop (mkF m 63 #[.val (.int i0), .unset, .unset, .unset, .unset] [(.ref b1), (.ref b1)])) _
    refine XS.bipush X19.here hx rfl (hb hby at_63) ?_
    show Steps p.tables e below (T19.setTop (mkF m 65 #[.val (.int i0), .unset, .unset, .unset, .unset] [(.int (9 : Int32)), (.ref b1), (.ref b1)])) _
    refine st20 _ ?_
    show Steps p.tables e below (T20.setTop (mkF m 68 #[.val (.int i0), .unset, .unset, .unset, .unset] [(.ref w9), (.int (9 : Int32)), (.ref b1), (.ref b1)])) _
    refine st21 _ ?_
    show Steps p.tables e below (T21.setTop (mkF m 69 #[.val (.int i0), .unset, .unset, .unset, .unset] [(.ref b1)])) _
    refine XS.dup X21.here hx rfl (hb hby at_69) rfl rfl ?_
    show Steps p.tables e below (T21.setTop (mkF m 70 #[.val (.int i0), .unset, .unset, .unset, .unset] [(.ref b1), (.ref b1)])) _
    refine XS.bipush X21.here hx rfl (hb hby at_70) ?_
    show Steps p.tables e below (T21.setTop (mkF m 72 #[.val (.int i0), .unset, .unset, .unset, .unset] [(.int (10 : Int32)), (.ref b1), (.ref b1)])) _
    refine st22 _ ?_
    show Steps p.tables e below (T22.setTop (mkF m 75 #[.val (.int i0), .unset, .unset, .unset, .unset] [(.ref w10), (.int (10 : Int32)), (.ref b1), (.ref b1)])) _
    refine st23 _ ?_
    show Steps p.tables e below (T23.setTop (mkF m 76 #[.val (.int i0), .unset, .unset, .unset, .unset] [(.ref b1)])) _
    refine XS.dup X23.here hx rfl (hb hby at_76) rfl rfl ?_
    show Steps p.tables e below (T23.setTop (mkF m 77 #[.val (.int i0), .unset, .unset, .unset, .unset] [(.ref b1), (.ref b1)])) _
    refine XS.bipush X23.here hx rfl (hb hby at_77) ?_
    show Steps p.tables e below (T23.setTop (mkF m 79 #[.val (.int i0), .unset, .unset, .unset, .unset] [(.int (11 : Int32)), (.ref b1), (.ref b1)])) _
    refine st24 _ ?_
    show Steps p.tables e below (T24.setTop (mkF m 82 #[.val (.int i0), .unset, .unset, .unset, .unset] [(.ref w11), (.int (11 : Int32)), (.ref b1), (.ref b1)])) _
    refine st25 _ ?_
    show Steps p.tables e below (T25.setTop (mkF m 83 #[.val (.int i0), .unset, .unset, .unset, .unset] [(.ref b1)])) _
    refine XS.astoreN X25.here hx rfl (hb hby at_83) rfl rfl (l' := #[.val (.int i0), .val (.ref b1), .unset, .unset, .unset]) rfl ?_
    show Steps p.tables e below (T25.setTop (mkF m 84 #[.val (.int i0), .val (.ref b1), .unset, .unset, .unset] [])) _
    refine XS.iloadN X25.here hx rfl (hb hby at_84) rfl ?_
    show Steps p.tables e below (T25.setTop (mkF m 85 #[.val (.int i0), .val (.ref b1), .unset, .unset, .unset] [(.int i0)])) _
    refine X25.ldcInt hx hown (mvT hZ (hw _ (List.mem_of_getElem? (i := 28) rfl))) (g := (mkF m 85 #[.val (.int i0), .val (.ref b1), .unset, .unset, .unset] [(.int i0)])) rfl (hb hby at_85) _ ?_
    show Steps p.tables e below (T25.setTop (mkF m 87 #[.val (.int i0), .val (.ref b1), .unset, .unset, .unset] [(.int (2147483647 : Int32)), (.int i0)])) _
    refine XS.iand X25.here hx rfl (hb hby at_87) rfl ?_
    show Steps p.tables e below (T25.setTop (mkF m 88 #[.val (.int i0), .val (.ref b1), .unset, .unset, .unset] [(.int (i0 &&& (2147483647 : Int32)))])) _
    refine XS.bipush X25.here hx rfl (hb hby at_88) ?_
    show Steps p.tables e below (T25.setTop (mkF m 90 #[.val (.int i0), .val (.ref b1), .unset, .unset, .unset] [(.int (12 : Int32)), (.int (i0 &&& (2147483647 : Int32)))])) _
    exact k
  rcases own_rem_12 i0 with hk27 | hk28 | hk29 | hk30 | hk31 | hk32 | hk33 | hk34 | hk35 | hk36 | hk37 | hk38
  · obtain ⟨cl39, Ar39, q39, S39, M39, H39, G39⟩ := V25
    have hin39 : ¬ ((0 : Int32) < 0 ∨ cl39.slots.size ≤ ((0 : Int32)).toNatClampNeg) := inb_of S39 ⟨by decide, by decide⟩
    have hat39 : cl39.slots[((0 : Int32)).toNatClampNeg]? = some (.ref w0) := Has.at H39 hin39 rfl
    obtain ⟨cq41, kq41, q41a, q41b, q41c⟩ := isOf hZ e25 (wE0.ext O_25.2)
    obtain ⟨_, _, ⟨T41, L41, k41, n41⟩, -, X41, ⟨Lc41, hQ41, l41, y41, z41⟩, st41⟩ := X25.virtualBack hx (y := (⟨"com/example/weaverbird/weaverbird/codes/RunState", "unended", "()Z"⟩ : MethodName)) (z := (⟨"com/example/weaverbird/weaverbird/codes/RunState", "unended", "()Z"⟩ : MethodName)) hown (mvT hZ (hw _ (List.mem_of_getElem? (i := 29) rfl))) (mvT hZ (hw _ (List.mem_of_getElem? (i := 30) rfl))) (notFace_of_selects (args := #[]) (mvT hZ (hw _ (List.mem_of_getElem? (i := 32) rfl)))) (mvT hZ (hw _ (List.mem_of_getElem? (i := 32) rfl))) (mvT hZ (hw _ (List.mem_of_getElem? (i := 31) rfl))) (by decide) (backOf (W := 0) (rm1 l Z a0 hw [] w0 w1 w2 w3 w4 w5 w6 w7 w8 w9 w10 w11 h25 n0 hWd O_25) hZ (hw _ (List.mem_of_getElem? (i := 33) rfl)) (hw _ (List.mem_of_getElem? (i := 3) rfl)) (by decide) (by decide)) q41a q41c (g := (mkF m 123 #[.val (.int i0), .val (.ref b1), .val (.int (0 : Int32)), .val (.ref w0), .val (.int (1 : Int32))] [(.ref w0)])) rfl (by rw [hml]; rfl) (Steps.refl _) (argsL := []) (rest := []) (lenOf pd0 rfl) rfl (by show 2 * 0 + _ ≤ _; exact Nat.le_of_eq rfl) (hb hby at_123) (fun _ _ => ⟨rfl, e25, (by decide : 1 + 0 ≤ _), (by decide : 12 + 0 ≤ _)⟩)
    dsimp only [Pt.U, Pt.locs, Pt.cells, Pt.slots] at X41 l41 y41 z41 st41 hQ41
    subst l41 y41 z41
    obtain ⟨rfl, N41q, e41⟩ := hQ41
    have N41 := Fr.app N25 N41q
    obtain ⟨fs, hr, hrun, hended, hWr, hsame⟩ := X41.leave (v := some (.int (1 : Int32))) (fun h => by rw [Bd.returns] at h; cases h)
    refine ⟨_, _, pre26 _ ?_, hrun, hended, _, _, rfl, ?_, ⟨_, rfl⟩, hWr, hsame.mono (Nat.le_of_ble_eq_true rfl) (Nat.le_of_ble_eq_true rfl)⟩
    · show Steps p.tables e below (T25.setTop (mkF m 90 #[.val (.int i0), .val (.ref b1), .unset, .unset, .unset] [(.int (12 : Int32)), (.int (i0 &&& (2147483647 : Int32)))])) _
      refine iremM X25 hx rfl (hb hby at_90) rfl (by decide) ?_
      show Steps p.tables e below (T25.setTop (mkF m 91 #[.val (.int i0), .val (.ref b1), .unset, .unset, .unset] [(.int ((i0 &&& (2147483647 : Int32)) % (12 : Int32)))])) _
      rw [hk27]
      show Steps p.tables e below (T25.setTop (mkF m 91 #[.val (.int i0), .val (.ref b1), .unset, .unset, .unset] [(.int (0 : Int32))])) _
      refine XS.istoreN X25.here hx rfl (hb hby at_91) rfl (l' := #[.val (.int i0), .val (.ref b1), .val (.int (0 : Int32)), .unset, .unset]) rfl ?_
      show Steps p.tables e below (T25.setTop (mkF m 92 #[.val (.int i0), .val (.ref b1), .val (.int (0 : Int32)), .unset, .unset] [])) _
      refine XS.aloadN X25.here hx rfl (hb hby at_92) rfl rfl ?_
      show Steps p.tables e below (T25.setTop (mkF m 93 #[.val (.int i0), .val (.ref b1), .val (.int (0 : Int32)), .unset, .unset] [(.ref b1)])) _
      refine XS.iloadN X25.here hx rfl (hb hby at_93) rfl ?_
      show Steps p.tables e below (T25.setTop (mkF m 94 #[.val (.int i0), .val (.ref b1), .val (.int (0 : Int32)), .unset, .unset] [(.int (0 : Int32)), (.ref b1)])) _
      refine X25.aaload hx (j := (0 : Int32)) (v := (.ref w0)) (by rw [e25]; exact Ar39.1) (State.isArrayOf_alike hZ.alike Ar39.2.1) rfl Ar39.2.2 hin39 hat39 (g := (mkF m 94 #[.val (.int i0), .val (.ref b1), .val (.int (0 : Int32)), .unset, .unset] [(.int (0 : Int32)), (.ref b1)])) rfl rfl (hb hby at_94) _ ?_
      show Steps p.tables e below (T25.setTop (mkF m 95 #[.val (.int i0), .val (.ref b1), .val (.int (0 : Int32)), .unset, .unset] [(.ref w0)])) _
      refine XS.astoreN X25.here hx rfl (hb hby at_95) rfl rfl (l' := #[.val (.int i0), .val (.ref b1), .val (.int (0 : Int32)), .val (.ref w0), .unset]) rfl ?_
      show Steps p.tables e below (T25.setTop (mkF m 96 #[.val (.int i0), .val (.ref b1), .val (.int (0 : Int32)), .val (.ref w0), .unset] [])) _
      refine XS.iloadN X25.here hx rfl (hb hby at_96) rfl ?_
      show Steps p.tables e below (T25.setTop (mkF m 97 #[.val (.int i0), .val (.ref b1), .val (.int (0 : Int32)), .val (.ref w0), .unset] [(.int (0 : Int32))])) _
      refine XS.ifYes X25.here hx rfl (pc0 := 97) (pc' := 115) rfl (hb hby at_97) rfl (by decide) (by decide) (by decide) ?_
      show Steps p.tables e below (T25.setTop (mkF m 115 #[.val (.int i0), .val (.ref b1), .val (.int (0 : Int32)), .val (.ref w0), .unset] [])) _
      refine XS.iconst X25.here hx rfl (hb hby at_115) ?_
      show Steps p.tables e below (T25.setTop (mkF m 116 #[.val (.int i0), .val (.ref b1), .val (.int (0 : Int32)), .val (.ref w0), .unset] [(.int (1 : Int32))])) _
      refine XS.goto X25.here hx rfl (pc0 := 116) (pc' := 120) rfl (hb hby at_116) (by decide) (by decide) ?_
      show Steps p.tables e below (T25.setTop (mkF m 120 #[.val (.int i0), .val (.ref b1), .val (.int (0 : Int32)), .val (.ref w0), .unset] [(.int (1 : Int32))])) _
      refine XS.istore X25.here hx rfl (hb hby at_120) rfl (l' := #[.val (.int i0), .val (.ref b1), .val (.int (0 : Int32)), .val (.ref w0), .val (.int (1 : Int32))]) rfl ?_
      show Steps p.tables e below (T25.setTop (mkF m 122 #[.val (.int i0), .val (.ref b1), .val (.int (0 : Int32)), .val (.ref w0), .val (.int (1 : Int32))] [])) _
      refine XS.aloadN X25.here hx rfl (hb hby at_122) rfl rfl ?_
      show Steps p.tables e below (T25.setTop (mkF m 123 #[.val (.int i0), .val (.ref b1), .val (.int (0 : Int32)), .val (.ref w0), .val (.int (1 : Int32))] [(.ref w0)])) _
      refine st41.trans ?_
      show Steps p.tables e below (T41.setTop (mkF m 126 #[.val (.int i0), .val (.ref b1), .val (.int (0 : Int32)), .val (.ref w0), .val (.int (1 : Int32))] [(.int (1 : Int32))])) _
      refine XS.iload X41.here hx rfl (hb hby at_126) rfl ?_
      show Steps p.tables e below (T41.setTop (mkF m 128 #[.val (.int i0), .val (.ref b1), .val (.int (0 : Int32)), .val (.ref w0), .val (.int (1 : Int32))] [(.int (1 : Int32)), (.int (1 : Int32))])) _
      refine XS.icmpNo X41.here hx rfl (hb hby at_128) rfl (by decide) ?_
      show Steps p.tables e below (T41.setTop (mkF m 131 #[.val (.int i0), .val (.ref b1), .val (.int (0 : Int32)), .val (.ref w0), .val (.int (1 : Int32))] [])) _
      refine XS.iconst X41.here hx rfl (hb hby at_131) ?_
      show Steps p.tables e below (T41.setTop (mkF m 132 #[.val (.int i0), .val (.ref b1), .val (.int (0 : Int32)), .val (.ref w0), .val (.int (1 : Int32))] [(.int (1 : Int32))])) _
      refine XS.goto X41.here hx rfl (pc0 := 132) (pc' := 136) rfl (hb hby at_132) (by decide) (by decide) ?_
      show Steps p.tables e below (T41.setTop (mkF m 136 #[.val (.int i0), .val (.ref b1), .val (.int (0 : Int32)), .val (.ref w0), .val (.int (1 : Int32))] [(.int (1 : Int32))])) _
      exact retN X41 hx (t := .boolean) Bd.returns (by simp) (hb hby at_136) hr
    · show Ql n0 _ T41.heap _
      exact ⟨rfl, N41⟩
  · obtain ⟨cl42, Ar42, q42, S42, M42, H42, G42⟩ := V25
    have hin42 : ¬ ((1 : Int32) < 0 ∨ cl42.slots.size ≤ ((1 : Int32)).toNatClampNeg) := inb_of S42 ⟨by decide, by decide⟩
    have hat42 : cl42.slots[((1 : Int32)).toNatClampNeg]? = some (.ref w1) := Has.at H42 hin42 rfl
    obtain ⟨cq45, kq45, q45a, q45b, q45c⟩ := isOf hZ e25 (wE1.ext O_25.2)
    obtain ⟨_, _, ⟨T45, L45, k45, n45⟩, -, X45, ⟨Lc45, hQ45, l45, y45, z45⟩, st45⟩ := X25.virtualBack hx (y := (⟨"com/example/weaverbird/weaverbird/codes/RunState", "unended", "()Z"⟩ : MethodName)) (z := (⟨"com/example/weaverbird/weaverbird/codes/RunState", "unended", "()Z"⟩ : MethodName)) hown (mvT hZ (hw _ (List.mem_of_getElem? (i := 29) rfl))) (mvT hZ (hw _ (List.mem_of_getElem? (i := 30) rfl))) (notFace_of_selects (args := #[]) (mvT hZ (hw _ (List.mem_of_getElem? (i := 32) rfl)))) (mvT hZ (hw _ (List.mem_of_getElem? (i := 32) rfl))) (mvT hZ (hw _ (List.mem_of_getElem? (i := 31) rfl))) (by decide) (backOf (W := 0) (rm2 l Z a0 hw [] w0 w1 w2 w3 w4 w5 w6 w7 w8 w9 w10 w11 h25 n0 hWd O_25) hZ (hw _ (List.mem_of_getElem? (i := 33) rfl)) (hw _ (List.mem_of_getElem? (i := 3) rfl)) (by decide) (by decide)) q45a q45c (g := (mkF m 123 #[.val (.int i0), .val (.ref b1), .val (.int (1 : Int32)), .val (.ref w1), .val (.int (1 : Int32))] [(.ref w1)])) rfl (by rw [hml]; rfl) (Steps.refl _) (argsL := []) (rest := []) (lenOf pd0 rfl) rfl (by show 2 * 0 + _ ≤ _; exact Nat.le_of_eq rfl) (hb hby at_123) (fun _ _ => ⟨rfl, e25, (by decide : 1 + 0 ≤ _), (by decide : 12 + 0 ≤ _)⟩)
    dsimp only [Pt.U, Pt.locs, Pt.cells, Pt.slots] at X45 l45 y45 z45 st45 hQ45
    subst l45 y45 z45
    obtain ⟨rfl, N45q, e45⟩ := hQ45
    have N45 := Fr.app N25 N45q
    obtain ⟨fs, hr, hrun, hended, hWr, hsame⟩ := X45.leave (v := some (.int (1 : Int32))) (fun h => by rw [Bd.returns] at h; cases h)
    refine ⟨_, _, pre26 _ ?_, hrun, hended, _, _, rfl, ?_, ⟨_, rfl⟩, hWr, hsame.mono (Nat.le_of_ble_eq_true rfl) (Nat.le_of_ble_eq_true rfl)⟩
    · show Steps p.tables e below (T25.setTop (mkF m 90 #[.val (.int i0), .val (.ref b1), .unset, .unset, .unset] [(.int (12 : Int32)), (.int (i0 &&& (2147483647 : Int32)))])) _
      refine iremM X25 hx rfl (hb hby at_90) rfl (by decide) ?_
      show Steps p.tables e below (T25.setTop (mkF m 91 #[.val (.int i0), .val (.ref b1), .unset, .unset, .unset] [(.int ((i0 &&& (2147483647 : Int32)) % (12 : Int32)))])) _
      rw [hk28]
      show Steps p.tables e below (T25.setTop (mkF m 91 #[.val (.int i0), .val (.ref b1), .unset, .unset, .unset] [(.int (1 : Int32))])) _
      refine XS.istoreN X25.here hx rfl (hb hby at_91) rfl (l' := #[.val (.int i0), .val (.ref b1), .val (.int (1 : Int32)), .unset, .unset]) rfl ?_
      show Steps p.tables e below (T25.setTop (mkF m 92 #[.val (.int i0), .val (.ref b1), .val (.int (1 : Int32)), .unset, .unset] [])) _
      refine XS.aloadN X25.here hx rfl (hb hby at_92) rfl rfl ?_
      show Steps p.tables e below (T25.setTop (mkF m 93 #[.val (.int i0), .val (.ref b1), .val (.int (1 : Int32)), .unset, .unset] [(.ref b1)])) _
      refine XS.iloadN X25.here hx rfl (hb hby at_93) rfl ?_
      show Steps p.tables e below (T25.setTop (mkF m 94 #[.val (.int i0), .val (.ref b1), .val (.int (1 : Int32)), .unset, .unset] [(.int (1 : Int32)), (.ref b1)])) _
      refine X25.aaload hx (j := (1 : Int32)) (v := (.ref w1)) (by rw [e25]; exact Ar42.1) (State.isArrayOf_alike hZ.alike Ar42.2.1) rfl Ar42.2.2 hin42 hat42 (g := (mkF m 94 #[.val (.int i0), .val (.ref b1), .val (.int (1 : Int32)), .unset, .unset] [(.int (1 : Int32)), (.ref b1)])) rfl rfl (hb hby at_94) _ ?_
      show Steps p.tables e below (T25.setTop (mkF m 95 #[.val (.int i0), .val (.ref b1), .val (.int (1 : Int32)), .unset, .unset] [(.ref w1)])) _
      refine XS.astoreN X25.here hx rfl (hb hby at_95) rfl rfl (l' := #[.val (.int i0), .val (.ref b1), .val (.int (1 : Int32)), .val (.ref w1), .unset]) rfl ?_
      show Steps p.tables e below (T25.setTop (mkF m 96 #[.val (.int i0), .val (.ref b1), .val (.int (1 : Int32)), .val (.ref w1), .unset] [])) _
      refine XS.iloadN X25.here hx rfl (hb hby at_96) rfl ?_
      show Steps p.tables e below (T25.setTop (mkF m 97 #[.val (.int i0), .val (.ref b1), .val (.int (1 : Int32)), .val (.ref w1), .unset] [(.int (1 : Int32))])) _
      refine XS.ifNo X25.here hx rfl (hb hby at_97) rfl (by decide) ?_
      show Steps p.tables e below (T25.setTop (mkF m 100 #[.val (.int i0), .val (.ref b1), .val (.int (1 : Int32)), .val (.ref w1), .unset] [])) _
      refine XS.iloadN X25.here hx rfl (hb hby at_100) rfl ?_
      show Steps p.tables e below (T25.setTop (mkF m 101 #[.val (.int i0), .val (.ref b1), .val (.int (1 : Int32)), .val (.ref w1), .unset] [(.int (1 : Int32))])) _
      refine XS.iconst X25.here hx rfl (hb hby at_101) ?_
      show Steps p.tables e below (T25.setTop (mkF m 102 #[.val (.int i0), .val (.ref b1), .val (.int (1 : Int32)), .val (.ref w1), .unset] [(.int (1 : Int32)), (.int (1 : Int32))])) _
      refine XS.icmpYes X25.here hx rfl (pc0 := 102) (pc' := 115) rfl (hb hby at_102) rfl (by decide) (by decide) (by decide) ?_
      show Steps p.tables e below (T25.setTop (mkF m 115 #[.val (.int i0), .val (.ref b1), .val (.int (1 : Int32)), .val (.ref w1), .unset] [])) _
      refine XS.iconst X25.here hx rfl (hb hby at_115) ?_
      show Steps p.tables e below (T25.setTop (mkF m 116 #[.val (.int i0), .val (.ref b1), .val (.int (1 : Int32)), .val (.ref w1), .unset] [(.int (1 : Int32))])) _
      refine XS.goto X25.here hx rfl (pc0 := 116) (pc' := 120) rfl (hb hby at_116) (by decide) (by decide) ?_
      show Steps p.tables e below (T25.setTop (mkF m 120 #[.val (.int i0), .val (.ref b1), .val (.int (1 : Int32)), .val (.ref w1), .unset] [(.int (1 : Int32))])) _
      refine XS.istore X25.here hx rfl (hb hby at_120) rfl (l' := #[.val (.int i0), .val (.ref b1), .val (.int (1 : Int32)), .val (.ref w1), .val (.int (1 : Int32))]) rfl ?_
      show Steps p.tables e below (T25.setTop (mkF m 122 #[.val (.int i0), .val (.ref b1), .val (.int (1 : Int32)), .val (.ref w1), .val (.int (1 : Int32))] [])) _
      refine XS.aloadN X25.here hx rfl (hb hby at_122) rfl rfl ?_
      show Steps p.tables e below (T25.setTop (mkF m 123 #[.val (.int i0), .val (.ref b1), .val (.int (1 : Int32)), .val (.ref w1), .val (.int (1 : Int32))] [(.ref w1)])) _
      refine st45.trans ?_
      show Steps p.tables e below (T45.setTop (mkF m 126 #[.val (.int i0), .val (.ref b1), .val (.int (1 : Int32)), .val (.ref w1), .val (.int (1 : Int32))] [(.int (1 : Int32))])) _
      refine XS.iload X45.here hx rfl (hb hby at_126) rfl ?_
      show Steps p.tables e below (T45.setTop (mkF m 128 #[.val (.int i0), .val (.ref b1), .val (.int (1 : Int32)), .val (.ref w1), .val (.int (1 : Int32))] [(.int (1 : Int32)), (.int (1 : Int32))])) _
      refine XS.icmpNo X45.here hx rfl (hb hby at_128) rfl (by decide) ?_
      show Steps p.tables e below (T45.setTop (mkF m 131 #[.val (.int i0), .val (.ref b1), .val (.int (1 : Int32)), .val (.ref w1), .val (.int (1 : Int32))] [])) _
      refine XS.iconst X45.here hx rfl (hb hby at_131) ?_
      show Steps p.tables e below (T45.setTop (mkF m 132 #[.val (.int i0), .val (.ref b1), .val (.int (1 : Int32)), .val (.ref w1), .val (.int (1 : Int32))] [(.int (1 : Int32))])) _
      refine XS.goto X45.here hx rfl (pc0 := 132) (pc' := 136) rfl (hb hby at_132) (by decide) (by decide) ?_
      show Steps p.tables e below (T45.setTop (mkF m 136 #[.val (.int i0), .val (.ref b1), .val (.int (1 : Int32)), .val (.ref w1), .val (.int (1 : Int32))] [(.int (1 : Int32))])) _
      exact retN X45 hx (t := .boolean) Bd.returns (by simp) (hb hby at_136) hr
    · show Ql n0 _ T45.heap _
      exact ⟨rfl, N45⟩
  · obtain ⟨cl46, Ar46, q46, S46, M46, H46, G46⟩ := V25
    have hin46 : ¬ ((2 : Int32) < 0 ∨ cl46.slots.size ≤ ((2 : Int32)).toNatClampNeg) := inb_of S46 ⟨by decide, by decide⟩
    have hat46 : cl46.slots[((2 : Int32)).toNatClampNeg]? = some (.ref w2) := Has.at H46 hin46 rfl
    obtain ⟨cq51, kq51, q51a, q51b, q51c⟩ := isOf hZ e25 (wE2.ext O_25.2)
    obtain ⟨_, _, ⟨T51, L51, k51, n51⟩, -, X51, ⟨Lc51, hQ51, l51, y51, z51⟩, st51⟩ := X25.virtualBack hx (y := (⟨"com/example/weaverbird/weaverbird/codes/RunState", "unended", "()Z"⟩ : MethodName)) (z := (⟨"com/example/weaverbird/weaverbird/codes/RunState", "unended", "()Z"⟩ : MethodName)) hown (mvT hZ (hw _ (List.mem_of_getElem? (i := 29) rfl))) (mvT hZ (hw _ (List.mem_of_getElem? (i := 30) rfl))) (notFace_of_selects (args := #[]) (mvT hZ (hw _ (List.mem_of_getElem? (i := 32) rfl)))) (mvT hZ (hw _ (List.mem_of_getElem? (i := 32) rfl))) (mvT hZ (hw _ (List.mem_of_getElem? (i := 31) rfl))) (by decide) (backOf (W := 0) (rm3 l Z a0 hw [] w0 w1 w2 w3 w4 w5 w6 w7 w8 w9 w10 w11 h25 n0 hWd O_25) hZ (hw _ (List.mem_of_getElem? (i := 33) rfl)) (hw _ (List.mem_of_getElem? (i := 3) rfl)) (by decide) (by decide)) q51a q51c (g := (mkF m 123 #[.val (.int i0), .val (.ref b1), .val (.int (2 : Int32)), .val (.ref w2), .val (.int (0 : Int32))] [(.ref w2)])) rfl (by rw [hml]; rfl) (Steps.refl _) (argsL := []) (rest := []) (lenOf pd0 rfl) rfl (by show 2 * 0 + _ ≤ _; exact Nat.le_of_eq rfl) (hb hby at_123) (fun _ _ => ⟨rfl, e25, (by decide : 1 + 0 ≤ _), (by decide : 12 + 0 ≤ _)⟩)
    dsimp only [Pt.U, Pt.locs, Pt.cells, Pt.slots] at X51 l51 y51 z51 st51 hQ51
    subst l51 y51 z51
    obtain ⟨rfl, N51q, e51⟩ := hQ51
    have N51 := Fr.app N25 N51q
    obtain ⟨fs, hr, hrun, hended, hWr, hsame⟩ := X51.leave (v := some (.int (1 : Int32))) (fun h => by rw [Bd.returns] at h; cases h)
    refine ⟨_, _, pre26 _ ?_, hrun, hended, _, _, rfl, ?_, ⟨_, rfl⟩, hWr, hsame.mono (Nat.le_of_ble_eq_true rfl) (Nat.le_of_ble_eq_true rfl)⟩
    · show Steps p.tables e below (T25.setTop (mkF m 90 #[.val (.int i0), .val (.ref b1), .unset, .unset, .unset] [(.int (12 : Int32)), (.int (i0 &&& (2147483647 : Int32)))])) _
      refine iremM X25 hx rfl (hb hby at_90) rfl (by decide) ?_
      show Steps p.tables e below (T25.setTop (mkF m 91 #[.val (.int i0), .val (.ref b1), .unset, .unset, .unset] [(.int ((i0 &&& (2147483647 : Int32)) % (12 : Int32)))])) _
      rw [hk29]
      show Steps p.tables e below (T25.setTop (mkF m 91 #[.val (.int i0), .val (.ref b1), .unset, .unset, .unset] [(.int (2 : Int32))])) _
      refine XS.istoreN X25.here hx rfl (hb hby at_91) rfl (l' := #[.val (.int i0), .val (.ref b1), .val (.int (2 : Int32)), .unset, .unset]) rfl ?_
      show Steps p.tables e below (T25.setTop (mkF m 92 #[.val (.int i0), .val (.ref b1), .val (.int (2 : Int32)), .unset, .unset] [])) _
      refine XS.aloadN X25.here hx rfl (hb hby at_92) rfl rfl ?_
      show Steps p.tables e below (T25.setTop (mkF m 93 #[.val (.int i0), .val (.ref b1), .val (.int (2 : Int32)), .unset, .unset] [(.ref b1)])) _
      refine XS.iloadN X25.here hx rfl (hb hby at_93) rfl ?_
      show Steps p.tables e below (T25.setTop (mkF m 94 #[.val (.int i0), .val (.ref b1), .val (.int (2 : Int32)), .unset, .unset] [(.int (2 : Int32)), (.ref b1)])) _
      refine X25.aaload hx (j := (2 : Int32)) (v := (.ref w2)) (by rw [e25]; exact Ar46.1) (State.isArrayOf_alike hZ.alike Ar46.2.1) rfl Ar46.2.2 hin46 hat46 (g := (mkF m 94 #[.val (.int i0), .val (.ref b1), .val (.int (2 : Int32)), .unset, .unset] [(.int (2 : Int32)), (.ref b1)])) rfl rfl (hb hby at_94) _ ?_
      show Steps p.tables e below (T25.setTop (mkF m 95 #[.val (.int i0), .val (.ref b1), .val (.int (2 : Int32)), .unset, .unset] [(.ref w2)])) _
      refine XS.astoreN X25.here hx rfl (hb hby at_95) rfl rfl (l' := #[.val (.int i0), .val (.ref b1), .val (.int (2 : Int32)), .val (.ref w2), .unset]) rfl ?_
      show Steps p.tables e below (T25.setTop (mkF m 96 #[.val (.int i0), .val (.ref b1), .val (.int (2 : Int32)), .val (.ref w2), .unset] [])) _
      refine XS.iloadN X25.here hx rfl (hb hby at_96) rfl ?_
      show Steps p.tables e below (T25.setTop (mkF m 97 #[.val (.int i0), .val (.ref b1), .val (.int (2 : Int32)), .val (.ref w2), .unset] [(.int (2 : Int32))])) _
      refine XS.ifNo X25.here hx rfl (hb hby at_97) rfl (by decide) ?_
      show Steps p.tables e below (T25.setTop (mkF m 100 #[.val (.int i0), .val (.ref b1), .val (.int (2 : Int32)), .val (.ref w2), .unset] [])) _
      refine XS.iloadN X25.here hx rfl (hb hby at_100) rfl ?_
      show Steps p.tables e below (T25.setTop (mkF m 101 #[.val (.int i0), .val (.ref b1), .val (.int (2 : Int32)), .val (.ref w2), .unset] [(.int (2 : Int32))])) _
      refine XS.iconst X25.here hx rfl (hb hby at_101) ?_
      show Steps p.tables e below (T25.setTop (mkF m 102 #[.val (.int i0), .val (.ref b1), .val (.int (2 : Int32)), .val (.ref w2), .unset] [(.int (1 : Int32)), (.int (2 : Int32))])) _
      refine XS.icmpNo X25.here hx rfl (hb hby at_102) rfl (by decide) ?_
      show Steps p.tables e below (T25.setTop (mkF m 105 #[.val (.int i0), .val (.ref b1), .val (.int (2 : Int32)), .val (.ref w2), .unset] [])) _
      refine XS.iloadN X25.here hx rfl (hb hby at_105) rfl ?_
      show Steps p.tables e below (T25.setTop (mkF m 106 #[.val (.int i0), .val (.ref b1), .val (.int (2 : Int32)), .val (.ref w2), .unset] [(.int (2 : Int32))])) _
      refine XS.iconst X25.here hx rfl (hb hby at_106) ?_
      show Steps p.tables e below (T25.setTop (mkF m 107 #[.val (.int i0), .val (.ref b1), .val (.int (2 : Int32)), .val (.ref w2), .unset] [(.int (3 : Int32)), (.int (2 : Int32))])) _
      refine XS.icmpNo X25.here hx rfl (hb hby at_107) rfl (by decide) ?_
      show Steps p.tables e below (T25.setTop (mkF m 110 #[.val (.int i0), .val (.ref b1), .val (.int (2 : Int32)), .val (.ref w2), .unset] [])) _
      refine XS.iloadN X25.here hx rfl (hb hby at_110) rfl ?_
      show Steps p.tables e below (T25.setTop (mkF m 111 #[.val (.int i0), .val (.ref b1), .val (.int (2 : Int32)), .val (.ref w2), .unset] [(.int (2 : Int32))])) _
      refine XS.iconst X25.here hx rfl (hb hby at_111) ?_
      show Steps p.tables e below (T25.setTop (mkF m 112 #[.val (.int i0), .val (.ref b1), .val (.int (2 : Int32)), .val (.ref w2), .unset] [(.int (4 : Int32)), (.int (2 : Int32))])) _
      refine XS.icmpYes X25.here hx rfl (pc0 := 112) (pc' := 119) rfl (hb hby at_112) rfl (by decide) (by decide) (by decide) ?_
      show Steps p.tables e below (T25.setTop (mkF m 119 #[.val (.int i0), .val (.ref b1), .val (.int (2 : Int32)), .val (.ref w2), .unset] [])) _
      refine XS.iconst X25.here hx rfl (hb hby at_119) ?_
      show Steps p.tables e below (T25.setTop (mkF m 120 #[.val (.int i0), .val (.ref b1), .val (.int (2 : Int32)), .val (.ref w2), .unset] [(.int (0 : Int32))])) _
      refine XS.istore X25.here hx rfl (hb hby at_120) rfl (l' := #[.val (.int i0), .val (.ref b1), .val (.int (2 : Int32)), .val (.ref w2), .val (.int (0 : Int32))]) rfl ?_
      show Steps p.tables e below (T25.setTop (mkF m 122 #[.val (.int i0), .val (.ref b1), .val (.int (2 : Int32)), .val (.ref w2), .val (.int (0 : Int32))] [])) _
      refine XS.aloadN X25.here hx rfl (hb hby at_122) rfl rfl ?_
      show Steps p.tables e below (T25.setTop (mkF m 123 #[.val (.int i0), .val (.ref b1), .val (.int (2 : Int32)), .val (.ref w2), .val (.int (0 : Int32))] [(.ref w2)])) _
      refine st51.trans ?_
      show Steps p.tables e below (T51.setTop (mkF m 126 #[.val (.int i0), .val (.ref b1), .val (.int (2 : Int32)), .val (.ref w2), .val (.int (0 : Int32))] [(.int (0 : Int32))])) _
      refine XS.iload X51.here hx rfl (hb hby at_126) rfl ?_
      show Steps p.tables e below (T51.setTop (mkF m 128 #[.val (.int i0), .val (.ref b1), .val (.int (2 : Int32)), .val (.ref w2), .val (.int (0 : Int32))] [(.int (0 : Int32)), (.int (0 : Int32))])) _
      refine XS.icmpNo X51.here hx rfl (hb hby at_128) rfl (by decide) ?_
      show Steps p.tables e below (T51.setTop (mkF m 131 #[.val (.int i0), .val (.ref b1), .val (.int (2 : Int32)), .val (.ref w2), .val (.int (0 : Int32))] [])) _
      refine XS.iconst X51.here hx rfl (hb hby at_131) ?_
      show Steps p.tables e below (T51.setTop (mkF m 132 #[.val (.int i0), .val (.ref b1), .val (.int (2 : Int32)), .val (.ref w2), .val (.int (0 : Int32))] [(.int (1 : Int32))])) _
      refine XS.goto X51.here hx rfl (pc0 := 132) (pc' := 136) rfl (hb hby at_132) (by decide) (by decide) ?_
      show Steps p.tables e below (T51.setTop (mkF m 136 #[.val (.int i0), .val (.ref b1), .val (.int (2 : Int32)), .val (.ref w2), .val (.int (0 : Int32))] [(.int (1 : Int32))])) _
      exact retN X51 hx (t := .boolean) Bd.returns (by simp) (hb hby at_136) hr
    · show Ql n0 _ T51.heap _
      exact ⟨rfl, N51⟩
  · obtain ⟨cl52, Ar52, q52, S52, M52, H52, G52⟩ := V25
    have hin52 : ¬ ((3 : Int32) < 0 ∨ cl52.slots.size ≤ ((3 : Int32)).toNatClampNeg) := inb_of S52 ⟨by decide, by decide⟩
    have hat52 : cl52.slots[((3 : Int32)).toNatClampNeg]? = some (.ref w3) := Has.at H52 hin52 rfl
    obtain ⟨cq57, kq57, q57a, q57b, q57c⟩ := isOf hZ e25 (wE3.ext O_25.2)
    obtain ⟨_, _, ⟨T57, L57, k57, n57⟩, -, X57, ⟨Lc57, hQ57, l57, y57, z57⟩, st57⟩ := X25.virtualBack hx (y := (⟨"com/example/weaverbird/weaverbird/codes/RunState", "unended", "()Z"⟩ : MethodName)) (z := (⟨"com/example/weaverbird/weaverbird/codes/RunState", "unended", "()Z"⟩ : MethodName)) hown (mvT hZ (hw _ (List.mem_of_getElem? (i := 29) rfl))) (mvT hZ (hw _ (List.mem_of_getElem? (i := 30) rfl))) (notFace_of_selects (args := #[]) (mvT hZ (hw _ (List.mem_of_getElem? (i := 32) rfl)))) (mvT hZ (hw _ (List.mem_of_getElem? (i := 32) rfl))) (mvT hZ (hw _ (List.mem_of_getElem? (i := 31) rfl))) (by decide) (backOf (W := 0) (rm4 l Z a0 hw [] w0 w1 w2 w3 w4 w5 w6 w7 w8 w9 w10 w11 h25 n0 hWd O_25) hZ (hw _ (List.mem_of_getElem? (i := 33) rfl)) (hw _ (List.mem_of_getElem? (i := 3) rfl)) (by decide) (by decide)) q57a q57c (g := (mkF m 123 #[.val (.int i0), .val (.ref b1), .val (.int (3 : Int32)), .val (.ref w3), .val (.int (1 : Int32))] [(.ref w3)])) rfl (by rw [hml]; rfl) (Steps.refl _) (argsL := []) (rest := []) (lenOf pd0 rfl) rfl (by show 2 * 0 + _ ≤ _; exact Nat.le_of_eq rfl) (hb hby at_123) (fun _ _ => ⟨rfl, e25, (by decide : 1 + 0 ≤ _), (by decide : 12 + 0 ≤ _)⟩)
    dsimp only [Pt.U, Pt.locs, Pt.cells, Pt.slots] at X57 l57 y57 z57 st57 hQ57
    subst l57 y57 z57
    obtain ⟨rfl, N57q, e57⟩ := hQ57
    have N57 := Fr.app N25 N57q
    obtain ⟨fs, hr, hrun, hended, hWr, hsame⟩ := X57.leave (v := some (.int (1 : Int32))) (fun h => by rw [Bd.returns] at h; cases h)
    refine ⟨_, _, pre26 _ ?_, hrun, hended, _, _, rfl, ?_, ⟨_, rfl⟩, hWr, hsame.mono (Nat.le_of_ble_eq_true rfl) (Nat.le_of_ble_eq_true rfl)⟩
    · show Steps p.tables e below (T25.setTop (mkF m 90 #[.val (.int i0), .val (.ref b1), .unset, .unset, .unset] [(.int (12 : Int32)), (.int (i0 &&& (2147483647 : Int32)))])) _
      refine iremM X25 hx rfl (hb hby at_90) rfl (by decide) ?_
      show Steps p.tables e below (T25.setTop (mkF m 91 #[.val (.int i0), .val (.ref b1), .unset, .unset, .unset] [(.int ((i0 &&& (2147483647 : Int32)) % (12 : Int32)))])) _
      rw [hk30]
      show Steps p.tables e below (T25.setTop (mkF m 91 #[.val (.int i0), .val (.ref b1), .unset, .unset, .unset] [(.int (3 : Int32))])) _
      refine XS.istoreN X25.here hx rfl (hb hby at_91) rfl (l' := #[.val (.int i0), .val (.ref b1), .val (.int (3 : Int32)), .unset, .unset]) rfl ?_
      show Steps p.tables e below (T25.setTop (mkF m 92 #[.val (.int i0), .val (.ref b1), .val (.int (3 : Int32)), .unset, .unset] [])) _
      refine XS.aloadN X25.here hx rfl (hb hby at_92) rfl rfl ?_
      show Steps p.tables e below (T25.setTop (mkF m 93 #[.val (.int i0), .val (.ref b1), .val (.int (3 : Int32)), .unset, .unset] [(.ref b1)])) _
      refine XS.iloadN X25.here hx rfl (hb hby at_93) rfl ?_
      show Steps p.tables e below (T25.setTop (mkF m 94 #[.val (.int i0), .val (.ref b1), .val (.int (3 : Int32)), .unset, .unset] [(.int (3 : Int32)), (.ref b1)])) _
      refine X25.aaload hx (j := (3 : Int32)) (v := (.ref w3)) (by rw [e25]; exact Ar52.1) (State.isArrayOf_alike hZ.alike Ar52.2.1) rfl Ar52.2.2 hin52 hat52 (g := (mkF m 94 #[.val (.int i0), .val (.ref b1), .val (.int (3 : Int32)), .unset, .unset] [(.int (3 : Int32)), (.ref b1)])) rfl rfl (hb hby at_94) _ ?_
      show Steps p.tables e below (T25.setTop (mkF m 95 #[.val (.int i0), .val (.ref b1), .val (.int (3 : Int32)), .unset, .unset] [(.ref w3)])) _
      refine XS.astoreN X25.here hx rfl (hb hby at_95) rfl rfl (l' := #[.val (.int i0), .val (.ref b1), .val (.int (3 : Int32)), .val (.ref w3), .unset]) rfl ?_
      show Steps p.tables e below (T25.setTop (mkF m 96 #[.val (.int i0), .val (.ref b1), .val (.int (3 : Int32)), .val (.ref w3), .unset] [])) _
      refine XS.iloadN X25.here hx rfl (hb hby at_96) rfl ?_
      show Steps p.tables e below (T25.setTop (mkF m 97 #[.val (.int i0), .val (.ref b1), .val (.int (3 : Int32)), .val (.ref w3), .unset] [(.int (3 : Int32))])) _
      refine XS.ifNo X25.here hx rfl (hb hby at_97) rfl (by decide) ?_
      show Steps p.tables e below (T25.setTop (mkF m 100 #[.val (.int i0), .val (.ref b1), .val (.int (3 : Int32)), .val (.ref w3), .unset] [])) _
      refine XS.iloadN X25.here hx rfl (hb hby at_100) rfl ?_
      show Steps p.tables e below (T25.setTop (mkF m 101 #[.val (.int i0), .val (.ref b1), .val (.int (3 : Int32)), .val (.ref w3), .unset] [(.int (3 : Int32))])) _
      refine XS.iconst X25.here hx rfl (hb hby at_101) ?_
      show Steps p.tables e below (T25.setTop (mkF m 102 #[.val (.int i0), .val (.ref b1), .val (.int (3 : Int32)), .val (.ref w3), .unset] [(.int (1 : Int32)), (.int (3 : Int32))])) _
      refine XS.icmpNo X25.here hx rfl (hb hby at_102) rfl (by decide) ?_
      show Steps p.tables e below (T25.setTop (mkF m 105 #[.val (.int i0), .val (.ref b1), .val (.int (3 : Int32)), .val (.ref w3), .unset] [])) _
      refine XS.iloadN X25.here hx rfl (hb hby at_105) rfl ?_
      show Steps p.tables e below (T25.setTop (mkF m 106 #[.val (.int i0), .val (.ref b1), .val (.int (3 : Int32)), .val (.ref w3), .unset] [(.int (3 : Int32))])) _
      refine XS.iconst X25.here hx rfl (hb hby at_106) ?_
      show Steps p.tables e below (T25.setTop (mkF m 107 #[.val (.int i0), .val (.ref b1), .val (.int (3 : Int32)), .val (.ref w3), .unset] [(.int (3 : Int32)), (.int (3 : Int32))])) _
      refine XS.icmpYes X25.here hx rfl (pc0 := 107) (pc' := 115) rfl (hb hby at_107) rfl (by decide) (by decide) (by decide) ?_
      show Steps p.tables e below (T25.setTop (mkF m 115 #[.val (.int i0), .val (.ref b1), .val (.int (3 : Int32)), .val (.ref w3), .unset] [])) _
      refine XS.iconst X25.here hx rfl (hb hby at_115) ?_
      show Steps p.tables e below (T25.setTop (mkF m 116 #[.val (.int i0), .val (.ref b1), .val (.int (3 : Int32)), .val (.ref w3), .unset] [(.int (1 : Int32))])) _
      refine XS.goto X25.here hx rfl (pc0 := 116) (pc' := 120) rfl (hb hby at_116) (by decide) (by decide) ?_
      show Steps p.tables e below (T25.setTop (mkF m 120 #[.val (.int i0), .val (.ref b1), .val (.int (3 : Int32)), .val (.ref w3), .unset] [(.int (1 : Int32))])) _
      refine XS.istore X25.here hx rfl (hb hby at_120) rfl (l' := #[.val (.int i0), .val (.ref b1), .val (.int (3 : Int32)), .val (.ref w3), .val (.int (1 : Int32))]) rfl ?_
      show Steps p.tables e below (T25.setTop (mkF m 122 #[.val (.int i0), .val (.ref b1), .val (.int (3 : Int32)), .val (.ref w3), .val (.int (1 : Int32))] [])) _
      refine XS.aloadN X25.here hx rfl (hb hby at_122) rfl rfl ?_
      show Steps p.tables e below (T25.setTop (mkF m 123 #[.val (.int i0), .val (.ref b1), .val (.int (3 : Int32)), .val (.ref w3), .val (.int (1 : Int32))] [(.ref w3)])) _
      refine st57.trans ?_
      show Steps p.tables e below (T57.setTop (mkF m 126 #[.val (.int i0), .val (.ref b1), .val (.int (3 : Int32)), .val (.ref w3), .val (.int (1 : Int32))] [(.int (1 : Int32))])) _
      refine XS.iload X57.here hx rfl (hb hby at_126) rfl ?_
      show Steps p.tables e below (T57.setTop (mkF m 128 #[.val (.int i0), .val (.ref b1), .val (.int (3 : Int32)), .val (.ref w3), .val (.int (1 : Int32))] [(.int (1 : Int32)), (.int (1 : Int32))])) _
      refine XS.icmpNo X57.here hx rfl (hb hby at_128) rfl (by decide) ?_
      show Steps p.tables e below (T57.setTop (mkF m 131 #[.val (.int i0), .val (.ref b1), .val (.int (3 : Int32)), .val (.ref w3), .val (.int (1 : Int32))] [])) _
      refine XS.iconst X57.here hx rfl (hb hby at_131) ?_
      show Steps p.tables e below (T57.setTop (mkF m 132 #[.val (.int i0), .val (.ref b1), .val (.int (3 : Int32)), .val (.ref w3), .val (.int (1 : Int32))] [(.int (1 : Int32))])) _
      refine XS.goto X57.here hx rfl (pc0 := 132) (pc' := 136) rfl (hb hby at_132) (by decide) (by decide) ?_
      show Steps p.tables e below (T57.setTop (mkF m 136 #[.val (.int i0), .val (.ref b1), .val (.int (3 : Int32)), .val (.ref w3), .val (.int (1 : Int32))] [(.int (1 : Int32))])) _
      exact retN X57 hx (t := .boolean) Bd.returns (by simp) (hb hby at_136) hr
    · show Ql n0 _ T57.heap _
      exact ⟨rfl, N57⟩
  · obtain ⟨cl58, Ar58, q58, S58, M58, H58, G58⟩ := V25
    have hin58 : ¬ ((4 : Int32) < 0 ∨ cl58.slots.size ≤ ((4 : Int32)).toNatClampNeg) := inb_of S58 ⟨by decide, by decide⟩
    have hat58 : cl58.slots[((4 : Int32)).toNatClampNeg]? = some (.ref w4) := Has.at H58 hin58 rfl
    obtain ⟨cq62, kq62, q62a, q62b, q62c⟩ := isOf hZ e25 (wE4.ext O_25.2)
    obtain ⟨_, _, ⟨T62, L62, k62, n62⟩, -, X62, ⟨Lc62, hQ62, l62, y62, z62⟩, st62⟩ := X25.virtualBack hx (y := (⟨"com/example/weaverbird/weaverbird/codes/RunState", "unended", "()Z"⟩ : MethodName)) (z := (⟨"com/example/weaverbird/weaverbird/codes/RunState", "unended", "()Z"⟩ : MethodName)) hown (mvT hZ (hw _ (List.mem_of_getElem? (i := 29) rfl))) (mvT hZ (hw _ (List.mem_of_getElem? (i := 30) rfl))) (notFace_of_selects (args := #[]) (mvT hZ (hw _ (List.mem_of_getElem? (i := 32) rfl)))) (mvT hZ (hw _ (List.mem_of_getElem? (i := 32) rfl))) (mvT hZ (hw _ (List.mem_of_getElem? (i := 31) rfl))) (by decide) (backOf (W := 0) (rm5 l Z a0 hw [] w0 w1 w2 w3 w4 w5 w6 w7 w8 w9 w10 w11 h25 n0 hWd O_25) hZ (hw _ (List.mem_of_getElem? (i := 33) rfl)) (hw _ (List.mem_of_getElem? (i := 3) rfl)) (by decide) (by decide)) q62a q62c (g := (mkF m 123 #[.val (.int i0), .val (.ref b1), .val (.int (4 : Int32)), .val (.ref w4), .val (.int (1 : Int32))] [(.ref w4)])) rfl (by rw [hml]; rfl) (Steps.refl _) (argsL := []) (rest := []) (lenOf pd0 rfl) rfl (by show 2 * 0 + _ ≤ _; exact Nat.le_of_eq rfl) (hb hby at_123) (fun _ _ => ⟨rfl, e25, (by decide : 1 + 0 ≤ _), (by decide : 12 + 0 ≤ _)⟩)
    dsimp only [Pt.U, Pt.locs, Pt.cells, Pt.slots] at X62 l62 y62 z62 st62 hQ62
    subst l62 y62 z62
    obtain ⟨rfl, N62q, e62⟩ := hQ62
    have N62 := Fr.app N25 N62q
    obtain ⟨fs, hr, hrun, hended, hWr, hsame⟩ := X62.leave (v := some (.int (1 : Int32))) (fun h => by rw [Bd.returns] at h; cases h)
    refine ⟨_, _, pre26 _ ?_, hrun, hended, _, _, rfl, ?_, ⟨_, rfl⟩, hWr, hsame.mono (Nat.le_of_ble_eq_true rfl) (Nat.le_of_ble_eq_true rfl)⟩
    · show Steps p.tables e below (T25.setTop (mkF m 90 #[.val (.int i0), .val (.ref b1), .unset, .unset, .unset] [(.int (12 : Int32)), (.int (i0 &&& (2147483647 : Int32)))])) _
      refine iremM X25 hx rfl (hb hby at_90) rfl (by decide) ?_
      show Steps p.tables e below (T25.setTop (mkF m 91 #[.val (.int i0), .val (.ref b1), .unset, .unset, .unset] [(.int ((i0 &&& (2147483647 : Int32)) % (12 : Int32)))])) _
      rw [hk31]
      show Steps p.tables e below (T25.setTop (mkF m 91 #[.val (.int i0), .val (.ref b1), .unset, .unset, .unset] [(.int (4 : Int32))])) _
      refine XS.istoreN X25.here hx rfl (hb hby at_91) rfl (l' := #[.val (.int i0), .val (.ref b1), .val (.int (4 : Int32)), .unset, .unset]) rfl ?_
      show Steps p.tables e below (T25.setTop (mkF m 92 #[.val (.int i0), .val (.ref b1), .val (.int (4 : Int32)), .unset, .unset] [])) _
      refine XS.aloadN X25.here hx rfl (hb hby at_92) rfl rfl ?_
      show Steps p.tables e below (T25.setTop (mkF m 93 #[.val (.int i0), .val (.ref b1), .val (.int (4 : Int32)), .unset, .unset] [(.ref b1)])) _
      refine XS.iloadN X25.here hx rfl (hb hby at_93) rfl ?_
      show Steps p.tables e below (T25.setTop (mkF m 94 #[.val (.int i0), .val (.ref b1), .val (.int (4 : Int32)), .unset, .unset] [(.int (4 : Int32)), (.ref b1)])) _
      refine X25.aaload hx (j := (4 : Int32)) (v := (.ref w4)) (by rw [e25]; exact Ar58.1) (State.isArrayOf_alike hZ.alike Ar58.2.1) rfl Ar58.2.2 hin58 hat58 (g := (mkF m 94 #[.val (.int i0), .val (.ref b1), .val (.int (4 : Int32)), .unset, .unset] [(.int (4 : Int32)), (.ref b1)])) rfl rfl (hb hby at_94) _ ?_
      show Steps p.tables e below (T25.setTop (mkF m 95 #[.val (.int i0), .val (.ref b1), .val (.int (4 : Int32)), .unset, .unset] [(.ref w4)])) _
      refine XS.astoreN X25.here hx rfl (hb hby at_95) rfl rfl (l' := #[.val (.int i0), .val (.ref b1), .val (.int (4 : Int32)), .val (.ref w4), .unset]) rfl ?_
      show Steps p.tables e below (T25.setTop (mkF m 96 #[.val (.int i0), .val (.ref b1), .val (.int (4 : Int32)), .val (.ref w4), .unset] [])) _
      refine XS.iloadN X25.here hx rfl (hb hby at_96) rfl ?_
      show Steps p.tables e below (T25.setTop (mkF m 97 #[.val (.int i0), .val (.ref b1), .val (.int (4 : Int32)), .val (.ref w4), .unset] [(.int (4 : Int32))])) _
      refine XS.ifNo X25.here hx rfl (hb hby at_97) rfl (by decide) ?_
      show Steps p.tables e below (T25.setTop (mkF m 100 #[.val (.int i0), .val (.ref b1), .val (.int (4 : Int32)), .val (.ref w4), .unset] [])) _
      refine XS.iloadN X25.here hx rfl (hb hby at_100) rfl ?_
      show Steps p.tables e below (T25.setTop (mkF m 101 #[.val (.int i0), .val (.ref b1), .val (.int (4 : Int32)), .val (.ref w4), .unset] [(.int (4 : Int32))])) _
      refine XS.iconst X25.here hx rfl (hb hby at_101) ?_
      show Steps p.tables e below (T25.setTop (mkF m 102 #[.val (.int i0), .val (.ref b1), .val (.int (4 : Int32)), .val (.ref w4), .unset] [(.int (1 : Int32)), (.int (4 : Int32))])) _
      refine XS.icmpNo X25.here hx rfl (hb hby at_102) rfl (by decide) ?_
      show Steps p.tables e below (T25.setTop (mkF m 105 #[.val (.int i0), .val (.ref b1), .val (.int (4 : Int32)), .val (.ref w4), .unset] [])) _
      refine XS.iloadN X25.here hx rfl (hb hby at_105) rfl ?_
      show Steps p.tables e below (T25.setTop (mkF m 106 #[.val (.int i0), .val (.ref b1), .val (.int (4 : Int32)), .val (.ref w4), .unset] [(.int (4 : Int32))])) _
      refine XS.iconst X25.here hx rfl (hb hby at_106) ?_
      show Steps p.tables e below (T25.setTop (mkF m 107 #[.val (.int i0), .val (.ref b1), .val (.int (4 : Int32)), .val (.ref w4), .unset] [(.int (3 : Int32)), (.int (4 : Int32))])) _
      refine XS.icmpNo X25.here hx rfl (hb hby at_107) rfl (by decide) ?_
      show Steps p.tables e below (T25.setTop (mkF m 110 #[.val (.int i0), .val (.ref b1), .val (.int (4 : Int32)), .val (.ref w4), .unset] [])) _
      refine XS.iloadN X25.here hx rfl (hb hby at_110) rfl ?_
      show Steps p.tables e below (T25.setTop (mkF m 111 #[.val (.int i0), .val (.ref b1), .val (.int (4 : Int32)), .val (.ref w4), .unset] [(.int (4 : Int32))])) _
      refine XS.iconst X25.here hx rfl (hb hby at_111) ?_
      show Steps p.tables e below (T25.setTop (mkF m 112 #[.val (.int i0), .val (.ref b1), .val (.int (4 : Int32)), .val (.ref w4), .unset] [(.int (4 : Int32)), (.int (4 : Int32))])) _
      refine XS.icmpNo X25.here hx rfl (hb hby at_112) rfl (by decide) ?_
      show Steps p.tables e below (T25.setTop (mkF m 115 #[.val (.int i0), .val (.ref b1), .val (.int (4 : Int32)), .val (.ref w4), .unset] [])) _
      refine XS.iconst X25.here hx rfl (hb hby at_115) ?_
      show Steps p.tables e below (T25.setTop (mkF m 116 #[.val (.int i0), .val (.ref b1), .val (.int (4 : Int32)), .val (.ref w4), .unset] [(.int (1 : Int32))])) _
      refine XS.goto X25.here hx rfl (pc0 := 116) (pc' := 120) rfl (hb hby at_116) (by decide) (by decide) ?_
      show Steps p.tables e below (T25.setTop (mkF m 120 #[.val (.int i0), .val (.ref b1), .val (.int (4 : Int32)), .val (.ref w4), .unset] [(.int (1 : Int32))])) _
      refine XS.istore X25.here hx rfl (hb hby at_120) rfl (l' := #[.val (.int i0), .val (.ref b1), .val (.int (4 : Int32)), .val (.ref w4), .val (.int (1 : Int32))]) rfl ?_
      show Steps p.tables e below (T25.setTop (mkF m 122 #[.val (.int i0), .val (.ref b1), .val (.int (4 : Int32)), .val (.ref w4), .val (.int (1 : Int32))] [])) _
      refine XS.aloadN X25.here hx rfl (hb hby at_122) rfl rfl ?_
      show Steps p.tables e below (T25.setTop (mkF m 123 #[.val (.int i0), .val (.ref b1), .val (.int (4 : Int32)), .val (.ref w4), .val (.int (1 : Int32))] [(.ref w4)])) _
      refine st62.trans ?_
      show Steps p.tables e below (T62.setTop (mkF m 126 #[.val (.int i0), .val (.ref b1), .val (.int (4 : Int32)), .val (.ref w4), .val (.int (1 : Int32))] [(.int (1 : Int32))])) _
      refine XS.iload X62.here hx rfl (hb hby at_126) rfl ?_
      show Steps p.tables e below (T62.setTop (mkF m 128 #[.val (.int i0), .val (.ref b1), .val (.int (4 : Int32)), .val (.ref w4), .val (.int (1 : Int32))] [(.int (1 : Int32)), (.int (1 : Int32))])) _
      refine XS.icmpNo X62.here hx rfl (hb hby at_128) rfl (by decide) ?_
      show Steps p.tables e below (T62.setTop (mkF m 131 #[.val (.int i0), .val (.ref b1), .val (.int (4 : Int32)), .val (.ref w4), .val (.int (1 : Int32))] [])) _
      refine XS.iconst X62.here hx rfl (hb hby at_131) ?_
      show Steps p.tables e below (T62.setTop (mkF m 132 #[.val (.int i0), .val (.ref b1), .val (.int (4 : Int32)), .val (.ref w4), .val (.int (1 : Int32))] [(.int (1 : Int32))])) _
      refine XS.goto X62.here hx rfl (pc0 := 132) (pc' := 136) rfl (hb hby at_132) (by decide) (by decide) ?_
      show Steps p.tables e below (T62.setTop (mkF m 136 #[.val (.int i0), .val (.ref b1), .val (.int (4 : Int32)), .val (.ref w4), .val (.int (1 : Int32))] [(.int (1 : Int32))])) _
      exact retN X62 hx (t := .boolean) Bd.returns (by simp) (hb hby at_136) hr
    · show Ql n0 _ T62.heap _
      exact ⟨rfl, N62⟩
  · obtain ⟨cl63, Ar63, q63, S63, M63, H63, G63⟩ := V25
    have hin63 : ¬ ((5 : Int32) < 0 ∨ cl63.slots.size ≤ ((5 : Int32)).toNatClampNeg) := inb_of S63 ⟨by decide, by decide⟩
    have hat63 : cl63.slots[((5 : Int32)).toNatClampNeg]? = some (.ref w5) := Has.at H63 hin63 rfl
    obtain ⟨cq68, kq68, q68a, q68b, q68c⟩ := isOf hZ e25 (wE5.ext O_25.2)
    obtain ⟨_, _, ⟨T68, L68, k68, n68⟩, -, X68, ⟨Lc68, hQ68, l68, y68, z68⟩, st68⟩ := X25.virtualBack hx (y := (⟨"com/example/weaverbird/weaverbird/codes/RunState", "unended", "()Z"⟩ : MethodName)) (z := (⟨"com/example/weaverbird/weaverbird/codes/RunState", "unended", "()Z"⟩ : MethodName)) hown (mvT hZ (hw _ (List.mem_of_getElem? (i := 29) rfl))) (mvT hZ (hw _ (List.mem_of_getElem? (i := 30) rfl))) (notFace_of_selects (args := #[]) (mvT hZ (hw _ (List.mem_of_getElem? (i := 32) rfl)))) (mvT hZ (hw _ (List.mem_of_getElem? (i := 32) rfl))) (mvT hZ (hw _ (List.mem_of_getElem? (i := 31) rfl))) (by decide) (backOf (W := 0) (rm6 l Z a0 hw [] w0 w1 w2 w3 w4 w5 w6 w7 w8 w9 w10 w11 h25 n0 hWd O_25) hZ (hw _ (List.mem_of_getElem? (i := 33) rfl)) (hw _ (List.mem_of_getElem? (i := 3) rfl)) (by decide) (by decide)) q68a q68c (g := (mkF m 123 #[.val (.int i0), .val (.ref b1), .val (.int (5 : Int32)), .val (.ref w5), .val (.int (0 : Int32))] [(.ref w5)])) rfl (by rw [hml]; rfl) (Steps.refl _) (argsL := []) (rest := []) (lenOf pd0 rfl) rfl (by show 2 * 0 + _ ≤ _; exact Nat.le_of_eq rfl) (hb hby at_123) (fun _ _ => ⟨rfl, e25, (by decide : 1 + 0 ≤ _), (by decide : 12 + 0 ≤ _)⟩)
    dsimp only [Pt.U, Pt.locs, Pt.cells, Pt.slots] at X68 l68 y68 z68 st68 hQ68
    subst l68 y68 z68
    obtain ⟨rfl, N68q, e68⟩ := hQ68
    have N68 := Fr.app N25 N68q
    obtain ⟨fs, hr, hrun, hended, hWr, hsame⟩ := X68.leave (v := some (.int (1 : Int32))) (fun h => by rw [Bd.returns] at h; cases h)
    refine ⟨_, _, pre26 _ ?_, hrun, hended, _, _, rfl, ?_, ⟨_, rfl⟩, hWr, hsame.mono (Nat.le_of_ble_eq_true rfl) (Nat.le_of_ble_eq_true rfl)⟩
    · show Steps p.tables e below (T25.setTop (mkF m 90 #[.val (.int i0), .val (.ref b1), .unset, .unset, .unset] [(.int (12 : Int32)), (.int (i0 &&& (2147483647 : Int32)))])) _
      refine iremM X25 hx rfl (hb hby at_90) rfl (by decide) ?_
      show Steps p.tables e below (T25.setTop (mkF m 91 #[.val (.int i0), .val (.ref b1), .unset, .unset, .unset] [(.int ((i0 &&& (2147483647 : Int32)) % (12 : Int32)))])) _
      rw [hk32]
      show Steps p.tables e below (T25.setTop (mkF m 91 #[.val (.int i0), .val (.ref b1), .unset, .unset, .unset] [(.int (5 : Int32))])) _
      refine XS.istoreN X25.here hx rfl (hb hby at_91) rfl (l' := #[.val (.int i0), .val (.ref b1), .val (.int (5 : Int32)), .unset, .unset]) rfl ?_
      show Steps p.tables e below (T25.setTop (mkF m 92 #[.val (.int i0), .val (.ref b1), .val (.int (5 : Int32)), .unset, .unset] [])) _
      refine XS.aloadN X25.here hx rfl (hb hby at_92) rfl rfl ?_
      show Steps p.tables e below (T25.setTop (mkF m 93 #[.val (.int i0), .val (.ref b1), .val (.int (5 : Int32)), .unset, .unset] [(.ref b1)])) _
      refine XS.iloadN X25.here hx rfl (hb hby at_93) rfl ?_
      show Steps p.tables e below (T25.setTop (mkF m 94 #[.val (.int i0), .val (.ref b1), .val (.int (5 : Int32)), .unset, .unset] [(.int (5 : Int32)), (.ref b1)])) _
      refine X25.aaload hx (j := (5 : Int32)) (v := (.ref w5)) (by rw [e25]; exact Ar63.1) (State.isArrayOf_alike hZ.alike Ar63.2.1) rfl Ar63.2.2 hin63 hat63 (g := (mkF m 94 #[.val (.int i0), .val (.ref b1), .val (.int (5 : Int32)), .unset, .unset] [(.int (5 : Int32)), (.ref b1)])) rfl rfl (hb hby at_94) _ ?_
      show Steps p.tables e below (T25.setTop (mkF m 95 #[.val (.int i0), .val (.ref b1), .val (.int (5 : Int32)), .unset, .unset] [(.ref w5)])) _
      refine XS.astoreN X25.here hx rfl (hb hby at_95) rfl rfl (l' := #[.val (.int i0), .val (.ref b1), .val (.int (5 : Int32)), .val (.ref w5), .unset]) rfl ?_
      show Steps p.tables e below (T25.setTop (mkF m 96 #[.val (.int i0), .val (.ref b1), .val (.int (5 : Int32)), .val (.ref w5), .unset] [])) _
      refine XS.iloadN X25.here hx rfl (hb hby at_96) rfl ?_
      show Steps p.tables e below (T25.setTop (mkF m 97 #[.val (.int i0), .val (.ref b1), .val (.int (5 : Int32)), .val (.ref w5), .unset] [(.int (5 : Int32))])) _
      refine XS.ifNo X25.here hx rfl (hb hby at_97) rfl (by decide) ?_
      show Steps p.tables e below (T25.setTop (mkF m 100 #[.val (.int i0), .val (.ref b1), .val (.int (5 : Int32)), .val (.ref w5), .unset] [])) _
      refine XS.iloadN X25.here hx rfl (hb hby at_100) rfl ?_
      show Steps p.tables e below (T25.setTop (mkF m 101 #[.val (.int i0), .val (.ref b1), .val (.int (5 : Int32)), .val (.ref w5), .unset] [(.int (5 : Int32))])) _
      refine XS.iconst X25.here hx rfl (hb hby at_101) ?_
      show Steps p.tables e below (T25.setTop (mkF m 102 #[.val (.int i0), .val (.ref b1), .val (.int (5 : Int32)), .val (.ref w5), .unset] [(.int (1 : Int32)), (.int (5 : Int32))])) _
      refine XS.icmpNo X25.here hx rfl (hb hby at_102) rfl (by decide) ?_
      show Steps p.tables e below (T25.setTop (mkF m 105 #[.val (.int i0), .val (.ref b1), .val (.int (5 : Int32)), .val (.ref w5), .unset] [])) _
      refine XS.iloadN X25.here hx rfl (hb hby at_105) rfl ?_
      show Steps p.tables e below (T25.setTop (mkF m 106 #[.val (.int i0), .val (.ref b1), .val (.int (5 : Int32)), .val (.ref w5), .unset] [(.int (5 : Int32))])) _
      refine XS.iconst X25.here hx rfl (hb hby at_106) ?_
      show Steps p.tables e below (T25.setTop (mkF m 107 #[.val (.int i0), .val (.ref b1), .val (.int (5 : Int32)), .val (.ref w5), .unset] [(.int (3 : Int32)), (.int (5 : Int32))])) _
      refine XS.icmpNo X25.here hx rfl (hb hby at_107) rfl (by decide) ?_
      show Steps p.tables e below (T25.setTop (mkF m 110 #[.val (.int i0), .val (.ref b1), .val (.int (5 : Int32)), .val (.ref w5), .unset] [])) _
      refine XS.iloadN X25.here hx rfl (hb hby at_110) rfl ?_
      show Steps p.tables e below (T25.setTop (mkF m 111 #[.val (.int i0), .val (.ref b1), .val (.int (5 : Int32)), .val (.ref w5), .unset] [(.int (5 : Int32))])) _
      refine XS.iconst X25.here hx rfl (hb hby at_111) ?_
      show Steps p.tables e below (T25.setTop (mkF m 112 #[.val (.int i0), .val (.ref b1), .val (.int (5 : Int32)), .val (.ref w5), .unset] [(.int (4 : Int32)), (.int (5 : Int32))])) _
      refine XS.icmpYes X25.here hx rfl (pc0 := 112) (pc' := 119) rfl (hb hby at_112) rfl (by decide) (by decide) (by decide) ?_
      show Steps p.tables e below (T25.setTop (mkF m 119 #[.val (.int i0), .val (.ref b1), .val (.int (5 : Int32)), .val (.ref w5), .unset] [])) _
      refine XS.iconst X25.here hx rfl (hb hby at_119) ?_
      show Steps p.tables e below (T25.setTop (mkF m 120 #[.val (.int i0), .val (.ref b1), .val (.int (5 : Int32)), .val (.ref w5), .unset] [(.int (0 : Int32))])) _
      refine XS.istore X25.here hx rfl (hb hby at_120) rfl (l' := #[.val (.int i0), .val (.ref b1), .val (.int (5 : Int32)), .val (.ref w5), .val (.int (0 : Int32))]) rfl ?_
      show Steps p.tables e below (T25.setTop (mkF m 122 #[.val (.int i0), .val (.ref b1), .val (.int (5 : Int32)), .val (.ref w5), .val (.int (0 : Int32))] [])) _
      refine XS.aloadN X25.here hx rfl (hb hby at_122) rfl rfl ?_
      show Steps p.tables e below (T25.setTop (mkF m 123 #[.val (.int i0), .val (.ref b1), .val (.int (5 : Int32)), .val (.ref w5), .val (.int (0 : Int32))] [(.ref w5)])) _
      refine st68.trans ?_
      show Steps p.tables e below (T68.setTop (mkF m 126 #[.val (.int i0), .val (.ref b1), .val (.int (5 : Int32)), .val (.ref w5), .val (.int (0 : Int32))] [(.int (0 : Int32))])) _
      refine XS.iload X68.here hx rfl (hb hby at_126) rfl ?_
      show Steps p.tables e below (T68.setTop (mkF m 128 #[.val (.int i0), .val (.ref b1), .val (.int (5 : Int32)), .val (.ref w5), .val (.int (0 : Int32))] [(.int (0 : Int32)), (.int (0 : Int32))])) _
      refine XS.icmpNo X68.here hx rfl (hb hby at_128) rfl (by decide) ?_
      show Steps p.tables e below (T68.setTop (mkF m 131 #[.val (.int i0), .val (.ref b1), .val (.int (5 : Int32)), .val (.ref w5), .val (.int (0 : Int32))] [])) _
      refine XS.iconst X68.here hx rfl (hb hby at_131) ?_
      show Steps p.tables e below (T68.setTop (mkF m 132 #[.val (.int i0), .val (.ref b1), .val (.int (5 : Int32)), .val (.ref w5), .val (.int (0 : Int32))] [(.int (1 : Int32))])) _
      refine XS.goto X68.here hx rfl (pc0 := 132) (pc' := 136) rfl (hb hby at_132) (by decide) (by decide) ?_
      show Steps p.tables e below (T68.setTop (mkF m 136 #[.val (.int i0), .val (.ref b1), .val (.int (5 : Int32)), .val (.ref w5), .val (.int (0 : Int32))] [(.int (1 : Int32))])) _
      exact retN X68 hx (t := .boolean) Bd.returns (by simp) (hb hby at_136) hr
    · show Ql n0 _ T68.heap _
      exact ⟨rfl, N68⟩
  · obtain ⟨cl69, Ar69, q69, S69, M69, H69, G69⟩ := V25
    have hin69 : ¬ ((6 : Int32) < 0 ∨ cl69.slots.size ≤ ((6 : Int32)).toNatClampNeg) := inb_of S69 ⟨by decide, by decide⟩
    have hat69 : cl69.slots[((6 : Int32)).toNatClampNeg]? = some (.ref w6) := Has.at H69 hin69 rfl
    obtain ⟨cq74, kq74, q74a, q74b, q74c⟩ := isOf hZ e25 (wE6.ext O_25.2)
    obtain ⟨_, _, ⟨T74, L74, k74, n74⟩, -, X74, ⟨Lc74, hQ74, l74, y74, z74⟩, st74⟩ := X25.virtualBack hx (y := (⟨"com/example/weaverbird/weaverbird/codes/RunState", "unended", "()Z"⟩ : MethodName)) (z := (⟨"com/example/weaverbird/weaverbird/codes/RunState", "unended", "()Z"⟩ : MethodName)) hown (mvT hZ (hw _ (List.mem_of_getElem? (i := 29) rfl))) (mvT hZ (hw _ (List.mem_of_getElem? (i := 30) rfl))) (notFace_of_selects (args := #[]) (mvT hZ (hw _ (List.mem_of_getElem? (i := 32) rfl)))) (mvT hZ (hw _ (List.mem_of_getElem? (i := 32) rfl))) (mvT hZ (hw _ (List.mem_of_getElem? (i := 31) rfl))) (by decide) (backOf (W := 0) (rm7 l Z a0 hw [] w0 w1 w2 w3 w4 w5 w6 w7 w8 w9 w10 w11 h25 n0 hWd O_25) hZ (hw _ (List.mem_of_getElem? (i := 33) rfl)) (hw _ (List.mem_of_getElem? (i := 3) rfl)) (by decide) (by decide)) q74a q74c (g := (mkF m 123 #[.val (.int i0), .val (.ref b1), .val (.int (6 : Int32)), .val (.ref w6), .val (.int (0 : Int32))] [(.ref w6)])) rfl (by rw [hml]; rfl) (Steps.refl _) (argsL := []) (rest := []) (lenOf pd0 rfl) rfl (by show 2 * 0 + _ ≤ _; exact Nat.le_of_eq rfl) (hb hby at_123) (fun _ _ => ⟨rfl, e25, (by decide : 1 + 0 ≤ _), (by decide : 12 + 0 ≤ _)⟩)
    dsimp only [Pt.U, Pt.locs, Pt.cells, Pt.slots] at X74 l74 y74 z74 st74 hQ74
    subst l74 y74 z74
    obtain ⟨rfl, N74q, e74⟩ := hQ74
    have N74 := Fr.app N25 N74q
    obtain ⟨fs, hr, hrun, hended, hWr, hsame⟩ := X74.leave (v := some (.int (1 : Int32))) (fun h => by rw [Bd.returns] at h; cases h)
    refine ⟨_, _, pre26 _ ?_, hrun, hended, _, _, rfl, ?_, ⟨_, rfl⟩, hWr, hsame.mono (Nat.le_of_ble_eq_true rfl) (Nat.le_of_ble_eq_true rfl)⟩
    · show Steps p.tables e below (T25.setTop (mkF m 90 #[.val (.int i0), .val (.ref b1), .unset, .unset, .unset] [(.int (12 : Int32)), (.int (i0 &&& (2147483647 : Int32)))])) _
      refine iremM X25 hx rfl (hb hby at_90) rfl (by decide) ?_
      show Steps p.tables e below (T25.setTop (mkF m 91 #[.val (.int i0), .val (.ref b1), .unset, .unset, .unset] [(.int ((i0 &&& (2147483647 : Int32)) % (12 : Int32)))])) _
      rw [hk33]
      show Steps p.tables e below (T25.setTop (mkF m 91 #[.val (.int i0), .val (.ref b1), .unset, .unset, .unset] [(.int (6 : Int32))])) _
      refine XS.istoreN X25.here hx rfl (hb hby at_91) rfl (l' := #[.val (.int i0), .val (.ref b1), .val (.int (6 : Int32)), .unset, .unset]) rfl ?_
      show Steps p.tables e below (T25.setTop (mkF m 92 #[.val (.int i0), .val (.ref b1), .val (.int (6 : Int32)), .unset, .unset] [])) _
      refine XS.aloadN X25.here hx rfl (hb hby at_92) rfl rfl ?_
      show Steps p.tables e below (T25.setTop (mkF m 93 #[.val (.int i0), .val (.ref b1), .val (.int (6 : Int32)), .unset, .unset] [(.ref b1)])) _
      refine XS.iloadN X25.here hx rfl (hb hby at_93) rfl ?_
      show Steps p.tables e below (T25.setTop (mkF m 94 #[.val (.int i0), .val (.ref b1), .val (.int (6 : Int32)), .unset, .unset] [(.int (6 : Int32)), (.ref b1)])) _
      refine X25.aaload hx (j := (6 : Int32)) (v := (.ref w6)) (by rw [e25]; exact Ar69.1) (State.isArrayOf_alike hZ.alike Ar69.2.1) rfl Ar69.2.2 hin69 hat69 (g := (mkF m 94 #[.val (.int i0), .val (.ref b1), .val (.int (6 : Int32)), .unset, .unset] [(.int (6 : Int32)), (.ref b1)])) rfl rfl (hb hby at_94) _ ?_
      show Steps p.tables e below (T25.setTop (mkF m 95 #[.val (.int i0), .val (.ref b1), .val (.int (6 : Int32)), .unset, .unset] [(.ref w6)])) _
      refine XS.astoreN X25.here hx rfl (hb hby at_95) rfl rfl (l' := #[.val (.int i0), .val (.ref b1), .val (.int (6 : Int32)), .val (.ref w6), .unset]) rfl ?_
      show Steps p.tables e below (T25.setTop (mkF m 96 #[.val (.int i0), .val (.ref b1), .val (.int (6 : Int32)), .val (.ref w6), .unset] [])) _
      refine XS.iloadN X25.here hx rfl (hb hby at_96) rfl ?_
      show Steps p.tables e below (T25.setTop (mkF m 97 #[.val (.int i0), .val (.ref b1), .val (.int (6 : Int32)), .val (.ref w6), .unset] [(.int (6 : Int32))])) _
      refine XS.ifNo X25.here hx rfl (hb hby at_97) rfl (by decide) ?_
      show Steps p.tables e below (T25.setTop (mkF m 100 #[.val (.int i0), .val (.ref b1), .val (.int (6 : Int32)), .val (.ref w6), .unset] [])) _
      refine XS.iloadN X25.here hx rfl (hb hby at_100) rfl ?_
      show Steps p.tables e below (T25.setTop (mkF m 101 #[.val (.int i0), .val (.ref b1), .val (.int (6 : Int32)), .val (.ref w6), .unset] [(.int (6 : Int32))])) _
      refine XS.iconst X25.here hx rfl (hb hby at_101) ?_
      show Steps p.tables e below (T25.setTop (mkF m 102 #[.val (.int i0), .val (.ref b1), .val (.int (6 : Int32)), .val (.ref w6), .unset] [(.int (1 : Int32)), (.int (6 : Int32))])) _
      refine XS.icmpNo X25.here hx rfl (hb hby at_102) rfl (by decide) ?_
      show Steps p.tables e below (T25.setTop (mkF m 105 #[.val (.int i0), .val (.ref b1), .val (.int (6 : Int32)), .val (.ref w6), .unset] [])) _
      refine XS.iloadN X25.here hx rfl (hb hby at_105) rfl ?_
      show Steps p.tables e below (T25.setTop (mkF m 106 #[.val (.int i0), .val (.ref b1), .val (.int (6 : Int32)), .val (.ref w6), .unset] [(.int (6 : Int32))])) _
      refine XS.iconst X25.here hx rfl (hb hby at_106) ?_
      show Steps p.tables e below (T25.setTop (mkF m 107 #[.val (.int i0), .val (.ref b1), .val (.int (6 : Int32)), .val (.ref w6), .unset] [(.int (3 : Int32)), (.int (6 : Int32))])) _
      refine XS.icmpNo X25.here hx rfl (hb hby at_107) rfl (by decide) ?_
      show Steps p.tables e below (T25.setTop (mkF m 110 #[.val (.int i0), .val (.ref b1), .val (.int (6 : Int32)), .val (.ref w6), .unset] [])) _
      refine XS.iloadN X25.here hx rfl (hb hby at_110) rfl ?_
      show Steps p.tables e below (T25.setTop (mkF m 111 #[.val (.int i0), .val (.ref b1), .val (.int (6 : Int32)), .val (.ref w6), .unset] [(.int (6 : Int32))])) _
      refine XS.iconst X25.here hx rfl (hb hby at_111) ?_
      show Steps p.tables e below (T25.setTop (mkF m 112 #[.val (.int i0), .val (.ref b1), .val (.int (6 : Int32)), .val (.ref w6), .unset] [(.int (4 : Int32)), (.int (6 : Int32))])) _
      refine XS.icmpYes X25.here hx rfl (pc0 := 112) (pc' := 119) rfl (hb hby at_112) rfl (by decide) (by decide) (by decide) ?_
      show Steps p.tables e below (T25.setTop (mkF m 119 #[.val (.int i0), .val (.ref b1), .val (.int (6 : Int32)), .val (.ref w6), .unset] [])) _
      refine XS.iconst X25.here hx rfl (hb hby at_119) ?_
      show Steps p.tables e below (T25.setTop (mkF m 120 #[.val (.int i0), .val (.ref b1), .val (.int (6 : Int32)), .val (.ref w6), .unset] [(.int (0 : Int32))])) _
      refine XS.istore X25.here hx rfl (hb hby at_120) rfl (l' := #[.val (.int i0), .val (.ref b1), .val (.int (6 : Int32)), .val (.ref w6), .val (.int (0 : Int32))]) rfl ?_
      show Steps p.tables e below (T25.setTop (mkF m 122 #[.val (.int i0), .val (.ref b1), .val (.int (6 : Int32)), .val (.ref w6), .val (.int (0 : Int32))] [])) _
      refine XS.aloadN X25.here hx rfl (hb hby at_122) rfl rfl ?_
      show Steps p.tables e below (T25.setTop (mkF m 123 #[.val (.int i0), .val (.ref b1), .val (.int (6 : Int32)), .val (.ref w6), .val (.int (0 : Int32))] [(.ref w6)])) _
      refine st74.trans ?_
      show Steps p.tables e below (T74.setTop (mkF m 126 #[.val (.int i0), .val (.ref b1), .val (.int (6 : Int32)), .val (.ref w6), .val (.int (0 : Int32))] [(.int (0 : Int32))])) _
      refine XS.iload X74.here hx rfl (hb hby at_126) rfl ?_
      show Steps p.tables e below (T74.setTop (mkF m 128 #[.val (.int i0), .val (.ref b1), .val (.int (6 : Int32)), .val (.ref w6), .val (.int (0 : Int32))] [(.int (0 : Int32)), (.int (0 : Int32))])) _
      refine XS.icmpNo X74.here hx rfl (hb hby at_128) rfl (by decide) ?_
      show Steps p.tables e below (T74.setTop (mkF m 131 #[.val (.int i0), .val (.ref b1), .val (.int (6 : Int32)), .val (.ref w6), .val (.int (0 : Int32))] [])) _
      refine XS.iconst X74.here hx rfl (hb hby at_131) ?_
      show Steps p.tables e below (T74.setTop (mkF m 132 #[.val (.int i0), .val (.ref b1), .val (.int (6 : Int32)), .val (.ref w6), .val (.int (0 : Int32))] [(.int (1 : Int32))])) _
      refine XS.goto X74.here hx rfl (pc0 := 132) (pc' := 136) rfl (hb hby at_132) (by decide) (by decide) ?_
      show Steps p.tables e below (T74.setTop (mkF m 136 #[.val (.int i0), .val (.ref b1), .val (.int (6 : Int32)), .val (.ref w6), .val (.int (0 : Int32))] [(.int (1 : Int32))])) _
      exact retN X74 hx (t := .boolean) Bd.returns (by simp) (hb hby at_136) hr
    · show Ql n0 _ T74.heap _
      exact ⟨rfl, N74⟩
  · obtain ⟨cl75, Ar75, q75, S75, M75, H75, G75⟩ := V25
    have hin75 : ¬ ((7 : Int32) < 0 ∨ cl75.slots.size ≤ ((7 : Int32)).toNatClampNeg) := inb_of S75 ⟨by decide, by decide⟩
    have hat75 : cl75.slots[((7 : Int32)).toNatClampNeg]? = some (.ref w7) := Has.at H75 hin75 rfl
    obtain ⟨cq80, kq80, q80a, q80b, q80c⟩ := isOf hZ e25 (wE7.ext O_25.2)
    obtain ⟨_, _, ⟨T80, L80, k80, n80⟩, -, X80, ⟨Lc80, hQ80, l80, y80, z80⟩, st80⟩ := X25.virtualBack hx (y := (⟨"com/example/weaverbird/weaverbird/codes/RunState", "unended", "()Z"⟩ : MethodName)) (z := (⟨"com/example/weaverbird/weaverbird/codes/RunState", "unended", "()Z"⟩ : MethodName)) hown (mvT hZ (hw _ (List.mem_of_getElem? (i := 29) rfl))) (mvT hZ (hw _ (List.mem_of_getElem? (i := 30) rfl))) (notFace_of_selects (args := #[]) (mvT hZ (hw _ (List.mem_of_getElem? (i := 32) rfl)))) (mvT hZ (hw _ (List.mem_of_getElem? (i := 32) rfl))) (mvT hZ (hw _ (List.mem_of_getElem? (i := 31) rfl))) (by decide) (backOf (W := 0) (rm8 l Z a0 hw [] w0 w1 w2 w3 w4 w5 w6 w7 w8 w9 w10 w11 h25 n0 hWd O_25) hZ (hw _ (List.mem_of_getElem? (i := 33) rfl)) (hw _ (List.mem_of_getElem? (i := 3) rfl)) (by decide) (by decide)) q80a q80c (g := (mkF m 123 #[.val (.int i0), .val (.ref b1), .val (.int (7 : Int32)), .val (.ref w7), .val (.int (0 : Int32))] [(.ref w7)])) rfl (by rw [hml]; rfl) (Steps.refl _) (argsL := []) (rest := []) (lenOf pd0 rfl) rfl (by show 2 * 0 + _ ≤ _; exact Nat.le_of_eq rfl) (hb hby at_123) (fun _ _ => ⟨rfl, e25, (by decide : 1 + 0 ≤ _), (by decide : 12 + 0 ≤ _)⟩)
    dsimp only [Pt.U, Pt.locs, Pt.cells, Pt.slots] at X80 l80 y80 z80 st80 hQ80
    subst l80 y80 z80
    obtain ⟨rfl, N80q, e80⟩ := hQ80
    have N80 := Fr.app N25 N80q
    obtain ⟨fs, hr, hrun, hended, hWr, hsame⟩ := X80.leave (v := some (.int (1 : Int32))) (fun h => by rw [Bd.returns] at h; cases h)
    refine ⟨_, _, pre26 _ ?_, hrun, hended, _, _, rfl, ?_, ⟨_, rfl⟩, hWr, hsame.mono (Nat.le_of_ble_eq_true rfl) (Nat.le_of_ble_eq_true rfl)⟩
    · show Steps p.tables e below (T25.setTop (mkF m 90 #[.val (.int i0), .val (.ref b1), .unset, .unset, .unset] [(.int (12 : Int32)), (.int (i0 &&& (2147483647 : Int32)))])) _
      refine iremM X25 hx rfl (hb hby at_90) rfl (by decide) ?_
      show Steps p.tables e below (T25.setTop (mkF m 91 #[.val (.int i0), .val (.ref b1), .unset, .unset, .unset] [(.int ((i0 &&& (2147483647 : Int32)) % (12 : Int32)))])) _
      rw [hk34]
      show Steps p.tables e below (T25.setTop (mkF m 91 #[.val (.int i0), .val (.ref b1), .unset, .unset, .unset] [(.int (7 : Int32))])) _
      refine XS.istoreN X25.here hx rfl (hb hby at_91) rfl (l' := #[.val (.int i0), .val (.ref b1), .val (.int (7 : Int32)), .unset, .unset]) rfl ?_
      show Steps p.tables e below (T25.setTop (mkF m 92 #[.val (.int i0), .val (.ref b1), .val (.int (7 : Int32)), .unset, .unset] [])) _
      refine XS.aloadN X25.here hx rfl (hb hby at_92) rfl rfl ?_
      show Steps p.tables e below (T25.setTop (mkF m 93 #[.val (.int i0), .val (.ref b1), .val (.int (7 : Int32)), .unset, .unset] [(.ref b1)])) _
      refine XS.iloadN X25.here hx rfl (hb hby at_93) rfl ?_
      show Steps p.tables e below (T25.setTop (mkF m 94 #[.val (.int i0), .val (.ref b1), .val (.int (7 : Int32)), .unset, .unset] [(.int (7 : Int32)), (.ref b1)])) _
      refine X25.aaload hx (j := (7 : Int32)) (v := (.ref w7)) (by rw [e25]; exact Ar75.1) (State.isArrayOf_alike hZ.alike Ar75.2.1) rfl Ar75.2.2 hin75 hat75 (g := (mkF m 94 #[.val (.int i0), .val (.ref b1), .val (.int (7 : Int32)), .unset, .unset] [(.int (7 : Int32)), (.ref b1)])) rfl rfl (hb hby at_94) _ ?_
      show Steps p.tables e below (T25.setTop (mkF m 95 #[.val (.int i0), .val (.ref b1), .val (.int (7 : Int32)), .unset, .unset] [(.ref w7)])) _
      refine XS.astoreN X25.here hx rfl (hb hby at_95) rfl rfl (l' := #[.val (.int i0), .val (.ref b1), .val (.int (7 : Int32)), .val (.ref w7), .unset]) rfl ?_
      show Steps p.tables e below (T25.setTop (mkF m 96 #[.val (.int i0), .val (.ref b1), .val (.int (7 : Int32)), .val (.ref w7), .unset] [])) _
      refine XS.iloadN X25.here hx rfl (hb hby at_96) rfl ?_
      show Steps p.tables e below (T25.setTop (mkF m 97 #[.val (.int i0), .val (.ref b1), .val (.int (7 : Int32)), .val (.ref w7), .unset] [(.int (7 : Int32))])) _
      refine XS.ifNo X25.here hx rfl (hb hby at_97) rfl (by decide) ?_
      show Steps p.tables e below (T25.setTop (mkF m 100 #[.val (.int i0), .val (.ref b1), .val (.int (7 : Int32)), .val (.ref w7), .unset] [])) _
      refine XS.iloadN X25.here hx rfl (hb hby at_100) rfl ?_
      show Steps p.tables e below (T25.setTop (mkF m 101 #[.val (.int i0), .val (.ref b1), .val (.int (7 : Int32)), .val (.ref w7), .unset] [(.int (7 : Int32))])) _
      refine XS.iconst X25.here hx rfl (hb hby at_101) ?_
      show Steps p.tables e below (T25.setTop (mkF m 102 #[.val (.int i0), .val (.ref b1), .val (.int (7 : Int32)), .val (.ref w7), .unset] [(.int (1 : Int32)), (.int (7 : Int32))])) _
      refine XS.icmpNo X25.here hx rfl (hb hby at_102) rfl (by decide) ?_
      show Steps p.tables e below (T25.setTop (mkF m 105 #[.val (.int i0), .val (.ref b1), .val (.int (7 : Int32)), .val (.ref w7), .unset] [])) _
      refine XS.iloadN X25.here hx rfl (hb hby at_105) rfl ?_
      show Steps p.tables e below (T25.setTop (mkF m 106 #[.val (.int i0), .val (.ref b1), .val (.int (7 : Int32)), .val (.ref w7), .unset] [(.int (7 : Int32))])) _
      refine XS.iconst X25.here hx rfl (hb hby at_106) ?_
      show Steps p.tables e below (T25.setTop (mkF m 107 #[.val (.int i0), .val (.ref b1), .val (.int (7 : Int32)), .val (.ref w7), .unset] [(.int (3 : Int32)), (.int (7 : Int32))])) _
      refine XS.icmpNo X25.here hx rfl (hb hby at_107) rfl (by decide) ?_
      show Steps p.tables e below (T25.setTop (mkF m 110 #[.val (.int i0), .val (.ref b1), .val (.int (7 : Int32)), .val (.ref w7), .unset] [])) _
      refine XS.iloadN X25.here hx rfl (hb hby at_110) rfl ?_
      show Steps p.tables e below (T25.setTop (mkF m 111 #[.val (.int i0), .val (.ref b1), .val (.int (7 : Int32)), .val (.ref w7), .unset] [(.int (7 : Int32))])) _
      refine XS.iconst X25.here hx rfl (hb hby at_111) ?_
      show Steps p.tables e below (T25.setTop (mkF m 112 #[.val (.int i0), .val (.ref b1), .val (.int (7 : Int32)), .val (.ref w7), .unset] [(.int (4 : Int32)), (.int (7 : Int32))])) _
      refine XS.icmpYes X25.here hx rfl (pc0 := 112) (pc' := 119) rfl (hb hby at_112) rfl (by decide) (by decide) (by decide) ?_
      show Steps p.tables e below (T25.setTop (mkF m 119 #[.val (.int i0), .val (.ref b1), .val (.int (7 : Int32)), .val (.ref w7), .unset] [])) _
      refine XS.iconst X25.here hx rfl (hb hby at_119) ?_
      show Steps p.tables e below (T25.setTop (mkF m 120 #[.val (.int i0), .val (.ref b1), .val (.int (7 : Int32)), .val (.ref w7), .unset] [(.int (0 : Int32))])) _
      refine XS.istore X25.here hx rfl (hb hby at_120) rfl (l' := #[.val (.int i0), .val (.ref b1), .val (.int (7 : Int32)), .val (.ref w7), .val (.int (0 : Int32))]) rfl ?_
      show Steps p.tables e below (T25.setTop (mkF m 122 #[.val (.int i0), .val (.ref b1), .val (.int (7 : Int32)), .val (.ref w7), .val (.int (0 : Int32))] [])) _
      refine XS.aloadN X25.here hx rfl (hb hby at_122) rfl rfl ?_
      show Steps p.tables e below (T25.setTop (mkF m 123 #[.val (.int i0), .val (.ref b1), .val (.int (7 : Int32)), .val (.ref w7), .val (.int (0 : Int32))] [(.ref w7)])) _
      refine st80.trans ?_
      show Steps p.tables e below (T80.setTop (mkF m 126 #[.val (.int i0), .val (.ref b1), .val (.int (7 : Int32)), .val (.ref w7), .val (.int (0 : Int32))] [(.int (0 : Int32))])) _
      refine XS.iload X80.here hx rfl (hb hby at_126) rfl ?_
      show Steps p.tables e below (T80.setTop (mkF m 128 #[.val (.int i0), .val (.ref b1), .val (.int (7 : Int32)), .val (.ref w7), .val (.int (0 : Int32))] [(.int (0 : Int32)), (.int (0 : Int32))])) _
      refine XS.icmpNo X80.here hx rfl (hb hby at_128) rfl (by decide) ?_
      show Steps p.tables e below (T80.setTop (mkF m 131 #[.val (.int i0), .val (.ref b1), .val (.int (7 : Int32)), .val (.ref w7), .val (.int (0 : Int32))] [])) _
      refine XS.iconst X80.here hx rfl (hb hby at_131) ?_
      show Steps p.tables e below (T80.setTop (mkF m 132 #[.val (.int i0), .val (.ref b1), .val (.int (7 : Int32)), .val (.ref w7), .val (.int (0 : Int32))] [(.int (1 : Int32))])) _
      refine XS.goto X80.here hx rfl (pc0 := 132) (pc' := 136) rfl (hb hby at_132) (by decide) (by decide) ?_
      show Steps p.tables e below (T80.setTop (mkF m 136 #[.val (.int i0), .val (.ref b1), .val (.int (7 : Int32)), .val (.ref w7), .val (.int (0 : Int32))] [(.int (1 : Int32))])) _
      exact retN X80 hx (t := .boolean) Bd.returns (by simp) (hb hby at_136) hr
    · show Ql n0 _ T80.heap _
      exact ⟨rfl, N80⟩
  · obtain ⟨cl81, Ar81, q81, S81, M81, H81, G81⟩ := V25
    have hin81 : ¬ ((8 : Int32) < 0 ∨ cl81.slots.size ≤ ((8 : Int32)).toNatClampNeg) := inb_of S81 ⟨by decide, by decide⟩
    have hat81 : cl81.slots[((8 : Int32)).toNatClampNeg]? = some (.ref w8) := Has.at H81 hin81 rfl
    obtain ⟨cq86, kq86, q86a, q86b, q86c⟩ := isOf hZ e25 (wE8.ext O_25.2)
    obtain ⟨_, _, ⟨T86, L86, k86, n86⟩, -, X86, ⟨Lc86, hQ86, l86, y86, z86⟩, st86⟩ := X25.virtualBack hx (y := (⟨"com/example/weaverbird/weaverbird/codes/RunState", "unended", "()Z"⟩ : MethodName)) (z := (⟨"com/example/weaverbird/weaverbird/codes/RunState", "unended", "()Z"⟩ : MethodName)) hown (mvT hZ (hw _ (List.mem_of_getElem? (i := 29) rfl))) (mvT hZ (hw _ (List.mem_of_getElem? (i := 30) rfl))) (notFace_of_selects (args := #[]) (mvT hZ (hw _ (List.mem_of_getElem? (i := 32) rfl)))) (mvT hZ (hw _ (List.mem_of_getElem? (i := 32) rfl))) (mvT hZ (hw _ (List.mem_of_getElem? (i := 31) rfl))) (by decide) (backOf (W := 0) (rm9 l Z a0 hw [] w0 w1 w2 w3 w4 w5 w6 w7 w8 w9 w10 w11 h25 n0 hWd O_25) hZ (hw _ (List.mem_of_getElem? (i := 33) rfl)) (hw _ (List.mem_of_getElem? (i := 3) rfl)) (by decide) (by decide)) q86a q86c (g := (mkF m 123 #[.val (.int i0), .val (.ref b1), .val (.int (8 : Int32)), .val (.ref w8), .val (.int (0 : Int32))] [(.ref w8)])) rfl (by rw [hml]; rfl) (Steps.refl _) (argsL := []) (rest := []) (lenOf pd0 rfl) rfl (by show 2 * 0 + _ ≤ _; exact Nat.le_of_eq rfl) (hb hby at_123) (fun _ _ => ⟨rfl, e25, (by decide : 1 + 0 ≤ _), (by decide : 12 + 0 ≤ _)⟩)
    dsimp only [Pt.U, Pt.locs, Pt.cells, Pt.slots] at X86 l86 y86 z86 st86 hQ86
    subst l86 y86 z86
    obtain ⟨rfl, N86q, e86⟩ := hQ86
    have N86 := Fr.app N25 N86q
    obtain ⟨fs, hr, hrun, hended, hWr, hsame⟩ := X86.leave (v := some (.int (1 : Int32))) (fun h => by rw [Bd.returns] at h; cases h)
    refine ⟨_, _, pre26 _ ?_, hrun, hended, _, _, rfl, ?_, ⟨_, rfl⟩, hWr, hsame.mono (Nat.le_of_ble_eq_true rfl) (Nat.le_of_ble_eq_true rfl)⟩
    · show Steps p.tables e below (T25.setTop (mkF m 90 #[.val (.int i0), .val (.ref b1), .unset, .unset, .unset] [(.int (12 : Int32)), (.int (i0 &&& (2147483647 : Int32)))])) _
      refine iremM X25 hx rfl (hb hby at_90) rfl (by decide) ?_
      show Steps p.tables e below (T25.setTop (mkF m 91 #[.val (.int i0), .val (.ref b1), .unset, .unset, .unset] [(.int ((i0 &&& (2147483647 : Int32)) % (12 : Int32)))])) _
      rw [hk35]
      show Steps p.tables e below (T25.setTop (mkF m 91 #[.val (.int i0), .val (.ref b1), .unset, .unset, .unset] [(.int (8 : Int32))])) _
      refine XS.istoreN X25.here hx rfl (hb hby at_91) rfl (l' := #[.val (.int i0), .val (.ref b1), .val (.int (8 : Int32)), .unset, .unset]) rfl ?_
      show Steps p.tables e below (T25.setTop (mkF m 92 #[.val (.int i0), .val (.ref b1), .val (.int (8 : Int32)), .unset, .unset] [])) _
      refine XS.aloadN X25.here hx rfl (hb hby at_92) rfl rfl ?_
      show Steps p.tables e below (T25.setTop (mkF m 93 #[.val (.int i0), .val (.ref b1), .val (.int (8 : Int32)), .unset, .unset] [(.ref b1)])) _
      refine XS.iloadN X25.here hx rfl (hb hby at_93) rfl ?_
      show Steps p.tables e below (T25.setTop (mkF m 94 #[.val (.int i0), .val (.ref b1), .val (.int (8 : Int32)), .unset, .unset] [(.int (8 : Int32)), (.ref b1)])) _
      refine X25.aaload hx (j := (8 : Int32)) (v := (.ref w8)) (by rw [e25]; exact Ar81.1) (State.isArrayOf_alike hZ.alike Ar81.2.1) rfl Ar81.2.2 hin81 hat81 (g := (mkF m 94 #[.val (.int i0), .val (.ref b1), .val (.int (8 : Int32)), .unset, .unset] [(.int (8 : Int32)), (.ref b1)])) rfl rfl (hb hby at_94) _ ?_
      show Steps p.tables e below (T25.setTop (mkF m 95 #[.val (.int i0), .val (.ref b1), .val (.int (8 : Int32)), .unset, .unset] [(.ref w8)])) _
      refine XS.astoreN X25.here hx rfl (hb hby at_95) rfl rfl (l' := #[.val (.int i0), .val (.ref b1), .val (.int (8 : Int32)), .val (.ref w8), .unset]) rfl ?_
      show Steps p.tables e below (T25.setTop (mkF m 96 #[.val (.int i0), .val (.ref b1), .val (.int (8 : Int32)), .val (.ref w8), .unset] [])) _
      refine XS.iloadN X25.here hx rfl (hb hby at_96) rfl ?_
      show Steps p.tables e below (T25.setTop (mkF m 97 #[.val (.int i0), .val (.ref b1), .val (.int (8 : Int32)), .val (.ref w8), .unset] [(.int (8 : Int32))])) _
      refine XS.ifNo X25.here hx rfl (hb hby at_97) rfl (by decide) ?_
      show Steps p.tables e below (T25.setTop (mkF m 100 #[.val (.int i0), .val (.ref b1), .val (.int (8 : Int32)), .val (.ref w8), .unset] [])) _
      refine XS.iloadN X25.here hx rfl (hb hby at_100) rfl ?_
      show Steps p.tables e below (T25.setTop (mkF m 101 #[.val (.int i0), .val (.ref b1), .val (.int (8 : Int32)), .val (.ref w8), .unset] [(.int (8 : Int32))])) _
      refine XS.iconst X25.here hx rfl (hb hby at_101) ?_
      show Steps p.tables e below (T25.setTop (mkF m 102 #[.val (.int i0), .val (.ref b1), .val (.int (8 : Int32)), .val (.ref w8), .unset] [(.int (1 : Int32)), (.int (8 : Int32))])) _
      refine XS.icmpNo X25.here hx rfl (hb hby at_102) rfl (by decide) ?_
      show Steps p.tables e below (T25.setTop (mkF m 105 #[.val (.int i0), .val (.ref b1), .val (.int (8 : Int32)), .val (.ref w8), .unset] [])) _
      refine XS.iloadN X25.here hx rfl (hb hby at_105) rfl ?_
      show Steps p.tables e below (T25.setTop (mkF m 106 #[.val (.int i0), .val (.ref b1), .val (.int (8 : Int32)), .val (.ref w8), .unset] [(.int (8 : Int32))])) _
      refine XS.iconst X25.here hx rfl (hb hby at_106) ?_
      show Steps p.tables e below (T25.setTop (mkF m 107 #[.val (.int i0), .val (.ref b1), .val (.int (8 : Int32)), .val (.ref w8), .unset] [(.int (3 : Int32)), (.int (8 : Int32))])) _
      refine XS.icmpNo X25.here hx rfl (hb hby at_107) rfl (by decide) ?_
      show Steps p.tables e below (T25.setTop (mkF m 110 #[.val (.int i0), .val (.ref b1), .val (.int (8 : Int32)), .val (.ref w8), .unset] [])) _
      refine XS.iloadN X25.here hx rfl (hb hby at_110) rfl ?_
      show Steps p.tables e below (T25.setTop (mkF m 111 #[.val (.int i0), .val (.ref b1), .val (.int (8 : Int32)), .val (.ref w8), .unset] [(.int (8 : Int32))])) _
      refine XS.iconst X25.here hx rfl (hb hby at_111) ?_
      show Steps p.tables e below (T25.setTop (mkF m 112 #[.val (.int i0), .val (.ref b1), .val (.int (8 : Int32)), .val (.ref w8), .unset] [(.int (4 : Int32)), (.int (8 : Int32))])) _
      refine XS.icmpYes X25.here hx rfl (pc0 := 112) (pc' := 119) rfl (hb hby at_112) rfl (by decide) (by decide) (by decide) ?_
      show Steps p.tables e below (T25.setTop (mkF m 119 #[.val (.int i0), .val (.ref b1), .val (.int (8 : Int32)), .val (.ref w8), .unset] [])) _
      refine XS.iconst X25.here hx rfl (hb hby at_119) ?_
      show Steps p.tables e below (T25.setTop (mkF m 120 #[.val (.int i0), .val (.ref b1), .val (.int (8 : Int32)), .val (.ref w8), .unset] [(.int (0 : Int32))])) _
      refine XS.istore X25.here hx rfl (hb hby at_120) rfl (l' := #[.val (.int i0), .val (.ref b1), .val (.int (8 : Int32)), .val (.ref w8), .val (.int (0 : Int32))]) rfl ?_
      show Steps p.tables e below (T25.setTop (mkF m 122 #[.val (.int i0), .val (.ref b1), .val (.int (8 : Int32)), .val (.ref w8), .val (.int (0 : Int32))] [])) _
      refine XS.aloadN X25.here hx rfl (hb hby at_122) rfl rfl ?_
      show Steps p.tables e below (T25.setTop (mkF m 123 #[.val (.int i0), .val (.ref b1), .val (.int (8 : Int32)), .val (.ref w8), .val (.int (0 : Int32))] [(.ref w8)])) _
      refine st86.trans ?_
      show Steps p.tables e below (T86.setTop (mkF m 126 #[.val (.int i0), .val (.ref b1), .val (.int (8 : Int32)), .val (.ref w8), .val (.int (0 : Int32))] [(.int (0 : Int32))])) _
      refine XS.iload X86.here hx rfl (hb hby at_126) rfl ?_
      show Steps p.tables e below (T86.setTop (mkF m 128 #[.val (.int i0), .val (.ref b1), .val (.int (8 : Int32)), .val (.ref w8), .val (.int (0 : Int32))] [(.int (0 : Int32)), (.int (0 : Int32))])) _
      refine XS.icmpNo X86.here hx rfl (hb hby at_128) rfl (by decide) ?_
      show Steps p.tables e below (T86.setTop (mkF m 131 #[.val (.int i0), .val (.ref b1), .val (.int (8 : Int32)), .val (.ref w8), .val (.int (0 : Int32))] [])) _
      refine XS.iconst X86.here hx rfl (hb hby at_131) ?_
      show Steps p.tables e below (T86.setTop (mkF m 132 #[.val (.int i0), .val (.ref b1), .val (.int (8 : Int32)), .val (.ref w8), .val (.int (0 : Int32))] [(.int (1 : Int32))])) _
      refine XS.goto X86.here hx rfl (pc0 := 132) (pc' := 136) rfl (hb hby at_132) (by decide) (by decide) ?_
      show Steps p.tables e below (T86.setTop (mkF m 136 #[.val (.int i0), .val (.ref b1), .val (.int (8 : Int32)), .val (.ref w8), .val (.int (0 : Int32))] [(.int (1 : Int32))])) _
      exact retN X86 hx (t := .boolean) Bd.returns (by simp) (hb hby at_136) hr
    · show Ql n0 _ T86.heap _
      exact ⟨rfl, N86⟩
  · obtain ⟨cl87, Ar87, q87, S87, M87, H87, G87⟩ := V25
    have hin87 : ¬ ((9 : Int32) < 0 ∨ cl87.slots.size ≤ ((9 : Int32)).toNatClampNeg) := inb_of S87 ⟨by decide, by decide⟩
    have hat87 : cl87.slots[((9 : Int32)).toNatClampNeg]? = some (.ref w9) := Has.at H87 hin87 rfl
    obtain ⟨cq92, kq92, q92a, q92b, q92c⟩ := isOf hZ e25 (wE9.ext O_25.2)
    obtain ⟨_, _, ⟨T92, L92, k92, n92⟩, -, X92, ⟨Lc92, hQ92, l92, y92, z92⟩, st92⟩ := X25.virtualBack hx (y := (⟨"com/example/weaverbird/weaverbird/codes/RunState", "unended", "()Z"⟩ : MethodName)) (z := (⟨"com/example/weaverbird/weaverbird/codes/RunState", "unended", "()Z"⟩ : MethodName)) hown (mvT hZ (hw _ (List.mem_of_getElem? (i := 29) rfl))) (mvT hZ (hw _ (List.mem_of_getElem? (i := 30) rfl))) (notFace_of_selects (args := #[]) (mvT hZ (hw _ (List.mem_of_getElem? (i := 32) rfl)))) (mvT hZ (hw _ (List.mem_of_getElem? (i := 32) rfl))) (mvT hZ (hw _ (List.mem_of_getElem? (i := 31) rfl))) (by decide) (backOf (W := 0) (rm10 l Z a0 hw [] w0 w1 w2 w3 w4 w5 w6 w7 w8 w9 w10 w11 h25 n0 hWd O_25) hZ (hw _ (List.mem_of_getElem? (i := 33) rfl)) (hw _ (List.mem_of_getElem? (i := 3) rfl)) (by decide) (by decide)) q92a q92c (g := (mkF m 123 #[.val (.int i0), .val (.ref b1), .val (.int (9 : Int32)), .val (.ref w9), .val (.int (0 : Int32))] [(.ref w9)])) rfl (by rw [hml]; rfl) (Steps.refl _) (argsL := []) (rest := []) (lenOf pd0 rfl) rfl (by show 2 * 0 + _ ≤ _; exact Nat.le_of_eq rfl) (hb hby at_123) (fun _ _ => ⟨rfl, e25, (by decide : 1 + 0 ≤ _), (by decide : 12 + 0 ≤ _)⟩)
    dsimp only [Pt.U, Pt.locs, Pt.cells, Pt.slots] at X92 l92 y92 z92 st92 hQ92
    subst l92 y92 z92
    obtain ⟨rfl, N92q, e92⟩ := hQ92
    have N92 := Fr.app N25 N92q
    obtain ⟨fs, hr, hrun, hended, hWr, hsame⟩ := X92.leave (v := some (.int (1 : Int32))) (fun h => by rw [Bd.returns] at h; cases h)
    refine ⟨_, _, pre26 _ ?_, hrun, hended, _, _, rfl, ?_, ⟨_, rfl⟩, hWr, hsame.mono (Nat.le_of_ble_eq_true rfl) (Nat.le_of_ble_eq_true rfl)⟩
    · show Steps p.tables e below (T25.setTop (mkF m 90 #[.val (.int i0), .val (.ref b1), .unset, .unset, .unset] [(.int (12 : Int32)), (.int (i0 &&& (2147483647 : Int32)))])) _
      refine iremM X25 hx rfl (hb hby at_90) rfl (by decide) ?_
      show Steps p.tables e below (T25.setTop (mkF m 91 #[.val (.int i0), .val (.ref b1), .unset, .unset, .unset] [(.int ((i0 &&& (2147483647 : Int32)) % (12 : Int32)))])) _
      rw [hk36]
      show Steps p.tables e below (T25.setTop (mkF m 91 #[.val (.int i0), .val (.ref b1), .unset, .unset, .unset] [(.int (9 : Int32))])) _
      refine XS.istoreN X25.here hx rfl (hb hby at_91) rfl (l' := #[.val (.int i0), .val (.ref b1), .val (.int (9 : Int32)), .unset, .unset]) rfl ?_
      show Steps p.tables e below (T25.setTop (mkF m 92 #[.val (.int i0), .val (.ref b1), .val (.int (9 : Int32)), .unset, .unset] [])) _
      refine XS.aloadN X25.here hx rfl (hb hby at_92) rfl rfl ?_
      show Steps p.tables e below (T25.setTop (mkF m 93 #[.val (.int i0), .val (.ref b1), .val (.int (9 : Int32)), .unset, .unset] [(.ref b1)])) _
      refine XS.iloadN X25.here hx rfl (hb hby at_93) rfl ?_
      show Steps p.tables e below (T25.setTop (mkF m 94 #[.val (.int i0), .val (.ref b1), .val (.int (9 : Int32)), .unset, .unset] [(.int (9 : Int32)), (.ref b1)])) _
      refine X25.aaload hx (j := (9 : Int32)) (v := (.ref w9)) (by rw [e25]; exact Ar87.1) (State.isArrayOf_alike hZ.alike Ar87.2.1) rfl Ar87.2.2 hin87 hat87 (g := (mkF m 94 #[.val (.int i0), .val (.ref b1), .val (.int (9 : Int32)), .unset, .unset] [(.int (9 : Int32)), (.ref b1)])) rfl rfl (hb hby at_94) _ ?_
      show Steps p.tables e below (T25.setTop (mkF m 95 #[.val (.int i0), .val (.ref b1), .val (.int (9 : Int32)), .unset, .unset] [(.ref w9)])) _
      refine XS.astoreN X25.here hx rfl (hb hby at_95) rfl rfl (l' := #[.val (.int i0), .val (.ref b1), .val (.int (9 : Int32)), .val (.ref w9), .unset]) rfl ?_
      show Steps p.tables e below (T25.setTop (mkF m 96 #[.val (.int i0), .val (.ref b1), .val (.int (9 : Int32)), .val (.ref w9), .unset] [])) _
      refine XS.iloadN X25.here hx rfl (hb hby at_96) rfl ?_
      show Steps p.tables e below (T25.setTop (mkF m 97 #[.val (.int i0), .val (.ref b1), .val (.int (9 : Int32)), .val (.ref w9), .unset] [(.int (9 : Int32))])) _
      refine XS.ifNo X25.here hx rfl (hb hby at_97) rfl (by decide) ?_
      show Steps p.tables e below (T25.setTop (mkF m 100 #[.val (.int i0), .val (.ref b1), .val (.int (9 : Int32)), .val (.ref w9), .unset] [])) _
      refine XS.iloadN X25.here hx rfl (hb hby at_100) rfl ?_
      show Steps p.tables e below (T25.setTop (mkF m 101 #[.val (.int i0), .val (.ref b1), .val (.int (9 : Int32)), .val (.ref w9), .unset] [(.int (9 : Int32))])) _
      refine XS.iconst X25.here hx rfl (hb hby at_101) ?_
      show Steps p.tables e below (T25.setTop (mkF m 102 #[.val (.int i0), .val (.ref b1), .val (.int (9 : Int32)), .val (.ref w9), .unset] [(.int (1 : Int32)), (.int (9 : Int32))])) _
      refine XS.icmpNo X25.here hx rfl (hb hby at_102) rfl (by decide) ?_
      show Steps p.tables e below (T25.setTop (mkF m 105 #[.val (.int i0), .val (.ref b1), .val (.int (9 : Int32)), .val (.ref w9), .unset] [])) _
      refine XS.iloadN X25.here hx rfl (hb hby at_105) rfl ?_
      show Steps p.tables e below (T25.setTop (mkF m 106 #[.val (.int i0), .val (.ref b1), .val (.int (9 : Int32)), .val (.ref w9), .unset] [(.int (9 : Int32))])) _
      refine XS.iconst X25.here hx rfl (hb hby at_106) ?_
      show Steps p.tables e below (T25.setTop (mkF m 107 #[.val (.int i0), .val (.ref b1), .val (.int (9 : Int32)), .val (.ref w9), .unset] [(.int (3 : Int32)), (.int (9 : Int32))])) _
      refine XS.icmpNo X25.here hx rfl (hb hby at_107) rfl (by decide) ?_
      show Steps p.tables e below (T25.setTop (mkF m 110 #[.val (.int i0), .val (.ref b1), .val (.int (9 : Int32)), .val (.ref w9), .unset] [])) _
      refine XS.iloadN X25.here hx rfl (hb hby at_110) rfl ?_
      show Steps p.tables e below (T25.setTop (mkF m 111 #[.val (.int i0), .val (.ref b1), .val (.int (9 : Int32)), .val (.ref w9), .unset] [(.int (9 : Int32))])) _
      refine XS.iconst X25.here hx rfl (hb hby at_111) ?_
      show Steps p.tables e below (T25.setTop (mkF m 112 #[.val (.int i0), .val (.ref b1), .val (.int (9 : Int32)), .val (.ref w9), .unset] [(.int (4 : Int32)), (.int (9 : Int32))])) _
      refine XS.icmpYes X25.here hx rfl (pc0 := 112) (pc' := 119) rfl (hb hby at_112) rfl (by decide) (by decide) (by decide) ?_
      show Steps p.tables e below (T25.setTop (mkF m 119 #[.val (.int i0), .val (.ref b1), .val (.int (9 : Int32)), .val (.ref w9), .unset] [])) _
      refine XS.iconst X25.here hx rfl (hb hby at_119) ?_
      show Steps p.tables e below (T25.setTop (mkF m 120 #[.val (.int i0), .val (.ref b1), .val (.int (9 : Int32)), .val (.ref w9), .unset] [(.int (0 : Int32))])) _
      refine XS.istore X25.here hx rfl (hb hby at_120) rfl (l' := #[.val (.int i0), .val (.ref b1), .val (.int (9 : Int32)), .val (.ref w9), .val (.int (0 : Int32))]) rfl ?_
      show Steps p.tables e below (T25.setTop (mkF m 122 #[.val (.int i0), .val (.ref b1), .val (.int (9 : Int32)), .val (.ref w9), .val (.int (0 : Int32))] [])) _
      refine XS.aloadN X25.here hx rfl (hb hby at_122) rfl rfl ?_
      show Steps p.tables e below (T25.setTop (mkF m 123 #[.val (.int i0), .val (.ref b1), .val (.int (9 : Int32)), .val (.ref w9), .val (.int (0 : Int32))] [(.ref w9)])) _
      refine st92.trans ?_
      show Steps p.tables e below (T92.setTop (mkF m 126 #[.val (.int i0), .val (.ref b1), .val (.int (9 : Int32)), .val (.ref w9), .val (.int (0 : Int32))] [(.int (0 : Int32))])) _
      refine XS.iload X92.here hx rfl (hb hby at_126) rfl ?_
      show Steps p.tables e below (T92.setTop (mkF m 128 #[.val (.int i0), .val (.ref b1), .val (.int (9 : Int32)), .val (.ref w9), .val (.int (0 : Int32))] [(.int (0 : Int32)), (.int (0 : Int32))])) _
      refine XS.icmpNo X92.here hx rfl (hb hby at_128) rfl (by decide) ?_
      show Steps p.tables e below (T92.setTop (mkF m 131 #[.val (.int i0), .val (.ref b1), .val (.int (9 : Int32)), .val (.ref w9), .val (.int (0 : Int32))] [])) _
      refine XS.iconst X92.here hx rfl (hb hby at_131) ?_
      show Steps p.tables e below (T92.setTop (mkF m 132 #[.val (.int i0), .val (.ref b1), .val (.int (9 : Int32)), .val (.ref w9), .val (.int (0 : Int32))] [(.int (1 : Int32))])) _
      refine XS.goto X92.here hx rfl (pc0 := 132) (pc' := 136) rfl (hb hby at_132) (by decide) (by decide) ?_
      show Steps p.tables e below (T92.setTop (mkF m 136 #[.val (.int i0), .val (.ref b1), .val (.int (9 : Int32)), .val (.ref w9), .val (.int (0 : Int32))] [(.int (1 : Int32))])) _
      exact retN X92 hx (t := .boolean) Bd.returns (by simp) (hb hby at_136) hr
    · show Ql n0 _ T92.heap _
      exact ⟨rfl, N92⟩
  · obtain ⟨cl93, Ar93, q93, S93, M93, H93, G93⟩ := V25
    have hin93 : ¬ ((10 : Int32) < 0 ∨ cl93.slots.size ≤ ((10 : Int32)).toNatClampNeg) := inb_of S93 ⟨by decide, by decide⟩
    have hat93 : cl93.slots[((10 : Int32)).toNatClampNeg]? = some (.ref w10) := Has.at H93 hin93 rfl
    obtain ⟨cq98, kq98, q98a, q98b, q98c⟩ := isOf hZ e25 (wE10.ext O_25.2)
    obtain ⟨_, _, ⟨T98, L98, k98, n98⟩, -, X98, ⟨Lc98, hQ98, l98, y98, z98⟩, st98⟩ := X25.virtualBack hx (y := (⟨"com/example/weaverbird/weaverbird/codes/RunState", "unended", "()Z"⟩ : MethodName)) (z := (⟨"com/example/weaverbird/weaverbird/codes/RunState", "unended", "()Z"⟩ : MethodName)) hown (mvT hZ (hw _ (List.mem_of_getElem? (i := 29) rfl))) (mvT hZ (hw _ (List.mem_of_getElem? (i := 30) rfl))) (notFace_of_selects (args := #[]) (mvT hZ (hw _ (List.mem_of_getElem? (i := 32) rfl)))) (mvT hZ (hw _ (List.mem_of_getElem? (i := 32) rfl))) (mvT hZ (hw _ (List.mem_of_getElem? (i := 31) rfl))) (by decide) (backOf (W := 0) (rm11 l Z a0 hw [] w0 w1 w2 w3 w4 w5 w6 w7 w8 w9 w10 w11 h25 n0 hWd O_25) hZ (hw _ (List.mem_of_getElem? (i := 33) rfl)) (hw _ (List.mem_of_getElem? (i := 3) rfl)) (by decide) (by decide)) q98a q98c (g := (mkF m 123 #[.val (.int i0), .val (.ref b1), .val (.int (10 : Int32)), .val (.ref w10), .val (.int (0 : Int32))] [(.ref w10)])) rfl (by rw [hml]; rfl) (Steps.refl _) (argsL := []) (rest := []) (lenOf pd0 rfl) rfl (by show 2 * 0 + _ ≤ _; exact Nat.le_of_eq rfl) (hb hby at_123) (fun _ _ => ⟨rfl, e25, (by decide : 1 + 0 ≤ _), (by decide : 12 + 0 ≤ _)⟩)
    dsimp only [Pt.U, Pt.locs, Pt.cells, Pt.slots] at X98 l98 y98 z98 st98 hQ98
    subst l98 y98 z98
    obtain ⟨rfl, N98q, e98⟩ := hQ98
    have N98 := Fr.app N25 N98q
    obtain ⟨fs, hr, hrun, hended, hWr, hsame⟩ := X98.leave (v := some (.int (1 : Int32))) (fun h => by rw [Bd.returns] at h; cases h)
    refine ⟨_, _, pre26 _ ?_, hrun, hended, _, _, rfl, ?_, ⟨_, rfl⟩, hWr, hsame.mono (Nat.le_of_ble_eq_true rfl) (Nat.le_of_ble_eq_true rfl)⟩
    · show Steps p.tables e below (T25.setTop (mkF m 90 #[.val (.int i0), .val (.ref b1), .unset, .unset, .unset] [(.int (12 : Int32)), (.int (i0 &&& (2147483647 : Int32)))])) _
      refine iremM X25 hx rfl (hb hby at_90) rfl (by decide) ?_
      show Steps p.tables e below (T25.setTop (mkF m 91 #[.val (.int i0), .val (.ref b1), .unset, .unset, .unset] [(.int ((i0 &&& (2147483647 : Int32)) % (12 : Int32)))])) _
      rw [hk37]
      show Steps p.tables e below (T25.setTop (mkF m 91 #[.val (.int i0), .val (.ref b1), .unset, .unset, .unset] [(.int (10 : Int32))])) _
      refine XS.istoreN X25.here hx rfl (hb hby at_91) rfl (l' := #[.val (.int i0), .val (.ref b1), .val (.int (10 : Int32)), .unset, .unset]) rfl ?_
      show Steps p.tables e below (T25.setTop (mkF m 92 #[.val (.int i0), .val (.ref b1), .val (.int (10 : Int32)), .unset, .unset] [])) _
      refine XS.aloadN X25.here hx rfl (hb hby at_92) rfl rfl ?_
      show Steps p.tables e below (T25.setTop (mkF m 93 #[.val (.int i0), .val (.ref b1), .val (.int (10 : Int32)), .unset, .unset] [(.ref b1)])) _
      refine XS.iloadN X25.here hx rfl (hb hby at_93) rfl ?_
      show Steps p.tables e below (T25.setTop (mkF m 94 #[.val (.int i0), .val (.ref b1), .val (.int (10 : Int32)), .unset, .unset] [(.int (10 : Int32)), (.ref b1)])) _
      refine X25.aaload hx (j := (10 : Int32)) (v := (.ref w10)) (by rw [e25]; exact Ar93.1) (State.isArrayOf_alike hZ.alike Ar93.2.1) rfl Ar93.2.2 hin93 hat93 (g := (mkF m 94 #[.val (.int i0), .val (.ref b1), .val (.int (10 : Int32)), .unset, .unset] [(.int (10 : Int32)), (.ref b1)])) rfl rfl (hb hby at_94) _ ?_
      show Steps p.tables e below (T25.setTop (mkF m 95 #[.val (.int i0), .val (.ref b1), .val (.int (10 : Int32)), .unset, .unset] [(.ref w10)])) _
      refine XS.astoreN X25.here hx rfl (hb hby at_95) rfl rfl (l' := #[.val (.int i0), .val (.ref b1), .val (.int (10 : Int32)), .val (.ref w10), .unset]) rfl ?_
      show Steps p.tables e below (T25.setTop (mkF m 96 #[.val (.int i0), .val (.ref b1), .val (.int (10 : Int32)), .val (.ref w10), .unset] [])) _
      refine XS.iloadN X25.here hx rfl (hb hby at_96) rfl ?_
      show Steps p.tables e below (T25.setTop (mkF m 97 #[.val (.int i0), .val (.ref b1), .val (.int (10 : Int32)), .val (.ref w10), .unset] [(.int (10 : Int32))])) _
      refine XS.ifNo X25.here hx rfl (hb hby at_97) rfl (by decide) ?_
      show Steps p.tables e below (T25.setTop (mkF m 100 #[.val (.int i0), .val (.ref b1), .val (.int (10 : Int32)), .val (.ref w10), .unset] [])) _
      refine XS.iloadN X25.here hx rfl (hb hby at_100) rfl ?_
      show Steps p.tables e below (T25.setTop (mkF m 101 #[.val (.int i0), .val (.ref b1), .val (.int (10 : Int32)), .val (.ref w10), .unset] [(.int (10 : Int32))])) _
      refine XS.iconst X25.here hx rfl (hb hby at_101) ?_
      show Steps p.tables e below (T25.setTop (mkF m 102 #[.val (.int i0), .val (.ref b1), .val (.int (10 : Int32)), .val (.ref w10), .unset] [(.int (1 : Int32)), (.int (10 : Int32))])) _
      refine XS.icmpNo X25.here hx rfl (hb hby at_102) rfl (by decide) ?_
      show Steps p.tables e below (T25.setTop (mkF m 105 #[.val (.int i0), .val (.ref b1), .val (.int (10 : Int32)), .val (.ref w10), .unset] [])) _
      refine XS.iloadN X25.here hx rfl (hb hby at_105) rfl ?_
      show Steps p.tables e below (T25.setTop (mkF m 106 #[.val (.int i0), .val (.ref b1), .val (.int (10 : Int32)), .val (.ref w10), .unset] [(.int (10 : Int32))])) _
      refine XS.iconst X25.here hx rfl (hb hby at_106) ?_
      show Steps p.tables e below (T25.setTop (mkF m 107 #[.val (.int i0), .val (.ref b1), .val (.int (10 : Int32)), .val (.ref w10), .unset] [(.int (3 : Int32)), (.int (10 : Int32))])) _
      refine XS.icmpNo X25.here hx rfl (hb hby at_107) rfl (by decide) ?_
      show Steps p.tables e below (T25.setTop (mkF m 110 #[.val (.int i0), .val (.ref b1), .val (.int (10 : Int32)), .val (.ref w10), .unset] [])) _
      refine XS.iloadN X25.here hx rfl (hb hby at_110) rfl ?_
      show Steps p.tables e below (T25.setTop (mkF m 111 #[.val (.int i0), .val (.ref b1), .val (.int (10 : Int32)), .val (.ref w10), .unset] [(.int (10 : Int32))])) _
      refine XS.iconst X25.here hx rfl (hb hby at_111) ?_
      show Steps p.tables e below (T25.setTop (mkF m 112 #[.val (.int i0), .val (.ref b1), .val (.int (10 : Int32)), .val (.ref w10), .unset] [(.int (4 : Int32)), (.int (10 : Int32))])) _
      refine XS.icmpYes X25.here hx rfl (pc0 := 112) (pc' := 119) rfl (hb hby at_112) rfl (by decide) (by decide) (by decide) ?_
      show Steps p.tables e below (T25.setTop (mkF m 119 #[.val (.int i0), .val (.ref b1), .val (.int (10 : Int32)), .val (.ref w10), .unset] [])) _
      refine XS.iconst X25.here hx rfl (hb hby at_119) ?_
      show Steps p.tables e below (T25.setTop (mkF m 120 #[.val (.int i0), .val (.ref b1), .val (.int (10 : Int32)), .val (.ref w10), .unset] [(.int (0 : Int32))])) _
      refine XS.istore X25.here hx rfl (hb hby at_120) rfl (l' := #[.val (.int i0), .val (.ref b1), .val (.int (10 : Int32)), .val (.ref w10), .val (.int (0 : Int32))]) rfl ?_
      show Steps p.tables e below (T25.setTop (mkF m 122 #[.val (.int i0), .val (.ref b1), .val (.int (10 : Int32)), .val (.ref w10), .val (.int (0 : Int32))] [])) _
      refine XS.aloadN X25.here hx rfl (hb hby at_122) rfl rfl ?_
      show Steps p.tables e below (T25.setTop (mkF m 123 #[.val (.int i0), .val (.ref b1), .val (.int (10 : Int32)), .val (.ref w10), .val (.int (0 : Int32))] [(.ref w10)])) _
      refine st98.trans ?_
      show Steps p.tables e below (T98.setTop (mkF m 126 #[.val (.int i0), .val (.ref b1), .val (.int (10 : Int32)), .val (.ref w10), .val (.int (0 : Int32))] [(.int (0 : Int32))])) _
      refine XS.iload X98.here hx rfl (hb hby at_126) rfl ?_
      show Steps p.tables e below (T98.setTop (mkF m 128 #[.val (.int i0), .val (.ref b1), .val (.int (10 : Int32)), .val (.ref w10), .val (.int (0 : Int32))] [(.int (0 : Int32)), (.int (0 : Int32))])) _
      refine XS.icmpNo X98.here hx rfl (hb hby at_128) rfl (by decide) ?_
      show Steps p.tables e below (T98.setTop (mkF m 131 #[.val (.int i0), .val (.ref b1), .val (.int (10 : Int32)), .val (.ref w10), .val (.int (0 : Int32))] [])) _
      refine XS.iconst X98.here hx rfl (hb hby at_131) ?_
      show Steps p.tables e below (T98.setTop (mkF m 132 #[.val (.int i0), .val (.ref b1), .val (.int (10 : Int32)), .val (.ref w10), .val (.int (0 : Int32))] [(.int (1 : Int32))])) _
      refine XS.goto X98.here hx rfl (pc0 := 132) (pc' := 136) rfl (hb hby at_132) (by decide) (by decide) ?_
      show Steps p.tables e below (T98.setTop (mkF m 136 #[.val (.int i0), .val (.ref b1), .val (.int (10 : Int32)), .val (.ref w10), .val (.int (0 : Int32))] [(.int (1 : Int32))])) _
      exact retN X98 hx (t := .boolean) Bd.returns (by simp) (hb hby at_136) hr
    · show Ql n0 _ T98.heap _
      exact ⟨rfl, N98⟩
  · obtain ⟨cl99, Ar99, q99, S99, M99, H99, G99⟩ := V25
    have hin99 : ¬ ((11 : Int32) < 0 ∨ cl99.slots.size ≤ ((11 : Int32)).toNatClampNeg) := inb_of S99 ⟨by decide, by decide⟩
    have hat99 : cl99.slots[((11 : Int32)).toNatClampNeg]? = some (.ref w11) := Has.at H99 hin99 rfl
    obtain ⟨cq104, kq104, q104a, q104b, q104c⟩ := isOf hZ e25 (wE11.ext O_25.2)
    obtain ⟨_, _, ⟨T104, L104, k104, n104⟩, -, X104, ⟨Lc104, hQ104, l104, y104, z104⟩, st104⟩ := X25.virtualBack hx (y := (⟨"com/example/weaverbird/weaverbird/codes/RunState", "unended", "()Z"⟩ : MethodName)) (z := (⟨"com/example/weaverbird/weaverbird/codes/RunState", "unended", "()Z"⟩ : MethodName)) hown (mvT hZ (hw _ (List.mem_of_getElem? (i := 29) rfl))) (mvT hZ (hw _ (List.mem_of_getElem? (i := 30) rfl))) (notFace_of_selects (args := #[]) (mvT hZ (hw _ (List.mem_of_getElem? (i := 32) rfl)))) (mvT hZ (hw _ (List.mem_of_getElem? (i := 32) rfl))) (mvT hZ (hw _ (List.mem_of_getElem? (i := 31) rfl))) (by decide) (backOf (W := 0) (rm12 l Z a0 hw [] w0 w1 w2 w3 w4 w5 w6 w7 w8 w9 w10 w11 h25 n0 hWd O_25) hZ (hw _ (List.mem_of_getElem? (i := 33) rfl)) (hw _ (List.mem_of_getElem? (i := 3) rfl)) (by decide) (by decide)) q104a q104c (g := (mkF m 123 #[.val (.int i0), .val (.ref b1), .val (.int (11 : Int32)), .val (.ref w11), .val (.int (0 : Int32))] [(.ref w11)])) rfl (by rw [hml]; rfl) (Steps.refl _) (argsL := []) (rest := []) (lenOf pd0 rfl) rfl (by show 2 * 0 + _ ≤ _; exact Nat.le_of_eq rfl) (hb hby at_123) (fun _ _ => ⟨rfl, e25, (by decide : 1 + 0 ≤ _), (by decide : 12 + 0 ≤ _)⟩)
    dsimp only [Pt.U, Pt.locs, Pt.cells, Pt.slots] at X104 l104 y104 z104 st104 hQ104
    subst l104 y104 z104
    obtain ⟨rfl, N104q, e104⟩ := hQ104
    have N104 := Fr.app N25 N104q
    obtain ⟨fs, hr, hrun, hended, hWr, hsame⟩ := X104.leave (v := some (.int (1 : Int32))) (fun h => by rw [Bd.returns] at h; cases h)
    refine ⟨_, _, pre26 _ ?_, hrun, hended, _, _, rfl, ?_, ⟨_, rfl⟩, hWr, hsame.mono (Nat.le_of_ble_eq_true rfl) (Nat.le_of_ble_eq_true rfl)⟩
    · show Steps p.tables e below (T25.setTop (mkF m 90 #[.val (.int i0), .val (.ref b1), .unset, .unset, .unset] [(.int (12 : Int32)), (.int (i0 &&& (2147483647 : Int32)))])) _
      refine iremM X25 hx rfl (hb hby at_90) rfl (by decide) ?_
      show Steps p.tables e below (T25.setTop (mkF m 91 #[.val (.int i0), .val (.ref b1), .unset, .unset, .unset] [(.int ((i0 &&& (2147483647 : Int32)) % (12 : Int32)))])) _
      rw [hk38]
      show Steps p.tables e below (T25.setTop (mkF m 91 #[.val (.int i0), .val (.ref b1), .unset, .unset, .unset] [(.int (11 : Int32))])) _
      refine XS.istoreN X25.here hx rfl (hb hby at_91) rfl (l' := #[.val (.int i0), .val (.ref b1), .val (.int (11 : Int32)), .unset, .unset]) rfl ?_
      show Steps p.tables e below (T25.setTop (mkF m 92 #[.val (.int i0), .val (.ref b1), .val (.int (11 : Int32)), .unset, .unset] [])) _
      refine XS.aloadN X25.here hx rfl (hb hby at_92) rfl rfl ?_
      show Steps p.tables e below (T25.setTop (mkF m 93 #[.val (.int i0), .val (.ref b1), .val (.int (11 : Int32)), .unset, .unset] [(.ref b1)])) _
      refine XS.iloadN X25.here hx rfl (hb hby at_93) rfl ?_
      show Steps p.tables e below (T25.setTop (mkF m 94 #[.val (.int i0), .val (.ref b1), .val (.int (11 : Int32)), .unset, .unset] [(.int (11 : Int32)), (.ref b1)])) _
      refine X25.aaload hx (j := (11 : Int32)) (v := (.ref w11)) (by rw [e25]; exact Ar99.1) (State.isArrayOf_alike hZ.alike Ar99.2.1) rfl Ar99.2.2 hin99 hat99 (g := (mkF m 94 #[.val (.int i0), .val (.ref b1), .val (.int (11 : Int32)), .unset, .unset] [(.int (11 : Int32)), (.ref b1)])) rfl rfl (hb hby at_94) _ ?_
      show Steps p.tables e below (T25.setTop (mkF m 95 #[.val (.int i0), .val (.ref b1), .val (.int (11 : Int32)), .unset, .unset] [(.ref w11)])) _
      refine XS.astoreN X25.here hx rfl (hb hby at_95) rfl rfl (l' := #[.val (.int i0), .val (.ref b1), .val (.int (11 : Int32)), .val (.ref w11), .unset]) rfl ?_
      show Steps p.tables e below (T25.setTop (mkF m 96 #[.val (.int i0), .val (.ref b1), .val (.int (11 : Int32)), .val (.ref w11), .unset] [])) _
      refine XS.iloadN X25.here hx rfl (hb hby at_96) rfl ?_
      show Steps p.tables e below (T25.setTop (mkF m 97 #[.val (.int i0), .val (.ref b1), .val (.int (11 : Int32)), .val (.ref w11), .unset] [(.int (11 : Int32))])) _
      refine XS.ifNo X25.here hx rfl (hb hby at_97) rfl (by decide) ?_
      show Steps p.tables e below (T25.setTop (mkF m 100 #[.val (.int i0), .val (.ref b1), .val (.int (11 : Int32)), .val (.ref w11), .unset] [])) _
      refine XS.iloadN X25.here hx rfl (hb hby at_100) rfl ?_
      show Steps p.tables e below (T25.setTop (mkF m 101 #[.val (.int i0), .val (.ref b1), .val (.int (11 : Int32)), .val (.ref w11), .unset] [(.int (11 : Int32))])) _
      refine XS.iconst X25.here hx rfl (hb hby at_101) ?_
      show Steps p.tables e below (T25.setTop (mkF m 102 #[.val (.int i0), .val (.ref b1), .val (.int (11 : Int32)), .val (.ref w11), .unset] [(.int (1 : Int32)), (.int (11 : Int32))])) _
      refine XS.icmpNo X25.here hx rfl (hb hby at_102) rfl (by decide) ?_
      show Steps p.tables e below (T25.setTop (mkF m 105 #[.val (.int i0), .val (.ref b1), .val (.int (11 : Int32)), .val (.ref w11), .unset] [])) _
      refine XS.iloadN X25.here hx rfl (hb hby at_105) rfl ?_
      show Steps p.tables e below (T25.setTop (mkF m 106 #[.val (.int i0), .val (.ref b1), .val (.int (11 : Int32)), .val (.ref w11), .unset] [(.int (11 : Int32))])) _
      refine XS.iconst X25.here hx rfl (hb hby at_106) ?_
      show Steps p.tables e below (T25.setTop (mkF m 107 #[.val (.int i0), .val (.ref b1), .val (.int (11 : Int32)), .val (.ref w11), .unset] [(.int (3 : Int32)), (.int (11 : Int32))])) _
      refine XS.icmpNo X25.here hx rfl (hb hby at_107) rfl (by decide) ?_
      show Steps p.tables e below (T25.setTop (mkF m 110 #[.val (.int i0), .val (.ref b1), .val (.int (11 : Int32)), .val (.ref w11), .unset] [])) _
      refine XS.iloadN X25.here hx rfl (hb hby at_110) rfl ?_
      show Steps p.tables e below (T25.setTop (mkF m 111 #[.val (.int i0), .val (.ref b1), .val (.int (11 : Int32)), .val (.ref w11), .unset] [(.int (11 : Int32))])) _
      refine XS.iconst X25.here hx rfl (hb hby at_111) ?_
      show Steps p.tables e below (T25.setTop (mkF m 112 #[.val (.int i0), .val (.ref b1), .val (.int (11 : Int32)), .val (.ref w11), .unset] [(.int (4 : Int32)), (.int (11 : Int32))])) _
      refine XS.icmpYes X25.here hx rfl (pc0 := 112) (pc' := 119) rfl (hb hby at_112) rfl (by decide) (by decide) (by decide) ?_
      show Steps p.tables e below (T25.setTop (mkF m 119 #[.val (.int i0), .val (.ref b1), .val (.int (11 : Int32)), .val (.ref w11), .unset] [])) _
      refine XS.iconst X25.here hx rfl (hb hby at_119) ?_
      show Steps p.tables e below (T25.setTop (mkF m 120 #[.val (.int i0), .val (.ref b1), .val (.int (11 : Int32)), .val (.ref w11), .unset] [(.int (0 : Int32))])) _
      refine XS.istore X25.here hx rfl (hb hby at_120) rfl (l' := #[.val (.int i0), .val (.ref b1), .val (.int (11 : Int32)), .val (.ref w11), .val (.int (0 : Int32))]) rfl ?_
      show Steps p.tables e below (T25.setTop (mkF m 122 #[.val (.int i0), .val (.ref b1), .val (.int (11 : Int32)), .val (.ref w11), .val (.int (0 : Int32))] [])) _
      refine XS.aloadN X25.here hx rfl (hb hby at_122) rfl rfl ?_
      show Steps p.tables e below (T25.setTop (mkF m 123 #[.val (.int i0), .val (.ref b1), .val (.int (11 : Int32)), .val (.ref w11), .val (.int (0 : Int32))] [(.ref w11)])) _
      refine st104.trans ?_
      show Steps p.tables e below (T104.setTop (mkF m 126 #[.val (.int i0), .val (.ref b1), .val (.int (11 : Int32)), .val (.ref w11), .val (.int (0 : Int32))] [(.int (0 : Int32))])) _
      refine XS.iload X104.here hx rfl (hb hby at_126) rfl ?_
      show Steps p.tables e below (T104.setTop (mkF m 128 #[.val (.int i0), .val (.ref b1), .val (.int (11 : Int32)), .val (.ref w11), .val (.int (0 : Int32))] [(.int (0 : Int32)), (.int (0 : Int32))])) _
      refine XS.icmpNo X104.here hx rfl (hb hby at_128) rfl (by decide) ?_
      show Steps p.tables e below (T104.setTop (mkF m 131 #[.val (.int i0), .val (.ref b1), .val (.int (11 : Int32)), .val (.ref w11), .val (.int (0 : Int32))] [])) _
      refine XS.iconst X104.here hx rfl (hb hby at_131) ?_
      show Steps p.tables e below (T104.setTop (mkF m 132 #[.val (.int i0), .val (.ref b1), .val (.int (11 : Int32)), .val (.ref w11), .val (.int (0 : Int32))] [(.int (1 : Int32))])) _
      refine XS.goto X104.here hx rfl (pc0 := 132) (pc' := 136) rfl (hb hby at_132) (by decide) (by decide) ?_
      show Steps p.tables e below (T104.setTop (mkF m 136 #[.val (.int i0), .val (.ref b1), .val (.int (11 : Int32)), .val (.ref w11), .val (.int (0 : Int32))] [(.int (1 : Int32))])) _
      exact retN X104 hx (t := .boolean) Bd.returns (by simp) (hb hby at_136) hr
    · show Ql n0 _ T104.heap _
      exact ⟨rfl, N104⟩
set_option maxRecDepth 65536 in
set_option maxHeartbeats 40000000 in
theorem comes_1 {Post : Tables → Env → Array Value → State → Outcome → State → Prop} (hpost : ∀ tb e args s v u, (limb_1_1.after args s (.returned v) u = true ∧ limb_1_2.after args s (.returned v) u = true ∧ True) → FrameEnd s (.returned v) u (Jvm.fieldLocs frame_1_writes args s ++ Jvm.arrayLocs frame_1_arrays args s ++ Jvm.staticLocs frame_1_statics s) 16 128 → Post tb e args s (.returned v) u) :
    ArmFor flags0 classFile x code maxLocals ret World_1 tables_1 room_1 Calls_1 rest_1 Pre_1 Post := by
  intro l hfl _ _ p e ha hc hk s m args below hf hA hF happ hP
  obtain ⟨hcalls, hrest, hpre⟩ := hP
  obtain ⟨-, -, -, hnamed, -, -, -, hat⟩ := (Spec.applies_iff hf).mp happ
  obtain ⟨hg, hn⟩ := and_e (Cond.before_iff.mp (show (Jvm.Cond.and given_1 narrow_1).before args s = true from hpre))
  obtain ⟨gc, g0⟩ := and_e hg
  obtain ⟨x0, rfl⟩ : ∃ x0 : Value, args = #[x0] := by
    have hs : args.size = 1 := by simpa [Cond.value, given_1] using gc
    obtain ⟨L⟩ := args
    match L, hs with
    | [x0], _ => exact ⟨x0, rfl⟩
  have hw := fun d (hd : d ∈ tables_1) => atoms_spec (ws := Jvm.Cond.code x code maxLocals ret :: tables_1) hat d (List.mem_cons_of_mem _ hd)
  have hfit : Fit s := fun {y c} hc i hi => by
    obtain ⟨ha, rfl⟩ := Array.getElem?_eq_some_iff.mp hc
    have q := List.all_eq_true.mp ((Array.all_eq_true_iff_forall_mem.mp hF) _ (Array.getElem_mem ha)) i (List.mem_range.mpr hi)
    simpa [Array.getElem?_eq_getElem hi] using q
  obtain ⟨i0, ei0⟩ := is_v g0
  obtain rfl : x0 = (.int i0) := Option.some.inj ei0
  obtain ⟨c0, r0⟩ := and_e hn
  obtain ⟨c1, r1⟩ := and_e r0
  obtain ⟨c2, r2⟩ := and_e r1
  obtain ⟨c3, r3⟩ := and_e r2
  obtain ⟨c4, r4⟩ := and_e r3
  obtain ⟨c5, r5⟩ := and_e r4
  obtain ⟨c6, r6⟩ := and_e r5
  obtain ⟨c7, r7⟩ := and_e r6
  obtain ⟨c8, r8⟩ := and_e r7
  obtain ⟨c9, r9⟩ := and_e r8
  obtain ⟨c10, r10⟩ := and_e r9
  obtain ⟨c11, r11⟩ := and_e r10
  obtain ⟨c12, r12⟩ := and_e r11
  obtain ⟨c13, r13⟩ := and_e r12
  obtain ⟨c14, r14⟩ := and_e r13
  obtain ⟨c15, r15⟩ := and_e r14
  obtain ⟨c16, r16⟩ := and_e r15
  obtain ⟨c17, r17⟩ := and_e r16
  obtain ⟨c18, r18⟩ := and_e r17
  obtain ⟨c19, r19⟩ := and_e r18
  obtain ⟨c20, r20⟩ := and_e r19
  obtain ⟨c21, r21⟩ := and_e r20
  obtain ⟨c22, r22⟩ := and_e r21
  obtain ⟨w0, ev0⟩ := exa_v c0
  have wE0 : Exa s s.heap w0 "com/example/weaverbird/weaverbird/codes/RunState" := Exa.start ev0 c0
  have wS0 : Sta s s.heap "com/example/weaverbird/weaverbird/codes/RunState" "SUBMITTED" "Lcom/example/weaverbird/weaverbird/codes/RunState;" (.ref w0) := Sta.start ev0 (Or.inr ⟨(hw _ (List.mem_of_getElem? (i := 3) rfl)), (hw _ (List.mem_of_getElem? (i := 4) rfl))⟩)
  obtain ⟨w1, ev1⟩ := exa_v c1
  have wE1 : Exa s s.heap w1 "com/example/weaverbird/weaverbird/codes/RunState" := Exa.start ev1 c1
  have wS1 : Sta s s.heap "com/example/weaverbird/weaverbird/codes/RunState" "RUNNING" "Lcom/example/weaverbird/weaverbird/codes/RunState;" (.ref w1) := Sta.start ev1 (Or.inr ⟨(hw _ (List.mem_of_getElem? (i := 3) rfl)), (hw _ (List.mem_of_getElem? (i := 7) rfl))⟩)
  obtain ⟨w2, ev2⟩ := exa_v c2
  have wE2 : Exa s s.heap w2 "com/example/weaverbird/weaverbird/codes/RunState" := Exa.start ev2 c2
  have wS2 : Sta s s.heap "com/example/weaverbird/weaverbird/codes/RunState" "PAUSING" "Lcom/example/weaverbird/weaverbird/codes/RunState;" (.ref w2) := Sta.start ev2 (Or.inr ⟨(hw _ (List.mem_of_getElem? (i := 3) rfl)), (hw _ (List.mem_of_getElem? (i := 9) rfl))⟩)
  obtain ⟨w3, ev3⟩ := exa_v c3
  have wE3 : Exa s s.heap w3 "com/example/weaverbird/weaverbird/codes/RunState" := Exa.start ev3 c3
  have wS3 : Sta s s.heap "com/example/weaverbird/weaverbird/codes/RunState" "PAUSED" "Lcom/example/weaverbird/weaverbird/codes/RunState;" (.ref w3) := Sta.start ev3 (Or.inr ⟨(hw _ (List.mem_of_getElem? (i := 3) rfl)), (hw _ (List.mem_of_getElem? (i := 11) rfl))⟩)
  obtain ⟨w4, ev4⟩ := exa_v c4
  have wE4 : Exa s s.heap w4 "com/example/weaverbird/weaverbird/codes/RunState" := Exa.start ev4 c4
  have wS4 : Sta s s.heap "com/example/weaverbird/weaverbird/codes/RunState" "STOPPING" "Lcom/example/weaverbird/weaverbird/codes/RunState;" (.ref w4) := Sta.start ev4 (Or.inr ⟨(hw _ (List.mem_of_getElem? (i := 3) rfl)), (hw _ (List.mem_of_getElem? (i := 13) rfl))⟩)
  obtain ⟨w5, ev5⟩ := exa_v c5
  have wE5 : Exa s s.heap w5 "com/example/weaverbird/weaverbird/codes/RunState" := Exa.start ev5 c5
  have wS5 : Sta s s.heap "com/example/weaverbird/weaverbird/codes/RunState" "STOPPED" "Lcom/example/weaverbird/weaverbird/codes/RunState;" (.ref w5) := Sta.start ev5 (Or.inr ⟨(hw _ (List.mem_of_getElem? (i := 3) rfl)), (hw _ (List.mem_of_getElem? (i := 15) rfl))⟩)
  obtain ⟨w6, ev6⟩ := exa_v c6
  have wE6 : Exa s s.heap w6 "com/example/weaverbird/weaverbird/codes/RunState" := Exa.start ev6 c6
  have wS6 : Sta s s.heap "com/example/weaverbird/weaverbird/codes/RunState" "FAILED" "Lcom/example/weaverbird/weaverbird/codes/RunState;" (.ref w6) := Sta.start ev6 (Or.inr ⟨(hw _ (List.mem_of_getElem? (i := 3) rfl)), (hw _ (List.mem_of_getElem? (i := 17) rfl))⟩)
  obtain ⟨w7, ev7⟩ := exa_v c7
  have wE7 : Exa s s.heap w7 "com/example/weaverbird/weaverbird/codes/RunState" := Exa.start ev7 c7
  have wS7 : Sta s s.heap "com/example/weaverbird/weaverbird/codes/RunState" "SUCCEEDED" "Lcom/example/weaverbird/weaverbird/codes/RunState;" (.ref w7) := Sta.start ev7 (Or.inr ⟨(hw _ (List.mem_of_getElem? (i := 3) rfl)), (hw _ (List.mem_of_getElem? (i := 19) rfl))⟩)
  obtain ⟨w8, ev8⟩ := exa_v c8
  have wE8 : Exa s s.heap w8 "com/example/weaverbird/weaverbird/codes/RunState" := Exa.start ev8 c8
  have wS8 : Sta s s.heap "com/example/weaverbird/weaverbird/codes/RunState" "NEEDS_FAILOVER" "Lcom/example/weaverbird/weaverbird/codes/RunState;" (.ref w8) := Sta.start ev8 (Or.inr ⟨(hw _ (List.mem_of_getElem? (i := 3) rfl)), (hw _ (List.mem_of_getElem? (i := 21) rfl))⟩)
  obtain ⟨w9, ev9⟩ := exa_v c9
  have wE9 : Exa s s.heap w9 "com/example/weaverbird/weaverbird/codes/RunState" := Exa.start ev9 c9
  have wS9 : Sta s s.heap "com/example/weaverbird/weaverbird/codes/RunState" "KILLED" "Lcom/example/weaverbird/weaverbird/codes/RunState;" (.ref w9) := Sta.start ev9 (Or.inr ⟨(hw _ (List.mem_of_getElem? (i := 3) rfl)), (hw _ (List.mem_of_getElem? (i := 23) rfl))⟩)
  obtain ⟨w10, ev10⟩ := exa_v c10
  have wE10 : Exa s s.heap w10 "com/example/weaverbird/weaverbird/codes/RunState" := Exa.start ev10 c10
  have wS10 : Sta s s.heap "com/example/weaverbird/weaverbird/codes/RunState" "WAITING_THREAD" "Lcom/example/weaverbird/weaverbird/codes/RunState;" (.ref w10) := Sta.start ev10 (Or.inr ⟨(hw _ (List.mem_of_getElem? (i := 3) rfl)), (hw _ (List.mem_of_getElem? (i := 25) rfl))⟩)
  obtain ⟨w11, ev11⟩ := exa_v c11
  have wE11 : Exa s s.heap w11 "com/example/weaverbird/weaverbird/codes/RunState" := Exa.start ev11 c11
  have wS11 : Sta s s.heap "com/example/weaverbird/weaverbird/codes/RunState" "WAITING_DEPENDENCY" "Lcom/example/weaverbird/weaverbird/codes/RunState;" (.ref w11) := Sta.start ev11 (Or.inr ⟨(hw _ (List.mem_of_getElem? (i := 3) rfl)), (hw _ (List.mem_of_getElem? (i := 27) rfl))⟩)
  have wF3_ordinal : Fld s s.heap w3 "java/lang/Enum" "ordinal" "I" (.int (3 : Int32)) := Fld.start ((fld_at ev3).symm.trans (eqv_i (Term.int_eval _) c12))
  have wF0_ordinal : Fld s s.heap w0 "java/lang/Enum" "ordinal" "I" (.int (0 : Int32)) := Fld.start ((fld_at ev0).symm.trans (eqv_i (Term.int_eval _) c13))
  have wF1_ordinal : Fld s s.heap w1 "java/lang/Enum" "ordinal" "I" (.int (1 : Int32)) := Fld.start ((fld_at ev1).symm.trans (eqv_i (Term.int_eval _) c14))
  have wF4_ordinal : Fld s s.heap w4 "java/lang/Enum" "ordinal" "I" (.int (4 : Int32)) := Fld.start ((fld_at ev4).symm.trans (eqv_i (Term.int_eval _) c15))
  have wF2_ordinal : Fld s s.heap w2 "java/lang/Enum" "ordinal" "I" (.int (2 : Int32)) := Fld.start ((fld_at ev2).symm.trans (eqv_i (Term.int_eval _) c16))
  have wF7_ordinal : Fld s s.heap w7 "java/lang/Enum" "ordinal" "I" (.int (7 : Int32)) := Fld.start ((fld_at ev7).symm.trans (eqv_i (Term.int_eval _) c17))
  have wF11_ordinal : Fld s s.heap w11 "java/lang/Enum" "ordinal" "I" (.int (11 : Int32)) := Fld.start ((fld_at ev11).symm.trans (eqv_i (Term.int_eval _) c18))
  have wF8_ordinal : Fld s s.heap w8 "java/lang/Enum" "ordinal" "I" (.int (8 : Int32)) := Fld.start ((fld_at ev8).symm.trans (eqv_i (Term.int_eval _) c19))
  have wF10_ordinal : Fld s s.heap w10 "java/lang/Enum" "ordinal" "I" (.int (10 : Int32)) := Fld.start ((fld_at ev10).symm.trans (eqv_i (Term.int_eval _) c20))
  have wF9_ordinal : Fld s s.heap w9 "java/lang/Enum" "ordinal" "I" (.int (9 : Int32)) := Fld.start ((fld_at ev9).symm.trans (eqv_i (Term.int_eval _) c21))
  have wF6_ordinal : Fld s s.heap w6 "java/lang/Enum" "ordinal" "I" (.int (6 : Int32)) := Fld.start ((fld_at ev6).symm.trans (eqv_i (Term.int_eval _) c22))
  have wF5_ordinal : Fld s s.heap w5 "java/lang/Enum" "ordinal" "I" (.int (5 : Int32)) := Fld.start ((fld_at ev5).symm.trans (eqv_i (Term.int_eval _) r22))
  have hWd : Wd s w0 w1 w2 w3 w4 w5 w6 w7 w8 w9 w10 w11 := ⟨wS0, wE0, wS1, wE1, wS2, wE2, wS3, wE3, wS4, wE4, wS5, wE5, wS6, wE6, wS7, wE7, wS8, wE8, wS9, wE9, wS10, wE10, wS11, wE11, wF3_ordinal, wF0_ordinal, wF1_ordinal, wF4_ordinal, wF2_ordinal, wF7_ordinal, wF11_ordinal, wF8_ordinal, wF10_ordinal, wF9_ordinal, wF6_ordinal, wF5_ordinal, trivial⟩
  obtain ⟨n, o, h1, h2, h3, _, L, rfl, ⟨rfl, N⟩, hq⟩ := rm0 l s _ hw tables_1 w0 w1 w2 w3 w4 w5 w6 w7 w8 w9 w10 w11 i0 s.heap s.heap.size hWd (Old.start s) p e ha hc hk s m _ below hf ((Spec.applies_iff_loose hf).mp happ).1 ⟨rfl, State.Warmed39.refl s, rfl⟩ trivial
  exact ⟨n, _, h1, h2, h3, hpost _ _ _ _ _ _ ⟨Cond.after_iff.mpr rfl, Cond.after_iff.mpr (eq_i res_at (Term.int_eval (1)) rfl), trivial⟩ ⟨hq.1, hq.2.1, (hq.2.2.sift fun y hy => Or.inr (N y hy)).mono (by decide) (by decide)⟩⟩
theorem main_1_1 : Claimed_1_1 := comes_1 fun _ _ _ _ _ _ h hF => ⟨h.1, hF⟩
theorem main_1_2 : Claimed_1_2 := comes_1 fun _ _ _ _ _ _ h hF => ⟨h.2.1, hF⟩
end Jvm.Pilot.@@N@@
namespace Jvm.Pilot.@@N@@
open Jvm Jvm.ClassFile Sem Op Lib Jvm.Free Jvm.Stand Jvm.Pilot.@@N@@.Jvm.D
/-! MADE BY PROGRAM (witnessworld.py) out of the Statement's table words and the real class files: 14 classes; the members and pool entries that the words name. The judged class is class 1, her method 1. -/
namespace start1
open Jvm.ClassFile
def u (s : String) : CpInfo := .utf8 (stringToUtf16 s)
/-- a pool by its gaps: so many unusable entries, then the entry; so many at the end -/
def gap : Nat → List CpInfo → List CpInfo
  | 0, r => r
  | n + 1, r => .unusable :: gap n r
def poolList (es : List (Nat × CpInfo)) (last : Nat) : List CpInfo := es.foldr (fun e r => gap e.1 (e.2 :: r)) (gap last [])
def pool (es : List (Nat × CpInfo)) (last : Nat) : Array CpInfo := ⟨poolList es last⟩
def fileOf (pool : Array CpInfo) (this : Nat) (attrs : Array Attribute := #[]) (ms : Array MethodInfo := #[]) (fl : Nat := 33) (sup : Nat := 0) (ifs : Array Nat := #[]) (fds : Array FieldInfo := #[]) : ClassFile where
  minorVersion := 0
  majorVersion := 65
  constantPool := pool
  accessFlags := fl
  thisClass := this
  superClass := sup
  interfaces := ifs
  fields := fds
  methods := ms
  attributes := attrs
def plain (name : String) (sup : Option ClassId) : Class where
  name := name
  kind := .ordinary
  loader := none
  accessFlags := 33
  super := sup
  interfaces := #[]
  cf := none
  fields := #[]
  methods := #[]
  instanceTypes := #[]
  staticTypes := #[]
  resolved := #[]
  callSites := []
  init := .initialized
  statics := none
  mirror := none

def pool0 : Array CpInfo := pool [(5, u "<init>"), (0, u "()V"), (1, .class_ 10), (1, u "java/lang/Object")] 113

def k0m0 : Method := { name := "<init>", desc := "()V", sig := { parameters := [], returnType := none }, accessFlags := 1, code := none }
/-- java/lang/Object -/
def k0 : Class := { plain "java/lang/Object" none with
  accessFlags := 33
  interfaces := #[]
  cf := some (fileOf pool0 8 #[] #[{ accessFlags := 1, nameIndex := 5, descriptorIndex := 6, attributes := #[] }] 33 0 #[] #[])
  fields := #[]
  methods := #[k0m0]
  instanceTypes := #[]
  staticTypes := #[]
  resolved := Array.replicate 124 none
  statics := none }

def pool1 : Array CpInfo := pool [(2, .class_ 4), (1, u "java/lang/Object"), (0, u "<init>"), (0, u "()V"), (0, .class_ 8), (0, u "com/example/weaverbird/weaverbird/codes/RunState"), (0, .fieldref 7 10), (0, .nameAndType 11 12), (0, u "SUBMITTED"), (0, u "Lcom/example/weaverbird/weaverbird/codes/RunState;"), (0, .fieldref 7 14), (0, .nameAndType 15 12), (0, u "RUNNING"), (0, .fieldref 7 17), (0, .nameAndType 18 12), (0, u "PAUSING"), (0, .fieldref 7 20), (0, .nameAndType 21 12), (0, u "PAUSED"), (0, .fieldref 7 23), (0, .nameAndType 24 12), (0, u "STOPPING"), (0, .fieldref 7 26), (0, .nameAndType 27 12), (0, u "STOPPED"), (0, .fieldref 7 29), (0, .nameAndType 30 12), (0, u "FAILED"), (0, .fieldref 7 32), (0, .nameAndType 33 12), (0, u "SUCCEEDED"), (0, .fieldref 7 35), (0, .nameAndType 36 12), (0, u "NEEDS_FAILOVER"), (0, .fieldref 7 38), (0, .nameAndType 39 12), (0, u "KILLED"), (0, .fieldref 7 41), (0, .nameAndType 42 12), (0, u "WAITING_THREAD"), (0, .fieldref 7 44), (0, .nameAndType 45 12), (0, u "WAITING_DEPENDENCY"), (0, .integer 2147483647), (0, .methodref 7 48), (0, .nameAndType 49 50), (0, u "unended"), (0, u "()Z"), (0, .class_ 52), (0, u "com/example/weaverbird/weaverbird/codes/RunStateUnendedPinLaw"), (2, u "law"), (0, u "(I)Z")] 5

def k1m0 : Method := { name := "<init>", desc := "()V", sig := { parameters := [], returnType := none }, accessFlags := 1, code := none }
def k1c1 : Code := { maxStack := 4, maxLocals := 5, code := code, exceptionTable := #[], attributes := #[] }
def k1m1 : Method := { name := "law", desc := "(I)Z", sig := { parameters := [.int], returnType := some .boolean }, accessFlags := 9, code := some k1c1 }
/-- com/example/weaverbird/weaverbird/codes/RunStateUnendedPinLaw -/
def k1 : Class := { plain "com/example/weaverbird/weaverbird/codes/RunStateUnendedPinLaw" (some 0) with
  accessFlags := 49
  interfaces := #[]
  cf := some (fileOf pool1 51 #[] #[{ accessFlags := 1, nameIndex := 5, descriptorIndex := 6, attributes := #[] }, { accessFlags := 9, nameIndex := 55, descriptorIndex := 56, attributes := #[] }] 49 2 #[] #[])
  fields := #[]
  methods := #[k1m0, k1m1]
  instanceTypes := #[]
  staticTypes := #[]
  resolved := Array.replicate 62 none
  statics := none }

def pool2 : Array CpInfo := pool [(1, .class_ 2), (0, u "java/lang/constant/Constable"), (0, .class_ 4), (0, u "java/lang/Object")] 6

/-- java/lang/constant/Constable -/
def k2 : Class := { plain "java/lang/constant/Constable" (some 0) with
  accessFlags := 1537
  interfaces := #[]
  cf := some (fileOf pool2 1 #[] #[] 1537 3 #[] #[])
  fields := #[]
  methods := #[]
  instanceTypes := #[]
  staticTypes := #[]
  resolved := Array.replicate 11 none
  statics := none }

def pool3 : Array CpInfo := pool [(1, .class_ 2), (0, u "java/lang/Comparable"), (0, .class_ 4), (0, u "java/lang/Object")] 7

/-- java/lang/Comparable -/
def k3 : Class := { plain "java/lang/Comparable" (some 0) with
  accessFlags := 1537
  interfaces := #[]
  cf := some (fileOf pool3 1 #[] #[] 1537 3 #[] #[])
  fields := #[]
  methods := #[]
  instanceTypes := #[]
  staticTypes := #[]
  resolved := Array.replicate 12 none
  statics := none }

def pool4 : Array CpInfo := pool [(1, .class_ 2), (0, u "java/io/Serializable"), (0, .class_ 4), (0, u "java/lang/Object")] 2

/-- java/io/Serializable -/
def k4 : Class := { plain "java/io/Serializable" (some 0) with
  accessFlags := 1537
  interfaces := #[]
  cf := some (fileOf pool4 1 #[] #[] 1537 3 #[] #[])
  fields := #[]
  methods := #[]
  instanceTypes := #[]
  staticTypes := #[]
  resolved := Array.replicate 7 none
  statics := none }

def pool5 : Array CpInfo := pool [(2, .class_ 4), (1, u "java/lang/Enum"), (0, u "name"), (0, u "Ljava/lang/String;"), (2, u "ordinal"), (0, u "I"), (1, .class_ 14), (1, u "java/lang/Object"), (4, u "hash"), (86, .class_ 108), (1, u "java/lang/Enum$EnumDesc"), (2, .class_ 112), (0, u "java/lang/constant/Constable"), (0, .class_ 114), (0, u "java/lang/Comparable"), (0, .class_ 116), (0, u "java/io/Serializable")] 87

/-- java/lang/Enum -/
def k5 : Class := { plain "java/lang/Enum" (some 0) with
  accessFlags := 1057
  interfaces := #[2, 3, 4]
  cf := some (fileOf pool5 2 #[.nestMembers #[106]] #[] 1057 12 #[111, 113, 115] #[{ accessFlags := 18, nameIndex := 5, descriptorIndex := 6, attributes := #[] }, { accessFlags := 18, nameIndex := 9, descriptorIndex := 10, attributes := #[] }, { accessFlags := 2, nameIndex := 19, descriptorIndex := 10, attributes := #[] }])
  fields := #[{ name := "name", type := (.object "java/lang/String"), accessFlags := 18, slot := 0, constantValue := 0 }, { name := "ordinal", type := .int, accessFlags := 18, slot := 1, constantValue := 0 }, { name := "hash", type := .int, accessFlags := 2, slot := 2, constantValue := 0 }]
  methods := #[]
  instanceTypes := #[(.object "java/lang/String"), .int, .int]
  staticTypes := #[]
  resolved := Array.replicate 204 none
  statics := none }

def pool6 : Array CpInfo := pool [(9, .class_ 10), (0, u "com/example/weaverbird/weaverbird/codes/StoredCode"), (68, .class_ 80), (0, u "java/lang/Object")] 35

/-- com/example/weaverbird/weaverbird/codes/StoredCode -/
def k6 : Class := { plain "com/example/weaverbird/weaverbird/codes/StoredCode" (some 0) with
  accessFlags := 1537
  interfaces := #[]
  cf := some (fileOf pool6 9 #[] #[] 1537 79 #[] #[])
  fields := #[]
  methods := #[]
  instanceTypes := #[]
  staticTypes := #[]
  resolved := Array.replicate 116 none
  statics := none }

def pool7 : Array CpInfo := pool [(1, .class_ 2), (0, u "com/example/weaverbird/weaverbird/codes/RunState"), (0, .fieldref 1 4), (0, .nameAndType 5 6), (0, u "SUBMITTED"), (0, u "Lcom/example/weaverbird/weaverbird/codes/RunState;"), (0, .fieldref 1 8), (0, .nameAndType 9 6), (0, u "RUNNING"), (2, u "PAUSING"), (0, .fieldref 1 14), (0, .nameAndType 15 6), (0, u "PAUSED"), (0, .fieldref 1 17), (0, .nameAndType 18 6), (0, u "STOPPING"), (2, u "STOPPED"), (2, u "FAILED"), (2, u "SUCCEEDED"), (2, u "NEEDS_FAILOVER"), (2, u "KILLED"), (2, u "WAITING_THREAD"), (2, u "WAITING_DEPENDENCY"), (2, u "$VALUES"), (0, u "[Lcom/example/weaverbird/weaverbird/codes/RunState;"), (6, .class_ 52), (1, u "java/lang/Enum"), (8, u "code"), (0, u "I"), (19, .class_ 83), (0, u "com/example/weaverbird/weaverbird/codes/StoredCode"), (8, u "unended"), (0, u "()Z")] 7

def k7c0 : Code := { maxStack := 2, maxLocals := 1, code := prog_10_method_5_code, exceptionTable := #[], attributes := #[] }
def k7m0 : Method := { name := "unended", desc := "()Z", sig := { parameters := [], returnType := some .boolean }, accessFlags := 1, code := some k7c0 }
/-- com/example/weaverbird/weaverbird/codes/RunState -/
def k7 : Class := { plain "com/example/weaverbird/weaverbird/codes/RunState" (some 5) with
  accessFlags := 16433
  interfaces := #[6]
  cf := some (fileOf pool7 1 #[] #[{ accessFlags := 1, nameIndex := 92, descriptorIndex := 93, attributes := #[] }] 16433 50 #[82] #[{ accessFlags := 16409, nameIndex := 5, descriptorIndex := 6, attributes := #[] }, { accessFlags := 16409, nameIndex := 9, descriptorIndex := 6, attributes := #[] }, { accessFlags := 16409, nameIndex := 12, descriptorIndex := 6, attributes := #[] }, { accessFlags := 16409, nameIndex := 15, descriptorIndex := 6, attributes := #[] }, { accessFlags := 16409, nameIndex := 18, descriptorIndex := 6, attributes := #[] }, { accessFlags := 16409, nameIndex := 21, descriptorIndex := 6, attributes := #[] }, { accessFlags := 16409, nameIndex := 24, descriptorIndex := 6, attributes := #[] }, { accessFlags := 16409, nameIndex := 27, descriptorIndex := 6, attributes := #[] }, { accessFlags := 16409, nameIndex := 30, descriptorIndex := 6, attributes := #[] }, { accessFlags := 16409, nameIndex := 33, descriptorIndex := 6, attributes := #[] }, { accessFlags := 16409, nameIndex := 36, descriptorIndex := 6, attributes := #[] }, { accessFlags := 16409, nameIndex := 39, descriptorIndex := 6, attributes := #[] }, { accessFlags := 18, nameIndex := 61, descriptorIndex := 62, attributes := #[] }, { accessFlags := 4122, nameIndex := 42, descriptorIndex := 43, attributes := #[] }])
  fields := #[{ name := "SUBMITTED", type := (.object "com/example/weaverbird/weaverbird/codes/RunState"), accessFlags := 16409, slot := 0, constantValue := 0 }, { name := "RUNNING", type := (.object "com/example/weaverbird/weaverbird/codes/RunState"), accessFlags := 16409, slot := 1, constantValue := 0 }, { name := "PAUSING", type := (.object "com/example/weaverbird/weaverbird/codes/RunState"), accessFlags := 16409, slot := 2, constantValue := 0 }, { name := "PAUSED", type := (.object "com/example/weaverbird/weaverbird/codes/RunState"), accessFlags := 16409, slot := 3, constantValue := 0 }, { name := "STOPPING", type := (.object "com/example/weaverbird/weaverbird/codes/RunState"), accessFlags := 16409, slot := 4, constantValue := 0 }, { name := "STOPPED", type := (.object "com/example/weaverbird/weaverbird/codes/RunState"), accessFlags := 16409, slot := 5, constantValue := 0 }, { name := "FAILED", type := (.object "com/example/weaverbird/weaverbird/codes/RunState"), accessFlags := 16409, slot := 6, constantValue := 0 }, { name := "SUCCEEDED", type := (.object "com/example/weaverbird/weaverbird/codes/RunState"), accessFlags := 16409, slot := 7, constantValue := 0 }, { name := "NEEDS_FAILOVER", type := (.object "com/example/weaverbird/weaverbird/codes/RunState"), accessFlags := 16409, slot := 8, constantValue := 0 }, { name := "KILLED", type := (.object "com/example/weaverbird/weaverbird/codes/RunState"), accessFlags := 16409, slot := 9, constantValue := 0 }, { name := "WAITING_THREAD", type := (.object "com/example/weaverbird/weaverbird/codes/RunState"), accessFlags := 16409, slot := 10, constantValue := 0 }, { name := "WAITING_DEPENDENCY", type := (.object "com/example/weaverbird/weaverbird/codes/RunState"), accessFlags := 16409, slot := 11, constantValue := 0 }, { name := "code", type := .int, accessFlags := 18, slot := 3, constantValue := 0 }, { name := "$VALUES", type := (.array (.object "com/example/weaverbird/weaverbird/codes/RunState")), accessFlags := 4122, slot := 12, constantValue := 0 }]
  methods := #[k7m0]
  instanceTypes := #[(.object "java/lang/String"), .int, .int, .int]
  staticTypes := #[(.object "com/example/weaverbird/weaverbird/codes/RunState"), (.object "com/example/weaverbird/weaverbird/codes/RunState"), (.object "com/example/weaverbird/weaverbird/codes/RunState"), (.object "com/example/weaverbird/weaverbird/codes/RunState"), (.object "com/example/weaverbird/weaverbird/codes/RunState"), (.object "com/example/weaverbird/weaverbird/codes/RunState"), (.object "com/example/weaverbird/weaverbird/codes/RunState"), (.object "com/example/weaverbird/weaverbird/codes/RunState"), (.object "com/example/weaverbird/weaverbird/codes/RunState"), (.object "com/example/weaverbird/weaverbird/codes/RunState"), (.object "com/example/weaverbird/weaverbird/codes/RunState"), (.object "com/example/weaverbird/weaverbird/codes/RunState"), (.array (.object "com/example/weaverbird/weaverbird/codes/RunState"))]
  resolved := Array.replicate 101 none
  statics := some 0 }

def pool8 : Array CpInfo := pool [(1, u "java/lang/Cloneable"), (0, .class_ 1), (0, u "java/lang/Object"), (0, .class_ 3)] 3

/-- java/lang/Cloneable -/
def k8 : Class := { plain "java/lang/Cloneable" (some 0) with
  accessFlags := 1537
  interfaces := #[]
  cf := some (fileOf pool8 2 #[] #[] 1537 4 #[] #[])
  fields := #[]
  methods := #[]
  instanceTypes := #[]
  staticTypes := #[]
  resolved := Array.replicate 8 none
  statics := none }

/-- the primitive byte -/
def k9 : Class := { plain "byte" none with kind := .primitive 'B', accessFlags := 0x411 }
/-- [B -/
def k10 : Class := { plain "[B" (some 0) with kind := .array 9 .byte, interfaces := #[8, 4], accessFlags := 1041 }

/-- the primitive int -/
def k11 : Class := { plain "int" none with kind := .primitive 'I', accessFlags := 0x411 }
/-- [I -/
def k12 : Class := { plain "[I" (some 0) with kind := .array 11 .int, interfaces := #[8, 4], accessFlags := 1041 }

/-- [Lcom/example/weaverbird/weaverbird/codes/RunState; -/
def k13 : Class := { plain "[Lcom/example/weaverbird/weaverbird/codes/RunState;" (some 0) with kind := .array 7 (.object "com/example/weaverbird/weaverbird/codes/RunState"), interfaces := #[8, 4], accessFlags := 1041 }

def heap : Heap := #[{ cls := 7, slots := #[.ref 1, .ref 2, .ref 3, .ref 4, .ref 5, .ref 6, .ref 7, .ref 8, .ref 9, .ref 10, .ref 11, .ref 12, .null], vm := .statics 7 },
  { cls := 7, slots := #[.null, .int 0, .int 0, .int 0], vm := .none },
  { cls := 7, slots := #[.null, .int 1, .int 0, .int 0], vm := .none },
  { cls := 7, slots := #[.null, .int 2, .int 0, .int 0], vm := .none },
  { cls := 7, slots := #[.null, .int 3, .int 0, .int 0], vm := .none },
  { cls := 7, slots := #[.null, .int 4, .int 0, .int 0], vm := .none },
  { cls := 7, slots := #[.null, .int 5, .int 0, .int 0], vm := .none },
  { cls := 7, slots := #[.null, .int 6, .int 0, .int 0], vm := .none },
  { cls := 7, slots := #[.null, .int 7, .int 0, .int 0], vm := .none },
  { cls := 7, slots := #[.null, .int 8, .int 0, .int 0], vm := .none },
  { cls := 7, slots := #[.null, .int 9, .int 0, .int 0], vm := .none },
  { cls := 7, slots := #[.null, .int 10, .int 0, .int 0], vm := .none },
  { cls := 7, slots := #[.null, .int 11, .int 0, .int 0], vm := .none }]
def classes : Array Class := #[k0, k1, k2, k3, k4, k5, k6, k7, k8, k9, k10, k11, k12, k13]
def interned : List (Array UInt16 × Addr) := []
def slotsUsed : Nat := 61
def theMethod : MethodId := ⟨1, 1⟩
def args0 : Array Value := #[.int 5]
def aboutOver (below : List Frame) : State where
  vm := { classes := classes, interned := interned.toArray }
  heap := heap
  slotsUsed := slotsUsed
  threads := #[{ frames := .invoking theMethod args0 :: below }]
def below0 : List Frame := [.native { method := ⟨0, 0⟩, args := #[] }]
def about1 : State := aboutOver below0
def p0 : Program := .bare "" "" ""
def e0 : Env := launch0.env 0 0 0
theorem w_frames : about1.frames = Frame.invoking theMethod args0 :: below0 := rfl
set_option maxRecDepth 65536 in
theorem w_args : argsFit about1.vm theMethod args0 = true := by decide +kernel
set_option maxRecDepth 65536 in
theorem w_heap : heapFits about1 = true := by decide +kernel
set_option maxRecDepth 65536 in
theorem w_runnable : about1.curStatus? = some .runnable := by decide +kernel
set_option maxRecDepth 65536 in
theorem w_alone : about1.alone = true := by decide +kernel
set_option maxRecDepth 65536 in
theorem w_named : about1.methodNamed? x = some theMethod := by decide +kernel
set_option maxRecDepth 65536 in
theorem w_hears : about1.hears theMethod below0 = true := by decide +kernel
set_option maxRecDepth 65536 in
theorem w_ripe : about1.ripe theMethod args0 below0 = true := by decide +kernel
theorem w_running : about1.status = .running := rfl
set_option maxRecDepth 65536 in
theorem w_room : about1.hasRoom e0.platform room_1 = true :=
  launch0.hasRoom_least _ room_1 (by decide +kernel) (by decide +kernel) (by decide +kernel) (by decide +kernel) (by decide +kernel) (by decide +kernel)
theorem allAtoms_all (ts : List Jvm.Cond) (a : Array Jvm.Value) (st : Jvm.State) : (allAtoms ts).before a st = ts.all (fun c => c.before a st) := by
  induction ts with
  | nil => rfl
  | cons c t ih =>
    show (Jvm.Cond.and c (allAtoms t)).before a st = _
    rw [Jvm.Cond.before_and, ih, List.all_cons]
def words1 : List Jvm.Cond := Jvm.Cond.code x code maxLocals ret :: tables_1
/-- a 'code' word, met by the world's own term for the bytes: nothing is compared byte by byte -/
theorem code_word {y : MethodName} {bytes : ByteArray} {mx : Nat} {rt : Option FieldType} {a : Array Value} {s : State} {m : MethodId} {meth : Method} {c : Code} (h1 : s.methodNamed? y = some m) (h2 : s.vm.method? m = some meth) (h3 : meth.code = some c) (h4 : c.code = bytes)
    (h5 : (c.maxLocals == mx && c.exceptionTable.isEmpty && decide (c.maxStack ≤ mostOperands) && decide (meth.sig.returnType = rt) && !meth.locks && decide (parseMethodDescriptor y.desc = some meth.sig)) = true) : (Jvm.Cond.code y bytes mx rt).before a s = true := by
  simp only [Bool.and_eq_true, beq_iff_eq, Bool.not_eq_true', decide_eq_true_eq] at h5
  obtain ⟨⟨⟨⟨⟨g1, g2⟩, g3⟩, g4⟩, g5⟩, g6⟩ := h5
  simp [Cond.before, Cond.holds, Cond.value, h1, h2, h3, h4, g1, g2, g3, g4, g5, g6]
def isCode : Jvm.Cond → Bool
  | .code _ _ _ _ => true
  | _ => false
theorem all_split {L : List Jvm.Cond} {P : Jvm.Cond → Bool} (h1 : L.all (fun c => isCode c || P c) = true) (h2 : ∀ c ∈ L.filter isCode, P c = true) : L.all P = true := by
  refine List.all_eq_true.mpr fun c hc => ?_
  have h := List.all_eq_true.mp h1 c hc
  rcases Bool.eq_false_or_eq_true (isCode c) with hi | hi
  · exact h2 c (List.mem_filter.mpr ⟨hc, hi⟩)
  · simpa [hi] using h
set_option maxRecDepth 65536 in
theorem w_c0 : (Jvm.Cond.code x code maxLocals ret).before args0 about1 = true := code_word (m := ⟨1, 1⟩) (meth := k1m1) (c := k1c1) (by decide +kernel) rfl rfl rfl (by decide +kernel)
set_option maxRecDepth 65536 in
theorem w_c1 : (Jvm.Cond.code ({ cls := "com/example/weaverbird/weaverbird/codes/RunState", name := "unended", desc := "()Z" } : Jvm.MethodName) prog_10_method_5_code (1 : Nat) (Option.some Jvm.ClassFile.FieldType.boolean)).before args0 about1 = true := code_word (m := ⟨7, 0⟩) (meth := k7m0) (c := k7c0) (by decide +kernel) rfl rfl rfl (by decide +kernel)
def codes1 : List Jvm.Cond := [Jvm.Cond.code x code maxLocals ret, Jvm.Cond.code ({ cls := "com/example/weaverbird/weaverbird/codes/RunState", name := "unended", desc := "()Z" } : Jvm.MethodName) prog_10_method_5_code (1 : Nat) (Option.some Jvm.ClassFile.FieldType.boolean)]
set_option maxRecDepth 65536 in
theorem codes_eq : words1.filter isCode = codes1 := rfl
theorem w_codes : ∀ c ∈ words1.filter isCode, c.before args0 about1 = true := by
  rw [codes_eq]
  intro c hc
  simp only [codes1, List.mem_cons, List.not_mem_nil, or_false] at hc
  rcases hc with rfl | rfl
  · exact w_c0
  · exact w_c1
set_option maxRecDepth 65536 in
theorem w_t1 : (words1.take 24).all (fun c => isCode c || c.before args0 about1) = true := by decide +kernel
set_option maxRecDepth 65536 in
theorem w_t2 : (words1.drop 24).all (fun c => isCode c || c.before args0 about1) = true := by decide +kernel
theorem w_tables : (allAtoms (Jvm.Cond.code x code maxLocals ret :: tables_1)).before args0 about1 = true := by
  rw [allAtoms_all]
  show words1.all (fun c => c.before args0 about1) = true
  refine all_split ?_ w_codes
  rw [← List.take_append_drop 24 words1, List.all_append, w_t1, w_t2]
  rfl
set_option maxRecDepth 65536 in
theorem w_case : (Jvm.Cond.and given_1 narrow_1).before args0 about1 = true := by decide +kernel
theorem w_applies : (headSpec (Jvm.Cond.code x code maxLocals ret :: tables_1) room_1).applies x e0.platform about1 = true :=
  (Spec.applies_iff w_frames).mpr ⟨w_running, w_runnable, w_alone, w_named, w_hears, w_ripe, w_room, w_tables⟩
theorem atStart : AtStart classFile x code maxLocals ret World_1 tables_1 room_1 Calls_1 rest_1 Pre_1 launch0 p0 e0 about1 theMethod args0 below0 :=
  ⟨lists_1, trivial, launch0.admits_env _ _ _, launch0.least_env, fairChoices_fair.cas, fairChoices_fair.clock, w_frames, w_args, w_heap, w_applies, trivial, trivial, w_case⟩
end start1
theorem witness_1 : WitnessClaimed_1 := ⟨start1.p0, start1.e0, start1.about1, start1.theMethod, start1.args0, start1.below0, start1.atStart⟩
end Jvm.Pilot.@@N@@
