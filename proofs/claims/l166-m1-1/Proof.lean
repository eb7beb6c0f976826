import JvmDerived
import JvmDerived.Pilot.@@N@@Statement
import JvmDerived.Pilot.@@N@@Code
set_option linter.unusedVariables false
set_option linter.unusedSimpArgs false
namespace Jvm.Pilot.@@N@@
open Jvm Jvm.ClassFile Sem Op Lib Jvm.Free Jvm.Stand Jvm.LawKit Jvm.RoadKit Bundle Jvm.Pilot.@@N@@.Jvm.D
theorem own_ofNat {y : Int32} {n : Nat} (h : y.toBitVec.toNat = n) : y = Int32.ofNat n := by
  subst h
  apply Int32.toBitVec_inj.mp
  apply BitVec.eq_of_toNat_eq
  simp
theorem own_and_le (x m : Int32) : (x &&& m).toBitVec.toNat ≤ m.toBitVec.toNat := by
  rw [Int32.toBitVec_and, BitVec.toNat_and]; exact Nat.and_le_right
theorem own_nonneg (x : Int32) : 0 ≤ (x &&& (2147483647 : Int32)).toInt := by
  have h := own_and_le x 2147483647
  have e : (2147483647 : Int32).toBitVec.toNat = 2147483647 := by decide
  rw [e] at h
  have : (x &&& (2147483647 : Int32)).toInt = (x &&& (2147483647 : Int32)).toBitVec.toInt := rfl
  rw [this, BitVec.toInt_eq_toNat_cond, if_pos (by omega)]
  omega
theorem own_rem_12 (x : Int32) : ((x &&& (2147483647 : Int32)) % (12 : Int32)) = (0 : Int32) ∨ ((x &&& (2147483647 : Int32)) % (12 : Int32)) = (1 : Int32) ∨ ((x &&& (2147483647 : Int32)) % (12 : Int32)) = (2 : Int32) ∨ ((x &&& (2147483647 : Int32)) % (12 : Int32)) = (3 : Int32) ∨ ((x &&& (2147483647 : Int32)) % (12 : Int32)) = (4 : Int32) ∨ ((x &&& (2147483647 : Int32)) % (12 : Int32)) = (5 : Int32) ∨ ((x &&& (2147483647 : Int32)) % (12 : Int32)) = (6 : Int32) ∨ ((x &&& (2147483647 : Int32)) % (12 : Int32)) = (7 : Int32) ∨ ((x &&& (2147483647 : Int32)) % (12 : Int32)) = (8 : Int32) ∨ ((x &&& (2147483647 : Int32)) % (12 : Int32)) = (9 : Int32) ∨ ((x &&& (2147483647 : Int32)) % (12 : Int32)) = (10 : Int32) ∨ ((x &&& (2147483647 : Int32)) % (12 : Int32)) = (11 : Int32) := by
  have h := own_nonneg x
  generalize x &&& (2147483647 : Int32) = y at h ⊢
  have e : (y % (12 : Int32)).toInt = y.toInt.tmod 12 := by rw [Int32.toInt_mod]; rfl
  have e1 : y.toInt.tmod 12 = y.toInt % 12 := Int.tmod_eq_emod_of_nonneg h
  have q : (y % (12 : Int32)).toInt = 0 ∨ (y % (12 : Int32)).toInt = 1 ∨ (y % (12 : Int32)).toInt = 2 ∨ (y % (12 : Int32)).toInt = 3 ∨ (y % (12 : Int32)).toInt = 4 ∨ (y % (12 : Int32)).toInt = 5 ∨ (y % (12 : Int32)).toInt = 6 ∨ (y % (12 : Int32)).toInt = 7 ∨ (y % (12 : Int32)).toInt = 8 ∨ (y % (12 : Int32)).toInt = 9 ∨ (y % (12 : Int32)).toInt = 10 ∨ (y % (12 : Int32)).toInt = 11 := by omega
  rcases q with q | q | q | q | q | q | q | q | q | q | q | q
  · exact Or.inl (Int32.toInt_inj.mp (q.trans (by decide)))
  · exact Or.inr (Or.inl (Int32.toInt_inj.mp (q.trans (by decide))))
  · exact Or.inr (Or.inr (Or.inl (Int32.toInt_inj.mp (q.trans (by decide)))))
  · exact Or.inr (Or.inr (Or.inr (Or.inl (Int32.toInt_inj.mp (q.trans (by decide))))))
  · exact Or.inr (Or.inr (Or.inr (Or.inr (Or.inl (Int32.toInt_inj.mp (q.trans (by decide)))))))
  · exact Or.inr (Or.inr (Or.inr (Or.inr (Or.inr (Or.inl (Int32.toInt_inj.mp (q.trans (by decide))))))))
  · exact Or.inr (Or.inr (Or.inr (Or.inr (Or.inr (Or.inr (Or.inl (Int32.toInt_inj.mp (q.trans (by decide)))))))))
  · exact Or.inr (Or.inr (Or.inr (Or.inr (Or.inr (Or.inr (Or.inr (Or.inl (Int32.toInt_inj.mp (q.trans (by decide))))))))))
  · exact Or.inr (Or.inr (Or.inr (Or.inr (Or.inr (Or.inr (Or.inr (Or.inr (Or.inl (Int32.toInt_inj.mp (q.trans (by decide)))))))))))
  · exact Or.inr (Or.inr (Or.inr (Or.inr (Or.inr (Or.inr (Or.inr (Or.inr (Or.inr (Or.inl (Int32.toInt_inj.mp (q.trans (by decide))))))))))))
  · exact Or.inr (Or.inr (Or.inr (Or.inr (Or.inr (Or.inr (Or.inr (Or.inr (Or.inr (Or.inr (Or.inl (Int32.toInt_inj.mp (q.trans (by decide)))))))))))))
  · exact Or.inr (Or.inr (Or.inr (Or.inr (Or.inr (Or.inr (Or.inr (Or.inr (Or.inr (Or.inr (Or.inr (Int32.toInt_inj.mp (q.trans (by decide)))))))))))))
def Wd (Z : State) (w0 w1 w2 w3 : Addr) : Prop := Sta Z Z.heap "com/example/libgate/libgate/Impact" "NONE" "Lcom/example/libgate/libgate/Impact;" (.ref w0) ∧ Exa Z Z.heap w0 "com/example/libgate/libgate/Impact" ∧ Sta Z Z.heap "com/example/libgate/libgate/Impact" "LOW" "Lcom/example/libgate/libgate/Impact;" (.ref w1) ∧ Exa Z Z.heap w1 "com/example/libgate/libgate/Impact" ∧ Sta Z Z.heap "com/example/libgate/libgate/Impact" "MODERATE" "Lcom/example/libgate/libgate/Impact;" (.ref w2) ∧ Exa Z Z.heap w2 "com/example/libgate/libgate/Impact" ∧ Sta Z Z.heap "com/example/libgate/libgate/Impact" "HIGH" "Lcom/example/libgate/libgate/Impact;" (.ref w3) ∧ Exa Z Z.heap w3 "com/example/libgate/libgate/Impact" ∧ True
def Qp (r : Option Value) (h0 : Heap) (n0 : Nat) (v : Option Value) (h : Heap) (L : List Loc) : Prop := v = r ∧ Fr n0 L ∧ h = h0
def Ql (n0 : Nat) (v : Option Value) (h : Heap) (L : List Loc) : Prop := v = some (.int (1 : Int32)) ∧ Fr n0 L
theorem d_prog_34_method_5_code_0 : decode prog_34_method_5_code 0 = .ok (.iload_n 0, 1) := by decide +kernel
theorem d_prog_34_method_5_code_1 : decode prog_34_method_5_code 1 = .ok (.ifCond .gt 10, 3) := by decide +kernel
theorem d_prog_34_method_5_code_4 : decode prog_34_method_5_code 4 = .ok (.getstatic 3, 3) := by decide +kernel
theorem d_prog_34_method_5_code_7 : decode prog_34_method_5_code 7 = .ok (.astore_n 1, 1) := by decide +kernel
theorem d_prog_34_method_5_code_8 : decode prog_34_method_5_code 8 = .ok (.goto 32, 3) := by decide +kernel
theorem d_prog_34_method_5_code_40 : decode prog_34_method_5_code 40 = .ok (.aload_n 1, 1) := by decide +kernel
theorem d_prog_34_method_5_code_41 : decode prog_34_method_5_code 41 = .ok (.areturn, 1) := by decide +kernel
theorem pn0 : plainName "com/example/libgate/libgate/Impact" = true := by first | (simp [plainName, overriddenIn]; done) | decide +kernel
theorem ef0 (m : MethodId)    : entryFrame m #[(.int (-1 : Int32))] 2 = mkF m 0 #[.val (.int (-1 : Int32)), .unset] [] := by first | (simp [entryFrame, mkF, argsToLocals, Value.category]; done) | rfl
set_option maxRecDepth 65536 in
set_option maxHeartbeats 40000000 in
theorem rm1 (l : Launch) (Z : State) (a0 : Array Value) (hw : ∀ d ∈ tables_1, d.before a0 Z = true) (ws : List Jvm.Cond) (w0 w1 w2 w3 : Addr) (h0 : Heap) (n0 : Nat) (hWd : Wd Z w0 w1 w2 w3) (O0 : Old Z n0 h0) :
    MetFree l (⟨"com/example/libgate/libgate/Impact", "of", "(I)Lcom/example/libgate/libgate/Impact;"⟩ : MethodName) (head1 (Jvm.Cond.code (⟨"com/example/libgate/libgate/Impact", "of", "(I)Lcom/example/libgate/libgate/Impact;"⟩ : MethodName) prog_34_method_5_code 2 (some (.object "com/example/libgate/libgate/Impact")) :: ws) ({ frames := 0, cells := 0, slots := 0, locals := 0 } : Room)) (fun a U => a = #[(.int (-1 : Int32))] ∧ Z.Warmed39 U.vm ∧ U.heap = h0) (fun _ _ _ _ _ => True) (fun _ U o U' => ∃ v L, o = .returned v ∧ Qp (some (.ref w0)) h0 n0 v U'.heap L ∧ FrameEnd U o U' L ({ frames := 0, cells := 0, slots := 0, locals := 0 } : Room).cells ({ frames := 0, cells := 0, slots := 0, locals := 0 } : Room).slots) := by
  refine MetFree.of_bodySF (plainFor_of_name pn0) hisR ?_
  intro p e s m args below meth c s₁ Bd hml0 hP hK
  obtain ⟨rfl, hZ, hh⟩ := hP
  have hx := Bd.exec
  have hby := Bd.bytes
  have hml : c.maxLocals = 2 := hml0
  have hown : s.vm.findClass "com/example/libgate/libgate/Impact" = some m.cls := findClass_of_methodNamed Bd.named
  have hnm := (name_of_methodNamed Bd.named Bd.method).1
  have X0 : Stand p l e ({ frames := 0, cells := 0, slots := 0, locals := 0 } : Room) s m #[(.int (-1 : Int32))] below meth c s₁ [] 0 0 := Stand.of_body Bd
  have e0 : s₁.heap = h0 := by rw [← hh, Bd.state]; rfl
  have N0 := Fr.nil n0
  obtain ⟨wS0, wE0, wS1, wE1, wS2, wE2, wS3, wE3, -⟩ := id hWd
  have pre0 : ∀ t, Steps p.tables e below (s₁.setTop (mkF m 0 #[.val (.int (-1 : Int32)), .unset] [])) t → Steps p.tables e below (s₁.setTop (entryFrame m #[(.int (-1 : Int32))] 2)) t := fun t k => castTop (ef0 m ) k
  obtain ⟨T23, X23, e23, st23⟩ := getS2 X0 hx hZ hown (host := "") (Or.inl (hw _ (List.mem_of_getElem? (i := 16) rfl))) Via.refl e0 (wS0.ext O0.2) (g := (mkF m 4 #[.val (.int (-1 : Int32)), .unset] [])) rfl (hb hby d_prog_34_method_5_code_4)
  obtain ⟨fs, hr, hrun, hended, hWr, hsame⟩ := X23.leave (v := some (.ref w0)) (fun h => by rw [Bd.returns] at h; cases h)
  refine ⟨_, _, pre0 _ ?_, hrun, hended, _, _, rfl, ?_, ⟨_, rfl⟩, hWr, hsame.mono (Nat.le_of_ble_eq_true rfl) (Nat.le_of_ble_eq_true rfl)⟩
  · show Steps p.tables e below (s₁.setTop (mkF m 0 #[.val (.int (-1 : Int32)), .unset] [])) _
    refine XS.iloadN X0.here hx rfl (hb hby d_prog_34_method_5_code_0) rfl ?_
    show Steps p.tables e below (s₁.setTop (mkF m 1 #[.val (.int (-1 : Int32)), .unset] [(.int (-1 : Int32))])) _
    refine XS.ifNo X0.here hx rfl (hb hby d_prog_34_method_5_code_1) rfl (by decide) ?_
    show Steps p.tables e below (s₁.setTop (mkF m 4 #[.val (.int (-1 : Int32)), .unset] [])) _
    refine st23 _ ?_
    show Steps p.tables e below (T23.setTop (mkF m 7 #[.val (.int (-1 : Int32)), .unset] [(.ref w0)])) _
    refine XS.astoreN X23.here hx rfl (hb hby d_prog_34_method_5_code_7) rfl rfl (l' := #[.val (.int (-1 : Int32)), .val (.ref w0)]) rfl ?_
    show Steps p.tables e below (T23.setTop (mkF m 8 #[.val (.int (-1 : Int32)), .val (.ref w0)] [])) _
    refine XS.goto X23.here hx rfl (pc0 := 8) (pc' := 40) rfl (hb hby d_prog_34_method_5_code_8) (by decide) (by decide) ?_
    show Steps p.tables e below (T23.setTop (mkF m 40 #[.val (.int (-1 : Int32)), .val (.ref w0)] [])) _
    refine XS.aloadN X23.here hx rfl (hb hby d_prog_34_method_5_code_40) rfl rfl ?_
    show Steps p.tables e below (T23.setTop (mkF m 41 #[.val (.int (-1 : Int32)), .val (.ref w0)] [(.ref w0)])) _
    exact retOut X23 hx (t := (.object "com/example/libgate/libgate/Impact")) (i := .areturn) Bd.returns rfl (Or.inr (Or.inr (Or.inr (Or.inr ⟨rfl, rfl, rfl⟩)))) (hb hby d_prog_34_method_5_code_41) hr
  · show Qp (some (.ref w0)) h0 n0 _ T23.heap _
    rw [e23]
    exact ⟨rfl, N0, rfl⟩
theorem pd0 : parseMethodDescriptor "(I)Lcom/example/libgate/libgate/Impact;" = some ⟨[.int], some (.object "com/example/libgate/libgate/Impact")⟩ := by decide +kernel
theorem ef1 (m : MethodId)    : entryFrame m #[(.int (0 : Int32))] 2 = mkF m 0 #[.val (.int (0 : Int32)), .unset] [] := by first | (simp [entryFrame, mkF, argsToLocals, Value.category]; done) | rfl
set_option maxRecDepth 65536 in
set_option maxHeartbeats 40000000 in
theorem rm2 (l : Launch) (Z : State) (a0 : Array Value) (hw : ∀ d ∈ tables_1, d.before a0 Z = true) (ws : List Jvm.Cond) (w0 w1 w2 w3 : Addr) (h0 : Heap) (n0 : Nat) (hWd : Wd Z w0 w1 w2 w3) (O0 : Old Z n0 h0) :
    MetFree l (⟨"com/example/libgate/libgate/Impact", "of", "(I)Lcom/example/libgate/libgate/Impact;"⟩ : MethodName) (head1 (Jvm.Cond.code (⟨"com/example/libgate/libgate/Impact", "of", "(I)Lcom/example/libgate/libgate/Impact;"⟩ : MethodName) prog_34_method_5_code 2 (some (.object "com/example/libgate/libgate/Impact")) :: ws) ({ frames := 0, cells := 0, slots := 0, locals := 0 } : Room)) (fun a U => a = #[(.int (0 : Int32))] ∧ Z.Warmed39 U.vm ∧ U.heap = h0) (fun _ _ _ _ _ => True) (fun _ U o U' => ∃ v L, o = .returned v ∧ Qp (some (.ref w0)) h0 n0 v U'.heap L ∧ FrameEnd U o U' L ({ frames := 0, cells := 0, slots := 0, locals := 0 } : Room).cells ({ frames := 0, cells := 0, slots := 0, locals := 0 } : Room).slots) := by
  refine MetFree.of_bodySF (plainFor_of_name pn0) hisR ?_
  intro p e s m args below meth c s₁ Bd hml0 hP hK
  obtain ⟨rfl, hZ, hh⟩ := hP
  have hx := Bd.exec
  have hby := Bd.bytes
  have hml : c.maxLocals = 2 := hml0
  have hown : s.vm.findClass "com/example/libgate/libgate/Impact" = some m.cls := findClass_of_methodNamed Bd.named
  have hnm := (name_of_methodNamed Bd.named Bd.method).1
  have X0 : Stand p l e ({ frames := 0, cells := 0, slots := 0, locals := 0 } : Room) s m #[(.int (0 : Int32))] below meth c s₁ [] 0 0 := Stand.of_body Bd
  have e0 : s₁.heap = h0 := by rw [← hh, Bd.state]; rfl
  have N0 := Fr.nil n0
  obtain ⟨wS0, wE0, wS1, wE1, wS2, wE2, wS3, wE3, -⟩ := id hWd
  have pre0 : ∀ t, Steps p.tables e below (s₁.setTop (mkF m 0 #[.val (.int (0 : Int32)), .unset] [])) t → Steps p.tables e below (s₁.setTop (entryFrame m #[(.int (0 : Int32))] 2)) t := fun t k => castTop (ef1 m ) k
  obtain ⟨T35, X35, e35, st35⟩ := getS2 X0 hx hZ hown (host := "") (Or.inl (hw _ (List.mem_of_getElem? (i := 16) rfl))) Via.refl e0 (wS0.ext O0.2) (g := (mkF m 4 #[.val (.int (0 : Int32)), .unset] [])) rfl (hb hby d_prog_34_method_5_code_4)
  obtain ⟨fs, hr, hrun, hended, hWr, hsame⟩ := X35.leave (v := some (.ref w0)) (fun h => by rw [Bd.returns] at h; cases h)
  refine ⟨_, _, pre0 _ ?_, hrun, hended, _, _, rfl, ?_, ⟨_, rfl⟩, hWr, hsame.mono (Nat.le_of_ble_eq_true rfl) (Nat.le_of_ble_eq_true rfl)⟩
  · show Steps p.tables e below (s₁.setTop (mkF m 0 #[.val (.int (0 : Int32)), .unset] [])) _
    refine XS.iloadN X0.here hx rfl (hb hby d_prog_34_method_5_code_0) rfl ?_
    show Steps p.tables e below (s₁.setTop (mkF m 1 #[.val (.int (0 : Int32)), .unset] [(.int (0 : Int32))])) _
    refine XS.ifNo X0.here hx rfl (hb hby d_prog_34_method_5_code_1) rfl (by decide) ?_
    show Steps p.tables e below (s₁.setTop (mkF m 4 #[.val (.int (0 : Int32)), .unset] [])) _
    refine st35 _ ?_
    show Steps p.tables e below (T35.setTop (mkF m 7 #[.val (.int (0 : Int32)), .unset] [(.ref w0)])) _
    refine XS.astoreN X35.here hx rfl (hb hby d_prog_34_method_5_code_7) rfl rfl (l' := #[.val (.int (0 : Int32)), .val (.ref w0)]) rfl ?_
    show Steps p.tables e below (T35.setTop (mkF m 8 #[.val (.int (0 : Int32)), .val (.ref w0)] [])) _
    refine XS.goto X35.here hx rfl (pc0 := 8) (pc' := 40) rfl (hb hby d_prog_34_method_5_code_8) (by decide) (by decide) ?_
    show Steps p.tables e below (T35.setTop (mkF m 40 #[.val (.int (0 : Int32)), .val (.ref w0)] [])) _
    refine XS.aloadN X35.here hx rfl (hb hby d_prog_34_method_5_code_40) rfl rfl ?_
    show Steps p.tables e below (T35.setTop (mkF m 41 #[.val (.int (0 : Int32)), .val (.ref w0)] [(.ref w0)])) _
    exact retOut X35 hx (t := (.object "com/example/libgate/libgate/Impact")) (i := .areturn) Bd.returns rfl (Or.inr (Or.inr (Or.inr (Or.inr ⟨rfl, rfl, rfl⟩)))) (hb hby d_prog_34_method_5_code_41) hr
  · show Qp (some (.ref w0)) h0 n0 _ T35.heap _
    rw [e35]
    exact ⟨rfl, N0, rfl⟩
theorem d_jdk_29_method_69_code_0 : decode jdk_29_method_69_code 0 = .ok (.iload_n 0, 1) := by decide +kernel
theorem d_jdk_29_method_69_code_1 : decode jdk_29_method_69_code 1 = .ok (.iload_n 1, 1) := by decide +kernel
theorem d_jdk_29_method_69_code_2 : decode jdk_29_method_69_code 2 = .ok (.if_icmp .gt 7, 3) := by decide +kernel
theorem d_jdk_29_method_69_code_9 : decode jdk_29_method_69_code 9 = .ok (.iload_n 1, 1) := by decide +kernel
theorem d_jdk_29_method_69_code_10 : decode jdk_29_method_69_code 10 = .ok (.ireturn, 1) := by decide +kernel
theorem ef2 (m : MethodId)    : entryFrame m #[(.int (3 : Int32)), (.int (1 : Int32))] 2 = mkF m 0 #[.val (.int (3 : Int32)), .val (.int (1 : Int32))] [] := by first | (simp [entryFrame, mkF, argsToLocals, Value.category]; done) | rfl
set_option maxRecDepth 65536 in
set_option maxHeartbeats 40000000 in
theorem rm3 (l : Launch) (Z : State) (a0 : Array Value) (hw : ∀ d ∈ tables_1, d.before a0 Z = true) (ws : List Jvm.Cond) (w0 w1 w2 w3 : Addr) (h0 : Heap) (n0 : Nat) (hWd : Wd Z w0 w1 w2 w3) (O0 : Old Z n0 h0) :
    MetFree l (⟨"java/lang/Math", "min", "(II)I"⟩ : MethodName) (head1 (Jvm.Cond.code (⟨"java/lang/Math", "min", "(II)I"⟩ : MethodName) jdk_29_method_69_code 2 (some .int) :: ws) ({ frames := 0, cells := 0, slots := 0, locals := 0 } : Room)) (fun a U => a = #[(.int (3 : Int32)), (.int (1 : Int32))] ∧ Z.Warmed39 U.vm ∧ U.heap = h0) (fun _ _ _ _ _ => True) (fun _ U o U' => ∃ v L, o = .returned v ∧ Qp (some (.int (1 : Int32))) h0 n0 v U'.heap L ∧ FrameEnd U o U' L ({ frames := 0, cells := 0, slots := 0, locals := 0 } : Room).cells ({ frames := 0, cells := 0, slots := 0, locals := 0 } : Room).slots) := by
  refine MetFree.of_bodySF (Jvm.Free.JP.mathPlain rfl (by decide +kernel)) hisR ?_
  intro p e s m args below meth c s₁ Bd hml0 hP hK
  obtain ⟨rfl, hZ, hh⟩ := hP
  have hx := Bd.exec
  have hby := Bd.bytes
  have hml : c.maxLocals = 2 := hml0
  have hown : s.vm.findClass "java/lang/Math" = some m.cls := findClass_of_methodNamed Bd.named
  have hnm := (name_of_methodNamed Bd.named Bd.method).1
  have X0 : Stand p l e ({ frames := 0, cells := 0, slots := 0, locals := 0 } : Room) s m #[(.int (3 : Int32)), (.int (1 : Int32))] below meth c s₁ [] 0 0 := Stand.of_body Bd
  have e0 : s₁.heap = h0 := by rw [← hh, Bd.state]; rfl
  have N0 := Fr.nil n0
  obtain ⟨wS0, wE0, wS1, wE1, wS2, wE2, wS3, wE3, -⟩ := id hWd
  have pre0 : ∀ t, Steps p.tables e below (s₁.setTop (mkF m 0 #[.val (.int (3 : Int32)), .val (.int (1 : Int32))] [])) t → Steps p.tables e below (s₁.setTop (entryFrame m #[(.int (3 : Int32)), (.int (1 : Int32))] 2)) t := fun t k => castTop (ef2 m ) k
  obtain ⟨fs, hr, hrun, hended, hWr, hsame⟩ := X0.leave (v := some (.int (1 : Int32))) (fun h => by rw [Bd.returns] at h; cases h)
  refine ⟨_, _, pre0 _ ?_, hrun, hended, _, _, rfl, ?_, ⟨_, rfl⟩, hWr, hsame.mono (Nat.le_of_ble_eq_true rfl) (Nat.le_of_ble_eq_true rfl)⟩
  · show Steps p.tables e below (s₁.setTop (mkF m 0 #[.val (.int (3 : Int32)), .val (.int (1 : Int32))] [])) _
    refine XS.iloadN X0.here hx rfl (hb hby d_jdk_29_method_69_code_0) rfl ?_
    show Steps p.tables e below (s₁.setTop (mkF m 1 #[.val (.int (3 : Int32)), .val (.int (1 : Int32))] [(.int (3 : Int32))])) _
    refine XS.iloadN X0.here hx rfl (hb hby d_jdk_29_method_69_code_1) rfl ?_
    show Steps p.tables e below (s₁.setTop (mkF m 2 #[.val (.int (3 : Int32)), .val (.int (1 : Int32))] [(.int (1 : Int32)), (.int (3 : Int32))])) _
    refine XS.icmpYes X0.here hx rfl (pc0 := 2) (pc' := 9) rfl (hb hby d_jdk_29_method_69_code_2) rfl (by decide) (by decide) (by decide) ?_
    show Steps p.tables e below (s₁.setTop (mkF m 9 #[.val (.int (3 : Int32)), .val (.int (1 : Int32))] [])) _
    refine XS.iloadN X0.here hx rfl (hb hby d_jdk_29_method_69_code_9) rfl ?_
    show Steps p.tables e below (s₁.setTop (mkF m 10 #[.val (.int (3 : Int32)), .val (.int (1 : Int32))] [(.int (1 : Int32))])) _
    exact retOut X0 hx (t := .int) (i := .ireturn) Bd.returns rfl (Or.inl ⟨rfl, Or.inl rfl, _, rfl⟩) (hb hby d_jdk_29_method_69_code_10) hr
  · show Qp (some (.int (1 : Int32))) h0 n0 _ s₁.heap _
    rw [e0]
    exact ⟨rfl, N0, rfl⟩
theorem pd1 : parseMethodDescriptor "(II)I" = some ⟨[.int, .int], some .int⟩ := by decide +kernel
theorem d_prog_34_method_5_code_11 : decode prog_34_method_5_code 11 = .ok (.iload_n 0, 1) := by decide +kernel
theorem d_prog_34_method_5_code_12 : decode prog_34_method_5_code 12 = .ok (.iconst 3, 1) := by decide +kernel
theorem d_prog_34_method_5_code_13 : decode prog_34_method_5_code 13 = .ok (.if_icmp .gt 10, 3) := by decide +kernel
theorem d_prog_34_method_5_code_16 : decode prog_34_method_5_code 16 = .ok (.getstatic 7, 3) := by decide +kernel
theorem d_prog_34_method_5_code_19 : decode prog_34_method_5_code 19 = .ok (.astore_n 1, 1) := by decide +kernel
theorem d_prog_34_method_5_code_20 : decode prog_34_method_5_code 20 = .ok (.goto 20, 3) := by decide +kernel
theorem ef3 (m : MethodId)    : entryFrame m #[(.int (1 : Int32))] 2 = mkF m 0 #[.val (.int (1 : Int32)), .unset] [] := by first | (simp [entryFrame, mkF, argsToLocals, Value.category]; done) | rfl
set_option maxRecDepth 65536 in
set_option maxHeartbeats 40000000 in
theorem rm4 (l : Launch) (Z : State) (a0 : Array Value) (hw : ∀ d ∈ tables_1, d.before a0 Z = true) (ws : List Jvm.Cond) (w0 w1 w2 w3 : Addr) (h0 : Heap) (n0 : Nat) (hWd : Wd Z w0 w1 w2 w3) (O0 : Old Z n0 h0) :
    MetFree l (⟨"com/example/libgate/libgate/Impact", "of", "(I)Lcom/example/libgate/libgate/Impact;"⟩ : MethodName) (head1 (Jvm.Cond.code (⟨"com/example/libgate/libgate/Impact", "of", "(I)Lcom/example/libgate/libgate/Impact;"⟩ : MethodName) prog_34_method_5_code 2 (some (.object "com/example/libgate/libgate/Impact")) :: ws) ({ frames := 0, cells := 0, slots := 0, locals := 0 } : Room)) (fun a U => a = #[(.int (1 : Int32))] ∧ Z.Warmed39 U.vm ∧ U.heap = h0) (fun _ _ _ _ _ => True) (fun _ U o U' => ∃ v L, o = .returned v ∧ Qp (some (.ref w1)) h0 n0 v U'.heap L ∧ FrameEnd U o U' L ({ frames := 0, cells := 0, slots := 0, locals := 0 } : Room).cells ({ frames := 0, cells := 0, slots := 0, locals := 0 } : Room).slots) := by
  refine MetFree.of_bodySF (plainFor_of_name pn0) hisR ?_
  intro p e s m args below meth c s₁ Bd hml0 hP hK
  obtain ⟨rfl, hZ, hh⟩ := hP
  have hx := Bd.exec
  have hby := Bd.bytes
  have hml : c.maxLocals = 2 := hml0
  have hown : s.vm.findClass "com/example/libgate/libgate/Impact" = some m.cls := findClass_of_methodNamed Bd.named
  have hnm := (name_of_methodNamed Bd.named Bd.method).1
  have X0 : Stand p l e ({ frames := 0, cells := 0, slots := 0, locals := 0 } : Room) s m #[(.int (1 : Int32))] below meth c s₁ [] 0 0 := Stand.of_body Bd
  have e0 : s₁.heap = h0 := by rw [← hh, Bd.state]; rfl
  have N0 := Fr.nil n0
  obtain ⟨wS0, wE0, wS1, wE1, wS2, wE2, wS3, wE3, -⟩ := id hWd
  have pre0 : ∀ t, Steps p.tables e below (s₁.setTop (mkF m 0 #[.val (.int (1 : Int32)), .unset] [])) t → Steps p.tables e below (s₁.setTop (entryFrame m #[(.int (1 : Int32))] 2)) t := fun t k => castTop (ef3 m ) k
  obtain ⟨T48, X48, e48, st48⟩ := getS2 X0 hx hZ hown (host := "") (Or.inl (hw _ (List.mem_of_getElem? (i := 21) rfl))) Via.refl e0 (wS1.ext O0.2) (g := (mkF m 16 #[.val (.int (1 : Int32)), .unset] [])) rfl (hb hby d_prog_34_method_5_code_16)
  obtain ⟨fs, hr, hrun, hended, hWr, hsame⟩ := X48.leave (v := some (.ref w1)) (fun h => by rw [Bd.returns] at h; cases h)
  refine ⟨_, _, pre0 _ ?_, hrun, hended, _, _, rfl, ?_, ⟨_, rfl⟩, hWr, hsame.mono (Nat.le_of_ble_eq_true rfl) (Nat.le_of_ble_eq_true rfl)⟩
  · show Steps p.tables e below (s₁.setTop (mkF m 0 #[.val (.int (1 : Int32)), .unset] [])) _
    refine XS.iloadN X0.here hx rfl (hb hby d_prog_34_method_5_code_0) rfl ?_
    show Steps p.tables e below (s₁.setTop (mkF m 1 #[.val (.int (1 : Int32)), .unset] [(.int (1 : Int32))])) _
    refine XS.ifYes X0.here hx rfl (pc0 := 1) (pc' := 11) rfl (hb hby d_prog_34_method_5_code_1) rfl (by decide) (by decide) (by decide) ?_
    show Steps p.tables e below (s₁.setTop (mkF m 11 #[.val (.int (1 : Int32)), .unset] [])) _
    refine XS.iloadN X0.here hx rfl (hb hby d_prog_34_method_5_code_11) rfl ?_
    show Steps p.tables e below (s₁.setTop (mkF m 12 #[.val (.int (1 : Int32)), .unset] [(.int (1 : Int32))])) _
    refine XS.iconst X0.here hx rfl (hb hby d_prog_34_method_5_code_12) ?_
    show Steps p.tables e below (s₁.setTop (mkF m 13 #[.val (.int (1 : Int32)), .unset] [(.int (3 : Int32)), (.int (1 : Int32))])) _
    refine XS.icmpNo X0.here hx rfl (hb hby d_prog_34_method_5_code_13) rfl (by decide) ?_
    show Steps p.tables e below (s₁.setTop (mkF m 16 #[.val (.int (1 : Int32)), .unset] [])) _
    refine st48 _ ?_
    show Steps p.tables e below (T48.setTop (mkF m 19 #[.val (.int (1 : Int32)), .unset] [(.ref w1)])) _
    refine XS.astoreN X48.here hx rfl (hb hby d_prog_34_method_5_code_19) rfl rfl (l' := #[.val (.int (1 : Int32)), .val (.ref w1)]) rfl ?_
    show Steps p.tables e below (T48.setTop (mkF m 20 #[.val (.int (1 : Int32)), .val (.ref w1)] [])) _
    refine XS.goto X48.here hx rfl (pc0 := 20) (pc' := 40) rfl (hb hby d_prog_34_method_5_code_20) (by decide) (by decide) ?_
    show Steps p.tables e below (T48.setTop (mkF m 40 #[.val (.int (1 : Int32)), .val (.ref w1)] [])) _
    refine XS.aloadN X48.here hx rfl (hb hby d_prog_34_method_5_code_40) rfl rfl ?_
    show Steps p.tables e below (T48.setTop (mkF m 41 #[.val (.int (1 : Int32)), .val (.ref w1)] [(.ref w1)])) _
    exact retOut X48 hx (t := (.object "com/example/libgate/libgate/Impact")) (i := .areturn) Bd.returns rfl (Or.inr (Or.inr (Or.inr (Or.inr ⟨rfl, rfl, rfl⟩)))) (hb hby d_prog_34_method_5_code_41) hr
  · show Qp (some (.ref w1)) h0 n0 _ T48.heap _
    rw [e48]
    exact ⟨rfl, N0, rfl⟩
theorem ef4 (m : MethodId)    : entryFrame m #[(.int (2 : Int32))] 2 = mkF m 0 #[.val (.int (2 : Int32)), .unset] [] := by first | (simp [entryFrame, mkF, argsToLocals, Value.category]; done) | rfl
set_option maxRecDepth 65536 in
set_option maxHeartbeats 40000000 in
theorem rm5 (l : Launch) (Z : State) (a0 : Array Value) (hw : ∀ d ∈ tables_1, d.before a0 Z = true) (ws : List Jvm.Cond) (w0 w1 w2 w3 : Addr) (h0 : Heap) (n0 : Nat) (hWd : Wd Z w0 w1 w2 w3) (O0 : Old Z n0 h0) :
    MetFree l (⟨"com/example/libgate/libgate/Impact", "of", "(I)Lcom/example/libgate/libgate/Impact;"⟩ : MethodName) (head1 (Jvm.Cond.code (⟨"com/example/libgate/libgate/Impact", "of", "(I)Lcom/example/libgate/libgate/Impact;"⟩ : MethodName) prog_34_method_5_code 2 (some (.object "com/example/libgate/libgate/Impact")) :: ws) ({ frames := 0, cells := 0, slots := 0, locals := 0 } : Room)) (fun a U => a = #[(.int (2 : Int32))] ∧ Z.Warmed39 U.vm ∧ U.heap = h0) (fun _ _ _ _ _ => True) (fun _ U o U' => ∃ v L, o = .returned v ∧ Qp (some (.ref w1)) h0 n0 v U'.heap L ∧ FrameEnd U o U' L ({ frames := 0, cells := 0, slots := 0, locals := 0 } : Room).cells ({ frames := 0, cells := 0, slots := 0, locals := 0 } : Room).slots) := by
  refine MetFree.of_bodySF (plainFor_of_name pn0) hisR ?_
  intro p e s m args below meth c s₁ Bd hml0 hP hK
  obtain ⟨rfl, hZ, hh⟩ := hP
  have hx := Bd.exec
  have hby := Bd.bytes
  have hml : c.maxLocals = 2 := hml0
  have hown : s.vm.findClass "com/example/libgate/libgate/Impact" = some m.cls := findClass_of_methodNamed Bd.named
  have hnm := (name_of_methodNamed Bd.named Bd.method).1
  have X0 : Stand p l e ({ frames := 0, cells := 0, slots := 0, locals := 0 } : Room) s m #[(.int (2 : Int32))] below meth c s₁ [] 0 0 := Stand.of_body Bd
  have e0 : s₁.heap = h0 := by rw [← hh, Bd.state]; rfl
  have N0 := Fr.nil n0
  obtain ⟨wS0, wE0, wS1, wE1, wS2, wE2, wS3, wE3, -⟩ := id hWd
  have pre0 : ∀ t, Steps p.tables e below (s₁.setTop (mkF m 0 #[.val (.int (2 : Int32)), .unset] [])) t → Steps p.tables e below (s₁.setTop (entryFrame m #[(.int (2 : Int32))] 2)) t := fun t k => castTop (ef4 m ) k
  obtain ⟨T61, X61, e61, st61⟩ := getS2 X0 hx hZ hown (host := "") (Or.inl (hw _ (List.mem_of_getElem? (i := 21) rfl))) Via.refl e0 (wS1.ext O0.2) (g := (mkF m 16 #[.val (.int (2 : Int32)), .unset] [])) rfl (hb hby d_prog_34_method_5_code_16)
  obtain ⟨fs, hr, hrun, hended, hWr, hsame⟩ := X61.leave (v := some (.ref w1)) (fun h => by rw [Bd.returns] at h; cases h)
  refine ⟨_, _, pre0 _ ?_, hrun, hended, _, _, rfl, ?_, ⟨_, rfl⟩, hWr, hsame.mono (Nat.le_of_ble_eq_true rfl) (Nat.le_of_ble_eq_true rfl)⟩
  · show Steps p.tables e below (s₁.setTop (mkF m 0 #[.val (.int (2 : Int32)), .unset] [])) _
    refine XS.iloadN X0.here hx rfl (hb hby d_prog_34_method_5_code_0) rfl ?_
    show Steps p.tables e below (s₁.setTop (mkF m 1 #[.val (.int (2 : Int32)), .unset] [(.int (2 : Int32))])) _
    refine XS.ifYes X0.here hx rfl (pc0 := 1) (pc' := 11) rfl (hb hby d_prog_34_method_5_code_1) rfl (by decide) (by decide) (by decide) ?_
    show Steps p.tables e below (s₁.setTop (mkF m 11 #[.val (.int (2 : Int32)), .unset] [])) _
    refine XS.iloadN X0.here hx rfl (hb hby d_prog_34_method_5_code_11) rfl ?_
    show Steps p.tables e below (s₁.setTop (mkF m 12 #[.val (.int (2 : Int32)), .unset] [(.int (2 : Int32))])) _
    refine XS.iconst X0.here hx rfl (hb hby d_prog_34_method_5_code_12) ?_
    show Steps p.tables e below (s₁.setTop (mkF m 13 #[.val (.int (2 : Int32)), .unset] [(.int (3 : Int32)), (.int (2 : Int32))])) _
    refine XS.icmpNo X0.here hx rfl (hb hby d_prog_34_method_5_code_13) rfl (by decide) ?_
    show Steps p.tables e below (s₁.setTop (mkF m 16 #[.val (.int (2 : Int32)), .unset] [])) _
    refine st61 _ ?_
    show Steps p.tables e below (T61.setTop (mkF m 19 #[.val (.int (2 : Int32)), .unset] [(.ref w1)])) _
    refine XS.astoreN X61.here hx rfl (hb hby d_prog_34_method_5_code_19) rfl rfl (l' := #[.val (.int (2 : Int32)), .val (.ref w1)]) rfl ?_
    show Steps p.tables e below (T61.setTop (mkF m 20 #[.val (.int (2 : Int32)), .val (.ref w1)] [])) _
    refine XS.goto X61.here hx rfl (pc0 := 20) (pc' := 40) rfl (hb hby d_prog_34_method_5_code_20) (by decide) (by decide) ?_
    show Steps p.tables e below (T61.setTop (mkF m 40 #[.val (.int (2 : Int32)), .val (.ref w1)] [])) _
    refine XS.aloadN X61.here hx rfl (hb hby d_prog_34_method_5_code_40) rfl rfl ?_
    show Steps p.tables e below (T61.setTop (mkF m 41 #[.val (.int (2 : Int32)), .val (.ref w1)] [(.ref w1)])) _
    exact retOut X61 hx (t := (.object "com/example/libgate/libgate/Impact")) (i := .areturn) Bd.returns rfl (Or.inr (Or.inr (Or.inr (Or.inr ⟨rfl, rfl, rfl⟩)))) (hb hby d_prog_34_method_5_code_41) hr
  · show Qp (some (.ref w1)) h0 n0 _ T61.heap _
    rw [e61]
    exact ⟨rfl, N0, rfl⟩
theorem ef5 (m : MethodId)    : entryFrame m #[(.int (3 : Int32))] 2 = mkF m 0 #[.val (.int (3 : Int32)), .unset] [] := by first | (simp [entryFrame, mkF, argsToLocals, Value.category]; done) | rfl
set_option maxRecDepth 65536 in
set_option maxHeartbeats 40000000 in
theorem rm6 (l : Launch) (Z : State) (a0 : Array Value) (hw : ∀ d ∈ tables_1, d.before a0 Z = true) (ws : List Jvm.Cond) (w0 w1 w2 w3 : Addr) (h0 : Heap) (n0 : Nat) (hWd : Wd Z w0 w1 w2 w3) (O0 : Old Z n0 h0) :
    MetFree l (⟨"com/example/libgate/libgate/Impact", "of", "(I)Lcom/example/libgate/libgate/Impact;"⟩ : MethodName) (head1 (Jvm.Cond.code (⟨"com/example/libgate/libgate/Impact", "of", "(I)Lcom/example/libgate/libgate/Impact;"⟩ : MethodName) prog_34_method_5_code 2 (some (.object "com/example/libgate/libgate/Impact")) :: ws) ({ frames := 0, cells := 0, slots := 0, locals := 0 } : Room)) (fun a U => a = #[(.int (3 : Int32))] ∧ Z.Warmed39 U.vm ∧ U.heap = h0) (fun _ _ _ _ _ => True) (fun _ U o U' => ∃ v L, o = .returned v ∧ Qp (some (.ref w1)) h0 n0 v U'.heap L ∧ FrameEnd U o U' L ({ frames := 0, cells := 0, slots := 0, locals := 0 } : Room).cells ({ frames := 0, cells := 0, slots := 0, locals := 0 } : Room).slots) := by
  refine MetFree.of_bodySF (plainFor_of_name pn0) hisR ?_
  intro p e s m args below meth c s₁ Bd hml0 hP hK
  obtain ⟨rfl, hZ, hh⟩ := hP
  have hx := Bd.exec
  have hby := Bd.bytes
  have hml : c.maxLocals = 2 := hml0
  have hown : s.vm.findClass "com/example/libgate/libgate/Impact" = some m.cls := findClass_of_methodNamed Bd.named
  have hnm := (name_of_methodNamed Bd.named Bd.method).1
  have X0 : Stand p l e ({ frames := 0, cells := 0, slots := 0, locals := 0 } : Room) s m #[(.int (3 : Int32))] below meth c s₁ [] 0 0 := Stand.of_body Bd
  have e0 : s₁.heap = h0 := by rw [← hh, Bd.state]; rfl
  have N0 := Fr.nil n0
  obtain ⟨wS0, wE0, wS1, wE1, wS2, wE2, wS3, wE3, -⟩ := id hWd
  have pre0 : ∀ t, Steps p.tables e below (s₁.setTop (mkF m 0 #[.val (.int (3 : Int32)), .unset] [])) t → Steps p.tables e below (s₁.setTop (entryFrame m #[(.int (3 : Int32))] 2)) t := fun t k => castTop (ef5 m ) k
  obtain ⟨T74, X74, e74, st74⟩ := getS2 X0 hx hZ hown (host := "") (Or.inl (hw _ (List.mem_of_getElem? (i := 21) rfl))) Via.refl e0 (wS1.ext O0.2) (g := (mkF m 16 #[.val (.int (3 : Int32)), .unset] [])) rfl (hb hby d_prog_34_method_5_code_16)
  obtain ⟨fs, hr, hrun, hended, hWr, hsame⟩ := X74.leave (v := some (.ref w1)) (fun h => by rw [Bd.returns] at h; cases h)
  refine ⟨_, _, pre0 _ ?_, hrun, hended, _, _, rfl, ?_, ⟨_, rfl⟩, hWr, hsame.mono (Nat.le_of_ble_eq_true rfl) (Nat.le_of_ble_eq_true rfl)⟩
  · show Steps p.tables e below (s₁.setTop (mkF m 0 #[.val (.int (3 : Int32)), .unset] [])) _
    refine XS.iloadN X0.here hx rfl (hb hby d_prog_34_method_5_code_0) rfl ?_
    show Steps p.tables e below (s₁.setTop (mkF m 1 #[.val (.int (3 : Int32)), .unset] [(.int (3 : Int32))])) _
    refine XS.ifYes X0.here hx rfl (pc0 := 1) (pc' := 11) rfl (hb hby d_prog_34_method_5_code_1) rfl (by decide) (by decide) (by decide) ?_
    show Steps p.tables e below (s₁.setTop (mkF m 11 #[.val (.int (3 : Int32)), .unset] [])) _
    refine XS.iloadN X0.here hx rfl (hb hby d_prog_34_method_5_code_11) rfl ?_
    show Steps p.tables e below (s₁.setTop (mkF m 12 #[.val (.int (3 : Int32)), .unset] [(.int (3 : Int32))])) _
    refine XS.iconst X0.here hx rfl (hb hby d_prog_34_method_5_code_12) ?_
    show Steps p.tables e below (s₁.setTop (mkF m 13 #[.val (.int (3 : Int32)), .unset] [(.int (3 : Int32)), (.int (3 : Int32))])) _
    refine XS.icmpNo X0.here hx rfl (hb hby d_prog_34_method_5_code_13) rfl (by decide) ?_
    show Steps p.tables e below (s₁.setTop (mkF m 16 #[.val (.int (3 : Int32)), .unset] [])) _
    refine st74 _ ?_
    show Steps p.tables e below (T74.setTop (mkF m 19 #[.val (.int (3 : Int32)), .unset] [(.ref w1)])) _
    refine XS.astoreN X74.here hx rfl (hb hby d_prog_34_method_5_code_19) rfl rfl (l' := #[.val (.int (3 : Int32)), .val (.ref w1)]) rfl ?_
    show Steps p.tables e below (T74.setTop (mkF m 20 #[.val (.int (3 : Int32)), .val (.ref w1)] [])) _
    refine XS.goto X74.here hx rfl (pc0 := 20) (pc' := 40) rfl (hb hby d_prog_34_method_5_code_20) (by decide) (by decide) ?_
    show Steps p.tables e below (T74.setTop (mkF m 40 #[.val (.int (3 : Int32)), .val (.ref w1)] [])) _
    refine XS.aloadN X74.here hx rfl (hb hby d_prog_34_method_5_code_40) rfl rfl ?_
    show Steps p.tables e below (T74.setTop (mkF m 41 #[.val (.int (3 : Int32)), .val (.ref w1)] [(.ref w1)])) _
    exact retOut X74 hx (t := (.object "com/example/libgate/libgate/Impact")) (i := .areturn) Bd.returns rfl (Or.inr (Or.inr (Or.inr (Or.inr ⟨rfl, rfl, rfl⟩)))) (hb hby d_prog_34_method_5_code_41) hr
  · show Qp (some (.ref w1)) h0 n0 _ T74.heap _
    rw [e74]
    exact ⟨rfl, N0, rfl⟩
theorem ef6 (m : MethodId)    : entryFrame m #[(.int (3 : Int32)), (.int (2 : Int32))] 2 = mkF m 0 #[.val (.int (3 : Int32)), .val (.int (2 : Int32))] [] := by first | (simp [entryFrame, mkF, argsToLocals, Value.category]; done) | rfl
set_option maxRecDepth 65536 in
set_option maxHeartbeats 40000000 in
theorem rm7 (l : Launch) (Z : State) (a0 : Array Value) (hw : ∀ d ∈ tables_1, d.before a0 Z = true) (ws : List Jvm.Cond) (w0 w1 w2 w3 : Addr) (h0 : Heap) (n0 : Nat) (hWd : Wd Z w0 w1 w2 w3) (O0 : Old Z n0 h0) :
    MetFree l (⟨"java/lang/Math", "min", "(II)I"⟩ : MethodName) (head1 (Jvm.Cond.code (⟨"java/lang/Math", "min", "(II)I"⟩ : MethodName) jdk_29_method_69_code 2 (some .int) :: ws) ({ frames := 0, cells := 0, slots := 0, locals := 0 } : Room)) (fun a U => a = #[(.int (3 : Int32)), (.int (2 : Int32))] ∧ Z.Warmed39 U.vm ∧ U.heap = h0) (fun _ _ _ _ _ => True) (fun _ U o U' => ∃ v L, o = .returned v ∧ Qp (some (.int (2 : Int32))) h0 n0 v U'.heap L ∧ FrameEnd U o U' L ({ frames := 0, cells := 0, slots := 0, locals := 0 } : Room).cells ({ frames := 0, cells := 0, slots := 0, locals := 0 } : Room).slots) := by
  refine MetFree.of_bodySF (Jvm.Free.JP.mathPlain rfl (by decide +kernel)) hisR ?_
  intro p e s m args below meth c s₁ Bd hml0 hP hK
  obtain ⟨rfl, hZ, hh⟩ := hP
  have hx := Bd.exec
  have hby := Bd.bytes
  have hml : c.maxLocals = 2 := hml0
  have hown : s.vm.findClass "java/lang/Math" = some m.cls := findClass_of_methodNamed Bd.named
  have hnm := (name_of_methodNamed Bd.named Bd.method).1
  have X0 : Stand p l e ({ frames := 0, cells := 0, slots := 0, locals := 0 } : Room) s m #[(.int (3 : Int32)), (.int (2 : Int32))] below meth c s₁ [] 0 0 := Stand.of_body Bd
  have e0 : s₁.heap = h0 := by rw [← hh, Bd.state]; rfl
  have N0 := Fr.nil n0
  obtain ⟨wS0, wE0, wS1, wE1, wS2, wE2, wS3, wE3, -⟩ := id hWd
  have pre0 : ∀ t, Steps p.tables e below (s₁.setTop (mkF m 0 #[.val (.int (3 : Int32)), .val (.int (2 : Int32))] [])) t → Steps p.tables e below (s₁.setTop (entryFrame m #[(.int (3 : Int32)), (.int (2 : Int32))] 2)) t := fun t k => castTop (ef6 m ) k
  obtain ⟨fs, hr, hrun, hended, hWr, hsame⟩ := X0.leave (v := some (.int (2 : Int32))) (fun h => by rw [Bd.returns] at h; cases h)
  refine ⟨_, _, pre0 _ ?_, hrun, hended, _, _, rfl, ?_, ⟨_, rfl⟩, hWr, hsame.mono (Nat.le_of_ble_eq_true rfl) (Nat.le_of_ble_eq_true rfl)⟩
  · show Steps p.tables e below (s₁.setTop (mkF m 0 #[.val (.int (3 : Int32)), .val (.int (2 : Int32))] [])) _
    refine XS.iloadN X0.here hx rfl (hb hby d_jdk_29_method_69_code_0) rfl ?_
    show Steps p.tables e below (s₁.setTop (mkF m 1 #[.val (.int (3 : Int32)), .val (.int (2 : Int32))] [(.int (3 : Int32))])) _
    refine XS.iloadN X0.here hx rfl (hb hby d_jdk_29_method_69_code_1) rfl ?_
    show Steps p.tables e below (s₁.setTop (mkF m 2 #[.val (.int (3 : Int32)), .val (.int (2 : Int32))] [(.int (2 : Int32)), (.int (3 : Int32))])) _
    refine XS.icmpYes X0.here hx rfl (pc0 := 2) (pc' := 9) rfl (hb hby d_jdk_29_method_69_code_2) rfl (by decide) (by decide) (by decide) ?_
    show Steps p.tables e below (s₁.setTop (mkF m 9 #[.val (.int (3 : Int32)), .val (.int (2 : Int32))] [])) _
    refine XS.iloadN X0.here hx rfl (hb hby d_jdk_29_method_69_code_9) rfl ?_
    show Steps p.tables e below (s₁.setTop (mkF m 10 #[.val (.int (3 : Int32)), .val (.int (2 : Int32))] [(.int (2 : Int32))])) _
    exact retOut X0 hx (t := .int) (i := .ireturn) Bd.returns rfl (Or.inl ⟨rfl, Or.inl rfl, _, rfl⟩) (hb hby d_jdk_29_method_69_code_10) hr
  · show Qp (some (.int (2 : Int32))) h0 n0 _ s₁.heap _
    rw [e0]
    exact ⟨rfl, N0, rfl⟩
theorem d_prog_34_method_5_code_23 : decode prog_34_method_5_code 23 = .ok (.iload_n 0, 1) := by decide +kernel
theorem d_prog_34_method_5_code_24 : decode prog_34_method_5_code 24 = .ok (.bipush 6, 2) := by decide +kernel
theorem d_prog_34_method_5_code_26 : decode prog_34_method_5_code 26 = .ok (.if_icmp .gt 10, 3) := by decide +kernel
theorem d_prog_34_method_5_code_29 : decode prog_34_method_5_code 29 = .ok (.getstatic 10, 3) := by decide +kernel
theorem d_prog_34_method_5_code_32 : decode prog_34_method_5_code 32 = .ok (.astore_n 1, 1) := by decide +kernel
theorem d_prog_34_method_5_code_33 : decode prog_34_method_5_code 33 = .ok (.goto 7, 3) := by decide +kernel
theorem ef7 (m : MethodId)    : entryFrame m #[(.int (4 : Int32))] 2 = mkF m 0 #[.val (.int (4 : Int32)), .unset] [] := by first | (simp [entryFrame, mkF, argsToLocals, Value.category]; done) | rfl
set_option maxRecDepth 65536 in
set_option maxHeartbeats 40000000 in
theorem rm8 (l : Launch) (Z : State) (a0 : Array Value) (hw : ∀ d ∈ tables_1, d.before a0 Z = true) (ws : List Jvm.Cond) (w0 w1 w2 w3 : Addr) (h0 : Heap) (n0 : Nat) (hWd : Wd Z w0 w1 w2 w3) (O0 : Old Z n0 h0) :
    MetFree l (⟨"com/example/libgate/libgate/Impact", "of", "(I)Lcom/example/libgate/libgate/Impact;"⟩ : MethodName) (head1 (Jvm.Cond.code (⟨"com/example/libgate/libgate/Impact", "of", "(I)Lcom/example/libgate/libgate/Impact;"⟩ : MethodName) prog_34_method_5_code 2 (some (.object "com/example/libgate/libgate/Impact")) :: ws) ({ frames := 0, cells := 0, slots := 0, locals := 0 } : Room)) (fun a U => a = #[(.int (4 : Int32))] ∧ Z.Warmed39 U.vm ∧ U.heap = h0) (fun _ _ _ _ _ => True) (fun _ U o U' => ∃ v L, o = .returned v ∧ Qp (some (.ref w2)) h0 n0 v U'.heap L ∧ FrameEnd U o U' L ({ frames := 0, cells := 0, slots := 0, locals := 0 } : Room).cells ({ frames := 0, cells := 0, slots := 0, locals := 0 } : Room).slots) := by
  refine MetFree.of_bodySF (plainFor_of_name pn0) hisR ?_
  intro p e s m args below meth c s₁ Bd hml0 hP hK
  obtain ⟨rfl, hZ, hh⟩ := hP
  have hx := Bd.exec
  have hby := Bd.bytes
  have hml : c.maxLocals = 2 := hml0
  have hown : s.vm.findClass "com/example/libgate/libgate/Impact" = some m.cls := findClass_of_methodNamed Bd.named
  have hnm := (name_of_methodNamed Bd.named Bd.method).1
  have X0 : Stand p l e ({ frames := 0, cells := 0, slots := 0, locals := 0 } : Room) s m #[(.int (4 : Int32))] below meth c s₁ [] 0 0 := Stand.of_body Bd
  have e0 : s₁.heap = h0 := by rw [← hh, Bd.state]; rfl
  have N0 := Fr.nil n0
  obtain ⟨wS0, wE0, wS1, wE1, wS2, wE2, wS3, wE3, -⟩ := id hWd
  have pre0 : ∀ t, Steps p.tables e below (s₁.setTop (mkF m 0 #[.val (.int (4 : Int32)), .unset] [])) t → Steps p.tables e below (s₁.setTop (entryFrame m #[(.int (4 : Int32))] 2)) t := fun t k => castTop (ef7 m ) k
  obtain ⟨T87, X87, e87, st87⟩ := getS2 X0 hx hZ hown (host := "") (Or.inl (hw _ (List.mem_of_getElem? (i := 22) rfl))) Via.refl e0 (wS2.ext O0.2) (g := (mkF m 29 #[.val (.int (4 : Int32)), .unset] [])) rfl (hb hby d_prog_34_method_5_code_29)
  obtain ⟨fs, hr, hrun, hended, hWr, hsame⟩ := X87.leave (v := some (.ref w2)) (fun h => by rw [Bd.returns] at h; cases h)
  refine ⟨_, _, pre0 _ ?_, hrun, hended, _, _, rfl, ?_, ⟨_, rfl⟩, hWr, hsame.mono (Nat.le_of_ble_eq_true rfl) (Nat.le_of_ble_eq_true rfl)⟩
  · show Steps p.tables e below (s₁.setTop (mkF m 0 #[.val (.int (4 : Int32)), .unset] [])) _
    refine XS.iloadN X0.here hx rfl (hb hby d_prog_34_method_5_code_0) rfl ?_
    show Steps p.tables e below (s₁.setTop (mkF m 1 #[.val (.int (4 : Int32)), .unset] [(.int (4 : Int32))])) _
    refine XS.ifYes X0.here hx rfl (pc0 := 1) (pc' := 11) rfl (hb hby d_prog_34_method_5_code_1) rfl (by decide) (by decide) (by decide) ?_
    show Steps p.tables e below (s₁.setTop (mkF m 11 #[.val (.int (4 : Int32)), .unset] [])) _
    refine XS.iloadN X0.here hx rfl (hb hby d_prog_34_method_5_code_11) rfl ?_
    show Steps p.tables e below (s₁.setTop (mkF m 12 #[.val (.int (4 : Int32)), .unset] [(.int (4 : Int32))])) _
    refine XS.iconst X0.here hx rfl (hb hby d_prog_34_method_5_code_12) ?_
    show Steps p.tables e below (s₁.setTop (mkF m 13 #[.val (.int (4 : Int32)), .unset] [(.int (3 : Int32)), (.int (4 : Int32))])) _
    refine XS.icmpYes X0.here hx rfl (pc0 := 13) (pc' := 23) rfl (hb hby d_prog_34_method_5_code_13) rfl (by decide) (by decide) (by decide) ?_
    show Steps p.tables e below (s₁.setTop (mkF m 23 #[.val (.int (4 : Int32)), .unset] [])) _
    refine XS.iloadN X0.here hx rfl (hb hby d_prog_34_method_5_code_23) rfl ?_
    show Steps p.tables e below (s₁.setTop (mkF m 24 #[.val (.int (4 : Int32)), .unset] [(.int (4 : Int32))])) _
    refine XS.bipush X0.here hx rfl (hb hby d_prog_34_method_5_code_24) ?_
    show Steps p.tables e below (s₁.setTop (mkF m 26 #[.val (.int (4 : Int32)), .unset] [(.int (6 : Int32)), (.int (4 : Int32))])) _
    refine XS.icmpNo X0.here hx rfl (hb hby d_prog_34_method_5_code_26) rfl (by decide) ?_
    show Steps p.tables e below (s₁.setTop (mkF m 29 #[.val (.int (4 : Int32)), .unset] [])) _
    refine st87 _ ?_
    show Steps p.tables e below (T87.setTop (mkF m 32 #[.val (.int (4 : Int32)), .unset] [(.ref w2)])) _
    refine XS.astoreN X87.here hx rfl (hb hby d_prog_34_method_5_code_32) rfl rfl (l' := #[.val (.int (4 : Int32)), .val (.ref w2)]) rfl ?_
    show Steps p.tables e below (T87.setTop (mkF m 33 #[.val (.int (4 : Int32)), .val (.ref w2)] [])) _
    refine XS.goto X87.here hx rfl (pc0 := 33) (pc' := 40) rfl (hb hby d_prog_34_method_5_code_33) (by decide) (by decide) ?_
    show Steps p.tables e below (T87.setTop (mkF m 40 #[.val (.int (4 : Int32)), .val (.ref w2)] [])) _
    refine XS.aloadN X87.here hx rfl (hb hby d_prog_34_method_5_code_40) rfl rfl ?_
    show Steps p.tables e below (T87.setTop (mkF m 41 #[.val (.int (4 : Int32)), .val (.ref w2)] [(.ref w2)])) _
    exact retOut X87 hx (t := (.object "com/example/libgate/libgate/Impact")) (i := .areturn) Bd.returns rfl (Or.inr (Or.inr (Or.inr (Or.inr ⟨rfl, rfl, rfl⟩)))) (hb hby d_prog_34_method_5_code_41) hr
  · show Qp (some (.ref w2)) h0 n0 _ T87.heap _
    rw [e87]
    exact ⟨rfl, N0, rfl⟩
theorem ef8 (m : MethodId)    : entryFrame m #[(.int (5 : Int32))] 2 = mkF m 0 #[.val (.int (5 : Int32)), .unset] [] := by first | (simp [entryFrame, mkF, argsToLocals, Value.category]; done) | rfl
set_option maxRecDepth 65536 in
set_option maxHeartbeats 40000000 in
theorem rm9 (l : Launch) (Z : State) (a0 : Array Value) (hw : ∀ d ∈ tables_1, d.before a0 Z = true) (ws : List Jvm.Cond) (w0 w1 w2 w3 : Addr) (h0 : Heap) (n0 : Nat) (hWd : Wd Z w0 w1 w2 w3) (O0 : Old Z n0 h0) :
    MetFree l (⟨"com/example/libgate/libgate/Impact", "of", "(I)Lcom/example/libgate/libgate/Impact;"⟩ : MethodName) (head1 (Jvm.Cond.code (⟨"com/example/libgate/libgate/Impact", "of", "(I)Lcom/example/libgate/libgate/Impact;"⟩ : MethodName) prog_34_method_5_code 2 (some (.object "com/example/libgate/libgate/Impact")) :: ws) ({ frames := 0, cells := 0, slots := 0, locals := 0 } : Room)) (fun a U => a = #[(.int (5 : Int32))] ∧ Z.Warmed39 U.vm ∧ U.heap = h0) (fun _ _ _ _ _ => True) (fun _ U o U' => ∃ v L, o = .returned v ∧ Qp (some (.ref w2)) h0 n0 v U'.heap L ∧ FrameEnd U o U' L ({ frames := 0, cells := 0, slots := 0, locals := 0 } : Room).cells ({ frames := 0, cells := 0, slots := 0, locals := 0 } : Room).slots) := by
  refine MetFree.of_bodySF (plainFor_of_name pn0) hisR ?_
  intro p e s m args below meth c s₁ Bd hml0 hP hK
  obtain ⟨rfl, hZ, hh⟩ := hP
  have hx := Bd.exec
  have hby := Bd.bytes
  have hml : c.maxLocals = 2 := hml0
  have hown : s.vm.findClass "com/example/libgate/libgate/Impact" = some m.cls := findClass_of_methodNamed Bd.named
  have hnm := (name_of_methodNamed Bd.named Bd.method).1
  have X0 : Stand p l e ({ frames := 0, cells := 0, slots := 0, locals := 0 } : Room) s m #[(.int (5 : Int32))] below meth c s₁ [] 0 0 := Stand.of_body Bd
  have e0 : s₁.heap = h0 := by rw [← hh, Bd.state]; rfl
  have N0 := Fr.nil n0
  obtain ⟨wS0, wE0, wS1, wE1, wS2, wE2, wS3, wE3, -⟩ := id hWd
  have pre0 : ∀ t, Steps p.tables e below (s₁.setTop (mkF m 0 #[.val (.int (5 : Int32)), .unset] [])) t → Steps p.tables e below (s₁.setTop (entryFrame m #[(.int (5 : Int32))] 2)) t := fun t k => castTop (ef8 m ) k
  obtain ⟨T100, X100, e100, st100⟩ := getS2 X0 hx hZ hown (host := "") (Or.inl (hw _ (List.mem_of_getElem? (i := 22) rfl))) Via.refl e0 (wS2.ext O0.2) (g := (mkF m 29 #[.val (.int (5 : Int32)), .unset] [])) rfl (hb hby d_prog_34_method_5_code_29)
  obtain ⟨fs, hr, hrun, hended, hWr, hsame⟩ := X100.leave (v := some (.ref w2)) (fun h => by rw [Bd.returns] at h; cases h)
  refine ⟨_, _, pre0 _ ?_, hrun, hended, _, _, rfl, ?_, ⟨_, rfl⟩, hWr, hsame.mono (Nat.le_of_ble_eq_true rfl) (Nat.le_of_ble_eq_true rfl)⟩
  · show Steps p.tables e below (s₁.setTop (mkF m 0 #[.val (.int (5 : Int32)), .unset] [])) _
    refine XS.iloadN X0.here hx rfl (hb hby d_prog_34_method_5_code_0) rfl ?_
    show Steps p.tables e below (s₁.setTop (mkF m 1 #[.val (.int (5 : Int32)), .unset] [(.int (5 : Int32))])) _
    refine XS.ifYes X0.here hx rfl (pc0 := 1) (pc' := 11) rfl (hb hby d_prog_34_method_5_code_1) rfl (by decide) (by decide) (by decide) ?_
    show Steps p.tables e below (s₁.setTop (mkF m 11 #[.val (.int (5 : Int32)), .unset] [])) _
    refine XS.iloadN X0.here hx rfl (hb hby d_prog_34_method_5_code_11) rfl ?_
    show Steps p.tables e below (s₁.setTop (mkF m 12 #[.val (.int (5 : Int32)), .unset] [(.int (5 : Int32))])) _
    refine XS.iconst X0.here hx rfl (hb hby d_prog_34_method_5_code_12) ?_
    show Steps p.tables e below (s₁.setTop (mkF m 13 #[.val (.int (5 : Int32)), .unset] [(.int (3 : Int32)), (.int (5 : Int32))])) _
    refine XS.icmpYes X0.here hx rfl (pc0 := 13) (pc' := 23) rfl (hb hby d_prog_34_method_5_code_13) rfl (by decide) (by decide) (by decide) ?_
    show Steps p.tables e below (s₁.setTop (mkF m 23 #[.val (.int (5 : Int32)), .unset] [])) _
    refine XS.iloadN X0.here hx rfl (hb hby d_prog_34_method_5_code_23) rfl ?_
    show Steps p.tables e below (s₁.setTop (mkF m 24 #[.val (.int (5 : Int32)), .unset] [(.int (5 : Int32))])) _
    refine XS.bipush X0.here hx rfl (hb hby d_prog_34_method_5_code_24) ?_
    show Steps p.tables e below (s₁.setTop (mkF m 26 #[.val (.int (5 : Int32)), .unset] [(.int (6 : Int32)), (.int (5 : Int32))])) _
    refine XS.icmpNo X0.here hx rfl (hb hby d_prog_34_method_5_code_26) rfl (by decide) ?_
    show Steps p.tables e below (s₁.setTop (mkF m 29 #[.val (.int (5 : Int32)), .unset] [])) _
    refine st100 _ ?_
    show Steps p.tables e below (T100.setTop (mkF m 32 #[.val (.int (5 : Int32)), .unset] [(.ref w2)])) _
    refine XS.astoreN X100.here hx rfl (hb hby d_prog_34_method_5_code_32) rfl rfl (l' := #[.val (.int (5 : Int32)), .val (.ref w2)]) rfl ?_
    show Steps p.tables e below (T100.setTop (mkF m 33 #[.val (.int (5 : Int32)), .val (.ref w2)] [])) _
    refine XS.goto X100.here hx rfl (pc0 := 33) (pc' := 40) rfl (hb hby d_prog_34_method_5_code_33) (by decide) (by decide) ?_
    show Steps p.tables e below (T100.setTop (mkF m 40 #[.val (.int (5 : Int32)), .val (.ref w2)] [])) _
    refine XS.aloadN X100.here hx rfl (hb hby d_prog_34_method_5_code_40) rfl rfl ?_
    show Steps p.tables e below (T100.setTop (mkF m 41 #[.val (.int (5 : Int32)), .val (.ref w2)] [(.ref w2)])) _
    exact retOut X100 hx (t := (.object "com/example/libgate/libgate/Impact")) (i := .areturn) Bd.returns rfl (Or.inr (Or.inr (Or.inr (Or.inr ⟨rfl, rfl, rfl⟩)))) (hb hby d_prog_34_method_5_code_41) hr
  · show Qp (some (.ref w2)) h0 n0 _ T100.heap _
    rw [e100]
    exact ⟨rfl, N0, rfl⟩
theorem ef9 (m : MethodId)    : entryFrame m #[(.int (6 : Int32))] 2 = mkF m 0 #[.val (.int (6 : Int32)), .unset] [] := by first | (simp [entryFrame, mkF, argsToLocals, Value.category]; done) | rfl
set_option maxRecDepth 65536 in
set_option maxHeartbeats 40000000 in
theorem rm10 (l : Launch) (Z : State) (a0 : Array Value) (hw : ∀ d ∈ tables_1, d.before a0 Z = true) (ws : List Jvm.Cond) (w0 w1 w2 w3 : Addr) (h0 : Heap) (n0 : Nat) (hWd : Wd Z w0 w1 w2 w3) (O0 : Old Z n0 h0) :
    MetFree l (⟨"com/example/libgate/libgate/Impact", "of", "(I)Lcom/example/libgate/libgate/Impact;"⟩ : MethodName) (head1 (Jvm.Cond.code (⟨"com/example/libgate/libgate/Impact", "of", "(I)Lcom/example/libgate/libgate/Impact;"⟩ : MethodName) prog_34_method_5_code 2 (some (.object "com/example/libgate/libgate/Impact")) :: ws) ({ frames := 0, cells := 0, slots := 0, locals := 0 } : Room)) (fun a U => a = #[(.int (6 : Int32))] ∧ Z.Warmed39 U.vm ∧ U.heap = h0) (fun _ _ _ _ _ => True) (fun _ U o U' => ∃ v L, o = .returned v ∧ Qp (some (.ref w2)) h0 n0 v U'.heap L ∧ FrameEnd U o U' L ({ frames := 0, cells := 0, slots := 0, locals := 0 } : Room).cells ({ frames := 0, cells := 0, slots := 0, locals := 0 } : Room).slots) := by
  refine MetFree.of_bodySF (plainFor_of_name pn0) hisR ?_
  intro p e s m args below meth c s₁ Bd hml0 hP hK
  obtain ⟨rfl, hZ, hh⟩ := hP
  have hx := Bd.exec
  have hby := Bd.bytes
  have hml : c.maxLocals = 2 := hml0
  have hown : s.vm.findClass "com/example/libgate/libgate/Impact" = some m.cls := findClass_of_methodNamed Bd.named
  have hnm := (name_of_methodNamed Bd.named Bd.method).1
  have X0 : Stand p l e ({ frames := 0, cells := 0, slots := 0, locals := 0 } : Room) s m #[(.int (6 : Int32))] below meth c s₁ [] 0 0 := Stand.of_body Bd
  have e0 : s₁.heap = h0 := by rw [← hh, Bd.state]; rfl
  have N0 := Fr.nil n0
  obtain ⟨wS0, wE0, wS1, wE1, wS2, wE2, wS3, wE3, -⟩ := id hWd
  have pre0 : ∀ t, Steps p.tables e below (s₁.setTop (mkF m 0 #[.val (.int (6 : Int32)), .unset] [])) t → Steps p.tables e below (s₁.setTop (entryFrame m #[(.int (6 : Int32))] 2)) t := fun t k => castTop (ef9 m ) k
  obtain ⟨T113, X113, e113, st113⟩ := getS2 X0 hx hZ hown (host := "") (Or.inl (hw _ (List.mem_of_getElem? (i := 22) rfl))) Via.refl e0 (wS2.ext O0.2) (g := (mkF m 29 #[.val (.int (6 : Int32)), .unset] [])) rfl (hb hby d_prog_34_method_5_code_29)
  obtain ⟨fs, hr, hrun, hended, hWr, hsame⟩ := X113.leave (v := some (.ref w2)) (fun h => by rw [Bd.returns] at h; cases h)
  refine ⟨_, _, pre0 _ ?_, hrun, hended, _, _, rfl, ?_, ⟨_, rfl⟩, hWr, hsame.mono (Nat.le_of_ble_eq_true rfl) (Nat.le_of_ble_eq_true rfl)⟩
  · show Steps p.tables e below (s₁.setTop (mkF m 0 #[.val (.int (6 : Int32)), .unset] [])) _
    refine XS.iloadN X0.here hx rfl (hb hby d_prog_34_method_5_code_0) rfl ?_
    show Steps p.tables e below (s₁.setTop (mkF m 1 #[.val (.int (6 : Int32)), .unset] [(.int (6 : Int32))])) _
    refine XS.ifYes X0.here hx rfl (pc0 := 1) (pc' := 11) rfl (hb hby d_prog_34_method_5_code_1) rfl (by decide) (by decide) (by decide) ?_
    show Steps p.tables e below (s₁.setTop (mkF m 11 #[.val (.int (6 : Int32)), .unset] [])) _
    refine XS.iloadN X0.here hx rfl (hb hby d_prog_34_method_5_code_11) rfl ?_
    show Steps p.tables e below (s₁.setTop (mkF m 12 #[.val (.int (6 : Int32)), .unset] [(.int (6 : Int32))])) _
    refine XS.iconst X0.here hx rfl (hb hby d_prog_34_method_5_code_12) ?_
    show Steps p.tables e below (s₁.setTop (mkF m 13 #[.val (.int (6 : Int32)), .unset] [(.int (3 : Int32)), (.int (6 : Int32))])) _
    refine XS.icmpYes X0.here hx rfl (pc0 := 13) (pc' := 23) rfl (hb hby d_prog_34_method_5_code_13) rfl (by decide) (by decide) (by decide) ?_
    show Steps p.tables e below (s₁.setTop (mkF m 23 #[.val (.int (6 : Int32)), .unset] [])) _
    refine XS.iloadN X0.here hx rfl (hb hby d_prog_34_method_5_code_23) rfl ?_
    show Steps p.tables e below (s₁.setTop (mkF m 24 #[.val (.int (6 : Int32)), .unset] [(.int (6 : Int32))])) _
    refine XS.bipush X0.here hx rfl (hb hby d_prog_34_method_5_code_24) ?_
    show Steps p.tables e below (s₁.setTop (mkF m 26 #[.val (.int (6 : Int32)), .unset] [(.int (6 : Int32)), (.int (6 : Int32))])) _
    refine XS.icmpNo X0.here hx rfl (hb hby d_prog_34_method_5_code_26) rfl (by decide) ?_
    show Steps p.tables e below (s₁.setTop (mkF m 29 #[.val (.int (6 : Int32)), .unset] [])) _
    refine st113 _ ?_
    show Steps p.tables e below (T113.setTop (mkF m 32 #[.val (.int (6 : Int32)), .unset] [(.ref w2)])) _
    refine XS.astoreN X113.here hx rfl (hb hby d_prog_34_method_5_code_32) rfl rfl (l' := #[.val (.int (6 : Int32)), .val (.ref w2)]) rfl ?_
    show Steps p.tables e below (T113.setTop (mkF m 33 #[.val (.int (6 : Int32)), .val (.ref w2)] [])) _
    refine XS.goto X113.here hx rfl (pc0 := 33) (pc' := 40) rfl (hb hby d_prog_34_method_5_code_33) (by decide) (by decide) ?_
    show Steps p.tables e below (T113.setTop (mkF m 40 #[.val (.int (6 : Int32)), .val (.ref w2)] [])) _
    refine XS.aloadN X113.here hx rfl (hb hby d_prog_34_method_5_code_40) rfl rfl ?_
    show Steps p.tables e below (T113.setTop (mkF m 41 #[.val (.int (6 : Int32)), .val (.ref w2)] [(.ref w2)])) _
    exact retOut X113 hx (t := (.object "com/example/libgate/libgate/Impact")) (i := .areturn) Bd.returns rfl (Or.inr (Or.inr (Or.inr (Or.inr ⟨rfl, rfl, rfl⟩)))) (hb hby d_prog_34_method_5_code_41) hr
  · show Qp (some (.ref w2)) h0 n0 _ T113.heap _
    rw [e113]
    exact ⟨rfl, N0, rfl⟩
theorem d_jdk_29_method_69_code_5 : decode jdk_29_method_69_code 5 = .ok (.iload_n 0, 1) := by decide +kernel
theorem d_jdk_29_method_69_code_6 : decode jdk_29_method_69_code 6 = .ok (.goto 4, 3) := by decide +kernel
theorem ef10 (m : MethodId)    : entryFrame m #[(.int (3 : Int32)), (.int (3 : Int32))] 2 = mkF m 0 #[.val (.int (3 : Int32)), .val (.int (3 : Int32))] [] := by first | (simp [entryFrame, mkF, argsToLocals, Value.category]; done) | rfl
set_option maxRecDepth 65536 in
set_option maxHeartbeats 40000000 in
theorem rm11 (l : Launch) (Z : State) (a0 : Array Value) (hw : ∀ d ∈ tables_1, d.before a0 Z = true) (ws : List Jvm.Cond) (w0 w1 w2 w3 : Addr) (h0 : Heap) (n0 : Nat) (hWd : Wd Z w0 w1 w2 w3) (O0 : Old Z n0 h0) :
    MetFree l (⟨"java/lang/Math", "min", "(II)I"⟩ : MethodName) (head1 (Jvm.Cond.code (⟨"java/lang/Math", "min", "(II)I"⟩ : MethodName) jdk_29_method_69_code 2 (some .int) :: ws) ({ frames := 0, cells := 0, slots := 0, locals := 0 } : Room)) (fun a U => a = #[(.int (3 : Int32)), (.int (3 : Int32))] ∧ Z.Warmed39 U.vm ∧ U.heap = h0) (fun _ _ _ _ _ => True) (fun _ U o U' => ∃ v L, o = .returned v ∧ Qp (some (.int (3 : Int32))) h0 n0 v U'.heap L ∧ FrameEnd U o U' L ({ frames := 0, cells := 0, slots := 0, locals := 0 } : Room).cells ({ frames := 0, cells := 0, slots := 0, locals := 0 } : Room).slots) := by
  refine MetFree.of_bodySF (Jvm.Free.JP.mathPlain rfl (by decide +kernel)) hisR ?_
  intro p e s m args below meth c s₁ Bd hml0 hP hK
  obtain ⟨rfl, hZ, hh⟩ := hP
  have hx := Bd.exec
  have hby := Bd.bytes
  have hml : c.maxLocals = 2 := hml0
  have hown : s.vm.findClass "java/lang/Math" = some m.cls := findClass_of_methodNamed Bd.named
  have hnm := (name_of_methodNamed Bd.named Bd.method).1
  have X0 : Stand p l e ({ frames := 0, cells := 0, slots := 0, locals := 0 } : Room) s m #[(.int (3 : Int32)), (.int (3 : Int32))] below meth c s₁ [] 0 0 := Stand.of_body Bd
  have e0 : s₁.heap = h0 := by rw [← hh, Bd.state]; rfl
  have N0 := Fr.nil n0
  obtain ⟨wS0, wE0, wS1, wE1, wS2, wE2, wS3, wE3, -⟩ := id hWd
  have pre0 : ∀ t, Steps p.tables e below (s₁.setTop (mkF m 0 #[.val (.int (3 : Int32)), .val (.int (3 : Int32))] [])) t → Steps p.tables e below (s₁.setTop (entryFrame m #[(.int (3 : Int32)), (.int (3 : Int32))] 2)) t := fun t k => castTop (ef10 m ) k
  obtain ⟨fs, hr, hrun, hended, hWr, hsame⟩ := X0.leave (v := some (.int (3 : Int32))) (fun h => by rw [Bd.returns] at h; cases h)
  refine ⟨_, _, pre0 _ ?_, hrun, hended, _, _, rfl, ?_, ⟨_, rfl⟩, hWr, hsame.mono (Nat.le_of_ble_eq_true rfl) (Nat.le_of_ble_eq_true rfl)⟩
  · show Steps p.tables e below (s₁.setTop (mkF m 0 #[.val (.int (3 : Int32)), .val (.int (3 : Int32))] [])) _
    refine XS.iloadN X0.here hx rfl (hb hby d_jdk_29_method_69_code_0) rfl ?_
    show Steps p.tables e below (s₁.setTop (mkF m 1 #[.val (.int (3 : Int32)), .val (.int (3 : Int32))] [(.int (3 : Int32))])) _
    refine XS.iloadN X0.here hx rfl (hb hby d_jdk_29_method_69_code_1) rfl ?_
    show Steps p.tables e below (s₁.setTop (mkF m 2 #[.val (.int (3 : Int32)), .val (.int (3 : Int32))] [(.int (3 : Int32)), (.int (3 : Int32))])) _
    refine XS.icmpNo X0.here hx rfl (hb hby d_jdk_29_method_69_code_2) rfl (by decide) ?_
    show Steps p.tables e below (s₁.setTop (mkF m 5 #[.val (.int (3 : Int32)), .val (.int (3 : Int32))] [])) _
    refine XS.iloadN X0.here hx rfl (hb hby d_jdk_29_method_69_code_5) rfl ?_
    show Steps p.tables e below (s₁.setTop (mkF m 6 #[.val (.int (3 : Int32)), .val (.int (3 : Int32))] [(.int (3 : Int32))])) _
    refine XS.goto X0.here hx rfl (pc0 := 6) (pc' := 10) rfl (hb hby d_jdk_29_method_69_code_6) (by decide) (by decide) ?_
    show Steps p.tables e below (s₁.setTop (mkF m 10 #[.val (.int (3 : Int32)), .val (.int (3 : Int32))] [(.int (3 : Int32))])) _
    exact retOut X0 hx (t := .int) (i := .ireturn) Bd.returns rfl (Or.inl ⟨rfl, Or.inl rfl, _, rfl⟩) (hb hby d_jdk_29_method_69_code_10) hr
  · show Qp (some (.int (3 : Int32))) h0 n0 _ s₁.heap _
    rw [e0]
    exact ⟨rfl, N0, rfl⟩
theorem d_prog_34_method_5_code_36 : decode prog_34_method_5_code 36 = .ok (.getstatic 13, 3) := by decide +kernel
theorem d_prog_34_method_5_code_39 : decode prog_34_method_5_code 39 = .ok (.astore_n 1, 1) := by decide +kernel
theorem ef11 (m : MethodId)    : entryFrame m #[(.int (7 : Int32))] 2 = mkF m 0 #[.val (.int (7 : Int32)), .unset] [] := by first | (simp [entryFrame, mkF, argsToLocals, Value.category]; done) | rfl
set_option maxRecDepth 65536 in
set_option maxHeartbeats 40000000 in
theorem rm12 (l : Launch) (Z : State) (a0 : Array Value) (hw : ∀ d ∈ tables_1, d.before a0 Z = true) (ws : List Jvm.Cond) (w0 w1 w2 w3 : Addr) (h0 : Heap) (n0 : Nat) (hWd : Wd Z w0 w1 w2 w3) (O0 : Old Z n0 h0) :
    MetFree l (⟨"com/example/libgate/libgate/Impact", "of", "(I)Lcom/example/libgate/libgate/Impact;"⟩ : MethodName) (head1 (Jvm.Cond.code (⟨"com/example/libgate/libgate/Impact", "of", "(I)Lcom/example/libgate/libgate/Impact;"⟩ : MethodName) prog_34_method_5_code 2 (some (.object "com/example/libgate/libgate/Impact")) :: ws) ({ frames := 0, cells := 0, slots := 0, locals := 0 } : Room)) (fun a U => a = #[(.int (7 : Int32))] ∧ Z.Warmed39 U.vm ∧ U.heap = h0) (fun _ _ _ _ _ => True) (fun _ U o U' => ∃ v L, o = .returned v ∧ Qp (some (.ref w3)) h0 n0 v U'.heap L ∧ FrameEnd U o U' L ({ frames := 0, cells := 0, slots := 0, locals := 0 } : Room).cells ({ frames := 0, cells := 0, slots := 0, locals := 0 } : Room).slots) := by
  refine MetFree.of_bodySF (plainFor_of_name pn0) hisR ?_
  intro p e s m args below meth c s₁ Bd hml0 hP hK
  obtain ⟨rfl, hZ, hh⟩ := hP
  have hx := Bd.exec
  have hby := Bd.bytes
  have hml : c.maxLocals = 2 := hml0
  have hown : s.vm.findClass "com/example/libgate/libgate/Impact" = some m.cls := findClass_of_methodNamed Bd.named
  have hnm := (name_of_methodNamed Bd.named Bd.method).1
  have X0 : Stand p l e ({ frames := 0, cells := 0, slots := 0, locals := 0 } : Room) s m #[(.int (7 : Int32))] below meth c s₁ [] 0 0 := Stand.of_body Bd
  have e0 : s₁.heap = h0 := by rw [← hh, Bd.state]; rfl
  have N0 := Fr.nil n0
  obtain ⟨wS0, wE0, wS1, wE1, wS2, wE2, wS3, wE3, -⟩ := id hWd
  have pre0 : ∀ t, Steps p.tables e below (s₁.setTop (mkF m 0 #[.val (.int (7 : Int32)), .unset] [])) t → Steps p.tables e below (s₁.setTop (entryFrame m #[(.int (7 : Int32))] 2)) t := fun t k => castTop (ef11 m ) k
  obtain ⟨T126, X126, e126, st126⟩ := getS2 X0 hx hZ hown (host := "") (Or.inl (hw _ (List.mem_of_getElem? (i := 23) rfl))) Via.refl e0 (wS3.ext O0.2) (g := (mkF m 36 #[.val (.int (7 : Int32)), .unset] [])) rfl (hb hby d_prog_34_method_5_code_36)
  obtain ⟨fs, hr, hrun, hended, hWr, hsame⟩ := X126.leave (v := some (.ref w3)) (fun h => by rw [Bd.returns] at h; cases h)
  refine ⟨_, _, pre0 _ ?_, hrun, hended, _, _, rfl, ?_, ⟨_, rfl⟩, hWr, hsame.mono (Nat.le_of_ble_eq_true rfl) (Nat.le_of_ble_eq_true rfl)⟩
  · show Steps p.tables e below (s₁.setTop (mkF m 0 #[.val (.int (7 : Int32)), .unset] [])) _
    refine XS.iloadN X0.here hx rfl (hb hby d_prog_34_method_5_code_0) rfl ?_
    show Steps p.tables e below (s₁.setTop (mkF m 1 #[.val (.int (7 : Int32)), .unset] [(.int (7 : Int32))])) _
    refine XS.ifYes X0.here hx rfl (pc0 := 1) (pc' := 11) rfl (hb hby d_prog_34_method_5_code_1) rfl (by decide) (by decide) (by decide) ?_
    show Steps p.tables e below (s₁.setTop (mkF m 11 #[.val (.int (7 : Int32)), .unset] [])) _
    refine XS.iloadN X0.here hx rfl (hb hby d_prog_34_method_5_code_11) rfl ?_
    show Steps p.tables e below (s₁.setTop (mkF m 12 #[.val (.int (7 : Int32)), .unset] [(.int (7 : Int32))])) _
    refine XS.iconst X0.here hx rfl (hb hby d_prog_34_method_5_code_12) ?_
    show Steps p.tables e below (s₁.setTop (mkF m 13 #[.val (.int (7 : Int32)), .unset] [(.int (3 : Int32)), (.int (7 : Int32))])) _
    refine XS.icmpYes X0.here hx rfl (pc0 := 13) (pc' := 23) rfl (hb hby d_prog_34_method_5_code_13) rfl (by decide) (by decide) (by decide) ?_
    show Steps p.tables e below (s₁.setTop (mkF m 23 #[.val (.int (7 : Int32)), .unset] [])) _
    refine XS.iloadN X0.here hx rfl (hb hby d_prog_34_method_5_code_23) rfl ?_
    show Steps p.tables e below (s₁.setTop (mkF m 24 #[.val (.int (7 : Int32)), .unset] [(.int (7 : Int32))])) _
    refine XS.bipush X0.here hx rfl (hb hby d_prog_34_method_5_code_24) ?_
    show Steps p.tables e below (s₁.setTop (mkF m 26 #[.val (.int (7 : Int32)), .unset] [(.int (6 : Int32)), (.int (7 : Int32))])) _
    refine XS.icmpYes X0.here hx rfl (pc0 := 26) (pc' := 36) rfl (hb hby d_prog_34_method_5_code_26) rfl (by decide) (by decide) (by decide) ?_
    show Steps p.tables e below (s₁.setTop (mkF m 36 #[.val (.int (7 : Int32)), .unset] [])) _
    refine st126 _ ?_
    show Steps p.tables e below (T126.setTop (mkF m 39 #[.val (.int (7 : Int32)), .unset] [(.ref w3)])) _
    refine XS.astoreN X126.here hx rfl (hb hby d_prog_34_method_5_code_39) rfl rfl (l' := #[.val (.int (7 : Int32)), .val (.ref w3)]) rfl ?_
    show Steps p.tables e below (T126.setTop (mkF m 40 #[.val (.int (7 : Int32)), .val (.ref w3)] [])) _
    refine XS.aloadN X126.here hx rfl (hb hby d_prog_34_method_5_code_40) rfl rfl ?_
    show Steps p.tables e below (T126.setTop (mkF m 41 #[.val (.int (7 : Int32)), .val (.ref w3)] [(.ref w3)])) _
    exact retOut X126 hx (t := (.object "com/example/libgate/libgate/Impact")) (i := .areturn) Bd.returns rfl (Or.inr (Or.inr (Or.inr (Or.inr ⟨rfl, rfl, rfl⟩)))) (hb hby d_prog_34_method_5_code_41) hr
  · show Qp (some (.ref w3)) h0 n0 _ T126.heap _
    rw [e126]
    exact ⟨rfl, N0, rfl⟩
theorem ef12 (m : MethodId)    : entryFrame m #[(.int (8 : Int32))] 2 = mkF m 0 #[.val (.int (8 : Int32)), .unset] [] := by first | (simp [entryFrame, mkF, argsToLocals, Value.category]; done) | rfl
set_option maxRecDepth 65536 in
set_option maxHeartbeats 40000000 in
theorem rm13 (l : Launch) (Z : State) (a0 : Array Value) (hw : ∀ d ∈ tables_1, d.before a0 Z = true) (ws : List Jvm.Cond) (w0 w1 w2 w3 : Addr) (h0 : Heap) (n0 : Nat) (hWd : Wd Z w0 w1 w2 w3) (O0 : Old Z n0 h0) :
    MetFree l (⟨"com/example/libgate/libgate/Impact", "of", "(I)Lcom/example/libgate/libgate/Impact;"⟩ : MethodName) (head1 (Jvm.Cond.code (⟨"com/example/libgate/libgate/Impact", "of", "(I)Lcom/example/libgate/libgate/Impact;"⟩ : MethodName) prog_34_method_5_code 2 (some (.object "com/example/libgate/libgate/Impact")) :: ws) ({ frames := 0, cells := 0, slots := 0, locals := 0 } : Room)) (fun a U => a = #[(.int (8 : Int32))] ∧ Z.Warmed39 U.vm ∧ U.heap = h0) (fun _ _ _ _ _ => True) (fun _ U o U' => ∃ v L, o = .returned v ∧ Qp (some (.ref w3)) h0 n0 v U'.heap L ∧ FrameEnd U o U' L ({ frames := 0, cells := 0, slots := 0, locals := 0 } : Room).cells ({ frames := 0, cells := 0, slots := 0, locals := 0 } : Room).slots) := by
  refine MetFree.of_bodySF (plainFor_of_name pn0) hisR ?_
  intro p e s m args below meth c s₁ Bd hml0 hP hK
  obtain ⟨rfl, hZ, hh⟩ := hP
  have hx := Bd.exec
  have hby := Bd.bytes
  have hml : c.maxLocals = 2 := hml0
  have hown : s.vm.findClass "com/example/libgate/libgate/Impact" = some m.cls := findClass_of_methodNamed Bd.named
  have hnm := (name_of_methodNamed Bd.named Bd.method).1
  have X0 : Stand p l e ({ frames := 0, cells := 0, slots := 0, locals := 0 } : Room) s m #[(.int (8 : Int32))] below meth c s₁ [] 0 0 := Stand.of_body Bd
  have e0 : s₁.heap = h0 := by rw [← hh, Bd.state]; rfl
  have N0 := Fr.nil n0
  obtain ⟨wS0, wE0, wS1, wE1, wS2, wE2, wS3, wE3, -⟩ := id hWd
  have pre0 : ∀ t, Steps p.tables e below (s₁.setTop (mkF m 0 #[.val (.int (8 : Int32)), .unset] [])) t → Steps p.tables e below (s₁.setTop (entryFrame m #[(.int (8 : Int32))] 2)) t := fun t k => castTop (ef12 m ) k
  obtain ⟨T139, X139, e139, st139⟩ := getS2 X0 hx hZ hown (host := "") (Or.inl (hw _ (List.mem_of_getElem? (i := 23) rfl))) Via.refl e0 (wS3.ext O0.2) (g := (mkF m 36 #[.val (.int (8 : Int32)), .unset] [])) rfl (hb hby d_prog_34_method_5_code_36)
  obtain ⟨fs, hr, hrun, hended, hWr, hsame⟩ := X139.leave (v := some (.ref w3)) (fun h => by rw [Bd.returns] at h; cases h)
  refine ⟨_, _, pre0 _ ?_, hrun, hended, _, _, rfl, ?_, ⟨_, rfl⟩, hWr, hsame.mono (Nat.le_of_ble_eq_true rfl) (Nat.le_of_ble_eq_true rfl)⟩
  · show Steps p.tables e below (s₁.setTop (mkF m 0 #[.val (.int (8 : Int32)), .unset] [])) _
    refine XS.iloadN X0.here hx rfl (hb hby d_prog_34_method_5_code_0) rfl ?_
    show Steps p.tables e below (s₁.setTop (mkF m 1 #[.val (.int (8 : Int32)), .unset] [(.int (8 : Int32))])) _
    refine XS.ifYes X0.here hx rfl (pc0 := 1) (pc' := 11) rfl (hb hby d_prog_34_method_5_code_1) rfl (by decide) (by decide) (by decide) ?_
    show Steps p.tables e below (s₁.setTop (mkF m 11 #[.val (.int (8 : Int32)), .unset] [])) _
    refine XS.iloadN X0.here hx rfl (hb hby d_prog_34_method_5_code_11) rfl ?_
    show Steps p.tables e below (s₁.setTop (mkF m 12 #[.val (.int (8 : Int32)), .unset] [(.int (8 : Int32))])) _
    refine XS.iconst X0.here hx rfl (hb hby d_prog_34_method_5_code_12) ?_
    show Steps p.tables e below (s₁.setTop (mkF m 13 #[.val (.int (8 : Int32)), .unset] [(.int (3 : Int32)), (.int (8 : Int32))])) _
    refine XS.icmpYes X0.here hx rfl (pc0 := 13) (pc' := 23) rfl (hb hby d_prog_34_method_5_code_13) rfl (by decide) (by decide) (by decide) ?_
    show Steps p.tables e below (s₁.setTop (mkF m 23 #[.val (.int (8 : Int32)), .unset] [])) _
    refine XS.iloadN X0.here hx rfl (hb hby d_prog_34_method_5_code_23) rfl ?_
    show Steps p.tables e below (s₁.setTop (mkF m 24 #[.val (.int (8 : Int32)), .unset] [(.int (8 : Int32))])) _
    refine XS.bipush X0.here hx rfl (hb hby d_prog_34_method_5_code_24) ?_
    show Steps p.tables e below (s₁.setTop (mkF m 26 #[.val (.int (8 : Int32)), .unset] [(.int (6 : Int32)), (.int (8 : Int32))])) _
    refine XS.icmpYes X0.here hx rfl (pc0 := 26) (pc' := 36) rfl (hb hby d_prog_34_method_5_code_26) rfl (by decide) (by decide) (by decide) ?_
    show Steps p.tables e below (s₁.setTop (mkF m 36 #[.val (.int (8 : Int32)), .unset] [])) _
    refine st139 _ ?_
    show Steps p.tables e below (T139.setTop (mkF m 39 #[.val (.int (8 : Int32)), .unset] [(.ref w3)])) _
    refine XS.astoreN X139.here hx rfl (hb hby d_prog_34_method_5_code_39) rfl rfl (l' := #[.val (.int (8 : Int32)), .val (.ref w3)]) rfl ?_
    show Steps p.tables e below (T139.setTop (mkF m 40 #[.val (.int (8 : Int32)), .val (.ref w3)] [])) _
    refine XS.aloadN X139.here hx rfl (hb hby d_prog_34_method_5_code_40) rfl rfl ?_
    show Steps p.tables e below (T139.setTop (mkF m 41 #[.val (.int (8 : Int32)), .val (.ref w3)] [(.ref w3)])) _
    exact retOut X139 hx (t := (.object "com/example/libgate/libgate/Impact")) (i := .areturn) Bd.returns rfl (Or.inr (Or.inr (Or.inr (Or.inr ⟨rfl, rfl, rfl⟩)))) (hb hby d_prog_34_method_5_code_41) hr
  · show Qp (some (.ref w3)) h0 n0 _ T139.heap _
    rw [e139]
    exact ⟨rfl, N0, rfl⟩
theorem ef13 (m : MethodId)    : entryFrame m #[(.int (9 : Int32))] 2 = mkF m 0 #[.val (.int (9 : Int32)), .unset] [] := by first | (simp [entryFrame, mkF, argsToLocals, Value.category]; done) | rfl
set_option maxRecDepth 65536 in
set_option maxHeartbeats 40000000 in
theorem rm14 (l : Launch) (Z : State) (a0 : Array Value) (hw : ∀ d ∈ tables_1, d.before a0 Z = true) (ws : List Jvm.Cond) (w0 w1 w2 w3 : Addr) (h0 : Heap) (n0 : Nat) (hWd : Wd Z w0 w1 w2 w3) (O0 : Old Z n0 h0) :
    MetFree l (⟨"com/example/libgate/libgate/Impact", "of", "(I)Lcom/example/libgate/libgate/Impact;"⟩ : MethodName) (head1 (Jvm.Cond.code (⟨"com/example/libgate/libgate/Impact", "of", "(I)Lcom/example/libgate/libgate/Impact;"⟩ : MethodName) prog_34_method_5_code 2 (some (.object "com/example/libgate/libgate/Impact")) :: ws) ({ frames := 0, cells := 0, slots := 0, locals := 0 } : Room)) (fun a U => a = #[(.int (9 : Int32))] ∧ Z.Warmed39 U.vm ∧ U.heap = h0) (fun _ _ _ _ _ => True) (fun _ U o U' => ∃ v L, o = .returned v ∧ Qp (some (.ref w3)) h0 n0 v U'.heap L ∧ FrameEnd U o U' L ({ frames := 0, cells := 0, slots := 0, locals := 0 } : Room).cells ({ frames := 0, cells := 0, slots := 0, locals := 0 } : Room).slots) := by
  refine MetFree.of_bodySF (plainFor_of_name pn0) hisR ?_
  intro p e s m args below meth c s₁ Bd hml0 hP hK
  obtain ⟨rfl, hZ, hh⟩ := hP
  have hx := Bd.exec
  have hby := Bd.bytes
  have hml : c.maxLocals = 2 := hml0
  have hown : s.vm.findClass "com/example/libgate/libgate/Impact" = some m.cls := findClass_of_methodNamed Bd.named
  have hnm := (name_of_methodNamed Bd.named Bd.method).1
  have X0 : Stand p l e ({ frames := 0, cells := 0, slots := 0, locals := 0 } : Room) s m #[(.int (9 : Int32))] below meth c s₁ [] 0 0 := Stand.of_body Bd
  have e0 : s₁.heap = h0 := by rw [← hh, Bd.state]; rfl
  have N0 := Fr.nil n0
  obtain ⟨wS0, wE0, wS1, wE1, wS2, wE2, wS3, wE3, -⟩ := id hWd
  have pre0 : ∀ t, Steps p.tables e below (s₁.setTop (mkF m 0 #[.val (.int (9 : Int32)), .unset] [])) t → Steps p.tables e below (s₁.setTop (entryFrame m #[(.int (9 : Int32))] 2)) t := fun t k => castTop (ef13 m ) k
  obtain ⟨T152, X152, e152, st152⟩ := getS2 X0 hx hZ hown (host := "") (Or.inl (hw _ (List.mem_of_getElem? (i := 23) rfl))) Via.refl e0 (wS3.ext O0.2) (g := (mkF m 36 #[.val (.int (9 : Int32)), .unset] [])) rfl (hb hby d_prog_34_method_5_code_36)
  obtain ⟨fs, hr, hrun, hended, hWr, hsame⟩ := X152.leave (v := some (.ref w3)) (fun h => by rw [Bd.returns] at h; cases h)
  refine ⟨_, _, pre0 _ ?_, hrun, hended, _, _, rfl, ?_, ⟨_, rfl⟩, hWr, hsame.mono (Nat.le_of_ble_eq_true rfl) (Nat.le_of_ble_eq_true rfl)⟩
  · show Steps p.tables e below (s₁.setTop (mkF m 0 #[.val (.int (9 : Int32)), .unset] [])) _
    refine XS.iloadN X0.here hx rfl (hb hby d_prog_34_method_5_code_0) rfl ?_
    show Steps p.tables e below (s₁.setTop (mkF m 1 #[.val (.int (9 : Int32)), .unset] [(.int (9 : Int32))])) _
    refine XS.ifYes X0.here hx rfl (pc0 := 1) (pc' := 11) rfl (hb hby d_prog_34_method_5_code_1) rfl (by decide) (by decide) (by decide) ?_
    show Steps p.tables e below (s₁.setTop (mkF m 11 #[.val (.int (9 : Int32)), .unset] [])) _
    refine XS.iloadN X0.here hx rfl (hb hby d_prog_34_method_5_code_11) rfl ?_
    show Steps p.tables e below (s₁.setTop (mkF m 12 #[.val (.int (9 : Int32)), .unset] [(.int (9 : Int32))])) _
    refine XS.iconst X0.here hx rfl (hb hby d_prog_34_method_5_code_12) ?_
    show Steps p.tables e below (s₁.setTop (mkF m 13 #[.val (.int (9 : Int32)), .unset] [(.int (3 : Int32)), (.int (9 : Int32))])) _
    refine XS.icmpYes X0.here hx rfl (pc0 := 13) (pc' := 23) rfl (hb hby d_prog_34_method_5_code_13) rfl (by decide) (by decide) (by decide) ?_
    show Steps p.tables e below (s₁.setTop (mkF m 23 #[.val (.int (9 : Int32)), .unset] [])) _
    refine XS.iloadN X0.here hx rfl (hb hby d_prog_34_method_5_code_23) rfl ?_
    show Steps p.tables e below (s₁.setTop (mkF m 24 #[.val (.int (9 : Int32)), .unset] [(.int (9 : Int32))])) _
    refine XS.bipush X0.here hx rfl (hb hby d_prog_34_method_5_code_24) ?_
    show Steps p.tables e below (s₁.setTop (mkF m 26 #[.val (.int (9 : Int32)), .unset] [(.int (6 : Int32)), (.int (9 : Int32))])) _
    refine XS.icmpYes X0.here hx rfl (pc0 := 26) (pc' := 36) rfl (hb hby d_prog_34_method_5_code_26) rfl (by decide) (by decide) (by decide) ?_
    show Steps p.tables e below (s₁.setTop (mkF m 36 #[.val (.int (9 : Int32)), .unset] [])) _
    refine st152 _ ?_
    show Steps p.tables e below (T152.setTop (mkF m 39 #[.val (.int (9 : Int32)), .unset] [(.ref w3)])) _
    refine XS.astoreN X152.here hx rfl (hb hby d_prog_34_method_5_code_39) rfl rfl (l' := #[.val (.int (9 : Int32)), .val (.ref w3)]) rfl ?_
    show Steps p.tables e below (T152.setTop (mkF m 40 #[.val (.int (9 : Int32)), .val (.ref w3)] [])) _
    refine XS.aloadN X152.here hx rfl (hb hby d_prog_34_method_5_code_40) rfl rfl ?_
    show Steps p.tables e below (T152.setTop (mkF m 41 #[.val (.int (9 : Int32)), .val (.ref w3)] [(.ref w3)])) _
    exact retOut X152 hx (t := (.object "com/example/libgate/libgate/Impact")) (i := .areturn) Bd.returns rfl (Or.inr (Or.inr (Or.inr (Or.inr ⟨rfl, rfl, rfl⟩)))) (hb hby d_prog_34_method_5_code_41) hr
  · show Qp (some (.ref w3)) h0 n0 _ T152.heap _
    rw [e152]
    exact ⟨rfl, N0, rfl⟩
theorem ef14 (m : MethodId)    : entryFrame m #[(.int (3 : Int32)), (.int (4 : Int32))] 2 = mkF m 0 #[.val (.int (3 : Int32)), .val (.int (4 : Int32))] [] := by first | (simp [entryFrame, mkF, argsToLocals, Value.category]; done) | rfl
set_option maxRecDepth 65536 in
set_option maxHeartbeats 40000000 in
theorem rm15 (l : Launch) (Z : State) (a0 : Array Value) (hw : ∀ d ∈ tables_1, d.before a0 Z = true) (ws : List Jvm.Cond) (w0 w1 w2 w3 : Addr) (h0 : Heap) (n0 : Nat) (hWd : Wd Z w0 w1 w2 w3) (O0 : Old Z n0 h0) :
    MetFree l (⟨"java/lang/Math", "min", "(II)I"⟩ : MethodName) (head1 (Jvm.Cond.code (⟨"java/lang/Math", "min", "(II)I"⟩ : MethodName) jdk_29_method_69_code 2 (some .int) :: ws) ({ frames := 0, cells := 0, slots := 0, locals := 0 } : Room)) (fun a U => a = #[(.int (3 : Int32)), (.int (4 : Int32))] ∧ Z.Warmed39 U.vm ∧ U.heap = h0) (fun _ _ _ _ _ => True) (fun _ U o U' => ∃ v L, o = .returned v ∧ Qp (some (.int (3 : Int32))) h0 n0 v U'.heap L ∧ FrameEnd U o U' L ({ frames := 0, cells := 0, slots := 0, locals := 0 } : Room).cells ({ frames := 0, cells := 0, slots := 0, locals := 0 } : Room).slots) := by
  refine MetFree.of_bodySF (Jvm.Free.JP.mathPlain rfl (by decide +kernel)) hisR ?_
  intro p e s m args below meth c s₁ Bd hml0 hP hK
  obtain ⟨rfl, hZ, hh⟩ := hP
  have hx := Bd.exec
  have hby := Bd.bytes
  have hml : c.maxLocals = 2 := hml0
  have hown : s.vm.findClass "java/lang/Math" = some m.cls := findClass_of_methodNamed Bd.named
  have hnm := (name_of_methodNamed Bd.named Bd.method).1
  have X0 : Stand p l e ({ frames := 0, cells := 0, slots := 0, locals := 0 } : Room) s m #[(.int (3 : Int32)), (.int (4 : Int32))] below meth c s₁ [] 0 0 := Stand.of_body Bd
  have e0 : s₁.heap = h0 := by rw [← hh, Bd.state]; rfl
  have N0 := Fr.nil n0
  obtain ⟨wS0, wE0, wS1, wE1, wS2, wE2, wS3, wE3, -⟩ := id hWd
  have pre0 : ∀ t, Steps p.tables e below (s₁.setTop (mkF m 0 #[.val (.int (3 : Int32)), .val (.int (4 : Int32))] [])) t → Steps p.tables e below (s₁.setTop (entryFrame m #[(.int (3 : Int32)), (.int (4 : Int32))] 2)) t := fun t k => castTop (ef14 m ) k
  obtain ⟨fs, hr, hrun, hended, hWr, hsame⟩ := X0.leave (v := some (.int (3 : Int32))) (fun h => by rw [Bd.returns] at h; cases h)
  refine ⟨_, _, pre0 _ ?_, hrun, hended, _, _, rfl, ?_, ⟨_, rfl⟩, hWr, hsame.mono (Nat.le_of_ble_eq_true rfl) (Nat.le_of_ble_eq_true rfl)⟩
  · show Steps p.tables e below (s₁.setTop (mkF m 0 #[.val (.int (3 : Int32)), .val (.int (4 : Int32))] [])) _
    refine XS.iloadN X0.here hx rfl (hb hby d_jdk_29_method_69_code_0) rfl ?_
    show Steps p.tables e below (s₁.setTop (mkF m 1 #[.val (.int (3 : Int32)), .val (.int (4 : Int32))] [(.int (3 : Int32))])) _
    refine XS.iloadN X0.here hx rfl (hb hby d_jdk_29_method_69_code_1) rfl ?_
    show Steps p.tables e below (s₁.setTop (mkF m 2 #[.val (.int (3 : Int32)), .val (.int (4 : Int32))] [(.int (4 : Int32)), (.int (3 : Int32))])) _
    refine XS.icmpNo X0.here hx rfl (hb hby d_jdk_29_method_69_code_2) rfl (by decide) ?_
    show Steps p.tables e below (s₁.setTop (mkF m 5 #[.val (.int (3 : Int32)), .val (.int (4 : Int32))] [])) _
    refine XS.iloadN X0.here hx rfl (hb hby d_jdk_29_method_69_code_5) rfl ?_
    show Steps p.tables e below (s₁.setTop (mkF m 6 #[.val (.int (3 : Int32)), .val (.int (4 : Int32))] [(.int (3 : Int32))])) _
    refine XS.goto X0.here hx rfl (pc0 := 6) (pc' := 10) rfl (hb hby d_jdk_29_method_69_code_6) (by decide) (by decide) ?_
    show Steps p.tables e below (s₁.setTop (mkF m 10 #[.val (.int (3 : Int32)), .val (.int (4 : Int32))] [(.int (3 : Int32))])) _
    exact retOut X0 hx (t := .int) (i := .ireturn) Bd.returns rfl (Or.inl ⟨rfl, Or.inl rfl, _, rfl⟩) (hb hby d_jdk_29_method_69_code_10) hr
  · show Qp (some (.int (3 : Int32))) h0 n0 _ s₁.heap _
    rw [e0]
    exact ⟨rfl, N0, rfl⟩
theorem ef15 (m : MethodId)    : entryFrame m #[(.int (10 : Int32))] 2 = mkF m 0 #[.val (.int (10 : Int32)), .unset] [] := by first | (simp [entryFrame, mkF, argsToLocals, Value.category]; done) | rfl
set_option maxRecDepth 65536 in
set_option maxHeartbeats 40000000 in
theorem rm16 (l : Launch) (Z : State) (a0 : Array Value) (hw : ∀ d ∈ tables_1, d.before a0 Z = true) (ws : List Jvm.Cond) (w0 w1 w2 w3 : Addr) (h0 : Heap) (n0 : Nat) (hWd : Wd Z w0 w1 w2 w3) (O0 : Old Z n0 h0) :
    MetFree l (⟨"com/example/libgate/libgate/Impact", "of", "(I)Lcom/example/libgate/libgate/Impact;"⟩ : MethodName) (head1 (Jvm.Cond.code (⟨"com/example/libgate/libgate/Impact", "of", "(I)Lcom/example/libgate/libgate/Impact;"⟩ : MethodName) prog_34_method_5_code 2 (some (.object "com/example/libgate/libgate/Impact")) :: ws) ({ frames := 0, cells := 0, slots := 0, locals := 0 } : Room)) (fun a U => a = #[(.int (10 : Int32))] ∧ Z.Warmed39 U.vm ∧ U.heap = h0) (fun _ _ _ _ _ => True) (fun _ U o U' => ∃ v L, o = .returned v ∧ Qp (some (.ref w3)) h0 n0 v U'.heap L ∧ FrameEnd U o U' L ({ frames := 0, cells := 0, slots := 0, locals := 0 } : Room).cells ({ frames := 0, cells := 0, slots := 0, locals := 0 } : Room).slots) := by
  refine MetFree.of_bodySF (plainFor_of_name pn0) hisR ?_
  intro p e s m args below meth c s₁ Bd hml0 hP hK
  obtain ⟨rfl, hZ, hh⟩ := hP
  have hx := Bd.exec
  have hby := Bd.bytes
  have hml : c.maxLocals = 2 := hml0
  have hown : s.vm.findClass "com/example/libgate/libgate/Impact" = some m.cls := findClass_of_methodNamed Bd.named
  have hnm := (name_of_methodNamed Bd.named Bd.method).1
  have X0 : Stand p l e ({ frames := 0, cells := 0, slots := 0, locals := 0 } : Room) s m #[(.int (10 : Int32))] below meth c s₁ [] 0 0 := Stand.of_body Bd
  have e0 : s₁.heap = h0 := by rw [← hh, Bd.state]; rfl
  have N0 := Fr.nil n0
  obtain ⟨wS0, wE0, wS1, wE1, wS2, wE2, wS3, wE3, -⟩ := id hWd
  have pre0 : ∀ t, Steps p.tables e below (s₁.setTop (mkF m 0 #[.val (.int (10 : Int32)), .unset] [])) t → Steps p.tables e below (s₁.setTop (entryFrame m #[(.int (10 : Int32))] 2)) t := fun t k => castTop (ef15 m ) k
  obtain ⟨T165, X165, e165, st165⟩ := getS2 X0 hx hZ hown (host := "") (Or.inl (hw _ (List.mem_of_getElem? (i := 23) rfl))) Via.refl e0 (wS3.ext O0.2) (g := (mkF m 36 #[.val (.int (10 : Int32)), .unset] [])) rfl (hb hby d_prog_34_method_5_code_36)
  obtain ⟨fs, hr, hrun, hended, hWr, hsame⟩ := X165.leave (v := some (.ref w3)) (fun h => by rw [Bd.returns] at h; cases h)
  refine ⟨_, _, pre0 _ ?_, hrun, hended, _, _, rfl, ?_, ⟨_, rfl⟩, hWr, hsame.mono (Nat.le_of_ble_eq_true rfl) (Nat.le_of_ble_eq_true rfl)⟩
  · show Steps p.tables e below (s₁.setTop (mkF m 0 #[.val (.int (10 : Int32)), .unset] [])) _
    refine XS.iloadN X0.here hx rfl (hb hby d_prog_34_method_5_code_0) rfl ?_
    show Steps p.tables e below (s₁.setTop (mkF m 1 #[.val (.int (10 : Int32)), .unset] [(.int (10 : Int32))])) _
    refine XS.ifYes X0.here hx rfl (pc0 := 1) (pc' := 11) rfl (hb hby d_prog_34_method_5_code_1) rfl (by decide) (by decide) (by decide) ?_
    show Steps p.tables e below (s₁.setTop (mkF m 11 #[.val (.int (10 : Int32)), .unset] [])) _
    refine XS.iloadN X0.here hx rfl (hb hby d_prog_34_method_5_code_11) rfl ?_
    show Steps p.tables e below (s₁.setTop (mkF m 12 #[.val (.int (10 : Int32)), .unset] [(.int (10 : Int32))])) _
    refine XS.iconst X0.here hx rfl (hb hby d_prog_34_method_5_code_12) ?_
    show Steps p.tables e below (s₁.setTop (mkF m 13 #[.val (.int (10 : Int32)), .unset] [(.int (3 : Int32)), (.int (10 : Int32))])) _
    refine XS.icmpYes X0.here hx rfl (pc0 := 13) (pc' := 23) rfl (hb hby d_prog_34_method_5_code_13) rfl (by decide) (by decide) (by decide) ?_
    show Steps p.tables e below (s₁.setTop (mkF m 23 #[.val (.int (10 : Int32)), .unset] [])) _
    refine XS.iloadN X0.here hx rfl (hb hby d_prog_34_method_5_code_23) rfl ?_
    show Steps p.tables e below (s₁.setTop (mkF m 24 #[.val (.int (10 : Int32)), .unset] [(.int (10 : Int32))])) _
    refine XS.bipush X0.here hx rfl (hb hby d_prog_34_method_5_code_24) ?_
    show Steps p.tables e below (s₁.setTop (mkF m 26 #[.val (.int (10 : Int32)), .unset] [(.int (6 : Int32)), (.int (10 : Int32))])) _
    refine XS.icmpYes X0.here hx rfl (pc0 := 26) (pc' := 36) rfl (hb hby d_prog_34_method_5_code_26) rfl (by decide) (by decide) (by decide) ?_
    show Steps p.tables e below (s₁.setTop (mkF m 36 #[.val (.int (10 : Int32)), .unset] [])) _
    refine st165 _ ?_
    show Steps p.tables e below (T165.setTop (mkF m 39 #[.val (.int (10 : Int32)), .unset] [(.ref w3)])) _
    refine XS.astoreN X165.here hx rfl (hb hby d_prog_34_method_5_code_39) rfl rfl (l' := #[.val (.int (10 : Int32)), .val (.ref w3)]) rfl ?_
    show Steps p.tables e below (T165.setTop (mkF m 40 #[.val (.int (10 : Int32)), .val (.ref w3)] [])) _
    refine XS.aloadN X165.here hx rfl (hb hby d_prog_34_method_5_code_40) rfl rfl ?_
    show Steps p.tables e below (T165.setTop (mkF m 41 #[.val (.int (10 : Int32)), .val (.ref w3)] [(.ref w3)])) _
    exact retOut X165 hx (t := (.object "com/example/libgate/libgate/Impact")) (i := .areturn) Bd.returns rfl (Or.inr (Or.inr (Or.inr (Or.inr ⟨rfl, rfl, rfl⟩)))) (hb hby d_prog_34_method_5_code_41) hr
  · show Qp (some (.ref w3)) h0 n0 _ T165.heap _
    rw [e165]
    exact ⟨rfl, N0, rfl⟩
theorem pn1 : plainName "com/example/libgate/libgate/ImpactOfPinLaw" = true := by first | (simp [plainName, overriddenIn]; done) | decide +kernel
theorem ef16 (m : MethodId) (i0 : Int32)   : entryFrame m #[(.int i0)] maxLocals = mkF m 0 #[.val (.int i0), .unset, .unset, .unset, .unset] [] := by first | (simp [entryFrame, mkF, argsToLocals, Value.category, maxLocals]; done) | rfl
set_option maxRecDepth 65536 in
set_option maxHeartbeats 40000000 in
theorem rm0 (l : Launch) (Z : State) (a0 : Array Value) (hw : ∀ d ∈ tables_1, d.before a0 Z = true) (ws : List Jvm.Cond) (w0 w1 w2 w3 : Addr) (i0 : Int32) (h0 : Heap) (n0 : Nat) (hWd : Wd Z w0 w1 w2 w3) (O0 : Old Z n0 h0) :
    MetFree l x (head1 (Jvm.Cond.code x code maxLocals ret :: ws) room_1) (fun a U => a = #[(.int i0)] ∧ Z.Warmed39 U.vm ∧ U.heap = h0) (fun _ _ _ _ _ => True) (fun _ U o U' => ∃ v L, o = .returned v ∧ Ql n0 v U'.heap L ∧ FrameEnd U o U' L room_1.cells room_1.slots) := by
  refine MetFree.of_bodySF (plainFor_of_name pn1) hisR ?_
  intro p e s m args below meth c s₁ Bd hml0 hP hK
  obtain ⟨rfl, hZ, hh⟩ := hP
  have hx := Bd.exec
  have hby := Bd.bytes
  have hml : c.maxLocals = 5 := hml0
  have hown : s.vm.findClass "com/example/libgate/libgate/ImpactOfPinLaw" = some m.cls := findClass_of_methodNamed Bd.named
  have hnm := (name_of_methodNamed Bd.named Bd.method).1
  have X0 : Stand p l e room_1 s m #[(.int i0)] below meth c s₁ [] 0 0 := Stand.of_body Bd
  have e0 : s₁.heap = h0 := by rw [← hh, Bd.state]; rfl
  have N0 := Fr.nil n0
  obtain ⟨wS0, wE0, wS1, wE1, wS2, wE2, wS3, wE3, -⟩ := id hWd
  have pre0 : ∀ t, Steps p.tables e below (s₁.setTop (mkF m 0 #[.val (.int i0), .unset, .unset, .unset, .unset] [])) t → Steps p.tables e below (s₁.setTop (entryFrame m #[(.int i0)] maxLocals)) t := fun t k => castTop (ef16 m i0) k
  have pre1 : ∀ t, Steps p.tables e below (s₁.setTop (mkF m 6 #[.val (.int i0), .unset, .unset, .unset, .unset] [(.int (12 : Int32)), (.int (i0 &&& (2147483647 : Int32)))])) t → Steps p.tables e below (s₁.setTop (entryFrame m #[(.int i0)] maxLocals)) t := by
    intro t k
    refine pre0 _ ?_
    show Steps p.tables e below (s₁.setTop (mkF m 0 #[.val (.int i0), .unset, .unset, .unset, .unset] [])) _
    refine XS.iloadN X0.here hx rfl (hb hby at_0) rfl ?_
    show Steps p.tables e below (s₁.setTop (mkF m 1 #[.val (.int i0), .unset, .unset, .unset, .unset] [(.int i0)])) _
    refine X0.ldcInt hx hown (mvT hZ (hw _ (List.mem_of_getElem? (i := 0) rfl))) (g := (mkF m 1 #[.val (.int i0), .unset, .unset, .unset, .unset] [(.int i0)])) rfl (hb hby at_1) _ ?_
    show Steps p.tables e below (s₁.setTop (mkF m 3 #[.val (.int i0), .unset, .unset, .unset, .unset] [(.int (2147483647 : Int32)), (.int i0)])) _
    refine XS.iand X0.here hx rfl (hb hby at_3) rfl ?_
    show Steps p.tables e below (s₁.setTop (mkF m 4 #[.val (.int i0), .unset, .unset, .unset, .unset] [(.int (i0 &&& (2147483647 : Int32)))])) _
    refine XS.bipush X0.here hx rfl (hb hby at_4) ?_
    show Steps p.tables e below (s₁.setTop (mkF m 6 #[.val (.int i0), .unset, .unset, .unset, .unset] [(.int (12 : Int32)), (.int (i0 &&& (2147483647 : Int32)))])) _
    exact k
  rcases own_rem_12 i0 with hk2 | hk3 | hk4 | hk5 | hk6 | hk7 | hk8 | hk9 | hk10 | hk11 | hk12 | hk13
  · obtain ⟨T14, h14, k14, X14, e14, E14, A14, O14, st14⟩ := newR X0 hx hZ hown (hw _ (List.mem_of_getElem? (i := 1) rfl)) (hw _ (List.mem_of_getElem? (i := 2) rfl)) e0 (g := (mkF m 11 #[.val (.int i0), .val (.int (-1 : Int32)), .unset, .unset, .unset] [(.int (4 : Int32))])) rfl (hb hby at_11) rfl (by decide) (cap := 4) (by decide) (by decide) (by decide) (by decide)
    obtain ⟨b14, g14⟩ : ∃ z, z = h0.size := ⟨_, rfl⟩
    rw [← g14] at A14 st14
    have V14 : Arv Z h14 b14 k14 (.object "com/example/libgate/libgate/Impact") (4 : Int32) [.null, .null, .null, .null] .null := (Arv.new A14 (by decide)).pad (pad_rep [] .null 4)
    have g_b14 : n0 ≤ b14 := Nat.le_trans (Nat.le_trans (Nat.le_of_eq O0.1.symm) O0.2.1) (Nat.le_of_eq g14.symm)
    have O_14 : Old Z n0 h14 := O0.ext E14
    obtain ⟨T15, X15, e15, st15⟩ := getS2 X14 hx hZ hown (host := "") (Or.inl (hw _ (List.mem_of_getElem? (i := 3) rfl))) Via.refl e14 (wS0.ext O_14.2) (g := (mkF m 16 #[.val (.int i0), .val (.int (-1 : Int32)), .unset, .unset, .unset] [(.int (0 : Int32)), (.ref b14), (.ref b14)])) rfl (hb hby at_16)
    obtain ⟨cl16, Ar16, q16, S16, M16, H16, G16⟩ := V14
    have hin16 : ¬ ((0 : Int32) < 0 ∨ cl16.slots.size ≤ ((0 : Int32)).toNatClampNeg) := inb_of S16 ⟨by decide, by decide⟩
    obtain ⟨T16, h16, X16, e16, W16, st16⟩ := stR X15 hx hZ e15 Ar16 (j := (0 : Int32)) hin16 rfl (Sto.ofV Ar16 q16 O14 (Ins.self (wE0.ext O_14.2))) (g := (mkF m 19 #[.val (.int i0), .val (.int (-1 : Int32)), .unset, .unset, .unset] [(.ref w0), (.int (0 : Int32)), (.ref b14), (.ref b14)])) rfl rfl (hb hby at_19)
    have V16 : Arv Z h16 b14 k14 (.object "com/example/libgate/libgate/Impact") (4 : Int32) [(.ref w0), .null, .null, .null] .null := Arv.set Ar16 q16 S16 M16 H16 G16 rfl W16 0 rfl (Nat.le_of_ble_eq_true rfl)
    have N16 := Fr.snoc X16 N0 g_b14
    have O_16 : Old Z n0 h16 := O_14.wr W16 g_b14
    obtain ⟨T17, X17, e17, st17⟩ := getS2 X16 hx hZ hown (host := "") (Or.inl (hw _ (List.mem_of_getElem? (i := 7) rfl))) Via.refl e16 (wS1.ext O_16.2) (g := (mkF m 22 #[.val (.int i0), .val (.int (-1 : Int32)), .unset, .unset, .unset] [(.int (1 : Int32)), (.ref b14), (.ref b14)])) rfl (hb hby at_22)
    obtain ⟨cl18, Ar18, q18, S18, M18, H18, G18⟩ := V16
    have hin18 : ¬ ((1 : Int32) < 0 ∨ cl18.slots.size ≤ ((1 : Int32)).toNatClampNeg) := inb_of S18 ⟨by decide, by decide⟩
    obtain ⟨T18, h18, X18, e18, W18, st18⟩ := stR X17 hx hZ e17 Ar18 (j := (1 : Int32)) hin18 rfl (Sto.ofV Ar18 q18 O14 (Ins.self (wE1.ext O_16.2))) (g := (mkF m 25 #[.val (.int i0), .val (.int (-1 : Int32)), .unset, .unset, .unset] [(.ref w1), (.int (1 : Int32)), (.ref b14), (.ref b14)])) rfl rfl (hb hby at_25)
    have V18 : Arv Z h18 b14 k14 (.object "com/example/libgate/libgate/Impact") (4 : Int32) [(.ref w0), (.ref w1), .null, .null] .null := Arv.set Ar18 q18 S18 M18 H18 G18 rfl W18 1 rfl (Nat.le_of_ble_eq_true rfl)
    have N18 := Fr.snoc X18 N16 g_b14
    have O_18 : Old Z n0 h18 := O_16.wr W18 g_b14
    obtain ⟨T19, X19, e19, st19⟩ := getS2 X18 hx hZ hown (host := "") (Or.inl (hw _ (List.mem_of_getElem? (i := 9) rfl))) Via.refl e18 (wS2.ext O_18.2) (g := (mkF m 28 #[.val (.int i0), .val (.int (-1 : Int32)), .unset, .unset, .unset] [(.int (2 : Int32)), (.ref b14), (.ref b14)])) rfl (hb hby at_28)
    obtain ⟨cl20, Ar20, q20, S20, M20, H20, G20⟩ := V18
    have hin20 : ¬ ((2 : Int32) < 0 ∨ cl20.slots.size ≤ ((2 : Int32)).toNatClampNeg) := inb_of S20 ⟨by decide, by decide⟩
    obtain ⟨T20, h20, X20, e20, W20, st20⟩ := stR X19 hx hZ e19 Ar20 (j := (2 : Int32)) hin20 rfl (Sto.ofV Ar20 q20 O14 (Ins.self (wE2.ext O_18.2))) (g := (mkF m 31 #[.val (.int i0), .val (.int (-1 : Int32)), .unset, .unset, .unset] [(.ref w2), (.int (2 : Int32)), (.ref b14), (.ref b14)])) rfl rfl (hb hby at_31)
    have V20 : Arv Z h20 b14 k14 (.object "com/example/libgate/libgate/Impact") (4 : Int32) [(.ref w0), (.ref w1), (.ref w2), .null] .null := Arv.set Ar20 q20 S20 M20 H20 G20 rfl W20 2 rfl (Nat.le_of_ble_eq_true rfl)
    have N20 := Fr.snoc X20 N18 g_b14
    have O_20 : Old Z n0 h20 := O_18.wr W20 g_b14
    obtain ⟨T21, X21, e21, st21⟩ := getS2 X20 hx hZ hown (host := "") (Or.inl (hw _ (List.mem_of_getElem? (i := 11) rfl))) Via.refl e20 (wS3.ext O_20.2) (g := (mkF m 34 #[.val (.int i0), .val (.int (-1 : Int32)), .unset, .unset, .unset] [(.int (3 : Int32)), (.ref b14), (.ref b14)])) rfl (hb hby at_34)
    obtain ⟨cl22, Ar22, q22, S22, M22, H22, G22⟩ := V20
    have hin22 : ¬ ((3 : Int32) < 0 ∨ cl22.slots.size ≤ ((3 : Int32)).toNatClampNeg) := inb_of S22 ⟨by decide, by decide⟩
    obtain ⟨T22, h22, X22, e22, W22, st22⟩ := stR X21 hx hZ e21 Ar22 (j := (3 : Int32)) hin22 rfl (Sto.ofV Ar22 q22 O14 (Ins.self (wE3.ext O_20.2))) (g := (mkF m 37 #[.val (.int i0), .val (.int (-1 : Int32)), .unset, .unset, .unset] [(.ref w3), (.int (3 : Int32)), (.ref b14), (.ref b14)])) rfl rfl (hb hby at_37)
    have V22 : Arv Z h22 b14 k14 (.object "com/example/libgate/libgate/Impact") (4 : Int32) [(.ref w0), (.ref w1), (.ref w2), (.ref w3)] .null := Arv.set Ar22 q22 S22 M22 H22 G22 rfl W22 3 rfl (Nat.le_of_ble_eq_true rfl)
    have N22 := Fr.snoc X22 N20 g_b14
    have O_22 : Old Z n0 h22 := O_20.wr W22 g_b14
    obtain ⟨_, _, ⟨T24, L24, k24, n24⟩, -, X24, ⟨Lc24, hQ24, l24, y24, z24⟩, st24⟩ := Jvm.LawKit.callS X22 hx (y := (⟨"com/example/libgate/libgate/Impact", "of", "(I)Lcom/example/libgate/libgate/Impact;"⟩ : MethodName)) hown (mvT hZ (hw _ (List.mem_of_getElem? (i := 13) rfl))) (mvT hZ (hw _ (List.mem_of_getElem? (i := 14) rfl))) (mvT hZ (hw _ (List.mem_of_getElem? (i := 4) rfl))) (mvT hZ (hw _ (List.mem_of_getElem? (i := 15) rfl))) (by decide) (backOf (W := 0) (rm1 l Z a0 hw [] w0 w1 w2 w3 h22 n0 hWd O_22) hZ (hw _ (List.mem_of_getElem? (i := 15) rfl)) (hw _ (List.mem_of_getElem? (i := 4) rfl)) (by decide) (by decide)) (g := (mkF m 59 #[.val (.int i0), .val (.int (-1 : Int32)), .val (.ref b14), .val (.int (0 : Int32)), .unset] [(.int (-1 : Int32))])) rfl (by rw [hml]; rfl) (argsL := [(.int (-1 : Int32))]) (rest := []) (lenOf pd0 rfl) rfl (by show 2 * 0 + _ ≤ _; exact Nat.le_of_eq rfl) (hb hby at_59) (fun _ _ => ⟨rfl, e22, (by decide : 1 + 0 ≤ _), (by decide : 4 + 0 ≤ _)⟩)
    dsimp only [Pt.U, Pt.locs, Pt.cells, Pt.slots] at X24 l24 y24 z24 st24 hQ24
    subst l24 y24 z24
    obtain ⟨rfl, N24q, e24⟩ := hQ24
    have N24 := Fr.app N22 N24q
    obtain ⟨cl25, Ar25, q25, S25, M25, H25, G25⟩ := V22
    have hin25 : ¬ ((0 : Int32) < 0 ∨ cl25.slots.size ≤ ((0 : Int32)).toNatClampNeg) := inb_of S25 ⟨by decide, by decide⟩
    have hat25 : cl25.slots[((0 : Int32)).toNatClampNeg]? = some (.ref w0) := Has.at H25 hin25 rfl
    obtain ⟨fs, hr, hrun, hended, hWr, hsame⟩ := X24.leave (v := some (.int (1 : Int32))) (fun h => by rw [Bd.returns] at h; cases h)
    refine ⟨_, _, pre1 _ ?_, hrun, hended, _, _, rfl, ?_, ⟨_, rfl⟩, hWr, hsame.mono (Nat.le_of_ble_eq_true rfl) (Nat.le_of_ble_eq_true rfl)⟩
    · show Steps p.tables e below (s₁.setTop (mkF m 6 #[.val (.int i0), .unset, .unset, .unset, .unset] [(.int (12 : Int32)), (.int (i0 &&& (2147483647 : Int32)))])) _
      refine iremM X0 hx rfl (hb hby at_6) rfl (by decide) ?_
      show Steps p.tables e below (s₁.setTop (mkF m 7 #[.val (.int i0), .unset, .unset, .unset, .unset] [(.int ((i0 &&& (2147483647 : Int32)) % (12 : Int32)))])) _
      rw [hk2]
      show Steps p.tables e below (s₁.setTop (mkF m 7 #[.val (.int i0), .unset, .unset, .unset, .unset] [(.int (0 : Int32))])) _
      refine XS.iconst X0.here hx rfl (hb hby at_7) ?_
      show Steps p.tables e below (s₁.setTop (mkF m 8 #[.val (.int i0), .unset, .unset, .unset, .unset] [(.int (1 : Int32)), (.int (0 : Int32))])) _
      refine XS.isub X0.here hx rfl (hb hby at_8) rfl ?_
      show Steps p.tables e below (s₁.setTop (mkF m 9 #[.val (.int i0), .unset, .unset, .unset, .unset] [(.int ((0 : Int32) - (1 : Int32)))])) _
      rw [show ((0 : Int32) - (1 : Int32)) = (-1 : Int32) from by decide]
      show Steps p.tables e below (s₁.setTop (mkF m 9 #[.val (.int i0), .unset, .unset, .unset, .unset] [(.int (-1 : Int32))])) _
      refine XS.istoreN X0.here hx rfl (hb hby at_9) rfl (l' := #[.val (.int i0), .val (.int (-1 : Int32)), .unset, .unset, .unset]) rfl ?_
      show Steps p.tables e below (s₁.setTop (mkF m 10 #[.val (.int i0), .val (.int (-1 : Int32)), .unset, .unset, .unset] [])) _
      refine XS.iconst X0.here hx rfl (hb hby at_10) ?_
      show Steps p.tables e below (s₁.setTop (mkF m 11 #[.val (.int i0), .val (.int (-1 : Int32)), .unset, .unset, .unset] [(.int (4 : Int32))])) _
      refine st14 _ ?_
      show Steps p.tables e below (T14.setTop (mkF m 14 #[.val (.int i0), .val (.int (-1 : Int32)), .unset, .unset, .unset] [(.ref b14)])) _
      refine XS.dup X14.here hx rfl (hb hby at_14) rfl rfl ?_
      show Steps p.tables e below (T14.setTop (mkF m 15 #[.val (.int i0), .val (.int (-1 : Int32)), .unset, .unset, .unset] [(.ref b14), (.ref b14)])) _
      refine XS.iconst X14.here hx rfl (hb hby at_15) ?_
      show Steps p.tables e below (T14.setTop (mkF m 16 #[.val (.int i0), .val (.int (-1 : Int32)), .unset, .unset, .unset] [(.int (0 : Int32)), (.ref b14), (.ref b14)])) _
      refine st15 _ ?_
      show Steps p.tables e below (T15.setTop (mkF m 19 #[.val (.int i0), .val (.int (-1 : Int32)), .unset, .unset, .unset] [(.ref w0), (.int (0 : Int32)), (.ref b14), (.ref b14)])) _
      refine st16 _ ?_
      show Steps p.tables e below (T16.setTop (mkF m 20 #[.val (.int i0), .val (.int (-1 : Int32)), .unset, .unset, .unset] [(.ref b14)])) _
      refine XS.dup X16.here hx rfl (hb hby at_20) rfl rfl ?_
      show Steps p.tables e below (T16.setTop (mkF m 21 #[.val (.int i0), .val (.int (-1 : Int32)), .unset, .unset, .unset] [(.ref b14), (.ref b14)])) _
      refine XS.iconst X16.here hx rfl (hb hby at_21) ?_
      show Steps p.tables e below (T16.setTop (mkF m 22 #[.val (.int i0), .val (.int (-1 : Int32)), .unset, .unset, .unset] [(.int (1 : Int32)), (.ref b14), (.ref b14)])) _
      refine st17 _ ?_
      show Steps p.tables e below (T17.setTop (mkF m 25 #[.val (.int i0), .val (.int (-1 : Int32)), .unset, .unset, .unset] [(.ref w1), (.int (1 : Int32)), (.ref b14), (.ref b14)])) _
      refine st18 _ ?_
      show Steps p.tables e below (T18.setTop (mkF m 26 #[.val (.int i0), .val (.int (-1 : Int32)), .unset, .unset, .unset] [(.ref b14)])) _
      refine XS.dup X18.here hx rfl (hb hby at_26) rfl rfl ?_
      show Steps p.tables e below (T18.setTop (mkF m 27 #[.val (.int i0), .val (.int (-1 : Int32)), .unset, .unset, .unset] [(.ref b14), (.ref b14)])) _
      refine XS.iconst X18.here hx rfl (hb hby at_27) ?_
      show Steps p.tables e below (T18.setTop (mkF m 28 #[.val (.int i0), .val (.int (-1 : Int32)), .unset, .unset, .unset] [(.int (2 : Int32)), (.ref b14), (.ref b14)])) _
      refine st19 _ ?_
      show Steps p.tables e below (T19.setTop (mkF m 31 #[.val (.int i0), .val (.int (-1 : Int32)), .unset, .unset, .unset] [(.ref w2), (.int (2 : Int32)), (.ref b14), (.ref b14)])) _
      refine st20 _ ?_
      show Steps p.tables e below (T20.setTop (mkF m 32 #[.val (.int i0), .val (.int (-1 : Int32)), .unset, .unset, .unset] [(.ref b14)])) _
      refine XS.dup X20.here hx rfl (hb hby at_32) rfl rfl ?_
      show Steps p.tables e below (T20.setTop (mkF m 33 #[.val (.int i0), .val (.int (-1 : Int32)), .unset, .unset, .unset] [(.ref b14), (.ref b14)])) _
      refine XS.iconst X20.here hx rfl (hb hby at_33) ?_
      show Steps p.tables e below (T20.setTop (mkF m 34 #[.val (.int i0), .val (.int (-1 : Int32)), .unset, .unset, .unset] [(.int (3 : Int32)), (.ref b14), (.ref b14)])) _
      refine st21 _ ?_
      show Steps p.tables e below (T21.setTop (mkF m 37 #[.val (.int i0), .val (.int (-1 : Int32)), .unset, .unset, .unset] [(.ref w3), (.int (3 : Int32)), (.ref b14), (.ref b14)])) _
      refine st22 _ ?_
      show Steps p.tables e below (T22.setTop (mkF m 38 #[.val (.int i0), .val (.int (-1 : Int32)), .unset, .unset, .unset] [(.ref b14)])) _
      refine XS.astoreN X22.here hx rfl (hb hby at_38) rfl rfl (l' := #[.val (.int i0), .val (.int (-1 : Int32)), .val (.ref b14), .unset, .unset]) rfl ?_
      show Steps p.tables e below (T22.setTop (mkF m 39 #[.val (.int i0), .val (.int (-1 : Int32)), .val (.ref b14), .unset, .unset] [])) _
      refine XS.iloadN X22.here hx rfl (hb hby at_39) rfl ?_
      show Steps p.tables e below (T22.setTop (mkF m 40 #[.val (.int i0), .val (.int (-1 : Int32)), .val (.ref b14), .unset, .unset] [(.int (-1 : Int32))])) _
      refine XS.ifNo X22.here hx rfl (hb hby at_40) rfl (by decide) ?_
      show Steps p.tables e below (T22.setTop (mkF m 43 #[.val (.int i0), .val (.int (-1 : Int32)), .val (.ref b14), .unset, .unset] [])) _
      refine XS.iconst X22.here hx rfl (hb hby at_43) ?_
      show Steps p.tables e below (T22.setTop (mkF m 44 #[.val (.int i0), .val (.int (-1 : Int32)), .val (.ref b14), .unset, .unset] [(.int (0 : Int32))])) _
      refine XS.istoreN X22.here hx rfl (hb hby at_44) rfl (l' := #[.val (.int i0), .val (.int (-1 : Int32)), .val (.ref b14), .val (.int (0 : Int32)), .unset]) rfl ?_
      show Steps p.tables e below (T22.setTop (mkF m 45 #[.val (.int i0), .val (.int (-1 : Int32)), .val (.ref b14), .val (.int (0 : Int32)), .unset] [])) _
      refine XS.goto X22.here hx rfl (pc0 := 45) (pc' := 58) rfl (hb hby at_45) (by decide) (by decide) ?_
      show Steps p.tables e below (T22.setTop (mkF m 58 #[.val (.int i0), .val (.int (-1 : Int32)), .val (.ref b14), .val (.int (0 : Int32)), .unset] [])) _
      refine XS.iloadN X22.here hx rfl (hb hby at_58) rfl ?_
      show Steps p.tables e below (T22.setTop (mkF m 59 #[.val (.int i0), .val (.int (-1 : Int32)), .val (.ref b14), .val (.int (0 : Int32)), .unset] [(.int (-1 : Int32))])) _
      refine st24 _ ?_
      show Steps p.tables e below (T24.setTop (mkF m 62 #[.val (.int i0), .val (.int (-1 : Int32)), .val (.ref b14), .val (.int (0 : Int32)), .unset] [(.ref w0)])) _
      refine XS.astore X24.here hx rfl (hb hby at_62) rfl rfl (l' := #[.val (.int i0), .val (.int (-1 : Int32)), .val (.ref b14), .val (.int (0 : Int32)), .val (.ref w0)]) rfl ?_
      show Steps p.tables e below (T24.setTop (mkF m 64 #[.val (.int i0), .val (.int (-1 : Int32)), .val (.ref b14), .val (.int (0 : Int32)), .val (.ref w0)] [])) _
      refine XS.aload X24.here hx rfl (hb hby at_64) rfl rfl ?_
      show Steps p.tables e below (T24.setTop (mkF m 66 #[.val (.int i0), .val (.int (-1 : Int32)), .val (.ref b14), .val (.int (0 : Int32)), .val (.ref w0)] [(.ref w0)])) _
      refine XS.aloadN X24.here hx rfl (hb hby at_66) rfl rfl ?_
      show Steps p.tables e below (T24.setTop (mkF m 67 #[.val (.int i0), .val (.int (-1 : Int32)), .val (.ref b14), .val (.int (0 : Int32)), .val (.ref w0)] [(.ref b14), (.ref w0)])) _
      refine XS.iloadN X24.here hx rfl (hb hby at_67) rfl ?_
      show Steps p.tables e below (T24.setTop (mkF m 68 #[.val (.int i0), .val (.int (-1 : Int32)), .val (.ref b14), .val (.int (0 : Int32)), .val (.ref w0)] [(.int (0 : Int32)), (.ref b14), (.ref w0)])) _
      refine X24.aaload hx (j := (0 : Int32)) (v := (.ref w0)) (by rw [e24]; exact Ar25.1) (State.isArrayOf_alike hZ.alike Ar25.2.1) rfl Ar25.2.2 hin25 hat25 (g := (mkF m 68 #[.val (.int i0), .val (.int (-1 : Int32)), .val (.ref b14), .val (.int (0 : Int32)), .val (.ref w0)] [(.int (0 : Int32)), (.ref b14), (.ref w0)])) rfl rfl (hb hby at_68) _ ?_
      show Steps p.tables e below (T24.setTop (mkF m 69 #[.val (.int i0), .val (.int (-1 : Int32)), .val (.ref b14), .val (.int (0 : Int32)), .val (.ref w0)] [(.ref w0), (.ref w0)])) _
      refine Jvm.RoadKit.acmp (g := (mkF m 69 #[.val (.int i0), .val (.int (-1 : Int32)), .val (.ref b14), .val (.int (0 : Int32)), .val (.ref w0)] [(.ref w0), (.ref w0)])) X24 hx rfl rfl rfl (pc0 := 69) (pc' := 72) (same := true) rfl (hb hby at_69) rfl (decide_eq_true rfl) (by decide) (by decide) ?_
      show Steps p.tables e below (T24.setTop (mkF m 72 #[.val (.int i0), .val (.int (-1 : Int32)), .val (.ref b14), .val (.int (0 : Int32)), .val (.ref w0)] [])) _
      refine XS.iconst X24.here hx rfl (hb hby at_72) ?_
      show Steps p.tables e below (T24.setTop (mkF m 73 #[.val (.int i0), .val (.int (-1 : Int32)), .val (.ref b14), .val (.int (0 : Int32)), .val (.ref w0)] [(.int (1 : Int32))])) _
      refine XS.goto X24.here hx rfl (pc0 := 73) (pc' := 77) rfl (hb hby at_73) (by decide) (by decide) ?_
      show Steps p.tables e below (T24.setTop (mkF m 77 #[.val (.int i0), .val (.int (-1 : Int32)), .val (.ref b14), .val (.int (0 : Int32)), .val (.ref w0)] [(.int (1 : Int32))])) _
      exact retN X24 hx (t := .boolean) Bd.returns (by simp) (hb hby at_77) hr
    · show Ql n0 _ T24.heap _
      exact ⟨rfl, N24⟩
  · obtain ⟨T26, h26, k26, X26, e26, E26, A26, O26, st26⟩ := newR X0 hx hZ hown (hw _ (List.mem_of_getElem? (i := 1) rfl)) (hw _ (List.mem_of_getElem? (i := 2) rfl)) e0 (g := (mkF m 11 #[.val (.int i0), .val (.int (0 : Int32)), .unset, .unset, .unset] [(.int (4 : Int32))])) rfl (hb hby at_11) rfl (by decide) (cap := 4) (by decide) (by decide) (by decide) (by decide)
    obtain ⟨b26, g26⟩ : ∃ z, z = h0.size := ⟨_, rfl⟩
    rw [← g26] at A26 st26
    have V26 : Arv Z h26 b26 k26 (.object "com/example/libgate/libgate/Impact") (4 : Int32) [.null, .null, .null, .null] .null := (Arv.new A26 (by decide)).pad (pad_rep [] .null 4)
    have g_b26 : n0 ≤ b26 := Nat.le_trans (Nat.le_trans (Nat.le_of_eq O0.1.symm) O0.2.1) (Nat.le_of_eq g26.symm)
    have O_26 : Old Z n0 h26 := O0.ext E26
    obtain ⟨T27, X27, e27, st27⟩ := getS2 X26 hx hZ hown (host := "") (Or.inl (hw _ (List.mem_of_getElem? (i := 3) rfl))) Via.refl e26 (wS0.ext O_26.2) (g := (mkF m 16 #[.val (.int i0), .val (.int (0 : Int32)), .unset, .unset, .unset] [(.int (0 : Int32)), (.ref b26), (.ref b26)])) rfl (hb hby at_16)
    obtain ⟨cl28, Ar28, q28, S28, M28, H28, G28⟩ := V26
    have hin28 : ¬ ((0 : Int32) < 0 ∨ cl28.slots.size ≤ ((0 : Int32)).toNatClampNeg) := inb_of S28 ⟨by decide, by decide⟩
    obtain ⟨T28, h28, X28, e28, W28, st28⟩ := stR X27 hx hZ e27 Ar28 (j := (0 : Int32)) hin28 rfl (Sto.ofV Ar28 q28 O26 (Ins.self (wE0.ext O_26.2))) (g := (mkF m 19 #[.val (.int i0), .val (.int (0 : Int32)), .unset, .unset, .unset] [(.ref w0), (.int (0 : Int32)), (.ref b26), (.ref b26)])) rfl rfl (hb hby at_19)
    have V28 : Arv Z h28 b26 k26 (.object "com/example/libgate/libgate/Impact") (4 : Int32) [(.ref w0), .null, .null, .null] .null := Arv.set Ar28 q28 S28 M28 H28 G28 rfl W28 0 rfl (Nat.le_of_ble_eq_true rfl)
    have N28 := Fr.snoc X28 N0 g_b26
    have O_28 : Old Z n0 h28 := O_26.wr W28 g_b26
    obtain ⟨T29, X29, e29, st29⟩ := getS2 X28 hx hZ hown (host := "") (Or.inl (hw _ (List.mem_of_getElem? (i := 7) rfl))) Via.refl e28 (wS1.ext O_28.2) (g := (mkF m 22 #[.val (.int i0), .val (.int (0 : Int32)), .unset, .unset, .unset] [(.int (1 : Int32)), (.ref b26), (.ref b26)])) rfl (hb hby at_22)
    obtain ⟨cl30, Ar30, q30, S30, M30, H30, G30⟩ := V28
    have hin30 : ¬ ((1 : Int32) < 0 ∨ cl30.slots.size ≤ ((1 : Int32)).toNatClampNeg) := inb_of S30 ⟨by decide, by decide⟩
    obtain ⟨T30, h30, X30, e30, W30, st30⟩ := stR X29 hx hZ e29 Ar30 (j := (1 : Int32)) hin30 rfl (Sto.ofV Ar30 q30 O26 (Ins.self (wE1.ext O_28.2))) (g := (mkF m 25 #[.val (.int i0), .val (.int (0 : Int32)), .unset, .unset, .unset] [(.ref w1), (.int (1 : Int32)), (.ref b26), (.ref b26)])) rfl rfl (hb hby at_25)
    have V30 : Arv Z h30 b26 k26 (.object "com/example/libgate/libgate/Impact") (4 : Int32) [(.ref w0), (.ref w1), .null, .null] .null := Arv.set Ar30 q30 S30 M30 H30 G30 rfl W30 1 rfl (Nat.le_of_ble_eq_true rfl)
    have N30 := Fr.snoc X30 N28 g_b26
    have O_30 : Old Z n0 h30 := O_28.wr W30 g_b26
    obtain ⟨T31, X31, e31, st31⟩ := getS2 X30 hx hZ hown (host := "") (Or.inl (hw _ (List.mem_of_getElem? (i := 9) rfl))) Via.refl e30 (wS2.ext O_30.2) (g := (mkF m 28 #[.val (.int i0), .val (.int (0 : Int32)), .unset, .unset, .unset] [(.int (2 : Int32)), (.ref b26), (.ref b26)])) rfl (hb hby at_28)
    obtain ⟨cl32, Ar32, q32, S32, M32, H32, G32⟩ := V30
    have hin32 : ¬ ((2 : Int32) < 0 ∨ cl32.slots.size ≤ ((2 : Int32)).toNatClampNeg) := inb_of S32 ⟨by decide, by decide⟩
    obtain ⟨T32, h32, X32, e32, W32, st32⟩ := stR X31 hx hZ e31 Ar32 (j := (2 : Int32)) hin32 rfl (Sto.ofV Ar32 q32 O26 (Ins.self (wE2.ext O_30.2))) (g := (mkF m 31 #[.val (.int i0), .val (.int (0 : Int32)), .unset, .unset, .unset] [(.ref w2), (.int (2 : Int32)), (.ref b26), (.ref b26)])) rfl rfl (hb hby at_31)
    have V32 : Arv Z h32 b26 k26 (.object "com/example/libgate/libgate/Impact") (4 : Int32) [(.ref w0), (.ref w1), (.ref w2), .null] .null := Arv.set Ar32 q32 S32 M32 H32 G32 rfl W32 2 rfl (Nat.le_of_ble_eq_true rfl)
    have N32 := Fr.snoc X32 N30 g_b26
    have O_32 : Old Z n0 h32 := O_30.wr W32 g_b26
    obtain ⟨T33, X33, e33, st33⟩ := getS2 X32 hx hZ hown (host := "") (Or.inl (hw _ (List.mem_of_getElem? (i := 11) rfl))) Via.refl e32 (wS3.ext O_32.2) (g := (mkF m 34 #[.val (.int i0), .val (.int (0 : Int32)), .unset, .unset, .unset] [(.int (3 : Int32)), (.ref b26), (.ref b26)])) rfl (hb hby at_34)
    obtain ⟨cl34, Ar34, q34, S34, M34, H34, G34⟩ := V32
    have hin34 : ¬ ((3 : Int32) < 0 ∨ cl34.slots.size ≤ ((3 : Int32)).toNatClampNeg) := inb_of S34 ⟨by decide, by decide⟩
    obtain ⟨T34, h34, X34, e34, W34, st34⟩ := stR X33 hx hZ e33 Ar34 (j := (3 : Int32)) hin34 rfl (Sto.ofV Ar34 q34 O26 (Ins.self (wE3.ext O_32.2))) (g := (mkF m 37 #[.val (.int i0), .val (.int (0 : Int32)), .unset, .unset, .unset] [(.ref w3), (.int (3 : Int32)), (.ref b26), (.ref b26)])) rfl rfl (hb hby at_37)
    have V34 : Arv Z h34 b26 k26 (.object "com/example/libgate/libgate/Impact") (4 : Int32) [(.ref w0), (.ref w1), (.ref w2), (.ref w3)] .null := Arv.set Ar34 q34 S34 M34 H34 G34 rfl W34 3 rfl (Nat.le_of_ble_eq_true rfl)
    have N34 := Fr.snoc X34 N32 g_b26
    have O_34 : Old Z n0 h34 := O_32.wr W34 g_b26
    obtain ⟨_, _, ⟨T36, L36, k36, n36⟩, -, X36, ⟨Lc36, hQ36, l36, y36, z36⟩, st36⟩ := Jvm.LawKit.callS X34 hx (y := (⟨"com/example/libgate/libgate/Impact", "of", "(I)Lcom/example/libgate/libgate/Impact;"⟩ : MethodName)) hown (mvT hZ (hw _ (List.mem_of_getElem? (i := 13) rfl))) (mvT hZ (hw _ (List.mem_of_getElem? (i := 14) rfl))) (mvT hZ (hw _ (List.mem_of_getElem? (i := 4) rfl))) (mvT hZ (hw _ (List.mem_of_getElem? (i := 15) rfl))) (by decide) (backOf (W := 0) (rm2 l Z a0 hw [] w0 w1 w2 w3 h34 n0 hWd O_34) hZ (hw _ (List.mem_of_getElem? (i := 15) rfl)) (hw _ (List.mem_of_getElem? (i := 4) rfl)) (by decide) (by decide)) (g := (mkF m 59 #[.val (.int i0), .val (.int (0 : Int32)), .val (.ref b26), .val (.int (0 : Int32)), .unset] [(.int (0 : Int32))])) rfl (by rw [hml]; rfl) (argsL := [(.int (0 : Int32))]) (rest := []) (lenOf pd0 rfl) rfl (by show 2 * 0 + _ ≤ _; exact Nat.le_of_eq rfl) (hb hby at_59) (fun _ _ => ⟨rfl, e34, (by decide : 1 + 0 ≤ _), (by decide : 4 + 0 ≤ _)⟩)
    dsimp only [Pt.U, Pt.locs, Pt.cells, Pt.slots] at X36 l36 y36 z36 st36 hQ36
    subst l36 y36 z36
    obtain ⟨rfl, N36q, e36⟩ := hQ36
    have N36 := Fr.app N34 N36q
    obtain ⟨cl37, Ar37, q37, S37, M37, H37, G37⟩ := V34
    have hin37 : ¬ ((0 : Int32) < 0 ∨ cl37.slots.size ≤ ((0 : Int32)).toNatClampNeg) := inb_of S37 ⟨by decide, by decide⟩
    have hat37 : cl37.slots[((0 : Int32)).toNatClampNeg]? = some (.ref w0) := Has.at H37 hin37 rfl
    obtain ⟨fs, hr, hrun, hended, hWr, hsame⟩ := X36.leave (v := some (.int (1 : Int32))) (fun h => by rw [Bd.returns] at h; cases h)
    refine ⟨_, _, pre1 _ ?_, hrun, hended, _, _, rfl, ?_, ⟨_, rfl⟩, hWr, hsame.mono (Nat.le_of_ble_eq_true rfl) (Nat.le_of_ble_eq_true rfl)⟩
    · show Steps p.tables e below (s₁.setTop (mkF m 6 #[.val (.int i0), .unset, .unset, .unset, .unset] [(.int (12 : Int32)), (.int (i0 &&& (2147483647 : Int32)))])) _
      refine iremM X0 hx rfl (hb hby at_6) rfl (by decide) ?_
      show Steps p.tables e below (s₁.setTop (mkF m 7 #[.val (.int i0), .unset, .unset, .unset, .unset] [(.int ((i0 &&& (2147483647 : Int32)) % (12 : Int32)))])) _
      rw [hk3]
      show Steps p.tables e below (s₁.setTop (mkF m 7 #[.val (.int i0), .unset, .unset, .unset, .unset] [(.int (1 : Int32))])) _
      refine XS.iconst X0.here hx rfl (hb hby at_7) ?_
      show Steps p.tables e below (s₁.setTop (mkF m 8 #[.val (.int i0), .unset, .unset, .unset, .unset] [(.int (1 : Int32)), (.int (1 : Int32))])) _
      refine XS.isub X0.here hx rfl (hb hby at_8) rfl ?_
      show Steps p.tables e below (s₁.setTop (mkF m 9 #[.val (.int i0), .unset, .unset, .unset, .unset] [(.int ((1 : Int32) - (1 : Int32)))])) _
      rw [show ((1 : Int32) - (1 : Int32)) = (0 : Int32) from by decide]
      show Steps p.tables e below (s₁.setTop (mkF m 9 #[.val (.int i0), .unset, .unset, .unset, .unset] [(.int (0 : Int32))])) _
      refine XS.istoreN X0.here hx rfl (hb hby at_9) rfl (l' := #[.val (.int i0), .val (.int (0 : Int32)), .unset, .unset, .unset]) rfl ?_
      show Steps p.tables e below (s₁.setTop (mkF m 10 #[.val (.int i0), .val (.int (0 : Int32)), .unset, .unset, .unset] [])) _
      refine XS.iconst X0.here hx rfl (hb hby at_10) ?_
      show Steps p.tables e below (s₁.setTop (mkF m 11 #[.val (.int i0), .val (.int (0 : Int32)), .unset, .unset, .unset] [(.int (4 : Int32))])) _
      refine st26 _ ?_
      show Steps p.tables e below (T26.setTop (mkF m 14 #[.val (.int i0), .val (.int (0 : Int32)), .unset, .unset, .unset] [(.ref b26)])) _
      refine XS.dup X26.here hx rfl (hb hby at_14) rfl rfl ?_
      show Steps p.tables e below (T26.setTop (mkF m 15 #[.val (.int i0), .val (.int (0 : Int32)), .unset, .unset, .unset] [(.ref b26), (.ref b26)])) _
      refine XS.iconst X26.here hx rfl (hb hby at_15) ?_
      show Steps p.tables e below (T26.setTop (mkF m 16 #[.val (.int i0), .val (.int (0 : Int32)), .unset, .unset, .unset] [(.int (0 : Int32)), (.ref b26), (.ref b26)])) _
      refine st27 _ ?_
      show Steps p.tables e below (T27.setTop (mkF m 19 #[.val (.int i0), .val (.int (0 : Int32)), .unset, .unset, .unset] [(.ref w0), (.int (0 : Int32)), (.ref b26), (.ref b26)])) _
      refine st28 _ ?_
      show Steps p.tables e below (T28.setTop (mkF m 20 #[.val (.int i0), .val (.int (0 : Int32)), .unset, .unset, .unset] [(.ref b26)])) _
      refine XS.dup X28.here hx rfl (hb hby at_20) rfl rfl ?_
      show Steps p.tables e below (T28.setTop (mkF m 21 #[.val (.int i0), .val (.int (0 : Int32)), .unset, .unset, .unset] [(.ref b26), (.ref b26)])) _
      refine XS.iconst X28.here hx rfl (hb hby at_21) ?_
      show Steps p.tables e below (T28.setTop (mkF m 22 #[.val (.int i0), .val (.int (0 : Int32)), .unset, .unset, .unset] [(.int (1 : Int32)), (.ref b26), (.ref b26)])) _
      refine st29 _ ?_
      show Steps p.tables e below (T29.setTop (mkF m 25 #[.val (.int i0), .val (.int (0 : Int32)), .unset, .unset, .unset] [(.ref w1), (.int (1 : Int32)), (.ref b26), (.ref b26)])) _
      refine st30 _ ?_
      show Steps p.tables e below (T30.setTop (mkF m 26 #[.val (.int i0), .val (.int (0 : Int32)), .unset, .unset, .unset] [(.ref b26)])) _
      refine XS.dup X30.here hx rfl (hb hby at_26) rfl rfl ?_
      show Steps p.tables e below (T30.setTop (mkF m 27 #[.val (.int i0), .val (.int (0 : Int32)), .unset, .unset, .unset] [(.ref b26), (.ref b26)])) _
      refine XS.iconst X30.here hx rfl (hb hby at_27) ?_
      show Steps p.tables e below (T30.setTop (mkF m 28 #[.val (.int i0), .val (.int (0 : Int32)), .unset, .unset, .unset] [(.int (2 : Int32)), (.ref b26), (.ref b26)])) _
      refine st31 _ ?_
      show Steps p.tables e below (T31.setTop (mkF m 31 #[.val (.int i0), .val (.int (0 : Int32)), .unset, .unset, .unset] [(.ref w2), (.int (2 : Int32)), (.ref b26), (.ref b26)])) _
      refine st32 _ ?_
      show Steps p.tables e below (T32.setTop (mkF m 32 #[.val (.int i0), .val (.int (0 : Int32)), .unset, .unset, .unset] [(.ref b26)])) _
      refine XS.dup X32.here hx rfl (hb hby at_32) rfl rfl ?_
      show Steps p.tables e below (T32.setTop (mkF m 33 #[.val (.int i0), .val (.int (0 : Int32)), .unset, .unset, .unset] [(.ref b26), (.ref b26)])) _
      refine XS.iconst X32.here hx rfl (hb hby at_33) ?_
      show Steps p.tables e below (T32.setTop (mkF m 34 #[.val (.int i0), .val (.int (0 : Int32)), .unset, .unset, .unset] [(.int (3 : Int32)), (.ref b26), (.ref b26)])) _
      refine st33 _ ?_
      show Steps p.tables e below (T33.setTop (mkF m 37 #[.val (.int i0), .val (.int (0 : Int32)), .unset, .unset, .unset] [(.ref w3), (.int (3 : Int32)), (.ref b26), (.ref b26)])) _
      refine st34 _ ?_
      show Steps p.tables e below (T34.setTop (mkF m 38 #[.val (.int i0), .val (.int (0 : Int32)), .unset, .unset, .unset] [(.ref b26)])) _
      refine XS.astoreN X34.here hx rfl (hb hby at_38) rfl rfl (l' := #[.val (.int i0), .val (.int (0 : Int32)), .val (.ref b26), .unset, .unset]) rfl ?_
      show Steps p.tables e below (T34.setTop (mkF m 39 #[.val (.int i0), .val (.int (0 : Int32)), .val (.ref b26), .unset, .unset] [])) _
      refine XS.iloadN X34.here hx rfl (hb hby at_39) rfl ?_
      show Steps p.tables e below (T34.setTop (mkF m 40 #[.val (.int i0), .val (.int (0 : Int32)), .val (.ref b26), .unset, .unset] [(.int (0 : Int32))])) _
      refine XS.ifNo X34.here hx rfl (hb hby at_40) rfl (by decide) ?_
      show Steps p.tables e below (T34.setTop (mkF m 43 #[.val (.int i0), .val (.int (0 : Int32)), .val (.ref b26), .unset, .unset] [])) _
      refine XS.iconst X34.here hx rfl (hb hby at_43) ?_
      show Steps p.tables e below (T34.setTop (mkF m 44 #[.val (.int i0), .val (.int (0 : Int32)), .val (.ref b26), .unset, .unset] [(.int (0 : Int32))])) _
      refine XS.istoreN X34.here hx rfl (hb hby at_44) rfl (l' := #[.val (.int i0), .val (.int (0 : Int32)), .val (.ref b26), .val (.int (0 : Int32)), .unset]) rfl ?_
      show Steps p.tables e below (T34.setTop (mkF m 45 #[.val (.int i0), .val (.int (0 : Int32)), .val (.ref b26), .val (.int (0 : Int32)), .unset] [])) _
      refine XS.goto X34.here hx rfl (pc0 := 45) (pc' := 58) rfl (hb hby at_45) (by decide) (by decide) ?_
      show Steps p.tables e below (T34.setTop (mkF m 58 #[.val (.int i0), .val (.int (0 : Int32)), .val (.ref b26), .val (.int (0 : Int32)), .unset] [])) _
      refine XS.iloadN X34.here hx rfl (hb hby at_58) rfl ?_
      show Steps p.tables e below (T34.setTop (mkF m 59 #[.val (.int i0), .val (.int (0 : Int32)), .val (.ref b26), .val (.int (0 : Int32)), .unset] [(.int (0 : Int32))])) _
      refine st36 _ ?_
      show Steps p.tables e below (T36.setTop (mkF m 62 #[.val (.int i0), .val (.int (0 : Int32)), .val (.ref b26), .val (.int (0 : Int32)), .unset] [(.ref w0)])) _
      refine XS.astore X36.here hx rfl (hb hby at_62) rfl rfl (l' := #[.val (.int i0), .val (.int (0 : Int32)), .val (.ref b26), .val (.int (0 : Int32)), .val (.ref w0)]) rfl ?_
      show Steps p.tables e below (T36.setTop (mkF m 64 #[.val (.int i0), .val (.int (0 : Int32)), .val (.ref b26), .val (.int (0 : Int32)), .val (.ref w0)] [])) _
      refine XS.aload X36.here hx rfl (hb hby at_64) rfl rfl ?_
      show Steps p.tables e below (T36.setTop (mkF m 66 #[.val (.int i0), .val (.int (0 : Int32)), .val (.ref b26), .val (.int (0 : Int32)), .val (.ref w0)] [(.ref w0)])) _
      refine XS.aloadN X36.here hx rfl (hb hby at_66) rfl rfl ?_
      show Steps p.tables e below (T36.setTop (mkF m 67 #[.val (.int i0), .val (.int (0 : Int32)), .val (.ref b26), .val (.int (0 : Int32)), .val (.ref w0)] [(.ref b26), (.ref w0)])) _
      refine XS.iloadN X36.here hx rfl (hb hby at_67) rfl ?_
      show Steps p.tables e below (T36.setTop (mkF m 68 #[.val (.int i0), .val (.int (0 : Int32)), .val (.ref b26), .val (.int (0 : Int32)), .val (.ref w0)] [(.int (0 : Int32)), (.ref b26), (.ref w0)])) _
      refine X36.aaload hx (j := (0 : Int32)) (v := (.ref w0)) (by rw [e36]; exact Ar37.1) (State.isArrayOf_alike hZ.alike Ar37.2.1) rfl Ar37.2.2 hin37 hat37 (g := (mkF m 68 #[.val (.int i0), .val (.int (0 : Int32)), .val (.ref b26), .val (.int (0 : Int32)), .val (.ref w0)] [(.int (0 : Int32)), (.ref b26), (.ref w0)])) rfl rfl (hb hby at_68) _ ?_
      show Steps p.tables e below (T36.setTop (mkF m 69 #[.val (.int i0), .val (.int (0 : Int32)), .val (.ref b26), .val (.int (0 : Int32)), .val (.ref w0)] [(.ref w0), (.ref w0)])) _
      refine Jvm.RoadKit.acmp (g := (mkF m 69 #[.val (.int i0), .val (.int (0 : Int32)), .val (.ref b26), .val (.int (0 : Int32)), .val (.ref w0)] [(.ref w0), (.ref w0)])) X36 hx rfl rfl rfl (pc0 := 69) (pc' := 72) (same := true) rfl (hb hby at_69) rfl (decide_eq_true rfl) (by decide) (by decide) ?_
      show Steps p.tables e below (T36.setTop (mkF m 72 #[.val (.int i0), .val (.int (0 : Int32)), .val (.ref b26), .val (.int (0 : Int32)), .val (.ref w0)] [])) _
      refine XS.iconst X36.here hx rfl (hb hby at_72) ?_
      show Steps p.tables e below (T36.setTop (mkF m 73 #[.val (.int i0), .val (.int (0 : Int32)), .val (.ref b26), .val (.int (0 : Int32)), .val (.ref w0)] [(.int (1 : Int32))])) _
      refine XS.goto X36.here hx rfl (pc0 := 73) (pc' := 77) rfl (hb hby at_73) (by decide) (by decide) ?_
      show Steps p.tables e below (T36.setTop (mkF m 77 #[.val (.int i0), .val (.int (0 : Int32)), .val (.ref b26), .val (.int (0 : Int32)), .val (.ref w0)] [(.int (1 : Int32))])) _
      exact retN X36 hx (t := .boolean) Bd.returns (by simp) (hb hby at_77) hr
    · show Ql n0 _ T36.heap _
      exact ⟨rfl, N36⟩
  · obtain ⟨T38, h38, k38, X38, e38, E38, A38, O38, st38⟩ := newR X0 hx hZ hown (hw _ (List.mem_of_getElem? (i := 1) rfl)) (hw _ (List.mem_of_getElem? (i := 2) rfl)) e0 (g := (mkF m 11 #[.val (.int i0), .val (.int (1 : Int32)), .unset, .unset, .unset] [(.int (4 : Int32))])) rfl (hb hby at_11) rfl (by decide) (cap := 4) (by decide) (by decide) (by decide) (by decide)
    obtain ⟨b38, g38⟩ : ∃ z, z = h0.size := ⟨_, rfl⟩
    rw [← g38] at A38 st38
    have V38 : Arv Z h38 b38 k38 (.object "com/example/libgate/libgate/Impact") (4 : Int32) [.null, .null, .null, .null] .null := (Arv.new A38 (by decide)).pad (pad_rep [] .null 4)
    have g_b38 : n0 ≤ b38 := Nat.le_trans (Nat.le_trans (Nat.le_of_eq O0.1.symm) O0.2.1) (Nat.le_of_eq g38.symm)
    have O_38 : Old Z n0 h38 := O0.ext E38
    obtain ⟨T39, X39, e39, st39⟩ := getS2 X38 hx hZ hown (host := "") (Or.inl (hw _ (List.mem_of_getElem? (i := 3) rfl))) Via.refl e38 (wS0.ext O_38.2) (g := (mkF m 16 #[.val (.int i0), .val (.int (1 : Int32)), .unset, .unset, .unset] [(.int (0 : Int32)), (.ref b38), (.ref b38)])) rfl (hb hby at_16)
    obtain ⟨cl40, Ar40, q40, S40, M40, H40, G40⟩ := V38
    have hin40 : ¬ ((0 : Int32) < 0 ∨ cl40.slots.size ≤ ((0 : Int32)).toNatClampNeg) := inb_of S40 ⟨by decide, by decide⟩
    obtain ⟨T40, h40, X40, e40, W40, st40⟩ := stR X39 hx hZ e39 Ar40 (j := (0 : Int32)) hin40 rfl (Sto.ofV Ar40 q40 O38 (Ins.self (wE0.ext O_38.2))) (g := (mkF m 19 #[.val (.int i0), .val (.int (1 : Int32)), .unset, .unset, .unset] [(.ref w0), (.int (0 : Int32)), (.ref b38), (.ref b38)])) rfl rfl (hb hby at_19)
    have V40 : Arv Z h40 b38 k38 (.object "com/example/libgate/libgate/Impact") (4 : Int32) [(.ref w0), .null, .null, .null] .null := Arv.set Ar40 q40 S40 M40 H40 G40 rfl W40 0 rfl (Nat.le_of_ble_eq_true rfl)
    have N40 := Fr.snoc X40 N0 g_b38
    have O_40 : Old Z n0 h40 := O_38.wr W40 g_b38
    obtain ⟨T41, X41, e41, st41⟩ := getS2 X40 hx hZ hown (host := "") (Or.inl (hw _ (List.mem_of_getElem? (i := 7) rfl))) Via.refl e40 (wS1.ext O_40.2) (g := (mkF m 22 #[.val (.int i0), .val (.int (1 : Int32)), .unset, .unset, .unset] [(.int (1 : Int32)), (.ref b38), (.ref b38)])) rfl (hb hby at_22)
    obtain ⟨cl42, Ar42, q42, S42, M42, H42, G42⟩ := V40
    have hin42 : ¬ ((1 : Int32) < 0 ∨ cl42.slots.size ≤ ((1 : Int32)).toNatClampNeg) := inb_of S42 ⟨by decide, by decide⟩
    obtain ⟨T42, h42, X42, e42, W42, st42⟩ := stR X41 hx hZ e41 Ar42 (j := (1 : Int32)) hin42 rfl (Sto.ofV Ar42 q42 O38 (Ins.self (wE1.ext O_40.2))) (g := (mkF m 25 #[.val (.int i0), .val (.int (1 : Int32)), .unset, .unset, .unset] [(.ref w1), (.int (1 : Int32)), (.ref b38), (.ref b38)])) rfl rfl (hb hby at_25)
    have V42 : Arv Z h42 b38 k38 (.object "com/example/libgate/libgate/Impact") (4 : Int32) [(.ref w0), (.ref w1), .null, .null] .null := Arv.set Ar42 q42 S42 M42 H42 G42 rfl W42 1 rfl (Nat.le_of_ble_eq_true rfl)
    have N42 := Fr.snoc X42 N40 g_b38
    have O_42 : Old Z n0 h42 := O_40.wr W42 g_b38
    obtain ⟨T43, X43, e43, st43⟩ := getS2 X42 hx hZ hown (host := "") (Or.inl (hw _ (List.mem_of_getElem? (i := 9) rfl))) Via.refl e42 (wS2.ext O_42.2) (g := (mkF m 28 #[.val (.int i0), .val (.int (1 : Int32)), .unset, .unset, .unset] [(.int (2 : Int32)), (.ref b38), (.ref b38)])) rfl (hb hby at_28)
    obtain ⟨cl44, Ar44, q44, S44, M44, H44, G44⟩ := V42
    have hin44 : ¬ ((2 : Int32) < 0 ∨ cl44.slots.size ≤ ((2 : Int32)).toNatClampNeg) := inb_of S44 ⟨by decide, by decide⟩
    obtain ⟨T44, h44, X44, e44, W44, st44⟩ := stR X43 hx hZ e43 Ar44 (j := (2 : Int32)) hin44 rfl (Sto.ofV Ar44 q44 O38 (Ins.self (wE2.ext O_42.2))) (g := (mkF m 31 #[.val (.int i0), .val (.int (1 : Int32)), .unset, .unset, .unset] [(.ref w2), (.int (2 : Int32)), (.ref b38), (.ref b38)])) rfl rfl (hb hby at_31)
    have V44 : Arv Z h44 b38 k38 (.object "com/example/libgate/libgate/Impact") (4 : Int32) [(.ref w0), (.ref w1), (.ref w2), .null] .null := Arv.set Ar44 q44 S44 M44 H44 G44 rfl W44 2 rfl (Nat.le_of_ble_eq_true rfl)
    have N44 := Fr.snoc X44 N42 g_b38
    have O_44 : Old Z n0 h44 := O_42.wr W44 g_b38
    obtain ⟨T45, X45, e45, st45⟩ := getS2 X44 hx hZ hown (host := "") (Or.inl (hw _ (List.mem_of_getElem? (i := 11) rfl))) Via.refl e44 (wS3.ext O_44.2) (g := (mkF m 34 #[.val (.int i0), .val (.int (1 : Int32)), .unset, .unset, .unset] [(.int (3 : Int32)), (.ref b38), (.ref b38)])) rfl (hb hby at_34)
    obtain ⟨cl46, Ar46, q46, S46, M46, H46, G46⟩ := V44
    have hin46 : ¬ ((3 : Int32) < 0 ∨ cl46.slots.size ≤ ((3 : Int32)).toNatClampNeg) := inb_of S46 ⟨by decide, by decide⟩
    obtain ⟨T46, h46, X46, e46, W46, st46⟩ := stR X45 hx hZ e45 Ar46 (j := (3 : Int32)) hin46 rfl (Sto.ofV Ar46 q46 O38 (Ins.self (wE3.ext O_44.2))) (g := (mkF m 37 #[.val (.int i0), .val (.int (1 : Int32)), .unset, .unset, .unset] [(.ref w3), (.int (3 : Int32)), (.ref b38), (.ref b38)])) rfl rfl (hb hby at_37)
    have V46 : Arv Z h46 b38 k38 (.object "com/example/libgate/libgate/Impact") (4 : Int32) [(.ref w0), (.ref w1), (.ref w2), (.ref w3)] .null := Arv.set Ar46 q46 S46 M46 H46 G46 rfl W46 3 rfl (Nat.le_of_ble_eq_true rfl)
    have N46 := Fr.snoc X46 N44 g_b38
    have O_46 : Old Z n0 h46 := O_44.wr W46 g_b38
    obtain ⟨_, _, ⟨T47, L47, k47, n47⟩, -, X47, ⟨Lc47, hQ47, l47, y47, z47⟩, st47⟩ := Jvm.LawKit.callS X46 hx (y := (⟨"java/lang/Math", "min", "(II)I"⟩ : MethodName)) hown (mvT hZ (hw _ (List.mem_of_getElem? (i := 17) rfl))) (mvT hZ (hw _ (List.mem_of_getElem? (i := 18) rfl))) (mvT hZ (hw _ (List.mem_of_getElem? (i := 19) rfl))) (mvT hZ (hw _ (List.mem_of_getElem? (i := 20) rfl))) (by decide) (backOf (W := 0) (rm3 l Z a0 hw [] w0 w1 w2 w3 h46 n0 hWd O_46) hZ (hw _ (List.mem_of_getElem? (i := 20) rfl)) (hw _ (List.mem_of_getElem? (i := 19) rfl)) (by decide) (by decide)) (g := (mkF m 54 #[.val (.int i0), .val (.int (1 : Int32)), .val (.ref b38), .unset, .unset] [(.int (1 : Int32)), (.int (3 : Int32))])) rfl (by rw [hml]; rfl) (argsL := [(.int (3 : Int32)), (.int (1 : Int32))]) (rest := []) (lenOf pd1 rfl) rfl (by show 2 * 0 + _ ≤ _; exact Nat.le_of_eq rfl) (hb hby at_54) (fun _ _ => ⟨rfl, e46, (by decide : 1 + 0 ≤ _), (by decide : 4 + 0 ≤ _)⟩)
    dsimp only [Pt.U, Pt.locs, Pt.cells, Pt.slots] at X47 l47 y47 z47 st47 hQ47
    subst l47 y47 z47
    obtain ⟨rfl, N47q, e47⟩ := hQ47
    have N47 := Fr.app N46 N47q
    obtain ⟨_, _, ⟨T49, L49, k49, n49⟩, -, X49, ⟨Lc49, hQ49, l49, y49, z49⟩, st49⟩ := Jvm.LawKit.callS X47 hx (y := (⟨"com/example/libgate/libgate/Impact", "of", "(I)Lcom/example/libgate/libgate/Impact;"⟩ : MethodName)) hown (mvT hZ (hw _ (List.mem_of_getElem? (i := 13) rfl))) (mvT hZ (hw _ (List.mem_of_getElem? (i := 14) rfl))) (mvT hZ (hw _ (List.mem_of_getElem? (i := 4) rfl))) (mvT hZ (hw _ (List.mem_of_getElem? (i := 15) rfl))) (by decide) (backOf (W := 0) (rm4 l Z a0 hw [] w0 w1 w2 w3 h46 n0 hWd O_46) hZ (hw _ (List.mem_of_getElem? (i := 15) rfl)) (hw _ (List.mem_of_getElem? (i := 4) rfl)) (by decide) (by decide)) (g := (mkF m 59 #[.val (.int i0), .val (.int (1 : Int32)), .val (.ref b38), .val (.int (1 : Int32)), .unset] [(.int (1 : Int32))])) rfl (by rw [hml]; rfl) (argsL := [(.int (1 : Int32))]) (rest := []) (lenOf pd0 rfl) rfl (by show 2 * 0 + _ ≤ _; exact Nat.le_of_eq rfl) (hb hby at_59) (fun _ _ => ⟨rfl, e47, (by decide : 1 + 0 ≤ _), (by decide : 4 + 0 ≤ _)⟩)
    dsimp only [Pt.U, Pt.locs, Pt.cells, Pt.slots] at X49 l49 y49 z49 st49 hQ49
    subst l49 y49 z49
    obtain ⟨rfl, N49q, e49⟩ := hQ49
    have N49 := Fr.app N47 N49q
    obtain ⟨cl50, Ar50, q50, S50, M50, H50, G50⟩ := V46
    have hin50 : ¬ ((1 : Int32) < 0 ∨ cl50.slots.size ≤ ((1 : Int32)).toNatClampNeg) := inb_of S50 ⟨by decide, by decide⟩
    have hat50 : cl50.slots[((1 : Int32)).toNatClampNeg]? = some (.ref w1) := Has.at H50 hin50 rfl
    obtain ⟨fs, hr, hrun, hended, hWr, hsame⟩ := X49.leave (v := some (.int (1 : Int32))) (fun h => by rw [Bd.returns] at h; cases h)
    refine ⟨_, _, pre1 _ ?_, hrun, hended, _, _, rfl, ?_, ⟨_, rfl⟩, hWr, hsame.mono (Nat.le_of_ble_eq_true rfl) (Nat.le_of_ble_eq_true rfl)⟩
    · show Steps p.tables e below (s₁.setTop (mkF m 6 #[.val (.int i0), .unset, .unset, .unset, .unset] [(.int (12 : Int32)), (.int (i0 &&& (2147483647 : Int32)))])) _
      refine iremM X0 hx rfl (hb hby at_6) rfl (by decide) ?_
      show Steps p.tables e below (s₁.setTop (mkF m 7 #[.val (.int i0), .unset, .unset, .unset, .unset] [(.int ((i0 &&& (2147483647 : Int32)) % (12 : Int32)))])) _
      rw [hk4]
      show Steps p.tables e below (s₁.setTop (mkF m 7 #[.val (.int i0), .unset, .unset, .unset, .unset] [(.int (2 : Int32))])) _
      refine XS.iconst X0.here hx rfl (hb hby at_7) ?_
      show Steps p.tables e below (s₁.setTop (mkF m 8 #[.val (.int i0), .unset, .unset, .unset, .unset] [(.int (1 : Int32)), (.int (2 : Int32))])) _
      refine XS.isub X0.here hx rfl (hb hby at_8) rfl ?_
      show Steps p.tables e below (s₁.setTop (mkF m 9 #[.val (.int i0), .unset, .unset, .unset, .unset] [(.int ((2 : Int32) - (1 : Int32)))])) _
      rw [show ((2 : Int32) - (1 : Int32)) = (1 : Int32) from by decide]
      show Steps p.tables e below (s₁.setTop (mkF m 9 #[.val (.int i0), .unset, .unset, .unset, .unset] [(.int (1 : Int32))])) _
      refine XS.istoreN X0.here hx rfl (hb hby at_9) rfl (l' := #[.val (.int i0), .val (.int (1 : Int32)), .unset, .unset, .unset]) rfl ?_
      show Steps p.tables e below (s₁.setTop (mkF m 10 #[.val (.int i0), .val (.int (1 : Int32)), .unset, .unset, .unset] [])) _
      refine XS.iconst X0.here hx rfl (hb hby at_10) ?_
      show Steps p.tables e below (s₁.setTop (mkF m 11 #[.val (.int i0), .val (.int (1 : Int32)), .unset, .unset, .unset] [(.int (4 : Int32))])) _
      refine st38 _ ?_
      show Steps p.tables e below (T38.setTop (mkF m 14 #[.val (.int i0), .val (.int (1 : Int32)), .unset, .unset, .unset] [(.ref b38)])) _
      refine XS.dup X38.here hx rfl (hb hby at_14) rfl rfl ?_
      show Steps p.tables e below (T38.setTop (mkF m 15 #[.val (.int i0), .val (.int (1 : Int32)), .unset, .unset, .unset] [(.ref b38), (.ref b38)])) _
      refine XS.iconst X38.here hx rfl (hb hby at_15) ?_
      show Steps p.tables e below (T38.setTop (mkF m 16 #[.val (.int i0), .val (.int (1 : Int32)), .unset, .unset, .unset] [(.int (0 : Int32)), (.ref b38), (.ref b38)])) _
      refine st39 _ ?_
      show Steps p.tables e below (T39.setTop (mkF m 19 #[.val (.int i0), .val (.int (1 : Int32)), .unset, .unset, .unset] [(.ref w0), (.int (0 : Int32)), (.ref b38), (.ref b38)])) _
      refine st40 _ ?_
      show Steps p.tables e below (T40.setTop (mkF m 20 #[.val (.int i0), .val (.int (1 : Int32)), .unset, .unset, .unset] [(.ref b38)])) _
      refine XS.dup X40.here hx rfl (hb hby at_20) rfl rfl ?_
      show Steps p.tables e below (T40.setTop (mkF m 21 #[.val (.int i0), .val (.int (1 : Int32)), .unset, .unset, .unset] [(.ref b38), (.ref b38)])) _
      refine XS.iconst X40.here hx rfl (hb hby at_21) ?_
      show Steps p.tables e below (T40.setTop (mkF m 22 #[.val (.int i0), .val (.int (1 : Int32)), .unset, .unset, .unset] [(.int (1 : Int32)), (.ref b38), (.ref b38)])) _
      refine st41 _ ?_
      show Steps p.tables e below (T41.setTop (mkF m 25 #[.val (.int i0), .val (.int (1 : Int32)), .unset, .unset, .unset] [(.ref w1), (.int (1 : Int32)), (.ref b38), (.ref b38)])) _
      refine st42 _ ?_
      show Steps p.tables e below (T42.setTop (mkF m 26 #[.val (.int i0), .val (.int (1 : Int32)), .unset, .unset, .unset] [(.ref b38)])) _
      refine XS.dup X42.here hx rfl (hb hby at_26) rfl rfl ?_
      show Steps p.tables e below (T42.setTop (mkF m 27 #[.val (.int i0), .val (.int (1 : Int32)), .unset, .unset, .unset] [(.ref b38), (.ref b38)])) _
      refine XS.iconst X42.here hx rfl (hb hby at_27) ?_
      show Steps p.tables e below (T42.setTop (mkF m 28 #[.val (.int i0), .val (.int (1 : Int32)), .unset, .unset, .unset] [(.int (2 : Int32)), (.ref b38), (.ref b38)])) _
      refine st43 _ ?_
      show Steps p.tables e below (T43.setTop (mkF m 31 #[.val (.int i0), .val (.int (1 : Int32)), .unset, .unset, .unset] [(.ref w2), (.int (2 : Int32)), (.ref b38), (.ref b38)])) _
      refine st44 _ ?_
      show Steps p.tables e below (T44.setTop (mkF m 32 #[.val (.int i0), .val (.int (1 : Int32)), .unset, .unset, .unset] [(.ref b38)])) _
      refine XS.dup X44.here hx rfl (hb hby at_32) rfl rfl ?_
      show Steps p.tables e below (T44.setTop (mkF m 33 #[.val (.int i0), .val (.int (1 : Int32)), .unset, .unset, .unset] [(.ref b38), (.ref b38)])) _
      refine XS.iconst X44.here hx rfl (hb hby at_33) ?_
      show Steps p.tables e below (T44.setTop (mkF m 34 #[.val (.int i0), .val (.int (1 : Int32)), .unset, .unset, .unset] [(.int (3 : Int32)), (.ref b38), (.ref b38)])) _
      refine st45 _ ?_
      show Steps p.tables e below (T45.setTop (mkF m 37 #[.val (.int i0), .val (.int (1 : Int32)), .unset, .unset, .unset] [(.ref w3), (.int (3 : Int32)), (.ref b38), (.ref b38)])) _
      refine st46 _ ?_
      show Steps p.tables e below (T46.setTop (mkF m 38 #[.val (.int i0), .val (.int (1 : Int32)), .unset, .unset, .unset] [(.ref b38)])) _
      refine XS.astoreN X46.here hx rfl (hb hby at_38) rfl rfl (l' := #[.val (.int i0), .val (.int (1 : Int32)), .val (.ref b38), .unset, .unset]) rfl ?_
      show Steps p.tables e below (T46.setTop (mkF m 39 #[.val (.int i0), .val (.int (1 : Int32)), .val (.ref b38), .unset, .unset] [])) _
      refine XS.iloadN X46.here hx rfl (hb hby at_39) rfl ?_
      show Steps p.tables e below (T46.setTop (mkF m 40 #[.val (.int i0), .val (.int (1 : Int32)), .val (.ref b38), .unset, .unset] [(.int (1 : Int32))])) _
      refine XS.ifYes X46.here hx rfl (pc0 := 40) (pc' := 48) rfl (hb hby at_40) rfl (by decide) (by decide) (by decide) ?_
      show Steps p.tables e below (T46.setTop (mkF m 48 #[.val (.int i0), .val (.int (1 : Int32)), .val (.ref b38), .unset, .unset] [])) _
      refine XS.iconst X46.here hx rfl (hb hby at_48) ?_
      show Steps p.tables e below (T46.setTop (mkF m 49 #[.val (.int i0), .val (.int (1 : Int32)), .val (.ref b38), .unset, .unset] [(.int (3 : Int32))])) _
      refine XS.iloadN X46.here hx rfl (hb hby at_49) rfl ?_
      show Steps p.tables e below (T46.setTop (mkF m 50 #[.val (.int i0), .val (.int (1 : Int32)), .val (.ref b38), .unset, .unset] [(.int (1 : Int32)), (.int (3 : Int32))])) _
      refine XS.iconst X46.here hx rfl (hb hby at_50) ?_
      show Steps p.tables e below (T46.setTop (mkF m 51 #[.val (.int i0), .val (.int (1 : Int32)), .val (.ref b38), .unset, .unset] [(.int (2 : Int32)), (.int (1 : Int32)), (.int (3 : Int32))])) _
      refine XS.iadd X46.here hx rfl (hb hby at_51) rfl ?_
      show Steps p.tables e below (T46.setTop (mkF m 52 #[.val (.int i0), .val (.int (1 : Int32)), .val (.ref b38), .unset, .unset] [(.int ((1 : Int32) + (2 : Int32))), (.int (3 : Int32))])) _
      rw [show ((1 : Int32) + (2 : Int32)) = (3 : Int32) from by decide]
      show Steps p.tables e below (T46.setTop (mkF m 52 #[.val (.int i0), .val (.int (1 : Int32)), .val (.ref b38), .unset, .unset] [(.int (3 : Int32)), (.int (3 : Int32))])) _
      refine XS.iconst X46.here hx rfl (hb hby at_52) ?_
      show Steps p.tables e below (T46.setTop (mkF m 53 #[.val (.int i0), .val (.int (1 : Int32)), .val (.ref b38), .unset, .unset] [(.int (3 : Int32)), (.int (3 : Int32)), (.int (3 : Int32))])) _
      refine XS.idiv X46.here hx rfl (hb hby at_53) rfl (by decide) ?_
      show Steps p.tables e below (T46.setTop (mkF m 54 #[.val (.int i0), .val (.int (1 : Int32)), .val (.ref b38), .unset, .unset] [(.int ((3 : Int32) / (3 : Int32))), (.int (3 : Int32))])) _
      rw [show ((3 : Int32) / (3 : Int32)) = (1 : Int32) from by decide]
      show Steps p.tables e below (T46.setTop (mkF m 54 #[.val (.int i0), .val (.int (1 : Int32)), .val (.ref b38), .unset, .unset] [(.int (1 : Int32)), (.int (3 : Int32))])) _
      refine st47 _ ?_
      show Steps p.tables e below (T47.setTop (mkF m 57 #[.val (.int i0), .val (.int (1 : Int32)), .val (.ref b38), .unset, .unset] [(.int (1 : Int32))])) _
      refine XS.istoreN X47.here hx rfl (hb hby at_57) rfl (l' := #[.val (.int i0), .val (.int (1 : Int32)), .val (.ref b38), .val (.int (1 : Int32)), .unset]) rfl ?_
      show Steps p.tables e below (T47.setTop (mkF m 58 #[.val (.int i0), .val (.int (1 : Int32)), .val (.ref b38), .val (.int (1 : Int32)), .unset] [])) _
      refine XS.iloadN X47.here hx rfl (hb hby at_58) rfl ?_
      show Steps p.tables e below (T47.setTop (mkF m 59 #[.val (.int i0), .val (.int (1 : Int32)), .val (.ref b38), .val (.int (1 : Int32)), .unset] [(.int (1 : Int32))])) _
      refine st49 _ ?_
      show Steps p.tables e below (T49.setTop (mkF m 62 #[.val (.int i0), .val (.int (1 : Int32)), .val (.ref b38), .val (.int (1 : Int32)), .unset] [(.ref w1)])) _
      refine XS.astore X49.here hx rfl (hb hby at_62) rfl rfl (l' := #[.val (.int i0), .val (.int (1 : Int32)), .val (.ref b38), .val (.int (1 : Int32)), .val (.ref w1)]) rfl ?_
      show Steps p.tables e below (T49.setTop (mkF m 64 #[.val (.int i0), .val (.int (1 : Int32)), .val (.ref b38), .val (.int (1 : Int32)), .val (.ref w1)] [])) _
      refine XS.aload X49.here hx rfl (hb hby at_64) rfl rfl ?_
      show Steps p.tables e below (T49.setTop (mkF m 66 #[.val (.int i0), .val (.int (1 : Int32)), .val (.ref b38), .val (.int (1 : Int32)), .val (.ref w1)] [(.ref w1)])) _
      refine XS.aloadN X49.here hx rfl (hb hby at_66) rfl rfl ?_
      show Steps p.tables e below (T49.setTop (mkF m 67 #[.val (.int i0), .val (.int (1 : Int32)), .val (.ref b38), .val (.int (1 : Int32)), .val (.ref w1)] [(.ref b38), (.ref w1)])) _
      refine XS.iloadN X49.here hx rfl (hb hby at_67) rfl ?_
      show Steps p.tables e below (T49.setTop (mkF m 68 #[.val (.int i0), .val (.int (1 : Int32)), .val (.ref b38), .val (.int (1 : Int32)), .val (.ref w1)] [(.int (1 : Int32)), (.ref b38), (.ref w1)])) _
      refine X49.aaload hx (j := (1 : Int32)) (v := (.ref w1)) (by rw [e49]; exact Ar50.1) (State.isArrayOf_alike hZ.alike Ar50.2.1) rfl Ar50.2.2 hin50 hat50 (g := (mkF m 68 #[.val (.int i0), .val (.int (1 : Int32)), .val (.ref b38), .val (.int (1 : Int32)), .val (.ref w1)] [(.int (1 : Int32)), (.ref b38), (.ref w1)])) rfl rfl (hb hby at_68) _ ?_
      show Steps p.tables e below (T49.setTop (mkF m 69 #[.val (.int i0), .val (.int (1 : Int32)), .val (.ref b38), .val (.int (1 : Int32)), .val (.ref w1)] [(.ref w1), (.ref w1)])) _
      refine Jvm.RoadKit.acmp (g := (mkF m 69 #[.val (.int i0), .val (.int (1 : Int32)), .val (.ref b38), .val (.int (1 : Int32)), .val (.ref w1)] [(.ref w1), (.ref w1)])) X49 hx rfl rfl rfl (pc0 := 69) (pc' := 72) (same := true) rfl (hb hby at_69) rfl (decide_eq_true rfl) (by decide) (by decide) ?_
      show Steps p.tables e below (T49.setTop (mkF m 72 #[.val (.int i0), .val (.int (1 : Int32)), .val (.ref b38), .val (.int (1 : Int32)), .val (.ref w1)] [])) _
      refine XS.iconst X49.here hx rfl (hb hby at_72) ?_
      show Steps p.tables e below (T49.setTop (mkF m 73 #[.val (.int i0), .val (.int (1 : Int32)), .val (.ref b38), .val (.int (1 : Int32)), .val (.ref w1)] [(.int (1 : Int32))])) _
      refine XS.goto X49.here hx rfl (pc0 := 73) (pc' := 77) rfl (hb hby at_73) (by decide) (by decide) ?_
      show Steps p.tables e below (T49.setTop (mkF m 77 #[.val (.int i0), .val (.int (1 : Int32)), .val (.ref b38), .val (.int (1 : Int32)), .val (.ref w1)] [(.int (1 : Int32))])) _
      exact retN X49 hx (t := .boolean) Bd.returns (by simp) (hb hby at_77) hr
    · show Ql n0 _ T49.heap _
      exact ⟨rfl, N49⟩
  · obtain ⟨T51, h51, k51, X51, e51, E51, A51, O51, st51⟩ := newR X0 hx hZ hown (hw _ (List.mem_of_getElem? (i := 1) rfl)) (hw _ (List.mem_of_getElem? (i := 2) rfl)) e0 (g := (mkF m 11 #[.val (.int i0), .val (.int (2 : Int32)), .unset, .unset, .unset] [(.int (4 : Int32))])) rfl (hb hby at_11) rfl (by decide) (cap := 4) (by decide) (by decide) (by decide) (by decide)
    obtain ⟨b51, g51⟩ : ∃ z, z = h0.size := ⟨_, rfl⟩
    rw [← g51] at A51 st51
    have V51 : Arv Z h51 b51 k51 (.object "com/example/libgate/libgate/Impact") (4 : Int32) [.null, .null, .null, .null] .null := (Arv.new A51 (by decide)).pad (pad_rep [] .null 4)
    have g_b51 : n0 ≤ b51 := Nat.le_trans (Nat.le_trans (Nat.le_of_eq O0.1.symm) O0.2.1) (Nat.le_of_eq g51.symm)
    have O_51 : Old Z n0 h51 := O0.ext E51
    obtain ⟨T52, X52, e52, st52⟩ := getS2 X51 hx hZ hown (host := "") (Or.inl (hw _ (List.mem_of_getElem? (i := 3) rfl))) Via.refl e51 (wS0.ext O_51.2) (g := (mkF m 16 #[.val (.int i0), .val (.int (2 : Int32)), .unset, .unset, .unset] [(.int (0 : Int32)), (.ref b51), (.ref b51)])) rfl (hb hby at_16)
    obtain ⟨cl53, Ar53, q53, S53, M53, H53, G53⟩ := V51
    have hin53 : ¬ ((0 : Int32) < 0 ∨ cl53.slots.size ≤ ((0 : Int32)).toNatClampNeg) := inb_of S53 ⟨by decide, by decide⟩
    obtain ⟨T53, h53, X53, e53, W53, st53⟩ := stR X52 hx hZ e52 Ar53 (j := (0 : Int32)) hin53 rfl (Sto.ofV Ar53 q53 O51 (Ins.self (wE0.ext O_51.2))) (g := (mkF m 19 #[.val (.int i0), .val (.int (2 : Int32)), .unset, .unset, .unset] [(.ref w0), (.int (0 : Int32)), (.ref b51), (.ref b51)])) rfl rfl (hb hby at_19)
    have V53 : Arv Z h53 b51 k51 (.object "com/example/libgate/libgate/Impact") (4 : Int32) [(.ref w0), .null, .null, .null] .null := Arv.set Ar53 q53 S53 M53 H53 G53 rfl W53 0 rfl (Nat.le_of_ble_eq_true rfl)
    have N53 := Fr.snoc X53 N0 g_b51
    have O_53 : Old Z n0 h53 := O_51.wr W53 g_b51
    obtain ⟨T54, X54, e54, st54⟩ := getS2 X53 hx hZ hown (host := "") (Or.inl (hw _ (List.mem_of_getElem? (i := 7) rfl))) Via.refl e53 (wS1.ext O_53.2) (g := (mkF m 22 #[.val (.int i0), .val (.int (2 : Int32)), .unset, .unset, .unset] [(.int (1 : Int32)), (.ref b51), (.ref b51)])) rfl (hb hby at_22)
    obtain ⟨cl55, Ar55, q55, S55, M55, H55, G55⟩ := V53
    have hin55 : ¬ ((1 : Int32) < 0 ∨ cl55.slots.size ≤ ((1 : Int32)).toNatClampNeg) := inb_of S55 ⟨by decide, by decide⟩
    obtain ⟨T55, h55, X55, e55, W55, st55⟩ := stR X54 hx hZ e54 Ar55 (j := (1 : Int32)) hin55 rfl (Sto.ofV Ar55 q55 O51 (Ins.self (wE1.ext O_53.2))) (g := (mkF m 25 #[.val (.int i0), .val (.int (2 : Int32)), .unset, .unset, .unset] [(.ref w1), (.int (1 : Int32)), (.ref b51), (.ref b51)])) rfl rfl (hb hby at_25)
    have V55 : Arv Z h55 b51 k51 (.object "com/example/libgate/libgate/Impact") (4 : Int32) [(.ref w0), (.ref w1), .null, .null] .null := Arv.set Ar55 q55 S55 M55 H55 G55 rfl W55 1 rfl (Nat.le_of_ble_eq_true rfl)
    have N55 := Fr.snoc X55 N53 g_b51
    have O_55 : Old Z n0 h55 := O_53.wr W55 g_b51
    obtain ⟨T56, X56, e56, st56⟩ := getS2 X55 hx hZ hown (host := "") (Or.inl (hw _ (List.mem_of_getElem? (i := 9) rfl))) Via.refl e55 (wS2.ext O_55.2) (g := (mkF m 28 #[.val (.int i0), .val (.int (2 : Int32)), .unset, .unset, .unset] [(.int (2 : Int32)), (.ref b51), (.ref b51)])) rfl (hb hby at_28)
    obtain ⟨cl57, Ar57, q57, S57, M57, H57, G57⟩ := V55
    have hin57 : ¬ ((2 : Int32) < 0 ∨ cl57.slots.size ≤ ((2 : Int32)).toNatClampNeg) := inb_of S57 ⟨by decide, by decide⟩
    obtain ⟨T57, h57, X57, e57, W57, st57⟩ := stR X56 hx hZ e56 Ar57 (j := (2 : Int32)) hin57 rfl (Sto.ofV Ar57 q57 O51 (Ins.self (wE2.ext O_55.2))) (g := (mkF m 31 #[.val (.int i0), .val (.int (2 : Int32)), .unset, .unset, .unset] [(.ref w2), (.int (2 : Int32)), (.ref b51), (.ref b51)])) rfl rfl (hb hby at_31)
    have V57 : Arv Z h57 b51 k51 (.object "com/example/libgate/libgate/Impact") (4 : Int32) [(.ref w0), (.ref w1), (.ref w2), .null] .null := Arv.set Ar57 q57 S57 M57 H57 G57 rfl W57 2 rfl (Nat.le_of_ble_eq_true rfl)
    have N57 := Fr.snoc X57 N55 g_b51
    have O_57 : Old Z n0 h57 := O_55.wr W57 g_b51
    obtain ⟨T58, X58, e58, st58⟩ := getS2 X57 hx hZ hown (host := "") (Or.inl (hw _ (List.mem_of_getElem? (i := 11) rfl))) Via.refl e57 (wS3.ext O_57.2) (g := (mkF m 34 #[.val (.int i0), .val (.int (2 : Int32)), .unset, .unset, .unset] [(.int (3 : Int32)), (.ref b51), (.ref b51)])) rfl (hb hby at_34)
    obtain ⟨cl59, Ar59, q59, S59, M59, H59, G59⟩ := V57
    have hin59 : ¬ ((3 : Int32) < 0 ∨ cl59.slots.size ≤ ((3 : Int32)).toNatClampNeg) := inb_of S59 ⟨by decide, by decide⟩
    obtain ⟨T59, h59, X59, e59, W59, st59⟩ := stR X58 hx hZ e58 Ar59 (j := (3 : Int32)) hin59 rfl (Sto.ofV Ar59 q59 O51 (Ins.self (wE3.ext O_57.2))) (g := (mkF m 37 #[.val (.int i0), .val (.int (2 : Int32)), .unset, .unset, .unset] [(.ref w3), (.int (3 : Int32)), (.ref b51), (.ref b51)])) rfl rfl (hb hby at_37)
    have V59 : Arv Z h59 b51 k51 (.object "com/example/libgate/libgate/Impact") (4 : Int32) [(.ref w0), (.ref w1), (.ref w2), (.ref w3)] .null := Arv.set Ar59 q59 S59 M59 H59 G59 rfl W59 3 rfl (Nat.le_of_ble_eq_true rfl)
    have N59 := Fr.snoc X59 N57 g_b51
    have O_59 : Old Z n0 h59 := O_57.wr W59 g_b51
    obtain ⟨_, _, ⟨T60, L60, k60, n60⟩, -, X60, ⟨Lc60, hQ60, l60, y60, z60⟩, st60⟩ := Jvm.LawKit.callS X59 hx (y := (⟨"java/lang/Math", "min", "(II)I"⟩ : MethodName)) hown (mvT hZ (hw _ (List.mem_of_getElem? (i := 17) rfl))) (mvT hZ (hw _ (List.mem_of_getElem? (i := 18) rfl))) (mvT hZ (hw _ (List.mem_of_getElem? (i := 19) rfl))) (mvT hZ (hw _ (List.mem_of_getElem? (i := 20) rfl))) (by decide) (backOf (W := 0) (rm3 l Z a0 hw [] w0 w1 w2 w3 h59 n0 hWd O_59) hZ (hw _ (List.mem_of_getElem? (i := 20) rfl)) (hw _ (List.mem_of_getElem? (i := 19) rfl)) (by decide) (by decide)) (g := (mkF m 54 #[.val (.int i0), .val (.int (2 : Int32)), .val (.ref b51), .unset, .unset] [(.int (1 : Int32)), (.int (3 : Int32))])) rfl (by rw [hml]; rfl) (argsL := [(.int (3 : Int32)), (.int (1 : Int32))]) (rest := []) (lenOf pd1 rfl) rfl (by show 2 * 0 + _ ≤ _; exact Nat.le_of_eq rfl) (hb hby at_54) (fun _ _ => ⟨rfl, e59, (by decide : 1 + 0 ≤ _), (by decide : 4 + 0 ≤ _)⟩)
    dsimp only [Pt.U, Pt.locs, Pt.cells, Pt.slots] at X60 l60 y60 z60 st60 hQ60
    subst l60 y60 z60
    obtain ⟨rfl, N60q, e60⟩ := hQ60
    have N60 := Fr.app N59 N60q
    obtain ⟨_, _, ⟨T62, L62, k62, n62⟩, -, X62, ⟨Lc62, hQ62, l62, y62, z62⟩, st62⟩ := Jvm.LawKit.callS X60 hx (y := (⟨"com/example/libgate/libgate/Impact", "of", "(I)Lcom/example/libgate/libgate/Impact;"⟩ : MethodName)) hown (mvT hZ (hw _ (List.mem_of_getElem? (i := 13) rfl))) (mvT hZ (hw _ (List.mem_of_getElem? (i := 14) rfl))) (mvT hZ (hw _ (List.mem_of_getElem? (i := 4) rfl))) (mvT hZ (hw _ (List.mem_of_getElem? (i := 15) rfl))) (by decide) (backOf (W := 0) (rm5 l Z a0 hw [] w0 w1 w2 w3 h59 n0 hWd O_59) hZ (hw _ (List.mem_of_getElem? (i := 15) rfl)) (hw _ (List.mem_of_getElem? (i := 4) rfl)) (by decide) (by decide)) (g := (mkF m 59 #[.val (.int i0), .val (.int (2 : Int32)), .val (.ref b51), .val (.int (1 : Int32)), .unset] [(.int (2 : Int32))])) rfl (by rw [hml]; rfl) (argsL := [(.int (2 : Int32))]) (rest := []) (lenOf pd0 rfl) rfl (by show 2 * 0 + _ ≤ _; exact Nat.le_of_eq rfl) (hb hby at_59) (fun _ _ => ⟨rfl, e60, (by decide : 1 + 0 ≤ _), (by decide : 4 + 0 ≤ _)⟩)
    dsimp only [Pt.U, Pt.locs, Pt.cells, Pt.slots] at X62 l62 y62 z62 st62 hQ62
    subst l62 y62 z62
    obtain ⟨rfl, N62q, e62⟩ := hQ62
    have N62 := Fr.app N60 N62q
    obtain ⟨cl63, Ar63, q63, S63, M63, H63, G63⟩ := V59
    have hin63 : ¬ ((1 : Int32) < 0 ∨ cl63.slots.size ≤ ((1 : Int32)).toNatClampNeg) := inb_of S63 ⟨by decide, by decide⟩
    have hat63 : cl63.slots[((1 : Int32)).toNatClampNeg]? = some (.ref w1) := Has.at H63 hin63 rfl
    obtain ⟨fs, hr, hrun, hended, hWr, hsame⟩ := X62.leave (v := some (.int (1 : Int32))) (fun h => by rw [Bd.returns] at h; cases h)
    refine ⟨_, _, pre1 _ ?_, hrun, hended, _, _, rfl, ?_, ⟨_, rfl⟩, hWr, hsame.mono (Nat.le_of_ble_eq_true rfl) (Nat.le_of_ble_eq_true rfl)⟩
    · show Steps p.tables e below (s₁.setTop (mkF m 6 #[.val (.int i0), .unset, .unset, .unset, .unset] [(.int (12 : Int32)), (.int (i0 &&& (2147483647 : Int32)))])) _
      refine iremM X0 hx rfl (hb hby at_6) rfl (by decide) ?_
      show Steps p.tables e below (s₁.setTop (mkF m 7 #[.val (.int i0), .unset, .unset, .unset, .unset] [(.int ((i0 &&& (2147483647 : Int32)) % (12 : Int32)))])) _
      rw [hk5]
      show Steps p.tables e below (s₁.setTop (mkF m 7 #[.val (.int i0), .unset, .unset, .unset, .unset] [(.int (3 : Int32))])) _
      refine XS.iconst X0.here hx rfl (hb hby at_7) ?_
      show Steps p.tables e below (s₁.setTop (mkF m 8 #[.val (.int i0), .unset, .unset, .unset, .unset] [(.int (1 : Int32)), (.int (3 : Int32))])) _
      refine XS.isub X0.here hx rfl (hb hby at_8) rfl ?_
      show Steps p.tables e below (s₁.setTop (mkF m 9 #[.val (.int i0), .unset, .unset, .unset, .unset] [(.int ((3 : Int32) - (1 : Int32)))])) _
      rw [show ((3 : Int32) - (1 : Int32)) = (2 : Int32) from by decide]
      show Steps p.tables e below (s₁.setTop (mkF m 9 #[.val (.int i0), .unset, .unset, .unset, .unset] [(.int (2 : Int32))])) _
      refine XS.istoreN X0.here hx rfl (hb hby at_9) rfl (l' := #[.val (.int i0), .val (.int (2 : Int32)), .unset, .unset, .unset]) rfl ?_
      show Steps p.tables e below (s₁.setTop (mkF m 10 #[.val (.int i0), .val (.int (2 : Int32)), .unset, .unset, .unset] [])) _
      refine XS.iconst X0.here hx rfl (hb hby at_10) ?_
      show Steps p.tables e below (s₁.setTop (mkF m 11 #[.val (.int i0), .val (.int (2 : Int32)), .unset, .unset, .unset] [(.int (4 : Int32))])) _
      refine st51 _ ?_
      show Steps p.tables e below (T51.setTop (mkF m 14 #[.val (.int i0), .val (.int (2 : Int32)), .unset, .unset, .unset] [(.ref b51)])) _
      refine XS.dup X51.here hx rfl (hb hby at_14) rfl rfl ?_
      show Steps p.tables e below (T51.setTop (mkF m 15 #[.val (.int i0), .val (.int (2 : Int32)), .unset, .unset, .unset] [(.ref b51), (.ref b51)])) _
      refine XS.iconst X51.here hx rfl (hb hby at_15) ?_
      show Steps p.tables e below (T51.setTop (mkF m 16 #[.val (.int i0), .val (.int (2 : Int32)), .unset, .unset, .unset] [(.int (0 : Int32)), (.ref b51), (.ref b51)])) _
      refine st52 _ ?_
      show Steps p.tables e below (T52.setTop (mkF m 19 #[.val (.int i0), .val (.int (2 : Int32)), .unset, .unset, .unset] [(.ref w0), (.int (0 : Int32)), (.ref b51), (.ref b51)])) _
      refine st53 _ ?_
      show Steps p.tables e below (T53.setTop (mkF m 20 #[.val (.int i0), .val (.int (2 : Int32)), .unset, .unset, .unset] [(.ref b51)])) _
      refine XS.dup X53.here hx rfl (hb hby at_20) rfl rfl ?_
      show Steps p.tables e below (T53.setTop (mkF m 21 #[.val (.int i0), .val (.int (2 : Int32)), .unset, .unset, .unset] [(.ref b51), (.ref b51)])) _
      refine XS.iconst X53.here hx rfl (hb hby at_21) ?_
      show Steps p.tables e below (T53.setTop (mkF m 22 #[.val (.int i0), .val (.int (2 : Int32)), .unset, .unset, .unset] [(.int (1 : Int32)), (.ref b51), (.ref b51)])) _
      refine st54 _ ?_
      show Steps p.tables e below (T54.setTop (mkF m 25 #[.val (.int i0), .val (.int (2 : Int32)), .unset, .unset, .unset] [(.ref w1), (.int (1 : Int32)), (.ref b51), (.ref b51)])) _
      refine st55 _ ?_
      show Steps p.tables e below (T55.setTop (mkF m 26 #[.val (.int i0), .val (.int (2 : Int32)), .unset, .unset, .unset] [(.ref b51)])) _
      refine XS.dup X55.here hx rfl (hb hby at_26) rfl rfl ?_
      show Steps p.tables e below (T55.setTop (mkF m 27 #[.val (.int i0), .val (.int (2 : Int32)), .unset, .unset, .unset] [(.ref b51), (.ref b51)])) _
      refine XS.iconst X55.here hx rfl (hb hby at_27) ?_
      show Steps p.tables e below (T55.setTop (mkF m 28 #[.val (.int i0), .val (.int (2 : Int32)), .unset, .unset, .unset] [(.int (2 : Int32)), (.ref b51), (.ref b51)])) _
      refine st56 _ ?_
      show Steps p.tables e below (T56.setTop (mkF m 31 #[.val (.int i0), .val (.int (2 : Int32)), .unset, .unset, .unset] [(.ref w2), (.int (2 : Int32)), (.ref b51), (.ref b51)])) _
      refine st57 _ ?_
      show Steps p.tables e below (T57.setTop (mkF m 32 #[.val (.int i0), .val (.int (2 : Int32)), .unset, .unset, .unset] [(.ref b51)])) _
      refine XS.dup X57.here hx rfl (hb hby at_32) rfl rfl ?_
      show Steps p.tables e below (T57.setTop (mkF m 33 #[.val (.int i0), .val (.int (2 : Int32)), .unset, .unset, .unset] [(.ref b51), (.ref b51)])) _
      refine XS.iconst X57.here hx rfl (hb hby at_33) ?_
      show Steps p.tables e below (T57.setTop (mkF m 34 #[.val (.int i0), .val (.int (2 : Int32)), .unset, .unset, .unset] [(.int (3 : Int32)), (.ref b51), (.ref b51)])) _
      refine st58 _ ?_
      show Steps p.tables e below (T58.setTop (mkF m 37 #[.val (.int i0), .val (.int (2 : Int32)), .unset, .unset, .unset] [(.ref w3), (.int (3 : Int32)), (.ref b51), (.ref b51)])) _
      refine st59 _ ?_
      show Steps p.tables e below (T59.setTop (mkF m 38 #[.val (.int i0), .val (.int (2 : Int32)), .unset, .unset, .unset] [(.ref b51)])) _
      refine XS.astoreN X59.here hx rfl (hb hby at_38) rfl rfl (l' := #[.val (.int i0), .val (.int (2 : Int32)), .val (.ref b51), .unset, .unset]) rfl ?_
      show Steps p.tables e below (T59.setTop (mkF m 39 #[.val (.int i0), .val (.int (2 : Int32)), .val (.ref b51), .unset, .unset] [])) _
      refine XS.iloadN X59.here hx rfl (hb hby at_39) rfl ?_
      show Steps p.tables e below (T59.setTop (mkF m 40 #[.val (.int i0), .val (.int (2 : Int32)), .val (.ref b51), .unset, .unset] [(.int (2 : Int32))])) _
      refine XS.ifYes X59.here hx rfl (pc0 := 40) (pc' := 48) rfl (hb hby at_40) rfl (by decide) (by decide) (by decide) ?_
      show Steps p.tables e below (T59.setTop (mkF m 48 #[.val (.int i0), .val (.int (2 : Int32)), .val (.ref b51), .unset, .unset] [])) _
      refine XS.iconst X59.here hx rfl (hb hby at_48) ?_
      show Steps p.tables e below (T59.setTop (mkF m 49 #[.val (.int i0), .val (.int (2 : Int32)), .val (.ref b51), .unset, .unset] [(.int (3 : Int32))])) _
      refine XS.iloadN X59.here hx rfl (hb hby at_49) rfl ?_
      show Steps p.tables e below (T59.setTop (mkF m 50 #[.val (.int i0), .val (.int (2 : Int32)), .val (.ref b51), .unset, .unset] [(.int (2 : Int32)), (.int (3 : Int32))])) _
      refine XS.iconst X59.here hx rfl (hb hby at_50) ?_
      show Steps p.tables e below (T59.setTop (mkF m 51 #[.val (.int i0), .val (.int (2 : Int32)), .val (.ref b51), .unset, .unset] [(.int (2 : Int32)), (.int (2 : Int32)), (.int (3 : Int32))])) _
      refine XS.iadd X59.here hx rfl (hb hby at_51) rfl ?_
      show Steps p.tables e below (T59.setTop (mkF m 52 #[.val (.int i0), .val (.int (2 : Int32)), .val (.ref b51), .unset, .unset] [(.int ((2 : Int32) + (2 : Int32))), (.int (3 : Int32))])) _
      rw [show ((2 : Int32) + (2 : Int32)) = (4 : Int32) from by decide]
      show Steps p.tables e below (T59.setTop (mkF m 52 #[.val (.int i0), .val (.int (2 : Int32)), .val (.ref b51), .unset, .unset] [(.int (4 : Int32)), (.int (3 : Int32))])) _
      refine XS.iconst X59.here hx rfl (hb hby at_52) ?_
      show Steps p.tables e below (T59.setTop (mkF m 53 #[.val (.int i0), .val (.int (2 : Int32)), .val (.ref b51), .unset, .unset] [(.int (3 : Int32)), (.int (4 : Int32)), (.int (3 : Int32))])) _
      refine XS.idiv X59.here hx rfl (hb hby at_53) rfl (by decide) ?_
      show Steps p.tables e below (T59.setTop (mkF m 54 #[.val (.int i0), .val (.int (2 : Int32)), .val (.ref b51), .unset, .unset] [(.int ((4 : Int32) / (3 : Int32))), (.int (3 : Int32))])) _
      rw [show ((4 : Int32) / (3 : Int32)) = (1 : Int32) from by decide]
      show Steps p.tables e below (T59.setTop (mkF m 54 #[.val (.int i0), .val (.int (2 : Int32)), .val (.ref b51), .unset, .unset] [(.int (1 : Int32)), (.int (3 : Int32))])) _
      refine st60 _ ?_
      show Steps p.tables e below (T60.setTop (mkF m 57 #[.val (.int i0), .val (.int (2 : Int32)), .val (.ref b51), .unset, .unset] [(.int (1 : Int32))])) _
      refine XS.istoreN X60.here hx rfl (hb hby at_57) rfl (l' := #[.val (.int i0), .val (.int (2 : Int32)), .val (.ref b51), .val (.int (1 : Int32)), .unset]) rfl ?_
      show Steps p.tables e below (T60.setTop (mkF m 58 #[.val (.int i0), .val (.int (2 : Int32)), .val (.ref b51), .val (.int (1 : Int32)), .unset] [])) _
      refine XS.iloadN X60.here hx rfl (hb hby at_58) rfl ?_
      show Steps p.tables e below (T60.setTop (mkF m 59 #[.val (.int i0), .val (.int (2 : Int32)), .val (.ref b51), .val (.int (1 : Int32)), .unset] [(.int (2 : Int32))])) _
      refine st62 _ ?_
      show Steps p.tables e below (T62.setTop (mkF m 62 #[.val (.int i0), .val (.int (2 : Int32)), .val (.ref b51), .val (.int (1 : Int32)), .unset] [(.ref w1)])) _
      refine XS.astore X62.here hx rfl (hb hby at_62) rfl rfl (l' := #[.val (.int i0), .val (.int (2 : Int32)), .val (.ref b51), .val (.int (1 : Int32)), .val (.ref w1)]) rfl ?_
      show Steps p.tables e below (T62.setTop (mkF m 64 #[.val (.int i0), .val (.int (2 : Int32)), .val (.ref b51), .val (.int (1 : Int32)), .val (.ref w1)] [])) _
      refine XS.aload X62.here hx rfl (hb hby at_64) rfl rfl ?_
      show Steps p.tables e below (T62.setTop (mkF m 66 #[.val (.int i0), .val (.int (2 : Int32)), .val (.ref b51), .val (.int (1 : Int32)), .val (.ref w1)] [(.ref w1)])) _
      refine XS.aloadN X62.here hx rfl (hb hby at_66) rfl rfl ?_
      show Steps p.tables e below (T62.setTop (mkF m 67 #[.val (.int i0), .val (.int (2 : Int32)), .val (.ref b51), .val (.int (1 : Int32)), .val (.ref w1)] [(.ref b51), (.ref w1)])) _
      refine XS.iloadN X62.here hx rfl (hb hby at_67) rfl ?_
      show Steps p.tables e below (T62.setTop (mkF m 68 #[.val (.int i0), .val (.int (2 : Int32)), .val (.ref b51), .val (.int (1 : Int32)), .val (.ref w1)] [(.int (1 : Int32)), (.ref b51), (.ref w1)])) _
      refine X62.aaload hx (j := (1 : Int32)) (v := (.ref w1)) (by rw [e62]; exact Ar63.1) (State.isArrayOf_alike hZ.alike Ar63.2.1) rfl Ar63.2.2 hin63 hat63 (g := (mkF m 68 #[.val (.int i0), .val (.int (2 : Int32)), .val (.ref b51), .val (.int (1 : Int32)), .val (.ref w1)] [(.int (1 : Int32)), (.ref b51), (.ref w1)])) rfl rfl (hb hby at_68) _ ?_
      show Steps p.tables e below (T62.setTop (mkF m 69 #[.val (.int i0), .val (.int (2 : Int32)), .val (.ref b51), .val (.int (1 : Int32)), .val (.ref w1)] [(.ref w1), (.ref w1)])) _
      refine Jvm.RoadKit.acmp (g := (mkF m 69 #[.val (.int i0), .val (.int (2 : Int32)), .val (.ref b51), .val (.int (1 : Int32)), .val (.ref w1)] [(.ref w1), (.ref w1)])) X62 hx rfl rfl rfl (pc0 := 69) (pc' := 72) (same := true) rfl (hb hby at_69) rfl (decide_eq_true rfl) (by decide) (by decide) ?_
      show Steps p.tables e below (T62.setTop (mkF m 72 #[.val (.int i0), .val (.int (2 : Int32)), .val (.ref b51), .val (.int (1 : Int32)), .val (.ref w1)] [])) _
      refine XS.iconst X62.here hx rfl (hb hby at_72) ?_
      show Steps p.tables e below (T62.setTop (mkF m 73 #[.val (.int i0), .val (.int (2 : Int32)), .val (.ref b51), .val (.int (1 : Int32)), .val (.ref w1)] [(.int (1 : Int32))])) _
      refine XS.goto X62.here hx rfl (pc0 := 73) (pc' := 77) rfl (hb hby at_73) (by decide) (by decide) ?_
      show Steps p.tables e below (T62.setTop (mkF m 77 #[.val (.int i0), .val (.int (2 : Int32)), .val (.ref b51), .val (.int (1 : Int32)), .val (.ref w1)] [(.int (1 : Int32))])) _
      exact retN X62 hx (t := .boolean) Bd.returns (by simp) (hb hby at_77) hr
    · show Ql n0 _ T62.heap _
      exact ⟨rfl, N62⟩
  · obtain ⟨T64, h64, k64, X64, e64, E64, A64, O64, st64⟩ := newR X0 hx hZ hown (hw _ (List.mem_of_getElem? (i := 1) rfl)) (hw _ (List.mem_of_getElem? (i := 2) rfl)) e0 (g := (mkF m 11 #[.val (.int i0), .val (.int (3 : Int32)), .unset, .unset, .unset] [(.int (4 : Int32))])) rfl (hb hby at_11) rfl (by decide) (cap := 4) (by decide) (by decide) (by decide) (by decide)
    obtain ⟨b64, g64⟩ : ∃ z, z = h0.size := ⟨_, rfl⟩
    rw [← g64] at A64 st64
    have V64 : Arv Z h64 b64 k64 (.object "com/example/libgate/libgate/Impact") (4 : Int32) [.null, .null, .null, .null] .null := (Arv.new A64 (by decide)).pad (pad_rep [] .null 4)
    have g_b64 : n0 ≤ b64 := Nat.le_trans (Nat.le_trans (Nat.le_of_eq O0.1.symm) O0.2.1) (Nat.le_of_eq g64.symm)
    have O_64 : Old Z n0 h64 := O0.ext E64
    obtain ⟨T65, X65, e65, st65⟩ := getS2 X64 hx hZ hown (host := "") (Or.inl (hw _ (List.mem_of_getElem? (i := 3) rfl))) Via.refl e64 (wS0.ext O_64.2) (g := (mkF m 16 #[.val (.int i0), .val (.int (3 : Int32)), .unset, .unset, .unset] [(.int (0 : Int32)), (.ref b64), (.ref b64)])) rfl (hb hby at_16)
    obtain ⟨cl66, Ar66, q66, S66, M66, H66, G66⟩ := V64
    have hin66 : ¬ ((0 : Int32) < 0 ∨ cl66.slots.size ≤ ((0 : Int32)).toNatClampNeg) := inb_of S66 ⟨by decide, by decide⟩
    obtain ⟨T66, h66, X66, e66, W66, st66⟩ := stR X65 hx hZ e65 Ar66 (j := (0 : Int32)) hin66 rfl (Sto.ofV Ar66 q66 O64 (Ins.self (wE0.ext O_64.2))) (g := (mkF m 19 #[.val (.int i0), .val (.int (3 : Int32)), .unset, .unset, .unset] [(.ref w0), (.int (0 : Int32)), (.ref b64), (.ref b64)])) rfl rfl (hb hby at_19)
    have V66 : Arv Z h66 b64 k64 (.object "com/example/libgate/libgate/Impact") (4 : Int32) [(.ref w0), .null, .null, .null] .null := Arv.set Ar66 q66 S66 M66 H66 G66 rfl W66 0 rfl (Nat.le_of_ble_eq_true rfl)
    have N66 := Fr.snoc X66 N0 g_b64
    have O_66 : Old Z n0 h66 := O_64.wr W66 g_b64
    obtain ⟨T67, X67, e67, st67⟩ := getS2 X66 hx hZ hown (host := "") (Or.inl (hw _ (List.mem_of_getElem? (i := 7) rfl))) Via.refl e66 (wS1.ext O_66.2) (g := (mkF m 22 #[.val (.int i0), .val (.int (3 : Int32)), .unset, .unset, .unset] [(.int (1 : Int32)), (.ref b64), (.ref b64)])) rfl (hb hby at_22)
    obtain ⟨cl68, Ar68, q68, S68, M68, H68, G68⟩ := V66
    have hin68 : ¬ ((1 : Int32) < 0 ∨ cl68.slots.size ≤ ((1 : Int32)).toNatClampNeg) := inb_of S68 ⟨by decide, by decide⟩
    obtain ⟨T68, h68, X68, e68, W68, st68⟩ := stR X67 hx hZ e67 Ar68 (j := (1 : Int32)) hin68 rfl (Sto.ofV Ar68 q68 O64 (Ins.self (wE1.ext O_66.2))) (g := (mkF m 25 #[.val (.int i0), .val (.int (3 : Int32)), .unset, .unset, .unset] [(.ref w1), (.int (1 : Int32)), (.ref b64), (.ref b64)])) rfl rfl (hb hby at_25)
    have V68 : Arv Z h68 b64 k64 (.object "com/example/libgate/libgate/Impact") (4 : Int32) [(.ref w0), (.ref w1), .null, .null] .null := Arv.set Ar68 q68 S68 M68 H68 G68 rfl W68 1 rfl (Nat.le_of_ble_eq_true rfl)
    have N68 := Fr.snoc X68 N66 g_b64
    have O_68 : Old Z n0 h68 := O_66.wr W68 g_b64
    obtain ⟨T69, X69, e69, st69⟩ := getS2 X68 hx hZ hown (host := "") (Or.inl (hw _ (List.mem_of_getElem? (i := 9) rfl))) Via.refl e68 (wS2.ext O_68.2) (g := (mkF m 28 #[.val (.int i0), .val (.int (3 : Int32)), .unset, .unset, .unset] [(.int (2 : Int32)), (.ref b64), (.ref b64)])) rfl (hb hby at_28)
    obtain ⟨cl70, Ar70, q70, S70, M70, H70, G70⟩ := V68
    have hin70 : ¬ ((2 : Int32) < 0 ∨ cl70.slots.size ≤ ((2 : Int32)).toNatClampNeg) := inb_of S70 ⟨by decide, by decide⟩
    obtain ⟨T70, h70, X70, e70, W70, st70⟩ := stR X69 hx hZ e69 Ar70 (j := (2 : Int32)) hin70 rfl (Sto.ofV Ar70 q70 O64 (Ins.self (wE2.ext O_68.2))) (g := (mkF m 31 #[.val (.int i0), .val (.int (3 : Int32)), .unset, .unset, .unset] [(.ref w2), (.int (2 : Int32)), (.ref b64), (.ref b64)])) rfl rfl (hb hby at_31)
    have V70 : Arv Z h70 b64 k64 (.object "com/example/libgate/libgate/Impact") (4 : Int32) [(.ref w0), (.ref w1), (.ref w2), .null] .null := Arv.set Ar70 q70 S70 M70 H70 G70 rfl W70 2 rfl (Nat.le_of_ble_eq_true rfl)
    have N70 := Fr.snoc X70 N68 g_b64
    have O_70 : Old Z n0 h70 := O_68.wr W70 g_b64
    obtain ⟨T71, X71, e71, st71⟩ := getS2 X70 hx hZ hown (host := "") (Or.inl (hw _ (List.mem_of_getElem? (i := 11) rfl))) Via.refl e70 (wS3.ext O_70.2) (g := (mkF m 34 #[.val (.int i0), .val (.int (3 : Int32)), .unset, .unset, .unset] [(.int (3 : Int32)), (.ref b64), (.ref b64)])) rfl (hb hby at_34)
    obtain ⟨cl72, Ar72, q72, S72, M72, H72, G72⟩ := V70
    have hin72 : ¬ ((3 : Int32) < 0 ∨ cl72.slots.size ≤ ((3 : Int32)).toNatClampNeg) := inb_of S72 ⟨by decide, by decide⟩
    obtain ⟨T72, h72, X72, e72, W72, st72⟩ := stR X71 hx hZ e71 Ar72 (j := (3 : Int32)) hin72 rfl (Sto.ofV Ar72 q72 O64 (Ins.self (wE3.ext O_70.2))) (g := (mkF m 37 #[.val (.int i0), .val (.int (3 : Int32)), .unset, .unset, .unset] [(.ref w3), (.int (3 : Int32)), (.ref b64), (.ref b64)])) rfl rfl (hb hby at_37)
    have V72 : Arv Z h72 b64 k64 (.object "com/example/libgate/libgate/Impact") (4 : Int32) [(.ref w0), (.ref w1), (.ref w2), (.ref w3)] .null := Arv.set Ar72 q72 S72 M72 H72 G72 rfl W72 3 rfl (Nat.le_of_ble_eq_true rfl)
    have N72 := Fr.snoc X72 N70 g_b64
    have O_72 : Old Z n0 h72 := O_70.wr W72 g_b64
    obtain ⟨_, _, ⟨T73, L73, k73, n73⟩, -, X73, ⟨Lc73, hQ73, l73, y73, z73⟩, st73⟩ := Jvm.LawKit.callS X72 hx (y := (⟨"java/lang/Math", "min", "(II)I"⟩ : MethodName)) hown (mvT hZ (hw _ (List.mem_of_getElem? (i := 17) rfl))) (mvT hZ (hw _ (List.mem_of_getElem? (i := 18) rfl))) (mvT hZ (hw _ (List.mem_of_getElem? (i := 19) rfl))) (mvT hZ (hw _ (List.mem_of_getElem? (i := 20) rfl))) (by decide) (backOf (W := 0) (rm3 l Z a0 hw [] w0 w1 w2 w3 h72 n0 hWd O_72) hZ (hw _ (List.mem_of_getElem? (i := 20) rfl)) (hw _ (List.mem_of_getElem? (i := 19) rfl)) (by decide) (by decide)) (g := (mkF m 54 #[.val (.int i0), .val (.int (3 : Int32)), .val (.ref b64), .unset, .unset] [(.int (1 : Int32)), (.int (3 : Int32))])) rfl (by rw [hml]; rfl) (argsL := [(.int (3 : Int32)), (.int (1 : Int32))]) (rest := []) (lenOf pd1 rfl) rfl (by show 2 * 0 + _ ≤ _; exact Nat.le_of_eq rfl) (hb hby at_54) (fun _ _ => ⟨rfl, e72, (by decide : 1 + 0 ≤ _), (by decide : 4 + 0 ≤ _)⟩)
    dsimp only [Pt.U, Pt.locs, Pt.cells, Pt.slots] at X73 l73 y73 z73 st73 hQ73
    subst l73 y73 z73
    obtain ⟨rfl, N73q, e73⟩ := hQ73
    have N73 := Fr.app N72 N73q
    obtain ⟨_, _, ⟨T75, L75, k75, n75⟩, -, X75, ⟨Lc75, hQ75, l75, y75, z75⟩, st75⟩ := Jvm.LawKit.callS X73 hx (y := (⟨"com/example/libgate/libgate/Impact", "of", "(I)Lcom/example/libgate/libgate/Impact;"⟩ : MethodName)) hown (mvT hZ (hw _ (List.mem_of_getElem? (i := 13) rfl))) (mvT hZ (hw _ (List.mem_of_getElem? (i := 14) rfl))) (mvT hZ (hw _ (List.mem_of_getElem? (i := 4) rfl))) (mvT hZ (hw _ (List.mem_of_getElem? (i := 15) rfl))) (by decide) (backOf (W := 0) (rm6 l Z a0 hw [] w0 w1 w2 w3 h72 n0 hWd O_72) hZ (hw _ (List.mem_of_getElem? (i := 15) rfl)) (hw _ (List.mem_of_getElem? (i := 4) rfl)) (by decide) (by decide)) (g := (mkF m 59 #[.val (.int i0), .val (.int (3 : Int32)), .val (.ref b64), .val (.int (1 : Int32)), .unset] [(.int (3 : Int32))])) rfl (by rw [hml]; rfl) (argsL := [(.int (3 : Int32))]) (rest := []) (lenOf pd0 rfl) rfl (by show 2 * 0 + _ ≤ _; exact Nat.le_of_eq rfl) (hb hby at_59) (fun _ _ => ⟨rfl, e73, (by decide : 1 + 0 ≤ _), (by decide : 4 + 0 ≤ _)⟩)
    dsimp only [Pt.U, Pt.locs, Pt.cells, Pt.slots] at X75 l75 y75 z75 st75 hQ75
    subst l75 y75 z75
    obtain ⟨rfl, N75q, e75⟩ := hQ75
    have N75 := Fr.app N73 N75q
    obtain ⟨cl76, Ar76, q76, S76, M76, H76, G76⟩ := V72
    have hin76 : ¬ ((1 : Int32) < 0 ∨ cl76.slots.size ≤ ((1 : Int32)).toNatClampNeg) := inb_of S76 ⟨by decide, by decide⟩
    have hat76 : cl76.slots[((1 : Int32)).toNatClampNeg]? = some (.ref w1) := Has.at H76 hin76 rfl
    obtain ⟨fs, hr, hrun, hended, hWr, hsame⟩ := X75.leave (v := some (.int (1 : Int32))) (fun h => by rw [Bd.returns] at h; cases h)
    refine ⟨_, _, pre1 _ ?_, hrun, hended, _, _, rfl, ?_, ⟨_, rfl⟩, hWr, hsame.mono (Nat.le_of_ble_eq_true rfl) (Nat.le_of_ble_eq_true rfl)⟩
    · show Steps p.tables e below (s₁.setTop (mkF m 6 #[.val (.int i0), .unset, .unset, .unset, .unset] [(.int (12 : Int32)), (.int (i0 &&& (2147483647 : Int32)))])) _
      refine iremM X0 hx rfl (hb hby at_6) rfl (by decide) ?_
      show Steps p.tables e below (s₁.setTop (mkF m 7 #[.val (.int i0), .unset, .unset, .unset, .unset] [(.int ((i0 &&& (2147483647 : Int32)) % (12 : Int32)))])) _
      rw [hk6]
      show Steps p.tables e below (s₁.setTop (mkF m 7 #[.val (.int i0), .unset, .unset, .unset, .unset] [(.int (4 : Int32))])) _
      refine XS.iconst X0.here hx rfl (hb hby at_7) ?_
      show Steps p.tables e below (s₁.setTop (mkF m 8 #[.val (.int i0), .unset, .unset, .unset, .unset] [(.int (1 : Int32)), (.int (4 : Int32))])) _
      refine XS.isub X0.here hx rfl (hb hby at_8) rfl ?_
      show Steps p.tables e below (s₁.setTop (mkF m 9 #[.val (.int i0), .unset, .unset, .unset, .unset] [(.int ((4 : Int32) - (1 : Int32)))])) _
      rw [show ((4 : Int32) - (1 : Int32)) = (3 : Int32) from by decide]
      show Steps p.tables e below (s₁.setTop (mkF m 9 #[.val (.int i0), .unset, .unset, .unset, .unset] [(.int (3 : Int32))])) _
      refine XS.istoreN X0.here hx rfl (hb hby at_9) rfl (l' := #[.val (.int i0), .val (.int (3 : Int32)), .unset, .unset, .unset]) rfl ?_
      show Steps p.tables e below (s₁.setTop (mkF m 10 #[.val (.int i0), .val (.int (3 : Int32)), .unset, .unset, .unset] [])) _
      refine XS.iconst X0.here hx rfl (hb hby at_10) ?_
      show Steps p.tables e below (s₁.setTop (mkF m 11 #[.val (.int i0), .val (.int (3 : Int32)), .unset, .unset, .unset] [(.int (4 : Int32))])) _
      refine st64 _ ?_
      show Steps p.tables e below (T64.setTop (mkF m 14 #[.val (.int i0), .val (.int (3 : Int32)), .unset, .unset, .unset] [(.ref b64)])) _
      refine XS.dup X64.here hx rfl (hb hby at_14) rfl rfl ?_
      show Steps p.tables e below (T64.setTop (mkF m 15 #[.val (.int i0), .val (.int (3 : Int32)), .unset, .unset, .unset] [(.ref b64), (.ref b64)])) _
      refine XS.iconst X64.here hx rfl (hb hby at_15) ?_
      show Steps p.tables e below (T64.setTop (mkF m 16 #[.val (.int i0), .val (.int (3 : Int32)), .unset, .unset, .unset] [(.int (0 : Int32)), (.ref b64), (.ref b64)])) _
      refine st65 _ ?_
      show Steps p.tables e below (T65.setTop (mkF m 19 #[.val (.int i0), .val (.int (3 : Int32)), .unset, .unset, .unset] [(.ref w0), (.int (0 : Int32)), (.ref b64), (.ref b64)])) _
      refine st66 _ ?_
      show Steps p.tables e below (T66.setTop (mkF m 20 #[.val (.int i0), .val (.int (3 : Int32)), .unset, .unset, .unset] [(.ref b64)])) _
      refine XS.dup X66.here hx rfl (hb hby at_20) rfl rfl ?_
      show Steps p.tables e below (T66.setTop (mkF m 21 #[.val (.int i0), .val (.int (3 : Int32)), .unset, .unset, .unset] [(.ref b64), (.ref b64)])) _
      refine XS.iconst X66.here hx rfl (hb hby at_21) ?_
      show Steps p.tables e below (T66.setTop (mkF m 22 #[.val (.int i0), .val (.int (3 : Int32)), .unset, .unset, .unset] [(.int (1 : Int32)), (.ref b64), (.ref b64)])) _
      refine st67 _ ?_
      show Steps p.tables e below (T67.setTop (mkF m 25 #[.val (.int i0), .val (.int (3 : Int32)), .unset, .unset, .unset] [(.ref w1), (.int (1 : Int32)), (.ref b64), (.ref b64)])) _
      refine st68 _ ?_
      show Steps p.tables e below (T68.setTop (mkF m 26 #[.val (.int i0), .val (.int (3 : Int32)), .unset, .unset, .unset] [(.ref b64)])) _
      refine XS.dup X68.here hx rfl (hb hby at_26) rfl rfl ?_
      show Steps p.tables e below (T68.setTop (mkF m 27 #[.val (.int i0), .val (.int (3 : Int32)), .unset, .unset, .unset] [(.ref b64), (.ref b64)])) _
      refine XS.iconst X68.here hx rfl (hb hby at_27) ?_
      show Steps p.tables e below (T68.setTop (mkF m 28 #[.val (.int i0), .val (.int (3 : Int32)), .unset, .unset, .unset] [(.int (2 : Int32)), (.ref b64), (.ref b64)])) _
      refine st69 _ ?_
      show Steps p.tables e below (T69.setTop (mkF m 31 #[.val (.int i0), .val (.int (3 : Int32)), .unset, .unset, .unset] [(.ref w2), (.int (2 : Int32)), (.ref b64), (.ref b64)])) _
      refine st70 _ ?_
      show Steps p.tables e below (T70.setTop (mkF m 32 #[.val (.int i0), .val (.int (3 : Int32)), .unset, .unset, .unset] [(.ref b64)])) _
      refine XS.dup X70.here hx rfl (hb hby at_32) rfl rfl ?_
      show Steps p.tables e below (T70.setTop (mkF m 33 #[.val (.int i0), .val (.int (3 : Int32)), .unset, .unset, .unset] [(.ref b64), (.ref b64)])) _
      refine XS.iconst X70.here hx rfl (hb hby at_33) ?_
      show Steps p.tables e below (T70.setTop (mkF m 34 #[.val (.int i0), .val (.int (3 : Int32)), .unset, .unset, .unset] [(.int (3 : Int32)), (.ref b64), (.ref b64)])) _
      refine st71 _ ?_
      show Steps p.tables e below (T71.setTop (mkF m 37 #[.val (.int i0), .val (.int (3 : Int32)), .unset, .unset, .unset] [(.ref w3), (.int (3 : Int32)), (.ref b64), (.ref b64)])) _
      refine st72 _ ?_
      show Steps p.tables e below (T72.setTop (mkF m 38 #[.val (.int i0), .val (.int (3 : Int32)), .unset, .unset, .unset] [(.ref b64)])) _
      refine XS.astoreN X72.here hx rfl (hb hby at_38) rfl rfl (l' := #[.val (.int i0), .val (.int (3 : Int32)), .val (.ref b64), .unset, .unset]) rfl ?_
      show Steps p.tables e below (T72.setTop (mkF m 39 #[.val (.int i0), .val (.int (3 : Int32)), .val (.ref b64), .unset, .unset] [])) _
      refine XS.iloadN X72.here hx rfl (hb hby at_39) rfl ?_
      show Steps p.tables e below (T72.setTop (mkF m 40 #[.val (.int i0), .val (.int (3 : Int32)), .val (.ref b64), .unset, .unset] [(.int (3 : Int32))])) _
      refine XS.ifYes X72.here hx rfl (pc0 := 40) (pc' := 48) rfl (hb hby at_40) rfl (by decide) (by decide) (by decide) ?_
      show Steps p.tables e below (T72.setTop (mkF m 48 #[.val (.int i0), .val (.int (3 : Int32)), .val (.ref b64), .unset, .unset] [])) _
      refine XS.iconst X72.here hx rfl (hb hby at_48) ?_
      show Steps p.tables e below (T72.setTop (mkF m 49 #[.val (.int i0), .val (.int (3 : Int32)), .val (.ref b64), .unset, .unset] [(.int (3 : Int32))])) _
      refine XS.iloadN X72.here hx rfl (hb hby at_49) rfl ?_
      show Steps p.tables e below (T72.setTop (mkF m 50 #[.val (.int i0), .val (.int (3 : Int32)), .val (.ref b64), .unset, .unset] [(.int (3 : Int32)), (.int (3 : Int32))])) _
      refine XS.iconst X72.here hx rfl (hb hby at_50) ?_
      show Steps p.tables e below (T72.setTop (mkF m 51 #[.val (.int i0), .val (.int (3 : Int32)), .val (.ref b64), .unset, .unset] [(.int (2 : Int32)), (.int (3 : Int32)), (.int (3 : Int32))])) _
      refine XS.iadd X72.here hx rfl (hb hby at_51) rfl ?_
      show Steps p.tables e below (T72.setTop (mkF m 52 #[.val (.int i0), .val (.int (3 : Int32)), .val (.ref b64), .unset, .unset] [(.int ((3 : Int32) + (2 : Int32))), (.int (3 : Int32))])) _
      rw [show ((3 : Int32) + (2 : Int32)) = (5 : Int32) from by decide]
      show Steps p.tables e below (T72.setTop (mkF m 52 #[.val (.int i0), .val (.int (3 : Int32)), .val (.ref b64), .unset, .unset] [(.int (5 : Int32)), (.int (3 : Int32))])) _
      refine XS.iconst X72.here hx rfl (hb hby at_52) ?_
      show Steps p.tables e below (T72.setTop (mkF m 53 #[.val (.int i0), .val (.int (3 : Int32)), .val (.ref b64), .unset, .unset] [(.int (3 : Int32)), (.int (5 : Int32)), (.int (3 : Int32))])) _
      refine XS.idiv X72.here hx rfl (hb hby at_53) rfl (by decide) ?_
      show Steps p.tables e below (T72.setTop (mkF m 54 #[.val (.int i0), .val (.int (3 : Int32)), .val (.ref b64), .unset, .unset] [(.int ((5 : Int32) / (3 : Int32))), (.int (3 : Int32))])) _
      rw [show ((5 : Int32) / (3 : Int32)) = (1 : Int32) from by decide]
      show Steps p.tables e below (T72.setTop (mkF m 54 #[.val (.int i0), .val (.int (3 : Int32)), .val (.ref b64), .unset, .unset] [(.int (1 : Int32)), (.int (3 : Int32))])) _
      refine st73 _ ?_
      show Steps p.tables e below (T73.setTop (mkF m 57 #[.val (.int i0), .val (.int (3 : Int32)), .val (.ref b64), .unset, .unset] [(.int (1 : Int32))])) _
      refine XS.istoreN X73.here hx rfl (hb hby at_57) rfl (l' := #[.val (.int i0), .val (.int (3 : Int32)), .val (.ref b64), .val (.int (1 : Int32)), .unset]) rfl ?_
      show Steps p.tables e below (T73.setTop (mkF m 58 #[.val (.int i0), .val (.int (3 : Int32)), .val (.ref b64), .val (.int (1 : Int32)), .unset] [])) _
      refine XS.iloadN X73.here hx rfl (hb hby at_58) rfl ?_
      show Steps p.tables e below (T73.setTop (mkF m 59 #[.val (.int i0), .val (.int (3 : Int32)), .val (.ref b64), .val (.int (1 : Int32)), .unset] [(.int (3 : Int32))])) _
      refine st75 _ ?_
      show Steps p.tables e below (T75.setTop (mkF m 62 #[.val (.int i0), .val (.int (3 : Int32)), .val (.ref b64), .val (.int (1 : Int32)), .unset] [(.ref w1)])) _
      refine XS.astore X75.here hx rfl (hb hby at_62) rfl rfl (l' := #[.val (.int i0), .val (.int (3 : Int32)), .val (.ref b64), .val (.int (1 : Int32)), .val (.ref w1)]) rfl ?_
      show Steps p.tables e below (T75.setTop (mkF m 64 #[.val (.int i0), .val (.int (3 : Int32)), .val (.ref b64), .val (.int (1 : Int32)), .val (.ref w1)] [])) _
      refine XS.aload X75.here hx rfl (hb hby at_64) rfl rfl ?_
      show Steps p.tables e below (T75.setTop (mkF m 66 #[.val (.int i0), .val (.int (3 : Int32)), .val (.ref b64), .val (.int (1 : Int32)), .val (.ref w1)] [(.ref w1)])) _
      refine XS.aloadN X75.here hx rfl (hb hby at_66) rfl rfl ?_
      show Steps p.tables e below (T75.setTop (mkF m 67 #[.val (.int i0), .val (.int (3 : Int32)), .val (.ref b64), .val (.int (1 : Int32)), .val (.ref w1)] [(.ref b64), (.ref w1)])) _
      refine XS.iloadN X75.here hx rfl (hb hby at_67) rfl ?_
      show Steps p.tables e below (T75.setTop (mkF m 68 #[.val (.int i0), .val (.int (3 : Int32)), .val (.ref b64), .val (.int (1 : Int32)), .val (.ref w1)] [(.int (1 : Int32)), (.ref b64), (.ref w1)])) _
      refine X75.aaload hx (j := (1 : Int32)) (v := (.ref w1)) (by rw [e75]; exact Ar76.1) (State.isArrayOf_alike hZ.alike Ar76.2.1) rfl Ar76.2.2 hin76 hat76 (g := (mkF m 68 #[.val (.int i0), .val (.int (3 : Int32)), .val (.ref b64), .val (.int (1 : Int32)), .val (.ref w1)] [(.int (1 : Int32)), (.ref b64), (.ref w1)])) rfl rfl (hb hby at_68) _ ?_
      show Steps p.tables e below (T75.setTop (mkF m 69 #[.val (.int i0), .val (.int (3 : Int32)), .val (.ref b64), .val (.int (1 : Int32)), .val (.ref w1)] [(.ref w1), (.ref w1)])) _
      refine Jvm.RoadKit.acmp (g := (mkF m 69 #[.val (.int i0), .val (.int (3 : Int32)), .val (.ref b64), .val (.int (1 : Int32)), .val (.ref w1)] [(.ref w1), (.ref w1)])) X75 hx rfl rfl rfl (pc0 := 69) (pc' := 72) (same := true) rfl (hb hby at_69) rfl (decide_eq_true rfl) (by decide) (by decide) ?_
      show Steps p.tables e below (T75.setTop (mkF m 72 #[.val (.int i0), .val (.int (3 : Int32)), .val (.ref b64), .val (.int (1 : Int32)), .val (.ref w1)] [])) _
      refine XS.iconst X75.here hx rfl (hb hby at_72) ?_
      show Steps p.tables e below (T75.setTop (mkF m 73 #[.val (.int i0), .val (.int (3 : Int32)), .val (.ref b64), .val (.int (1 : Int32)), .val (.ref w1)] [(.int (1 : Int32))])) _
      refine XS.goto X75.here hx rfl (pc0 := 73) (pc' := 77) rfl (hb hby at_73) (by decide) (by decide) ?_
      show Steps p.tables e below (T75.setTop (mkF m 77 #[.val (.int i0), .val (.int (3 : Int32)), .val (.ref b64), .val (.int (1 : Int32)), .val (.ref w1)] [(.int (1 : Int32))])) _
      exact retN X75 hx (t := .boolean) Bd.returns (by simp) (hb hby at_77) hr
    · show Ql n0 _ T75.heap _
      exact ⟨rfl, N75⟩
  · obtain ⟨T77, h77, k77, X77, e77, E77, A77, O77, st77⟩ := newR X0 hx hZ hown (hw _ (List.mem_of_getElem? (i := 1) rfl)) (hw _ (List.mem_of_getElem? (i := 2) rfl)) e0 (g := (mkF m 11 #[.val (.int i0), .val (.int (4 : Int32)), .unset, .unset, .unset] [(.int (4 : Int32))])) rfl (hb hby at_11) rfl (by decide) (cap := 4) (by decide) (by decide) (by decide) (by decide)
    obtain ⟨b77, g77⟩ : ∃ z, z = h0.size := ⟨_, rfl⟩
    rw [← g77] at A77 st77
    have V77 : Arv Z h77 b77 k77 (.object "com/example/libgate/libgate/Impact") (4 : Int32) [.null, .null, .null, .null] .null := (Arv.new A77 (by decide)).pad (pad_rep [] .null 4)
    have g_b77 : n0 ≤ b77 := Nat.le_trans (Nat.le_trans (Nat.le_of_eq O0.1.symm) O0.2.1) (Nat.le_of_eq g77.symm)
    have O_77 : Old Z n0 h77 := O0.ext E77
    obtain ⟨T78, X78, e78, st78⟩ := getS2 X77 hx hZ hown (host := "") (Or.inl (hw _ (List.mem_of_getElem? (i := 3) rfl))) Via.refl e77 (wS0.ext O_77.2) (g := (mkF m 16 #[.val (.int i0), .val (.int (4 : Int32)), .unset, .unset, .unset] [(.int (0 : Int32)), (.ref b77), (.ref b77)])) rfl (hb hby at_16)
    obtain ⟨cl79, Ar79, q79, S79, M79, H79, G79⟩ := V77
    have hin79 : ¬ ((0 : Int32) < 0 ∨ cl79.slots.size ≤ ((0 : Int32)).toNatClampNeg) := inb_of S79 ⟨by decide, by decide⟩
    obtain ⟨T79, h79, X79, e79, W79, st79⟩ := stR X78 hx hZ e78 Ar79 (j := (0 : Int32)) hin79 rfl (Sto.ofV Ar79 q79 O77 (Ins.self (wE0.ext O_77.2))) (g := (mkF m 19 #[.val (.int i0), .val (.int (4 : Int32)), .unset, .unset, .unset] [(.ref w0), (.int (0 : Int32)), (.ref b77), (.ref b77)])) rfl rfl (hb hby at_19)
    have V79 : Arv Z h79 b77 k77 (.object "com/example/libgate/libgate/Impact") (4 : Int32) [(.ref w0), .null, .null, .null] .null := Arv.set Ar79 q79 S79 M79 H79 G79 rfl W79 0 rfl (Nat.le_of_ble_eq_true rfl)
    have N79 := Fr.snoc X79 N0 g_b77
    have O_79 : Old Z n0 h79 := O_77.wr W79 g_b77
    obtain ⟨T80, X80, e80, st80⟩ := getS2 X79 hx hZ hown (host := "") (Or.inl (hw _ (List.mem_of_getElem? (i := 7) rfl))) Via.refl e79 (wS1.ext O_79.2) (g := (mkF m 22 #[.val (.int i0), .val (.int (4 : Int32)), .unset, .unset, .unset] [(.int (1 : Int32)), (.ref b77), (.ref b77)])) rfl (hb hby at_22)
    obtain ⟨cl81, Ar81, q81, S81, M81, H81, G81⟩ := V79
    have hin81 : ¬ ((1 : Int32) < 0 ∨ cl81.slots.size ≤ ((1 : Int32)).toNatClampNeg) := inb_of S81 ⟨by decide, by decide⟩
    obtain ⟨T81, h81, X81, e81, W81, st81⟩ := stR X80 hx hZ e80 Ar81 (j := (1 : Int32)) hin81 rfl (Sto.ofV Ar81 q81 O77 (Ins.self (wE1.ext O_79.2))) (g := (mkF m 25 #[.val (.int i0), .val (.int (4 : Int32)), .unset, .unset, .unset] [(.ref w1), (.int (1 : Int32)), (.ref b77), (.ref b77)])) rfl rfl (hb hby at_25)
    have V81 : Arv Z h81 b77 k77 (.object "com/example/libgate/libgate/Impact") (4 : Int32) [(.ref w0), (.ref w1), .null, .null] .null := Arv.set Ar81 q81 S81 M81 H81 G81 rfl W81 1 rfl (Nat.le_of_ble_eq_true rfl)
    have N81 := Fr.snoc X81 N79 g_b77
    have O_81 : Old Z n0 h81 := O_79.wr W81 g_b77
    obtain ⟨T82, X82, e82, st82⟩ := getS2 X81 hx hZ hown (host := "") (Or.inl (hw _ (List.mem_of_getElem? (i := 9) rfl))) Via.refl e81 (wS2.ext O_81.2) (g := (mkF m 28 #[.val (.int i0), .val (.int (4 : Int32)), .unset, .unset, .unset] [(.int (2 : Int32)), (.ref b77), (.ref b77)])) rfl (hb hby at_28)
    obtain ⟨cl83, Ar83, q83, S83, M83, H83, G83⟩ := V81
    have hin83 : ¬ ((2 : Int32) < 0 ∨ cl83.slots.size ≤ ((2 : Int32)).toNatClampNeg) := inb_of S83 ⟨by decide, by decide⟩
    obtain ⟨T83, h83, X83, e83, W83, st83⟩ := stR X82 hx hZ e82 Ar83 (j := (2 : Int32)) hin83 rfl (Sto.ofV Ar83 q83 O77 (Ins.self (wE2.ext O_81.2))) (g := (mkF m 31 #[.val (.int i0), .val (.int (4 : Int32)), .unset, .unset, .unset] [(.ref w2), (.int (2 : Int32)), (.ref b77), (.ref b77)])) rfl rfl (hb hby at_31)
    have V83 : Arv Z h83 b77 k77 (.object "com/example/libgate/libgate/Impact") (4 : Int32) [(.ref w0), (.ref w1), (.ref w2), .null] .null := Arv.set Ar83 q83 S83 M83 H83 G83 rfl W83 2 rfl (Nat.le_of_ble_eq_true rfl)
    have N83 := Fr.snoc X83 N81 g_b77
    have O_83 : Old Z n0 h83 := O_81.wr W83 g_b77
    obtain ⟨T84, X84, e84, st84⟩ := getS2 X83 hx hZ hown (host := "") (Or.inl (hw _ (List.mem_of_getElem? (i := 11) rfl))) Via.refl e83 (wS3.ext O_83.2) (g := (mkF m 34 #[.val (.int i0), .val (.int (4 : Int32)), .unset, .unset, .unset] [(.int (3 : Int32)), (.ref b77), (.ref b77)])) rfl (hb hby at_34)
    obtain ⟨cl85, Ar85, q85, S85, M85, H85, G85⟩ := V83
    have hin85 : ¬ ((3 : Int32) < 0 ∨ cl85.slots.size ≤ ((3 : Int32)).toNatClampNeg) := inb_of S85 ⟨by decide, by decide⟩
    obtain ⟨T85, h85, X85, e85, W85, st85⟩ := stR X84 hx hZ e84 Ar85 (j := (3 : Int32)) hin85 rfl (Sto.ofV Ar85 q85 O77 (Ins.self (wE3.ext O_83.2))) (g := (mkF m 37 #[.val (.int i0), .val (.int (4 : Int32)), .unset, .unset, .unset] [(.ref w3), (.int (3 : Int32)), (.ref b77), (.ref b77)])) rfl rfl (hb hby at_37)
    have V85 : Arv Z h85 b77 k77 (.object "com/example/libgate/libgate/Impact") (4 : Int32) [(.ref w0), (.ref w1), (.ref w2), (.ref w3)] .null := Arv.set Ar85 q85 S85 M85 H85 G85 rfl W85 3 rfl (Nat.le_of_ble_eq_true rfl)
    have N85 := Fr.snoc X85 N83 g_b77
    have O_85 : Old Z n0 h85 := O_83.wr W85 g_b77
    obtain ⟨_, _, ⟨T86, L86, k86, n86⟩, -, X86, ⟨Lc86, hQ86, l86, y86, z86⟩, st86⟩ := Jvm.LawKit.callS X85 hx (y := (⟨"java/lang/Math", "min", "(II)I"⟩ : MethodName)) hown (mvT hZ (hw _ (List.mem_of_getElem? (i := 17) rfl))) (mvT hZ (hw _ (List.mem_of_getElem? (i := 18) rfl))) (mvT hZ (hw _ (List.mem_of_getElem? (i := 19) rfl))) (mvT hZ (hw _ (List.mem_of_getElem? (i := 20) rfl))) (by decide) (backOf (W := 0) (rm7 l Z a0 hw [] w0 w1 w2 w3 h85 n0 hWd O_85) hZ (hw _ (List.mem_of_getElem? (i := 20) rfl)) (hw _ (List.mem_of_getElem? (i := 19) rfl)) (by decide) (by decide)) (g := (mkF m 54 #[.val (.int i0), .val (.int (4 : Int32)), .val (.ref b77), .unset, .unset] [(.int (2 : Int32)), (.int (3 : Int32))])) rfl (by rw [hml]; rfl) (argsL := [(.int (3 : Int32)), (.int (2 : Int32))]) (rest := []) (lenOf pd1 rfl) rfl (by show 2 * 0 + _ ≤ _; exact Nat.le_of_eq rfl) (hb hby at_54) (fun _ _ => ⟨rfl, e85, (by decide : 1 + 0 ≤ _), (by decide : 4 + 0 ≤ _)⟩)
    dsimp only [Pt.U, Pt.locs, Pt.cells, Pt.slots] at X86 l86 y86 z86 st86 hQ86
    subst l86 y86 z86
    obtain ⟨rfl, N86q, e86⟩ := hQ86
    have N86 := Fr.app N85 N86q
    obtain ⟨_, _, ⟨T88, L88, k88, n88⟩, -, X88, ⟨Lc88, hQ88, l88, y88, z88⟩, st88⟩ := Jvm.LawKit.callS X86 hx (y := (⟨"com/example/libgate/libgate/Impact", "of", "(I)Lcom/example/libgate/libgate/Impact;"⟩ : MethodName)) hown (mvT hZ (hw _ (List.mem_of_getElem? (i := 13) rfl))) (mvT hZ (hw _ (List.mem_of_getElem? (i := 14) rfl))) (mvT hZ (hw _ (List.mem_of_getElem? (i := 4) rfl))) (mvT hZ (hw _ (List.mem_of_getElem? (i := 15) rfl))) (by decide) (backOf (W := 0) (rm8 l Z a0 hw [] w0 w1 w2 w3 h85 n0 hWd O_85) hZ (hw _ (List.mem_of_getElem? (i := 15) rfl)) (hw _ (List.mem_of_getElem? (i := 4) rfl)) (by decide) (by decide)) (g := (mkF m 59 #[.val (.int i0), .val (.int (4 : Int32)), .val (.ref b77), .val (.int (2 : Int32)), .unset] [(.int (4 : Int32))])) rfl (by rw [hml]; rfl) (argsL := [(.int (4 : Int32))]) (rest := []) (lenOf pd0 rfl) rfl (by show 2 * 0 + _ ≤ _; exact Nat.le_of_eq rfl) (hb hby at_59) (fun _ _ => ⟨rfl, e86, (by decide : 1 + 0 ≤ _), (by decide : 4 + 0 ≤ _)⟩)
    dsimp only [Pt.U, Pt.locs, Pt.cells, Pt.slots] at X88 l88 y88 z88 st88 hQ88
    subst l88 y88 z88
    obtain ⟨rfl, N88q, e88⟩ := hQ88
    have N88 := Fr.app N86 N88q
    obtain ⟨cl89, Ar89, q89, S89, M89, H89, G89⟩ := V85
    have hin89 : ¬ ((2 : Int32) < 0 ∨ cl89.slots.size ≤ ((2 : Int32)).toNatClampNeg) := inb_of S89 ⟨by decide, by decide⟩
    have hat89 : cl89.slots[((2 : Int32)).toNatClampNeg]? = some (.ref w2) := Has.at H89 hin89 rfl
    obtain ⟨fs, hr, hrun, hended, hWr, hsame⟩ := X88.leave (v := some (.int (1 : Int32))) (fun h => by rw [Bd.returns] at h; cases h)
    refine ⟨_, _, pre1 _ ?_, hrun, hended, _, _, rfl, ?_, ⟨_, rfl⟩, hWr, hsame.mono (Nat.le_of_ble_eq_true rfl) (Nat.le_of_ble_eq_true rfl)⟩
    · show Steps p.tables e below (s₁.setTop (mkF m 6 #[.val (.int i0), .unset, .unset, .unset, .unset] [(.int (12 : Int32)), (.int (i0 &&& (2147483647 : Int32)))])) _
      refine iremM X0 hx rfl (hb hby at_6) rfl (by decide) ?_
      show Steps p.tables e below (s₁.setTop (mkF m 7 #[.val (.int i0), .unset, .unset, .unset, .unset] [(.int ((i0 &&& (2147483647 : Int32)) % (12 : Int32)))])) _
      rw [hk7]
      show Steps p.tables e below (s₁.setTop (mkF m 7 #[.val (.int i0), .unset, .unset, .unset, .unset] [(.int (5 : Int32))])) _
      refine XS.iconst X0.here hx rfl (hb hby at_7) ?_
      show Steps p.tables e below (s₁.setTop (mkF m 8 #[.val (.int i0), .unset, .unset, .unset, .unset] [(.int (1 : Int32)), (.int (5 : Int32))])) _
      refine XS.isub X0.here hx rfl (hb hby at_8) rfl ?_
      show Steps p.tables e below (s₁.setTop (mkF m 9 #[.val (.int i0), .unset, .unset, .unset, .unset] [(.int ((5 : Int32) - (1 : Int32)))])) _
      rw [show ((5 : Int32) - (1 : Int32)) = (4 : Int32) from by decide]
      show Steps p.tables e below (s₁.setTop (mkF m 9 #[.val (.int i0), .unset, .unset, .unset, .unset] [(.int (4 : Int32))])) _
      refine XS.istoreN X0.here hx rfl (hb hby at_9) rfl (l' := #[.val (.int i0), .val (.int (4 : Int32)), .unset, .unset, .unset]) rfl ?_
      show Steps p.tables e below (s₁.setTop (mkF m 10 #[.val (.int i0), .val (.int (4 : Int32)), .unset, .unset, .unset] [])) _
      refine XS.iconst X0.here hx rfl (hb hby at_10) ?_
      show Steps p.tables e below (s₁.setTop (mkF m 11 #[.val (.int i0), .val (.int (4 : Int32)), .unset, .unset, .unset] [(.int (4 : Int32))])) _
      refine st77 _ ?_
      show Steps p.tables e below (T77.setTop (mkF m 14 #[.val (.int i0), .val (.int (4 : Int32)), .unset, .unset, .unset] [(.ref b77)])) _
      refine XS.dup X77.here hx rfl (hb hby at_14) rfl rfl ?_
      show Steps p.tables e below (T77.setTop (mkF m 15 #[.val (.int i0), .val (.int (4 : Int32)), .unset, .unset, .unset] [(.ref b77), (.ref b77)])) _
      refine XS.iconst X77.here hx rfl (hb hby at_15) ?_
      show Steps p.tables e below (T77.setTop (mkF m 16 #[.val (.int i0), .val (.int (4 : Int32)), .unset, .unset, .unset] [(.int (0 : Int32)), (.ref b77), (.ref b77)])) _
      refine st78 _ ?_
      show Steps p.tables e below (T78.setTop (mkF m 19 #[.val (.int i0), .val (.int (4 : Int32)), .unset, .unset, .unset] [(.ref w0), (.int (0 : Int32)), (.ref b77), (.ref b77)])) _
      refine st79 _ ?_
      show Steps p.tables e below (T79.setTop (mkF m 20 #[.val (.int i0), .val (.int (4 : Int32)), .unset, .unset, .unset] [(.ref b77)])) _
      refine XS.dup X79.here hx rfl (hb hby at_20) rfl rfl ?_
      show Steps p.tables e below (T79.setTop (mkF m 21 #[.val (.int i0), .val (.int (4 : Int32)), .unset, .unset, .unset] [(.ref b77), (.ref b77)])) _
      refine XS.iconst X79.here hx rfl (hb hby at_21) ?_
      show Steps p.tables e below (T79.setTop (mkF m 22 #[.val (.int i0), .val (.int (4 : Int32)), .unset, .unset, .unset] [(.int (1 : Int32)), (.ref b77), (.ref b77)])) _
      refine st80 _ ?_
      show Steps p.tables e below (T80.setTop (mkF m 25 #[.val (.int i0), .val (.int (4 : Int32)), .unset, .unset, .unset] [(.ref w1), (.int (1 : Int32)), (.ref b77), (.ref b77)])) _
      refine st81 _ ?_
      show Steps p.tables e below (T81.setTop (mkF m 26 #[.val (.int i0), .val (.int (4 : Int32)), .unset, .unset, .unset] [(.ref b77)])) _
      refine XS.dup X81.here hx rfl (hb hby at_26) rfl rfl ?_
      show Steps p.tables e below (T81.setTop (mkF m 27 #[.val (.int i0), .val (.int (4 : Int32)), .unset, .unset, .unset] [(.ref b77), (.ref b77)])) _
      refine XS.iconst X81.here hx rfl (hb hby at_27) ?_
      show Steps p.tables e below (T81.setTop (mkF m 28 #[.val (.int i0), .val (.int (4 : Int32)), .unset, .unset, .unset] [(.int (2 : Int32)), (.ref b77), (.ref b77)])) _
      refine st82 _ ?_
      show Steps p.tables e below (T82.setTop (mkF m 31 #[.val (.int i0), .val (.int (4 : Int32)), .unset, .unset, .unset] [(.ref w2), (.int (2 : Int32)), (.ref b77), (.ref b77)])) _
      refine st83 _ ?_
      show Steps p.tables e below (T83.setTop (mkF m 32 #[.val (.int i0), .val (.int (4 : Int32)), .unset, .unset, .unset] [(.ref b77)])) _
      refine XS.dup X83.here hx rfl (hb hby at_32) rfl rfl ?_
      show Steps p.tables e below (T83.setTop (mkF m 33 #[.val (.int i0), .val (.int (4 : Int32)), .unset, .unset, .unset] [(.ref b77), (.ref b77)])) _
      refine XS.iconst X83.here hx rfl (hb hby at_33) ?_
      show Steps p.tables e below (T83.setTop (mkF m 34 #[.val (.int i0), .val (.int (4 : Int32)), .unset, .unset, .unset] [(.int (3 : Int32)), (.ref b77), (.ref b77)])) _
      refine st84 _ ?_
      show Steps p.tables e below (T84.setTop (mkF m 37 #[.val (.int i0), .val (.int (4 : Int32)), .unset, .unset, .unset] [(.ref w3), (.int (3 : Int32)), (.ref b77), (.ref b77)])) _
      refine st85 _ ?_
      show Steps p.tables e below (T85.setTop (mkF m 38 #[.val (.int i0), .val (.int (4 : Int32)), .unset, .unset, .unset] [(.ref b77)])) _
      refine XS.astoreN X85.here hx rfl (hb hby at_38) rfl rfl (l' := #[.val (.int i0), .val (.int (4 : Int32)), .val (.ref b77), .unset, .unset]) rfl ?_
      show Steps p.tables e below (T85.setTop (mkF m 39 #[.val (.int i0), .val (.int (4 : Int32)), .val (.ref b77), .unset, .unset] [])) _
      refine XS.iloadN X85.here hx rfl (hb hby at_39) rfl ?_
      show Steps p.tables e below (T85.setTop (mkF m 40 #[.val (.int i0), .val (.int (4 : Int32)), .val (.ref b77), .unset, .unset] [(.int (4 : Int32))])) _
      refine XS.ifYes X85.here hx rfl (pc0 := 40) (pc' := 48) rfl (hb hby at_40) rfl (by decide) (by decide) (by decide) ?_
      show Steps p.tables e below (T85.setTop (mkF m 48 #[.val (.int i0), .val (.int (4 : Int32)), .val (.ref b77), .unset, .unset] [])) _
      refine XS.iconst X85.here hx rfl (hb hby at_48) ?_
      show Steps p.tables e below (T85.setTop (mkF m 49 #[.val (.int i0), .val (.int (4 : Int32)), .val (.ref b77), .unset, .unset] [(.int (3 : Int32))])) _
      refine XS.iloadN X85.here hx rfl (hb hby at_49) rfl ?_
      show Steps p.tables e below (T85.setTop (mkF m 50 #[.val (.int i0), .val (.int (4 : Int32)), .val (.ref b77), .unset, .unset] [(.int (4 : Int32)), (.int (3 : Int32))])) _
      refine XS.iconst X85.here hx rfl (hb hby at_50) ?_
      show Steps p.tables e below (T85.setTop (mkF m 51 #[.val (.int i0), .val (.int (4 : Int32)), .val (.ref b77), .unset, .unset] [(.int (2 : Int32)), (.int (4 : Int32)), (.int (3 : Int32))])) _
      refine XS.iadd X85.here hx rfl (hb hby at_51) rfl ?_
      show Steps p.tables e below (T85.setTop (mkF m 52 #[.val (.int i0), .val (.int (4 : Int32)), .val (.ref b77), .unset, .unset] [(.int ((4 : Int32) + (2 : Int32))), (.int (3 : Int32))])) _
      rw [show ((4 : Int32) + (2 : Int32)) = (6 : Int32) from by decide]
      show Steps p.tables e below (T85.setTop (mkF m 52 #[.val (.int i0), .val (.int (4 : Int32)), .val (.ref b77), .unset, .unset] [(.int (6 : Int32)), (.int (3 : Int32))])) _
      refine XS.iconst X85.here hx rfl (hb hby at_52) ?_
      show Steps p.tables e below (T85.setTop (mkF m 53 #[.val (.int i0), .val (.int (4 : Int32)), .val (.ref b77), .unset, .unset] [(.int (3 : Int32)), (.int (6 : Int32)), (.int (3 : Int32))])) _
      refine XS.idiv X85.here hx rfl (hb hby at_53) rfl (by decide) ?_
      show Steps p.tables e below (T85.setTop (mkF m 54 #[.val (.int i0), .val (.int (4 : Int32)), .val (.ref b77), .unset, .unset] [(.int ((6 : Int32) / (3 : Int32))), (.int (3 : Int32))])) _
      rw [show ((6 : Int32) / (3 : Int32)) = (2 : Int32) from by decide]
      show Steps p.tables e below (T85.setTop (mkF m 54 #[.val (.int i0), .val (.int (4 : Int32)), .val (.ref b77), .unset, .unset] [(.int (2 : Int32)), (.int (3 : Int32))])) _
      refine st86 _ ?_
      show Steps p.tables e below (T86.setTop (mkF m 57 #[.val (.int i0), .val (.int (4 : Int32)), .val (.ref b77), .unset, .unset] [(.int (2 : Int32))])) _
      refine XS.istoreN X86.here hx rfl (hb hby at_57) rfl (l' := #[.val (.int i0), .val (.int (4 : Int32)), .val (.ref b77), .val (.int (2 : Int32)), .unset]) rfl ?_
      show Steps p.tables e below (T86.setTop (mkF m 58 #[.val (.int i0), .val (.int (4 : Int32)), .val (.ref b77), .val (.int (2 : Int32)), .unset] [])) _
      refine XS.iloadN X86.here hx rfl (hb hby at_58) rfl ?_
      show Steps p.tables e below (T86.setTop (mkF m 59 #[.val (.int i0), .val (.int (4 : Int32)), .val (.ref b77), .val (.int (2 : Int32)), .unset] [(.int (4 : Int32))])) _
      refine st88 _ ?_
      show Steps p.tables e below (T88.setTop (mkF m 62 #[.val (.int i0), .val (.int (4 : Int32)), .val (.ref b77), .val (.int (2 : Int32)), .unset] [(.ref w2)])) _
      refine XS.astore X88.here hx rfl (hb hby at_62) rfl rfl (l' := #[.val (.int i0), .val (.int (4 : Int32)), .val (.ref b77), .val (.int (2 : Int32)), .val (.ref w2)]) rfl ?_
      show Steps p.tables e below (T88.setTop (mkF m 64 #[.val (.int i0), .val (.int (4 : Int32)), .val (.ref b77), .val (.int (2 : Int32)), .val (.ref w2)] [])) _
      refine XS.aload X88.here hx rfl (hb hby at_64) rfl rfl ?_
      show Steps p.tables e below (T88.setTop (mkF m 66 #[.val (.int i0), .val (.int (4 : Int32)), .val (.ref b77), .val (.int (2 : Int32)), .val (.ref w2)] [(.ref w2)])) _
      refine XS.aloadN X88.here hx rfl (hb hby at_66) rfl rfl ?_
      show Steps p.tables e below (T88.setTop (mkF m 67 #[.val (.int i0), .val (.int (4 : Int32)), .val (.ref b77), .val (.int (2 : Int32)), .val (.ref w2)] [(.ref b77), (.ref w2)])) _
      refine XS.iloadN X88.here hx rfl (hb hby at_67) rfl ?_
      show Steps p.tables e below (T88.setTop (mkF m 68 #[.val (.int i0), .val (.int (4 : Int32)), .val (.ref b77), .val (.int (2 : Int32)), .val (.ref w2)] [(.int (2 : Int32)), (.ref b77), (.ref w2)])) _
      refine X88.aaload hx (j := (2 : Int32)) (v := (.ref w2)) (by rw [e88]; exact Ar89.1) (State.isArrayOf_alike hZ.alike Ar89.2.1) rfl Ar89.2.2 hin89 hat89 (g := (mkF m 68 #[.val (.int i0), .val (.int (4 : Int32)), .val (.ref b77), .val (.int (2 : Int32)), .val (.ref w2)] [(.int (2 : Int32)), (.ref b77), (.ref w2)])) rfl rfl (hb hby at_68) _ ?_
      show Steps p.tables e below (T88.setTop (mkF m 69 #[.val (.int i0), .val (.int (4 : Int32)), .val (.ref b77), .val (.int (2 : Int32)), .val (.ref w2)] [(.ref w2), (.ref w2)])) _
      refine Jvm.RoadKit.acmp (g := (mkF m 69 #[.val (.int i0), .val (.int (4 : Int32)), .val (.ref b77), .val (.int (2 : Int32)), .val (.ref w2)] [(.ref w2), (.ref w2)])) X88 hx rfl rfl rfl (pc0 := 69) (pc' := 72) (same := true) rfl (hb hby at_69) rfl (decide_eq_true rfl) (by decide) (by decide) ?_
      show Steps p.tables e below (T88.setTop (mkF m 72 #[.val (.int i0), .val (.int (4 : Int32)), .val (.ref b77), .val (.int (2 : Int32)), .val (.ref w2)] [])) _
      refine XS.iconst X88.here hx rfl (hb hby at_72) ?_
      show Steps p.tables e below (T88.setTop (mkF m 73 #[.val (.int i0), .val (.int (4 : Int32)), .val (.ref b77), .val (.int (2 : Int32)), .val (.ref w2)] [(.int (1 : Int32))])) _
      refine XS.goto X88.here hx rfl (pc0 := 73) (pc' := 77) rfl (hb hby at_73) (by decide) (by decide) ?_
      show Steps p.tables e below (T88.setTop (mkF m 77 #[.val (.int i0), .val (.int (4 : Int32)), .val (.ref b77), .val (.int (2 : Int32)), .val (.ref w2)] [(.int (1 : Int32))])) _
      exact retN X88 hx (t := .boolean) Bd.returns (by simp) (hb hby at_77) hr
    · show Ql n0 _ T88.heap _
      exact ⟨rfl, N88⟩
  · obtain ⟨T90, h90, k90, X90, e90, E90, A90, O90, st90⟩ := newR X0 hx hZ hown (hw _ (List.mem_of_getElem? (i := 1) rfl)) (hw _ (List.mem_of_getElem? (i := 2) rfl)) e0 (g := (mkF m 11 #[.val (.int i0), .val (.int (5 : Int32)), .unset, .unset, .unset] [(.int (4 : Int32))])) rfl (hb hby at_11) rfl (by decide) (cap := 4) (by decide) (by decide) (by decide) (by decide)
    obtain ⟨b90, g90⟩ : ∃ z, z = h0.size := ⟨_, rfl⟩
    rw [← g90] at A90 st90
    have V90 : Arv Z h90 b90 k90 (.object "com/example/libgate/libgate/Impact") (4 : Int32) [.null, .null, .null, .null] .null := (Arv.new A90 (by decide)).pad (pad_rep [] .null 4)
    have g_b90 : n0 ≤ b90 := Nat.le_trans (Nat.le_trans (Nat.le_of_eq O0.1.symm) O0.2.1) (Nat.le_of_eq g90.symm)
    have O_90 : Old Z n0 h90 := O0.ext E90
    obtain ⟨T91, X91, e91, st91⟩ := getS2 X90 hx hZ hown (host := "") (Or.inl (hw _ (List.mem_of_getElem? (i := 3) rfl))) Via.refl e90 (wS0.ext O_90.2) (g := (mkF m 16 #[.val (.int i0), .val (.int (5 : Int32)), .unset, .unset, .unset] [(.int (0 : Int32)), (.ref b90), (.ref b90)])) rfl (hb hby at_16)
    obtain ⟨cl92, Ar92, q92, S92, M92, H92, G92⟩ := V90
    have hin92 : ¬ ((0 : Int32) < 0 ∨ cl92.slots.size ≤ ((0 : Int32)).toNatClampNeg) := inb_of S92 ⟨by decide, by decide⟩
    obtain ⟨T92, h92, X92, e92, W92, st92⟩ := stR X91 hx hZ e91 Ar92 (j := (0 : Int32)) hin92 rfl (Sto.ofV Ar92 q92 O90 (Ins.self (wE0.ext O_90.2))) (g := (mkF m 19 #[.val (.int i0), .val (.int (5 : Int32)), .unset, .unset, .unset] [(.ref w0), (.int (0 : Int32)), (.ref b90), (.ref b90)])) rfl rfl (hb hby at_19)
    have V92 : Arv Z h92 b90 k90 (.object "com/example/libgate/libgate/Impact") (4 : Int32) [(.ref w0), .null, .null, .null] .null := Arv.set Ar92 q92 S92 M92 H92 G92 rfl W92 0 rfl (Nat.le_of_ble_eq_true rfl)
    have N92 := Fr.snoc X92 N0 g_b90
    have O_92 : Old Z n0 h92 := O_90.wr W92 g_b90
    obtain ⟨T93, X93, e93, st93⟩ := getS2 X92 hx hZ hown (host := "") (Or.inl (hw _ (List.mem_of_getElem? (i := 7) rfl))) Via.refl e92 (wS1.ext O_92.2) (g := (mkF m 22 #[.val (.int i0), .val (.int (5 : Int32)), .unset, .unset, .unset] [(.int (1 : Int32)), (.ref b90), (.ref b90)])) rfl (hb hby at_22)
    obtain ⟨cl94, Ar94, q94, S94, M94, H94, G94⟩ := V92
    have hin94 : ¬ ((1 : Int32) < 0 ∨ cl94.slots.size ≤ ((1 : Int32)).toNatClampNeg) := inb_of S94 ⟨by decide, by decide⟩
    obtain ⟨T94, h94, X94, e94, W94, st94⟩ := stR X93 hx hZ e93 Ar94 (j := (1 : Int32)) hin94 rfl (Sto.ofV Ar94 q94 O90 (Ins.self (wE1.ext O_92.2))) (g := (mkF m 25 #[.val (.int i0), .val (.int (5 : Int32)), .unset, .unset, .unset] [(.ref w1), (.int (1 : Int32)), (.ref b90), (.ref b90)])) rfl rfl (hb hby at_25)
    have V94 : Arv Z h94 b90 k90 (.object "com/example/libgate/libgate/Impact") (4 : Int32) [(.ref w0), (.ref w1), .null, .null] .null := Arv.set Ar94 q94 S94 M94 H94 G94 rfl W94 1 rfl (Nat.le_of_ble_eq_true rfl)
    have N94 := Fr.snoc X94 N92 g_b90
    have O_94 : Old Z n0 h94 := O_92.wr W94 g_b90
    obtain ⟨T95, X95, e95, st95⟩ := getS2 X94 hx hZ hown (host := "") (Or.inl (hw _ (List.mem_of_getElem? (i := 9) rfl))) Via.refl e94 (wS2.ext O_94.2) (g := (mkF m 28 #[.val (.int i0), .val (.int (5 : Int32)), .unset, .unset, .unset] [(.int (2 : Int32)), (.ref b90), (.ref b90)])) rfl (hb hby at_28)
    obtain ⟨cl96, Ar96, q96, S96, M96, H96, G96⟩ := V94
    have hin96 : ¬ ((2 : Int32) < 0 ∨ cl96.slots.size ≤ ((2 : Int32)).toNatClampNeg) := inb_of S96 ⟨by decide, by decide⟩
    obtain ⟨T96, h96, X96, e96, W96, st96⟩ := stR X95 hx hZ e95 Ar96 (j := (2 : Int32)) hin96 rfl (Sto.ofV Ar96 q96 O90 (Ins.self (wE2.ext O_94.2))) (g := (mkF m 31 #[.val (.int i0), .val (.int (5 : Int32)), .unset, .unset, .unset] [(.ref w2), (.int (2 : Int32)), (.ref b90), (.ref b90)])) rfl rfl (hb hby at_31)
    have V96 : Arv Z h96 b90 k90 (.object "com/example/libgate/libgate/Impact") (4 : Int32) [(.ref w0), (.ref w1), (.ref w2), .null] .null := Arv.set Ar96 q96 S96 M96 H96 G96 rfl W96 2 rfl (Nat.le_of_ble_eq_true rfl)
    have N96 := Fr.snoc X96 N94 g_b90
    have O_96 : Old Z n0 h96 := O_94.wr W96 g_b90
    obtain ⟨T97, X97, e97, st97⟩ := getS2 X96 hx hZ hown (host := "") (Or.inl (hw _ (List.mem_of_getElem? (i := 11) rfl))) Via.refl e96 (wS3.ext O_96.2) (g := (mkF m 34 #[.val (.int i0), .val (.int (5 : Int32)), .unset, .unset, .unset] [(.int (3 : Int32)), (.ref b90), (.ref b90)])) rfl (hb hby at_34)
    obtain ⟨cl98, Ar98, q98, S98, M98, H98, G98⟩ := V96
    have hin98 : ¬ ((3 : Int32) < 0 ∨ cl98.slots.size ≤ ((3 : Int32)).toNatClampNeg) := inb_of S98 ⟨by decide, by decide⟩
    obtain ⟨T98, h98, X98, e98, W98, st98⟩ := stR X97 hx hZ e97 Ar98 (j := (3 : Int32)) hin98 rfl (Sto.ofV Ar98 q98 O90 (Ins.self (wE3.ext O_96.2))) (g := (mkF m 37 #[.val (.int i0), .val (.int (5 : Int32)), .unset, .unset, .unset] [(.ref w3), (.int (3 : Int32)), (.ref b90), (.ref b90)])) rfl rfl (hb hby at_37)
    have V98 : Arv Z h98 b90 k90 (.object "com/example/libgate/libgate/Impact") (4 : Int32) [(.ref w0), (.ref w1), (.ref w2), (.ref w3)] .null := Arv.set Ar98 q98 S98 M98 H98 G98 rfl W98 3 rfl (Nat.le_of_ble_eq_true rfl)
    have N98 := Fr.snoc X98 N96 g_b90
    have O_98 : Old Z n0 h98 := O_96.wr W98 g_b90
    obtain ⟨_, _, ⟨T99, L99, k99, n99⟩, -, X99, ⟨Lc99, hQ99, l99, y99, z99⟩, st99⟩ := Jvm.LawKit.callS X98 hx (y := (⟨"java/lang/Math", "min", "(II)I"⟩ : MethodName)) hown (mvT hZ (hw _ (List.mem_of_getElem? (i := 17) rfl))) (mvT hZ (hw _ (List.mem_of_getElem? (i := 18) rfl))) (mvT hZ (hw _ (List.mem_of_getElem? (i := 19) rfl))) (mvT hZ (hw _ (List.mem_of_getElem? (i := 20) rfl))) (by decide) (backOf (W := 0) (rm7 l Z a0 hw [] w0 w1 w2 w3 h98 n0 hWd O_98) hZ (hw _ (List.mem_of_getElem? (i := 20) rfl)) (hw _ (List.mem_of_getElem? (i := 19) rfl)) (by decide) (by decide)) (g := (mkF m 54 #[.val (.int i0), .val (.int (5 : Int32)), .val (.ref b90), .unset, .unset] [(.int (2 : Int32)), (.int (3 : Int32))])) rfl (by rw [hml]; rfl) (argsL := [(.int (3 : Int32)), (.int (2 : Int32))]) (rest := []) (lenOf pd1 rfl) rfl (by show 2 * 0 + _ ≤ _; exact Nat.le_of_eq rfl) (hb hby at_54) (fun _ _ => ⟨rfl, e98, (by decide : 1 + 0 ≤ _), (by decide : 4 + 0 ≤ _)⟩)
    dsimp only [Pt.U, Pt.locs, Pt.cells, Pt.slots] at X99 l99 y99 z99 st99 hQ99
    subst l99 y99 z99
    obtain ⟨rfl, N99q, e99⟩ := hQ99
    have N99 := Fr.app N98 N99q
    obtain ⟨_, _, ⟨T101, L101, k101, n101⟩, -, X101, ⟨Lc101, hQ101, l101, y101, z101⟩, st101⟩ := Jvm.LawKit.callS X99 hx (y := (⟨"com/example/libgate/libgate/Impact", "of", "(I)Lcom/example/libgate/libgate/Impact;"⟩ : MethodName)) hown (mvT hZ (hw _ (List.mem_of_getElem? (i := 13) rfl))) (mvT hZ (hw _ (List.mem_of_getElem? (i := 14) rfl))) (mvT hZ (hw _ (List.mem_of_getElem? (i := 4) rfl))) (mvT hZ (hw _ (List.mem_of_getElem? (i := 15) rfl))) (by decide) (backOf (W := 0) (rm9 l Z a0 hw [] w0 w1 w2 w3 h98 n0 hWd O_98) hZ (hw _ (List.mem_of_getElem? (i := 15) rfl)) (hw _ (List.mem_of_getElem? (i := 4) rfl)) (by decide) (by decide)) (g := (mkF m 59 #[.val (.int i0), .val (.int (5 : Int32)), .val (.ref b90), .val (.int (2 : Int32)), .unset] [(.int (5 : Int32))])) rfl (by rw [hml]; rfl) (argsL := [(.int (5 : Int32))]) (rest := []) (lenOf pd0 rfl) rfl (by show 2 * 0 + _ ≤ _; exact Nat.le_of_eq rfl) (hb hby at_59) (fun _ _ => ⟨rfl, e99, (by decide : 1 + 0 ≤ _), (by decide : 4 + 0 ≤ _)⟩)
    dsimp only [Pt.U, Pt.locs, Pt.cells, Pt.slots] at X101 l101 y101 z101 st101 hQ101
    subst l101 y101 z101
    obtain ⟨rfl, N101q, e101⟩ := hQ101
    have N101 := Fr.app N99 N101q
    obtain ⟨cl102, Ar102, q102, S102, M102, H102, G102⟩ := V98
    have hin102 : ¬ ((2 : Int32) < 0 ∨ cl102.slots.size ≤ ((2 : Int32)).toNatClampNeg) := inb_of S102 ⟨by decide, by decide⟩
    have hat102 : cl102.slots[((2 : Int32)).toNatClampNeg]? = some (.ref w2) := Has.at H102 hin102 rfl
    obtain ⟨fs, hr, hrun, hended, hWr, hsame⟩ := X101.leave (v := some (.int (1 : Int32))) (fun h => by rw [Bd.returns] at h; cases h)
    refine ⟨_, _, pre1 _ ?_, hrun, hended, _, _, rfl, ?_, ⟨_, rfl⟩, hWr, hsame.mono (Nat.le_of_ble_eq_true rfl) (Nat.le_of_ble_eq_true rfl)⟩
    · show Steps p.tables e below (s₁.setTop (mkF m 6 #[.val (.int i0), .unset, .unset, .unset, .unset] [(.int (12 : Int32)), (.int (i0 &&& (2147483647 : Int32)))])) _
      refine iremM X0 hx rfl (hb hby at_6) rfl (by decide) ?_
      show Steps p.tables e below (s₁.setTop (mkF m 7 #[.val (.int i0), .unset, .unset, .unset, .unset] [(.int ((i0 &&& (2147483647 : Int32)) % (12 : Int32)))])) _
      rw [hk8]
      show Steps p.tables e below (s₁.setTop (mkF m 7 #[.val (.int i0), .unset, .unset, .unset, .unset] [(.int (6 : Int32))])) _
      refine XS.iconst X0.here hx rfl (hb hby at_7) ?_
      show Steps p.tables e below (s₁.setTop (mkF m 8 #[.val (.int i0), .unset, .unset, .unset, .unset] [(.int (1 : Int32)), (.int (6 : Int32))])) _
      refine XS.isub X0.here hx rfl (hb hby at_8) rfl ?_
      show Steps p.tables e below (s₁.setTop (mkF m 9 #[.val (.int i0), .unset, .unset, .unset, .unset] [(.int ((6 : Int32) - (1 : Int32)))])) _
      rw [show ((6 : Int32) - (1 : Int32)) = (5 : Int32) from by decide]
      show Steps p.tables e below (s₁.setTop (mkF m 9 #[.val (.int i0), .unset, .unset, .unset, .unset] [(.int (5 : Int32))])) _
      refine XS.istoreN X0.here hx rfl (hb hby at_9) rfl (l' := #[.val (.int i0), .val (.int (5 : Int32)), .unset, .unset, .unset]) rfl ?_
      show Steps p.tables e below (s₁.setTop (mkF m 10 #[.val (.int i0), .val (.int (5 : Int32)), .unset, .unset, .unset] [])) _
      refine XS.iconst X0.here hx rfl (hb hby at_10) ?_
      show Steps p.tables e below (s₁.setTop (mkF m 11 #[.val (.int i0), .val (.int (5 : Int32)), .unset, .unset, .unset] [(.int (4 : Int32))])) _
      refine st90 _ ?_
      show Steps p.tables e below (T90.setTop (mkF m 14 #[.val (.int i0), .val (.int (5 : Int32)), .unset, .unset, .unset] [(.ref b90)])) _
      refine XS.dup X90.here hx rfl (hb hby at_14) rfl rfl ?_
      show Steps p.tables e below (T90.setTop (mkF m 15 #[.val (.int i0), .val (.int (5 : Int32)), .unset, .unset, .unset] [(.ref b90), (.ref b90)])) _
      refine XS.iconst X90.here hx rfl (hb hby at_15) ?_
      show Steps p.tables e below (T90.setTop (mkF m 16 #[.val (.int i0), .val (.int (5 : Int32)), .unset, .unset, .unset] [(.int (0 : Int32)), (.ref b90), (.ref b90)])) _
      refine st91 _ ?_
      show Steps p.tables e below (T91.setTop (mkF m 19 #[.val (.int i0), .val (.int (5 : Int32)), .unset, .unset, .unset] [(.ref w0), (.int (0 : Int32)), (.ref b90), (.ref b90)])) _
      refine st92 _ ?_
      show Steps p.tables e below (T92.setTop (mkF m 20 #[.val (.int i0), .val (.int (5 : Int32)), .unset, .unset, .unset] [(.ref b90)])) _
      refine XS.dup X92.here hx rfl (hb hby at_20) rfl rfl ?_
      show Steps p.tables e below (T92.setTop (mkF m 21 #[.val (.int i0), .val (.int (5 : Int32)), .unset, .unset, .unset] [(.ref b90), (.ref b90)])) _
      refine XS.iconst X92.here hx rfl (hb hby at_21) ?_
      show Steps p.tables e below (T92.setTop (mkF m 22 #[.val (.int i0), .val (.int (5 : Int32)), .unset, .unset, .unset] [(.int (1 : Int32)), (.ref b90), (.ref b90)])) _
      refine st93 _ ?_
      show Steps p.tables e below (T93.setTop (mkF m 25 #[.val (.int i0), .val (.int (5 : Int32)), .unset, .unset, .unset] [(.ref w1), (.int (1 : Int32)), (.ref b90), (.ref b90)])) _
      refine st94 _ ?_
      show Steps p.tables e below (T94.setTop (mkF m 26 #[.val (.int i0), .val (.int (5 : Int32)), .unset, .unset, .unset] [(.ref b90)])) _
      refine XS.dup X94.here hx rfl (hb hby at_26) rfl rfl ?_
      show Steps p.tables e below (T94.setTop (mkF m 27 #[.val (.int i0), .val (.int (5 : Int32)), .unset, .unset, .unset] [(.ref b90), (.ref b90)])) _
      refine XS.iconst X94.here hx rfl (hb hby at_27) ?_
      show Steps p.tables e below (T94.setTop (mkF m 28 #[.val (.int i0), .val (.int (5 : Int32)), .unset, .unset, .unset] [(.int (2 : Int32)), (.ref b90), (.ref b90)])) _
      refine st95 _ ?_
      show Steps p.tables e below (T95.setTop (mkF m 31 #[.val (.int i0), .val (.int (5 : Int32)), .unset, .unset, .unset] [(.ref w2), (.int (2 : Int32)), (.ref b90), (.ref b90)])) _
      refine st96 _ ?_
      show Steps p.tables e below (T96.setTop (mkF m 32 #[.val (.int i0), .val (.int (5 : Int32)), .unset, .unset, .unset] [(.ref b90)])) _
      refine XS.dup X96.here hx rfl (hb hby at_32) rfl rfl ?_
      show Steps p.tables e below (T96.setTop (mkF m 33 #[.val (.int i0), .val (.int (5 : Int32)), .unset, .unset, .unset] [(.ref b90), (.ref b90)])) _
      refine XS.iconst X96.here hx rfl (hb hby at_33) ?_
      show Steps p.tables e below (T96.setTop (mkF m 34 #[.val (.int i0), .val (.int (5 : Int32)), .unset, .unset, .unset] [(.int (3 : Int32)), (.ref b90), (.ref b90)])) _
      refine st97 _ ?_
      show Steps p.tables e below (T97.setTop (mkF m 37 #[.val (.int i0), .val (.int (5 : Int32)), .unset, .unset, .unset] [(.ref w3), (.int (3 : Int32)), (.ref b90), (.ref b90)])) _
      refine st98 _ ?_
      show Steps p.tables e below (T98.setTop (mkF m 38 #[.val (.int i0), .val (.int (5 : Int32)), .unset, .unset, .unset] [(.ref b90)])) _
      refine XS.astoreN X98.here hx rfl (hb hby at_38) rfl rfl (l' := #[.val (.int i0), .val (.int (5 : Int32)), .val (.ref b90), .unset, .unset]) rfl ?_
      show Steps p.tables e below (T98.setTop (mkF m 39 #[.val (.int i0), .val (.int (5 : Int32)), .val (.ref b90), .unset, .unset] [])) _
      refine XS.iloadN X98.here hx rfl (hb hby at_39) rfl ?_
      show Steps p.tables e below (T98.setTop (mkF m 40 #[.val (.int i0), .val (.int (5 : Int32)), .val (.ref b90), .unset, .unset] [(.int (5 : Int32))])) _
      refine XS.ifYes X98.here hx rfl (pc0 := 40) (pc' := 48) rfl (hb hby at_40) rfl (by decide) (by decide) (by decide) ?_
      show Steps p.tables e below (T98.setTop (mkF m 48 #[.val (.int i0), .val (.int (5 : Int32)), .val (.ref b90), .unset, .unset] [])) _
      refine XS.iconst X98.here hx rfl (hb hby at_48) ?_
      show Steps p.tables e below (T98.setTop (mkF m 49 #[.val (.int i0), .val (.int (5 : Int32)), .val (.ref b90), .unset, .unset] [(.int (3 : Int32))])) _
      refine XS.iloadN X98.here hx rfl (hb hby at_49) rfl ?_
      show Steps p.tables e below (T98.setTop (mkF m 50 #[.val (.int i0), .val (.int (5 : Int32)), .val (.ref b90), .unset, .unset] [(.int (5 : Int32)), (.int (3 : Int32))])) _
      refine XS.iconst X98.here hx rfl (hb hby at_50) ?_
      show Steps p.tables e below (T98.setTop (mkF m 51 #[.val (.int i0), .val (.int (5 : Int32)), .val (.ref b90), .unset, .unset] [(.int (2 : Int32)), (.int (5 : Int32)), (.int (3 : Int32))])) _
      refine XS.iadd X98.here hx rfl (hb hby at_51) rfl ?_
      show Steps p.tables e below (T98.setTop (mkF m 52 #[.val (.int i0), .val (.int (5 : Int32)), .val (.ref b90), .unset, .unset] [(.int ((5 : Int32) + (2 : Int32))), (.int (3 : Int32))])) _
      rw [show ((5 : Int32) + (2 : Int32)) = (7 : Int32) from by decide]
      show Steps p.tables e below (T98.setTop (mkF m 52 #[.val (.int i0), .val (.int (5 : Int32)), .val (.ref b90), .unset, .unset] [(.int (7 : Int32)), (.int (3 : Int32))])) _
      refine XS.iconst X98.here hx rfl (hb hby at_52) ?_
      show Steps p.tables e below (T98.setTop (mkF m 53 #[.val (.int i0), .val (.int (5 : Int32)), .val (.ref b90), .unset, .unset] [(.int (3 : Int32)), (.int (7 : Int32)), (.int (3 : Int32))])) _
      refine XS.idiv X98.here hx rfl (hb hby at_53) rfl (by decide) ?_
      show Steps p.tables e below (T98.setTop (mkF m 54 #[.val (.int i0), .val (.int (5 : Int32)), .val (.ref b90), .unset, .unset] [(.int ((7 : Int32) / (3 : Int32))), (.int (3 : Int32))])) _
      rw [show ((7 : Int32) / (3 : Int32)) = (2 : Int32) from by decide]
      show Steps p.tables e below (T98.setTop (mkF m 54 #[.val (.int i0), .val (.int (5 : Int32)), .val (.ref b90), .unset, .unset] [(.int (2 : Int32)), (.int (3 : Int32))])) _
      refine st99 _ ?_
      show Steps p.tables e below (T99.setTop (mkF m 57 #[.val (.int i0), .val (.int (5 : Int32)), .val (.ref b90), .unset, .unset] [(.int (2 : Int32))])) _
      refine XS.istoreN X99.here hx rfl (hb hby at_57) rfl (l' := #[.val (.int i0), .val (.int (5 : Int32)), .val (.ref b90), .val (.int (2 : Int32)), .unset]) rfl ?_
      show Steps p.tables e below (T99.setTop (mkF m 58 #[.val (.int i0), .val (.int (5 : Int32)), .val (.ref b90), .val (.int (2 : Int32)), .unset] [])) _
      refine XS.iloadN X99.here hx rfl (hb hby at_58) rfl ?_
      show Steps p.tables e below (T99.setTop (mkF m 59 #[.val (.int i0), .val (.int (5 : Int32)), .val (.ref b90), .val (.int (2 : Int32)), .unset] [(.int (5 : Int32))])) _
      refine st101 _ ?_
      show Steps p.tables e below (T101.setTop (mkF m 62 #[.val (.int i0), .val (.int (5 : Int32)), .val (.ref b90), .val (.int (2 : Int32)), .unset] [(.ref w2)])) _
      refine XS.astore X101.here hx rfl (hb hby at_62) rfl rfl (l' := #[.val (.int i0), .val (.int (5 : Int32)), .val (.ref b90), .val (.int (2 : Int32)), .val (.ref w2)]) rfl ?_
      show Steps p.tables e below (T101.setTop (mkF m 64 #[.val (.int i0), .val (.int (5 : Int32)), .val (.ref b90), .val (.int (2 : Int32)), .val (.ref w2)] [])) _
      refine XS.aload X101.here hx rfl (hb hby at_64) rfl rfl ?_
      show Steps p.tables e below (T101.setTop (mkF m 66 #[.val (.int i0), .val (.int (5 : Int32)), .val (.ref b90), .val (.int (2 : Int32)), .val (.ref w2)] [(.ref w2)])) _
      refine XS.aloadN X101.here hx rfl (hb hby at_66) rfl rfl ?_
      show Steps p.tables e below (T101.setTop (mkF m 67 #[.val (.int i0), .val (.int (5 : Int32)), .val (.ref b90), .val (.int (2 : Int32)), .val (.ref w2)] [(.ref b90), (.ref w2)])) _
      refine XS.iloadN X101.here hx rfl (hb hby at_67) rfl ?_
      show Steps p.tables e below (T101.setTop (mkF m 68 #[.val (.int i0), .val (.int (5 : Int32)), .val (.ref b90), .val (.int (2 : Int32)), .val (.ref w2)] [(.int (2 : Int32)), (.ref b90), (.ref w2)])) _
      refine X101.aaload hx (j := (2 : Int32)) (v := (.ref w2)) (by rw [e101]; exact Ar102.1) (State.isArrayOf_alike hZ.alike Ar102.2.1) rfl Ar102.2.2 hin102 hat102 (g := (mkF m 68 #[.val (.int i0), .val (.int (5 : Int32)), .val (.ref b90), .val (.int (2 : Int32)), .val (.ref w2)] [(.int (2 : Int32)), (.ref b90), (.ref w2)])) rfl rfl (hb hby at_68) _ ?_
      show Steps p.tables e below (T101.setTop (mkF m 69 #[.val (.int i0), .val (.int (5 : Int32)), .val (.ref b90), .val (.int (2 : Int32)), .val (.ref w2)] [(.ref w2), (.ref w2)])) _
      refine Jvm.RoadKit.acmp (g := (mkF m 69 #[.val (.int i0), .val (.int (5 : Int32)), .val (.ref b90), .val (.int (2 : Int32)), .val (.ref w2)] [(.ref w2), (.ref w2)])) X101 hx rfl rfl rfl (pc0 := 69) (pc' := 72) (same := true) rfl (hb hby at_69) rfl (decide_eq_true rfl) (by decide) (by decide) ?_
      show Steps p.tables e below (T101.setTop (mkF m 72 #[.val (.int i0), .val (.int (5 : Int32)), .val (.ref b90), .val (.int (2 : Int32)), .val (.ref w2)] [])) _
      refine XS.iconst X101.here hx rfl (hb hby at_72) ?_
      show Steps p.tables e below (T101.setTop (mkF m 73 #[.val (.int i0), .val (.int (5 : Int32)), .val (.ref b90), .val (.int (2 : Int32)), .val (.ref w2)] [(.int (1 : Int32))])) _
      refine XS.goto X101.here hx rfl (pc0 := 73) (pc' := 77) rfl (hb hby at_73) (by decide) (by decide) ?_
      show Steps p.tables e below (T101.setTop (mkF m 77 #[.val (.int i0), .val (.int (5 : Int32)), .val (.ref b90), .val (.int (2 : Int32)), .val (.ref w2)] [(.int (1 : Int32))])) _
      exact retN X101 hx (t := .boolean) Bd.returns (by simp) (hb hby at_77) hr
    · show Ql n0 _ T101.heap _
      exact ⟨rfl, N101⟩
  · obtain ⟨T103, h103, k103, X103, e103, E103, A103, O103, st103⟩ := newR X0 hx hZ hown (hw _ (List.mem_of_getElem? (i := 1) rfl)) (hw _ (List.mem_of_getElem? (i := 2) rfl)) e0 (g := (mkF m 11 #[.val (.int i0), .val (.int (6 : Int32)), .unset, .unset, .unset] [(.int (4 : Int32))])) rfl (hb hby at_11) rfl (by decide) (cap := 4) (by decide) (by decide) (by decide) (by decide)
    obtain ⟨b103, g103⟩ : ∃ z, z = h0.size := ⟨_, rfl⟩
    rw [← g103] at A103 st103
    have V103 : Arv Z h103 b103 k103 (.object "com/example/libgate/libgate/Impact") (4 : Int32) [.null, .null, .null, .null] .null := (Arv.new A103 (by decide)).pad (pad_rep [] .null 4)
    have g_b103 : n0 ≤ b103 := Nat.le_trans (Nat.le_trans (Nat.le_of_eq O0.1.symm) O0.2.1) (Nat.le_of_eq g103.symm)
    have O_103 : Old Z n0 h103 := O0.ext E103
    obtain ⟨T104, X104, e104, st104⟩ := getS2 X103 hx hZ hown (host := "") (Or.inl (hw _ (List.mem_of_getElem? (i := 3) rfl))) Via.refl e103 (wS0.ext O_103.2) (g := (mkF m 16 #[.val (.int i0), .val (.int (6 : Int32)), .unset, .unset, .unset] [(.int (0 : Int32)), (.ref b103), (.ref b103)])) rfl (hb hby at_16)
    obtain ⟨cl105, Ar105, q105, S105, M105, H105, G105⟩ := V103
    have hin105 : ¬ ((0 : Int32) < 0 ∨ cl105.slots.size ≤ ((0 : Int32)).toNatClampNeg) := inb_of S105 ⟨by decide, by decide⟩
    obtain ⟨T105, h105, X105, e105, W105, st105⟩ := stR X104 hx hZ e104 Ar105 (j := (0 : Int32)) hin105 rfl (Sto.ofV Ar105 q105 O103 (Ins.self (wE0.ext O_103.2))) (g := (mkF m 19 #[.val (.int i0), .val (.int (6 : Int32)), .unset, .unset, .unset] [(.ref w0), (.int (0 : Int32)), (.ref b103), (.ref b103)])) rfl rfl (hb hby at_19)
    have V105 : Arv Z h105 b103 k103 (.object "com/example/libgate/libgate/Impact") (4 : Int32) [(.ref w0), .null, .null, .null] .null := Arv.set Ar105 q105 S105 M105 H105 G105 rfl W105 0 rfl (Nat.le_of_ble_eq_true rfl)
    have N105 := Fr.snoc X105 N0 g_b103
    have O_105 : Old Z n0 h105 := O_103.wr W105 g_b103
    obtain ⟨T106, X106, e106, st106⟩ := getS2 X105 hx hZ hown (host := "") (Or.inl (hw _ (List.mem_of_getElem? (i := 7) rfl))) Via.refl e105 (wS1.ext O_105.2) (g := (mkF m 22 #[.val (.int i0), .val (.int (6 : Int32)), .unset, .unset, .unset] [(.int (1 : Int32)), (.ref b103), (.ref b103)])) rfl (hb hby at_22)
    obtain ⟨cl107, Ar107, q107, S107, M107, H107, G107⟩ := V105
    have hin107 : ¬ ((1 : Int32) < 0 ∨ cl107.slots.size ≤ ((1 : Int32)).toNatClampNeg) := inb_of S107 ⟨by decide, by decide⟩
    obtain ⟨T107, h107, X107, e107, W107, st107⟩ := stR X106 hx hZ e106 Ar107 (j := (1 : Int32)) hin107 rfl (Sto.ofV Ar107 q107 O103 (Ins.self (wE1.ext O_105.2))) (g := (mkF m 25 #[.val (.int i0), .val (.int (6 : Int32)), .unset, .unset, .unset] [(.ref w1), (.int (1 : Int32)), (.ref b103), (.ref b103)])) rfl rfl (hb hby at_25)
    have V107 : Arv Z h107 b103 k103 (.object "com/example/libgate/libgate/Impact") (4 : Int32) [(.ref w0), (.ref w1), .null, .null] .null := Arv.set Ar107 q107 S107 M107 H107 G107 rfl W107 1 rfl (Nat.le_of_ble_eq_true rfl)
    have N107 := Fr.snoc X107 N105 g_b103
    have O_107 : Old Z n0 h107 := O_105.wr W107 g_b103
    obtain ⟨T108, X108, e108, st108⟩ := getS2 X107 hx hZ hown (host := "") (Or.inl (hw _ (List.mem_of_getElem? (i := 9) rfl))) Via.refl e107 (wS2.ext O_107.2) (g := (mkF m 28 #[.val (.int i0), .val (.int (6 : Int32)), .unset, .unset, .unset] [(.int (2 : Int32)), (.ref b103), (.ref b103)])) rfl (hb hby at_28)
    obtain ⟨cl109, Ar109, q109, S109, M109, H109, G109⟩ := V107
    have hin109 : ¬ ((2 : Int32) < 0 ∨ cl109.slots.size ≤ ((2 : Int32)).toNatClampNeg) := inb_of S109 ⟨by decide, by decide⟩
    obtain ⟨T109, h109, X109, e109, W109, st109⟩ := stR X108 hx hZ e108 Ar109 (j := (2 : Int32)) hin109 rfl (Sto.ofV Ar109 q109 O103 (Ins.self (wE2.ext O_107.2))) (g := (mkF m 31 #[.val (.int i0), .val (.int (6 : Int32)), .unset, .unset, .unset] [(.ref w2), (.int (2 : Int32)), (.ref b103), (.ref b103)])) rfl rfl (hb hby at_31)
    have V109 : Arv Z h109 b103 k103 (.object "com/example/libgate/libgate/Impact") (4 : Int32) [(.ref w0), (.ref w1), (.ref w2), .null] .null := Arv.set Ar109 q109 S109 M109 H109 G109 rfl W109 2 rfl (Nat.le_of_ble_eq_true rfl)
    have N109 := Fr.snoc X109 N107 g_b103
    have O_109 : Old Z n0 h109 := O_107.wr W109 g_b103
    obtain ⟨T110, X110, e110, st110⟩ := getS2 X109 hx hZ hown (host := "") (Or.inl (hw _ (List.mem_of_getElem? (i := 11) rfl))) Via.refl e109 (wS3.ext O_109.2) (g := (mkF m 34 #[.val (.int i0), .val (.int (6 : Int32)), .unset, .unset, .unset] [(.int (3 : Int32)), (.ref b103), (.ref b103)])) rfl (hb hby at_34)
    obtain ⟨cl111, Ar111, q111, S111, M111, H111, G111⟩ := V109
    have hin111 : ¬ ((3 : Int32) < 0 ∨ cl111.slots.size ≤ ((3 : Int32)).toNatClampNeg) := inb_of S111 ⟨by decide, by decide⟩
    obtain ⟨T111, h111, X111, e111, W111, st111⟩ := stR X110 hx hZ e110 Ar111 (j := (3 : Int32)) hin111 rfl (Sto.ofV Ar111 q111 O103 (Ins.self (wE3.ext O_109.2))) (g := (mkF m 37 #[.val (.int i0), .val (.int (6 : Int32)), .unset, .unset, .unset] [(.ref w3), (.int (3 : Int32)), (.ref b103), (.ref b103)])) rfl rfl (hb hby at_37)
    have V111 : Arv Z h111 b103 k103 (.object "com/example/libgate/libgate/Impact") (4 : Int32) [(.ref w0), (.ref w1), (.ref w2), (.ref w3)] .null := Arv.set Ar111 q111 S111 M111 H111 G111 rfl W111 3 rfl (Nat.le_of_ble_eq_true rfl)
    have N111 := Fr.snoc X111 N109 g_b103
    have O_111 : Old Z n0 h111 := O_109.wr W111 g_b103
    obtain ⟨_, _, ⟨T112, L112, k112, n112⟩, -, X112, ⟨Lc112, hQ112, l112, y112, z112⟩, st112⟩ := Jvm.LawKit.callS X111 hx (y := (⟨"java/lang/Math", "min", "(II)I"⟩ : MethodName)) hown (mvT hZ (hw _ (List.mem_of_getElem? (i := 17) rfl))) (mvT hZ (hw _ (List.mem_of_getElem? (i := 18) rfl))) (mvT hZ (hw _ (List.mem_of_getElem? (i := 19) rfl))) (mvT hZ (hw _ (List.mem_of_getElem? (i := 20) rfl))) (by decide) (backOf (W := 0) (rm7 l Z a0 hw [] w0 w1 w2 w3 h111 n0 hWd O_111) hZ (hw _ (List.mem_of_getElem? (i := 20) rfl)) (hw _ (List.mem_of_getElem? (i := 19) rfl)) (by decide) (by decide)) (g := (mkF m 54 #[.val (.int i0), .val (.int (6 : Int32)), .val (.ref b103), .unset, .unset] [(.int (2 : Int32)), (.int (3 : Int32))])) rfl (by rw [hml]; rfl) (argsL := [(.int (3 : Int32)), (.int (2 : Int32))]) (rest := []) (lenOf pd1 rfl) rfl (by show 2 * 0 + _ ≤ _; exact Nat.le_of_eq rfl) (hb hby at_54) (fun _ _ => ⟨rfl, e111, (by decide : 1 + 0 ≤ _), (by decide : 4 + 0 ≤ _)⟩)
    dsimp only [Pt.U, Pt.locs, Pt.cells, Pt.slots] at X112 l112 y112 z112 st112 hQ112
    subst l112 y112 z112
    obtain ⟨rfl, N112q, e112⟩ := hQ112
    have N112 := Fr.app N111 N112q
    obtain ⟨_, _, ⟨T114, L114, k114, n114⟩, -, X114, ⟨Lc114, hQ114, l114, y114, z114⟩, st114⟩ := Jvm.LawKit.callS X112 hx (y := (⟨"com/example/libgate/libgate/Impact", "of", "(I)Lcom/example/libgate/libgate/Impact;"⟩ : MethodName)) hown (mvT hZ (hw _ (List.mem_of_getElem? (i := 13) rfl))) (mvT hZ (hw _ (List.mem_of_getElem? (i := 14) rfl))) (mvT hZ (hw _ (List.mem_of_getElem? (i := 4) rfl))) (mvT hZ (hw _ (List.mem_of_getElem? (i := 15) rfl))) (by decide) (backOf (W := 0) (rm10 l Z a0 hw [] w0 w1 w2 w3 h111 n0 hWd O_111) hZ (hw _ (List.mem_of_getElem? (i := 15) rfl)) (hw _ (List.mem_of_getElem? (i := 4) rfl)) (by decide) (by decide)) (g := (mkF m 59 #[.val (.int i0), .val (.int (6 : Int32)), .val (.ref b103), .val (.int (2 : Int32)), .unset] [(.int (6 : Int32))])) rfl (by rw [hml]; rfl) (argsL := [(.int (6 : Int32))]) (rest := []) (lenOf pd0 rfl) rfl (by show 2 * 0 + _ ≤ _; exact Nat.le_of_eq rfl) (hb hby at_59) (fun _ _ => ⟨rfl, e112, (by decide : 1 + 0 ≤ _), (by decide : 4 + 0 ≤ _)⟩)
    dsimp only [Pt.U, Pt.locs, Pt.cells, Pt.slots] at X114 l114 y114 z114 st114 hQ114
    subst l114 y114 z114
    obtain ⟨rfl, N114q, e114⟩ := hQ114
    have N114 := Fr.app N112 N114q
    obtain ⟨cl115, Ar115, q115, S115, M115, H115, G115⟩ := V111
    have hin115 : ¬ ((2 : Int32) < 0 ∨ cl115.slots.size ≤ ((2 : Int32)).toNatClampNeg) := inb_of S115 ⟨by decide, by decide⟩
    have hat115 : cl115.slots[((2 : Int32)).toNatClampNeg]? = some (.ref w2) := Has.at H115 hin115 rfl
    obtain ⟨fs, hr, hrun, hended, hWr, hsame⟩ := X114.leave (v := some (.int (1 : Int32))) (fun h => by rw [Bd.returns] at h; cases h)
    refine ⟨_, _, pre1 _ ?_, hrun, hended, _, _, rfl, ?_, ⟨_, rfl⟩, hWr, hsame.mono (Nat.le_of_ble_eq_true rfl) (Nat.le_of_ble_eq_true rfl)⟩
    · show Steps p.tables e below (s₁.setTop (mkF m 6 #[.val (.int i0), .unset, .unset, .unset, .unset] [(.int (12 : Int32)), (.int (i0 &&& (2147483647 : Int32)))])) _
      refine iremM X0 hx rfl (hb hby at_6) rfl (by decide) ?_
      show Steps p.tables e below (s₁.setTop (mkF m 7 #[.val (.int i0), .unset, .unset, .unset, .unset] [(.int ((i0 &&& (2147483647 : Int32)) % (12 : Int32)))])) _
      rw [hk9]
      show Steps p.tables e below (s₁.setTop (mkF m 7 #[.val (.int i0), .unset, .unset, .unset, .unset] [(.int (7 : Int32))])) _
      refine XS.iconst X0.here hx rfl (hb hby at_7) ?_
      show Steps p.tables e below (s₁.setTop (mkF m 8 #[.val (.int i0), .unset, .unset, .unset, .unset] [(.int (1 : Int32)), (.int (7 : Int32))])) _
      refine XS.isub X0.here hx rfl (hb hby at_8) rfl ?_
      show Steps p.tables e below (s₁.setTop (mkF m 9 #[.val (.int i0), .unset, .unset, .unset, .unset] [(.int ((7 : Int32) - (1 : Int32)))])) _
      rw [show ((7 : Int32) - (1 : Int32)) = (6 : Int32) from by decide]
      show Steps p.tables e below (s₁.setTop (mkF m 9 #[.val (.int i0), .unset, .unset, .unset, .unset] [(.int (6 : Int32))])) _
      refine XS.istoreN X0.here hx rfl (hb hby at_9) rfl (l' := #[.val (.int i0), .val (.int (6 : Int32)), .unset, .unset, .unset]) rfl ?_
      show Steps p.tables e below (s₁.setTop (mkF m 10 #[.val (.int i0), .val (.int (6 : Int32)), .unset, .unset, .unset] [])) _
      refine XS.iconst X0.here hx rfl (hb hby at_10) ?_
      show Steps p.tables e below (s₁.setTop (mkF m 11 #[.val (.int i0), .val (.int (6 : Int32)), .unset, .unset, .unset] [(.int (4 : Int32))])) _
      refine st103 _ ?_
      show Steps p.tables e below (T103.setTop (mkF m 14 #[.val (.int i0), .val (.int (6 : Int32)), .unset, .unset, .unset] [(.ref b103)])) _
      refine XS.dup X103.here hx rfl (hb hby at_14) rfl rfl ?_
      show Steps p.tables e below (T103.setTop (mkF m 15 #[.val (.int i0), .val (.int (6 : Int32)), .unset, .unset, .unset] [(.ref b103), (.ref b103)])) _
      refine XS.iconst X103.here hx rfl (hb hby at_15) ?_
      show Steps p.tables e below (T103.setTop (mkF m 16 #[.val (.int i0), .val (.int (6 : Int32)), .unset, .unset, .unset] [(.int (0 : Int32)), (.ref b103), (.ref b103)])) _
      refine st104 _ ?_
      show Steps p.tables e below (T104.setTop (mkF m 19 #[.val (.int i0), .val (.int (6 : Int32)), .unset, .unset, .unset] [(.ref w0), (.int (0 : Int32)), (.ref b103), (.ref b103)])) _
      refine st105 _ ?_
      show Steps p.tables e below (T105.setTop (mkF m 20 #[.val (.int i0), .val (.int (6 : Int32)), .unset, .unset, .unset] [(.ref b103)])) _
      refine XS.dup X105.here hx rfl (hb hby at_20) rfl rfl ?_
      show Steps p.tables e below (T105.setTop (mkF m 21 #[.val (.int i0), .val (.int (6 : Int32)), .unset, .unset, .unset] [(.ref b103), (.ref b103)])) _
      refine XS.iconst X105.here hx rfl (hb hby at_21) ?_
      show Steps p.tables e below (T105.setTop (mkF m 22 #[.val (.int i0), .val (.int (6 : Int32)), .unset, .unset, .unset] [(.int (1 : Int32)), (.ref b103), (.ref b103)])) _
      refine st106 _ ?_
      show Steps p.tables e below (T106.setTop (mkF m 25 #[.val (.int i0), .val (.int (6 : Int32)), .unset, .unset, .unset] [(.ref w1), (.int (1 : Int32)), (.ref b103), (.ref b103)])) _
      refine st107 _ ?_
      show Steps p.tables e below (T107.setTop (mkF m 26 #[.val (.int i0), .val (.int (6 : Int32)), .unset, .unset, .unset] [(.ref b103)])) _
      refine XS.dup X107.here hx rfl (hb hby at_26) rfl rfl ?_
      show Steps p.tables e below (T107.setTop (mkF m 27 #[.val (.int i0), .val (.int (6 : Int32)), .unset, .unset, .unset] [(.ref b103), (.ref b103)])) _
      refine XS.iconst X107.here hx rfl (hb hby at_27) ?_
      show Steps p.tables e below (T107.setTop (mkF m 28 #[.val (.int i0), .val (.int (6 : Int32)), .unset, .unset, .unset] [(.int (2 : Int32)), (.ref b103), (.ref b103)])) _
      refine st108 _ ?_
      show Steps p.tables e below (T108.setTop (mkF m 31 #[.val (.int i0), .val (.int (6 : Int32)), .unset, .unset, .unset] [(.ref w2), (.int (2 : Int32)), (.ref b103), (.ref b103)])) _
      refine st109 _ ?_
      show Steps p.tables e below (T109.setTop (mkF m 32 #[.val (.int i0), .val (.int (6 : Int32)), .unset, .unset, .unset] [(.ref b103)])) _
      refine XS.dup X109.here hx rfl (hb hby at_32) rfl rfl ?_
      show Steps p.tables e below (T109.setTop (mkF m 33 #[.val (.int i0), .val (.int (6 : Int32)), .unset, .unset, .unset] [(.ref b103), (.ref b103)])) _
      refine XS.iconst X109.here hx rfl (hb hby at_33) ?_
      show Steps p.tables e below (T109.setTop (mkF m 34 #[.val (.int i0), .val (.int (6 : Int32)), .unset, .unset, .unset] [(.int (3 : Int32)), (.ref b103), (.ref b103)])) _
      refine st110 _ ?_
      show Steps p.tables e below (T110.setTop (mkF m 37 #[.val (.int i0), .val (.int (6 : Int32)), .unset, .unset, .unset] [(.ref w3), (.int (3 : Int32)), (.ref b103), (.ref b103)])) _
      refine st111 _ ?_
      show Steps p.tables e below (T111.setTop (mkF m 38 #[.val (.int i0), .val (.int (6 : Int32)), .unset, .unset, .unset] [(.ref b103)])) _
      refine XS.astoreN X111.here hx rfl (hb hby at_38) rfl rfl (l' := #[.val (.int i0), .val (.int (6 : Int32)), .val (.ref b103), .unset, .unset]) rfl ?_
      show Steps p.tables e below (T111.setTop (mkF m 39 #[.val (.int i0), .val (.int (6 : Int32)), .val (.ref b103), .unset, .unset] [])) _
      refine XS.iloadN X111.here hx rfl (hb hby at_39) rfl ?_
      show Steps p.tables e below (T111.setTop (mkF m 40 #[.val (.int i0), .val (.int (6 : Int32)), .val (.ref b103), .unset, .unset] [(.int (6 : Int32))])) _
      refine XS.ifYes X111.here hx rfl (pc0 := 40) (pc' := 48) rfl (hb hby at_40) rfl (by decide) (by decide) (by decide) ?_
      show Steps p.tables e below (T111.setTop (mkF m 48 #[.val (.int i0), .val (.int (6 : Int32)), .val (.ref b103), .unset, .unset] [])) _
      refine XS.iconst X111.here hx rfl (hb hby at_48) ?_
      show Steps p.tables e below (T111.setTop (mkF m 49 #[.val (.int i0), .val (.int (6 : Int32)), .val (.ref b103), .unset, .unset] [(.int (3 : Int32))])) _
      refine XS.iloadN X111.here hx rfl (hb hby at_49) rfl ?_
      show Steps p.tables e below (T111.setTop (mkF m 50 #[.val (.int i0), .val (.int (6 : Int32)), .val (.ref b103), .unset, .unset] [(.int (6 : Int32)), (.int (3 : Int32))])) _
      refine XS.iconst X111.here hx rfl (hb hby at_50) ?_
      show Steps p.tables e below (T111.setTop (mkF m 51 #[.val (.int i0), .val (.int (6 : Int32)), .val (.ref b103), .unset, .unset] [(.int (2 : Int32)), (.int (6 : Int32)), (.int (3 : Int32))])) _
      refine XS.iadd X111.here hx rfl (hb hby at_51) rfl ?_
      show Steps p.tables e below (T111.setTop (mkF m 52 #[.val (.int i0), .val (.int (6 : Int32)), .val (.ref b103), .unset, .unset] [(.int ((6 : Int32) + (2 : Int32))), (.int (3 : Int32))])) _
      rw [show ((6 : Int32) + (2 : Int32)) = (8 : Int32) from by decide]
      show Steps p.tables e below (T111.setTop (mkF m 52 #[.val (.int i0), .val (.int (6 : Int32)), .val (.ref b103), .unset, .unset] [(.int (8 : Int32)), (.int (3 : Int32))])) _
      refine XS.iconst X111.here hx rfl (hb hby at_52) ?_
      show Steps p.tables e below (T111.setTop (mkF m 53 #[.val (.int i0), .val (.int (6 : Int32)), .val (.ref b103), .unset, .unset] [(.int (3 : Int32)), (.int (8 : Int32)), (.int (3 : Int32))])) _
      refine XS.idiv X111.here hx rfl (hb hby at_53) rfl (by decide) ?_
      show Steps p.tables e below (T111.setTop (mkF m 54 #[.val (.int i0), .val (.int (6 : Int32)), .val (.ref b103), .unset, .unset] [(.int ((8 : Int32) / (3 : Int32))), (.int (3 : Int32))])) _
      rw [show ((8 : Int32) / (3 : Int32)) = (2 : Int32) from by decide]
      show Steps p.tables e below (T111.setTop (mkF m 54 #[.val (.int i0), .val (.int (6 : Int32)), .val (.ref b103), .unset, .unset] [(.int (2 : Int32)), (.int (3 : Int32))])) _
      refine st112 _ ?_
      show Steps p.tables e below (T112.setTop (mkF m 57 #[.val (.int i0), .val (.int (6 : Int32)), .val (.ref b103), .unset, .unset] [(.int (2 : Int32))])) _
      refine XS.istoreN X112.here hx rfl (hb hby at_57) rfl (l' := #[.val (.int i0), .val (.int (6 : Int32)), .val (.ref b103), .val (.int (2 : Int32)), .unset]) rfl ?_
      show Steps p.tables e below (T112.setTop (mkF m 58 #[.val (.int i0), .val (.int (6 : Int32)), .val (.ref b103), .val (.int (2 : Int32)), .unset] [])) _
      refine XS.iloadN X112.here hx rfl (hb hby at_58) rfl ?_
      show Steps p.tables e below (T112.setTop (mkF m 59 #[.val (.int i0), .val (.int (6 : Int32)), .val (.ref b103), .val (.int (2 : Int32)), .unset] [(.int (6 : Int32))])) _
      refine st114 _ ?_
      show Steps p.tables e below (T114.setTop (mkF m 62 #[.val (.int i0), .val (.int (6 : Int32)), .val (.ref b103), .val (.int (2 : Int32)), .unset] [(.ref w2)])) _
      refine XS.astore X114.here hx rfl (hb hby at_62) rfl rfl (l' := #[.val (.int i0), .val (.int (6 : Int32)), .val (.ref b103), .val (.int (2 : Int32)), .val (.ref w2)]) rfl ?_
      show Steps p.tables e below (T114.setTop (mkF m 64 #[.val (.int i0), .val (.int (6 : Int32)), .val (.ref b103), .val (.int (2 : Int32)), .val (.ref w2)] [])) _
      refine XS.aload X114.here hx rfl (hb hby at_64) rfl rfl ?_
      show Steps p.tables e below (T114.setTop (mkF m 66 #[.val (.int i0), .val (.int (6 : Int32)), .val (.ref b103), .val (.int (2 : Int32)), .val (.ref w2)] [(.ref w2)])) _
      refine XS.aloadN X114.here hx rfl (hb hby at_66) rfl rfl ?_
      show Steps p.tables e below (T114.setTop (mkF m 67 #[.val (.int i0), .val (.int (6 : Int32)), .val (.ref b103), .val (.int (2 : Int32)), .val (.ref w2)] [(.ref b103), (.ref w2)])) _
      refine XS.iloadN X114.here hx rfl (hb hby at_67) rfl ?_
      show Steps p.tables e below (T114.setTop (mkF m 68 #[.val (.int i0), .val (.int (6 : Int32)), .val (.ref b103), .val (.int (2 : Int32)), .val (.ref w2)] [(.int (2 : Int32)), (.ref b103), (.ref w2)])) _
      refine X114.aaload hx (j := (2 : Int32)) (v := (.ref w2)) (by rw [e114]; exact Ar115.1) (State.isArrayOf_alike hZ.alike Ar115.2.1) rfl Ar115.2.2 hin115 hat115 (g := (mkF m 68 #[.val (.int i0), .val (.int (6 : Int32)), .val (.ref b103), .val (.int (2 : Int32)), .val (.ref w2)] [(.int (2 : Int32)), (.ref b103), (.ref w2)])) rfl rfl (hb hby at_68) _ ?_
      show Steps p.tables e below (T114.setTop (mkF m 69 #[.val (.int i0), .val (.int (6 : Int32)), .val (.ref b103), .val (.int (2 : Int32)), .val (.ref w2)] [(.ref w2), (.ref w2)])) _
      refine Jvm.RoadKit.acmp (g := (mkF m 69 #[.val (.int i0), .val (.int (6 : Int32)), .val (.ref b103), .val (.int (2 : Int32)), .val (.ref w2)] [(.ref w2), (.ref w2)])) X114 hx rfl rfl rfl (pc0 := 69) (pc' := 72) (same := true) rfl (hb hby at_69) rfl (decide_eq_true rfl) (by decide) (by decide) ?_
      show Steps p.tables e below (T114.setTop (mkF m 72 #[.val (.int i0), .val (.int (6 : Int32)), .val (.ref b103), .val (.int (2 : Int32)), .val (.ref w2)] [])) _
      refine XS.iconst X114.here hx rfl (hb hby at_72) ?_
      show Steps p.tables e below (T114.setTop (mkF m 73 #[.val (.int i0), .val (.int (6 : Int32)), .val (.ref b103), .val (.int (2 : Int32)), .val (.ref w2)] [(.int (1 : Int32))])) _
      refine XS.goto X114.here hx rfl (pc0 := 73) (pc' := 77) rfl (hb hby at_73) (by decide) (by decide) ?_
      show Steps p.tables e below (T114.setTop (mkF m 77 #[.val (.int i0), .val (.int (6 : Int32)), .val (.ref b103), .val (.int (2 : Int32)), .val (.ref w2)] [(.int (1 : Int32))])) _
      exact retN X114 hx (t := .boolean) Bd.returns (by simp) (hb hby at_77) hr
    · show Ql n0 _ T114.heap _
      exact ⟨rfl, N114⟩
  · obtain ⟨T116, h116, k116, X116, e116, E116, A116, O116, st116⟩ := newR X0 hx hZ hown (hw _ (List.mem_of_getElem? (i := 1) rfl)) (hw _ (List.mem_of_getElem? (i := 2) rfl)) e0 (g := (mkF m 11 #[.val (.int i0), .val (.int (7 : Int32)), .unset, .unset, .unset] [(.int (4 : Int32))])) rfl (hb hby at_11) rfl (by decide) (cap := 4) (by decide) (by decide) (by decide) (by decide)
    obtain ⟨b116, g116⟩ : ∃ z, z = h0.size := ⟨_, rfl⟩
    rw [← g116] at A116 st116
    have V116 : Arv Z h116 b116 k116 (.object "com/example/libgate/libgate/Impact") (4 : Int32) [.null, .null, .null, .null] .null := (Arv.new A116 (by decide)).pad (pad_rep [] .null 4)
    have g_b116 : n0 ≤ b116 := Nat.le_trans (Nat.le_trans (Nat.le_of_eq O0.1.symm) O0.2.1) (Nat.le_of_eq g116.symm)
    have O_116 : Old Z n0 h116 := O0.ext E116
    obtain ⟨T117, X117, e117, st117⟩ := getS2 X116 hx hZ hown (host := "") (Or.inl (hw _ (List.mem_of_getElem? (i := 3) rfl))) Via.refl e116 (wS0.ext O_116.2) (g := (mkF m 16 #[.val (.int i0), .val (.int (7 : Int32)), .unset, .unset, .unset] [(.int (0 : Int32)), (.ref b116), (.ref b116)])) rfl (hb hby at_16)
    obtain ⟨cl118, Ar118, q118, S118, M118, H118, G118⟩ := V116
    have hin118 : ¬ ((0 : Int32) < 0 ∨ cl118.slots.size ≤ ((0 : Int32)).toNatClampNeg) := inb_of S118 ⟨by decide, by decide⟩
    obtain ⟨T118, h118, X118, e118, W118, st118⟩ := stR X117 hx hZ e117 Ar118 (j := (0 : Int32)) hin118 rfl (Sto.ofV Ar118 q118 O116 (Ins.self (wE0.ext O_116.2))) (g := (mkF m 19 #[.val (.int i0), .val (.int (7 : Int32)), .unset, .unset, .unset] [(.ref w0), (.int (0 : Int32)), (.ref b116), (.ref b116)])) rfl rfl (hb hby at_19)
    have V118 : Arv Z h118 b116 k116 (.object "com/example/libgate/libgate/Impact") (4 : Int32) [(.ref w0), .null, .null, .null] .null := Arv.set Ar118 q118 S118 M118 H118 G118 rfl W118 0 rfl (Nat.le_of_ble_eq_true rfl)
    have N118 := Fr.snoc X118 N0 g_b116
    have O_118 : Old Z n0 h118 := O_116.wr W118 g_b116
    obtain ⟨T119, X119, e119, st119⟩ := getS2 X118 hx hZ hown (host := "") (Or.inl (hw _ (List.mem_of_getElem? (i := 7) rfl))) Via.refl e118 (wS1.ext O_118.2) (g := (mkF m 22 #[.val (.int i0), .val (.int (7 : Int32)), .unset, .unset, .unset] [(.int (1 : Int32)), (.ref b116), (.ref b116)])) rfl (hb hby at_22)
    obtain ⟨cl120, Ar120, q120, S120, M120, H120, G120⟩ := V118
    have hin120 : ¬ ((1 : Int32) < 0 ∨ cl120.slots.size ≤ ((1 : Int32)).toNatClampNeg) := inb_of S120 ⟨by decide, by decide⟩
    obtain ⟨T120, h120, X120, e120, W120, st120⟩ := stR X119 hx hZ e119 Ar120 (j := (1 : Int32)) hin120 rfl (Sto.ofV Ar120 q120 O116 (Ins.self (wE1.ext O_118.2))) (g := (mkF m 25 #[.val (.int i0), .val (.int (7 : Int32)), .unset, .unset, .unset] [(.ref w1), (.int (1 : Int32)), (.ref b116), (.ref b116)])) rfl rfl (hb hby at_25)
    have V120 : Arv Z h120 b116 k116 (.object "com/example/libgate/libgate/Impact") (4 : Int32) [(.ref w0), (.ref w1), .null, .null] .null := Arv.set Ar120 q120 S120 M120 H120 G120 rfl W120 1 rfl (Nat.le_of_ble_eq_true rfl)
    have N120 := Fr.snoc X120 N118 g_b116
    have O_120 : Old Z n0 h120 := O_118.wr W120 g_b116
    obtain ⟨T121, X121, e121, st121⟩ := getS2 X120 hx hZ hown (host := "") (Or.inl (hw _ (List.mem_of_getElem? (i := 9) rfl))) Via.refl e120 (wS2.ext O_120.2) (g := (mkF m 28 #[.val (.int i0), .val (.int (7 : Int32)), .unset, .unset, .unset] [(.int (2 : Int32)), (.ref b116), (.ref b116)])) rfl (hb hby at_28)
    obtain ⟨cl122, Ar122, q122, S122, M122, H122, G122⟩ := V120
    have hin122 : ¬ ((2 : Int32) < 0 ∨ cl122.slots.size ≤ ((2 : Int32)).toNatClampNeg) := inb_of S122 ⟨by decide, by decide⟩
    obtain ⟨T122, h122, X122, e122, W122, st122⟩ := stR X121 hx hZ e121 Ar122 (j := (2 : Int32)) hin122 rfl (Sto.ofV Ar122 q122 O116 (Ins.self (wE2.ext O_120.2))) (g := (mkF m 31 #[.val (.int i0), .val (.int (7 : Int32)), .unset, .unset, .unset] [(.ref w2), (.int (2 : Int32)), (.ref b116), (.ref b116)])) rfl rfl (hb hby at_31)
    have V122 : Arv Z h122 b116 k116 (.object "com/example/libgate/libgate/Impact") (4 : Int32) [(.ref w0), (.ref w1), (.ref w2), .null] .null := Arv.set Ar122 q122 S122 M122 H122 G122 rfl W122 2 rfl (Nat.le_of_ble_eq_true rfl)
    have N122 := Fr.snoc X122 N120 g_b116
    have O_122 : Old Z n0 h122 := O_120.wr W122 g_b116
    obtain ⟨T123, X123, e123, st123⟩ := getS2 X122 hx hZ hown (host := "") (Or.inl (hw _ (List.mem_of_getElem? (i := 11) rfl))) Via.refl e122 (wS3.ext O_122.2) (g := (mkF m 34 #[.val (.int i0), .val (.int (7 : Int32)), .unset, .unset, .unset] [(.int (3 : Int32)), (.ref b116), (.ref b116)])) rfl (hb hby at_34)
    obtain ⟨cl124, Ar124, q124, S124, M124, H124, G124⟩ := V122
    have hin124 : ¬ ((3 : Int32) < 0 ∨ cl124.slots.size ≤ ((3 : Int32)).toNatClampNeg) := inb_of S124 ⟨by decide, by decide⟩
    obtain ⟨T124, h124, X124, e124, W124, st124⟩ := stR X123 hx hZ e123 Ar124 (j := (3 : Int32)) hin124 rfl (Sto.ofV Ar124 q124 O116 (Ins.self (wE3.ext O_122.2))) (g := (mkF m 37 #[.val (.int i0), .val (.int (7 : Int32)), .unset, .unset, .unset] [(.ref w3), (.int (3 : Int32)), (.ref b116), (.ref b116)])) rfl rfl (hb hby at_37)
    have V124 : Arv Z h124 b116 k116 (.object "com/example/libgate/libgate/Impact") (4 : Int32) [(.ref w0), (.ref w1), (.ref w2), (.ref w3)] .null := Arv.set Ar124 q124 S124 M124 H124 G124 rfl W124 3 rfl (Nat.le_of_ble_eq_true rfl)
    have N124 := Fr.snoc X124 N122 g_b116
    have O_124 : Old Z n0 h124 := O_122.wr W124 g_b116
    obtain ⟨_, _, ⟨T125, L125, k125, n125⟩, -, X125, ⟨Lc125, hQ125, l125, y125, z125⟩, st125⟩ := Jvm.LawKit.callS X124 hx (y := (⟨"java/lang/Math", "min", "(II)I"⟩ : MethodName)) hown (mvT hZ (hw _ (List.mem_of_getElem? (i := 17) rfl))) (mvT hZ (hw _ (List.mem_of_getElem? (i := 18) rfl))) (mvT hZ (hw _ (List.mem_of_getElem? (i := 19) rfl))) (mvT hZ (hw _ (List.mem_of_getElem? (i := 20) rfl))) (by decide) (backOf (W := 0) (rm11 l Z a0 hw [] w0 w1 w2 w3 h124 n0 hWd O_124) hZ (hw _ (List.mem_of_getElem? (i := 20) rfl)) (hw _ (List.mem_of_getElem? (i := 19) rfl)) (by decide) (by decide)) (g := (mkF m 54 #[.val (.int i0), .val (.int (7 : Int32)), .val (.ref b116), .unset, .unset] [(.int (3 : Int32)), (.int (3 : Int32))])) rfl (by rw [hml]; rfl) (argsL := [(.int (3 : Int32)), (.int (3 : Int32))]) (rest := []) (lenOf pd1 rfl) rfl (by show 2 * 0 + _ ≤ _; exact Nat.le_of_eq rfl) (hb hby at_54) (fun _ _ => ⟨rfl, e124, (by decide : 1 + 0 ≤ _), (by decide : 4 + 0 ≤ _)⟩)
    dsimp only [Pt.U, Pt.locs, Pt.cells, Pt.slots] at X125 l125 y125 z125 st125 hQ125
    subst l125 y125 z125
    obtain ⟨rfl, N125q, e125⟩ := hQ125
    have N125 := Fr.app N124 N125q
    obtain ⟨_, _, ⟨T127, L127, k127, n127⟩, -, X127, ⟨Lc127, hQ127, l127, y127, z127⟩, st127⟩ := Jvm.LawKit.callS X125 hx (y := (⟨"com/example/libgate/libgate/Impact", "of", "(I)Lcom/example/libgate/libgate/Impact;"⟩ : MethodName)) hown (mvT hZ (hw _ (List.mem_of_getElem? (i := 13) rfl))) (mvT hZ (hw _ (List.mem_of_getElem? (i := 14) rfl))) (mvT hZ (hw _ (List.mem_of_getElem? (i := 4) rfl))) (mvT hZ (hw _ (List.mem_of_getElem? (i := 15) rfl))) (by decide) (backOf (W := 0) (rm12 l Z a0 hw [] w0 w1 w2 w3 h124 n0 hWd O_124) hZ (hw _ (List.mem_of_getElem? (i := 15) rfl)) (hw _ (List.mem_of_getElem? (i := 4) rfl)) (by decide) (by decide)) (g := (mkF m 59 #[.val (.int i0), .val (.int (7 : Int32)), .val (.ref b116), .val (.int (3 : Int32)), .unset] [(.int (7 : Int32))])) rfl (by rw [hml]; rfl) (argsL := [(.int (7 : Int32))]) (rest := []) (lenOf pd0 rfl) rfl (by show 2 * 0 + _ ≤ _; exact Nat.le_of_eq rfl) (hb hby at_59) (fun _ _ => ⟨rfl, e125, (by decide : 1 + 0 ≤ _), (by decide : 4 + 0 ≤ _)⟩)
    dsimp only [Pt.U, Pt.locs, Pt.cells, Pt.slots] at X127 l127 y127 z127 st127 hQ127
    subst l127 y127 z127
    obtain ⟨rfl, N127q, e127⟩ := hQ127
    have N127 := Fr.app N125 N127q
    obtain ⟨cl128, Ar128, q128, S128, M128, H128, G128⟩ := V124
    have hin128 : ¬ ((3 : Int32) < 0 ∨ cl128.slots.size ≤ ((3 : Int32)).toNatClampNeg) := inb_of S128 ⟨by decide, by decide⟩
    have hat128 : cl128.slots[((3 : Int32)).toNatClampNeg]? = some (.ref w3) := Has.at H128 hin128 rfl
    obtain ⟨fs, hr, hrun, hended, hWr, hsame⟩ := X127.leave (v := some (.int (1 : Int32))) (fun h => by rw [Bd.returns] at h; cases h)
    refine ⟨_, _, pre1 _ ?_, hrun, hended, _, _, rfl, ?_, ⟨_, rfl⟩, hWr, hsame.mono (Nat.le_of_ble_eq_true rfl) (Nat.le_of_ble_eq_true rfl)⟩
    · show Steps p.tables e below (s₁.setTop (mkF m 6 #[.val (.int i0), .unset, .unset, .unset, .unset] [(.int (12 : Int32)), (.int (i0 &&& (2147483647 : Int32)))])) _
      refine iremM X0 hx rfl (hb hby at_6) rfl (by decide) ?_
      show Steps p.tables e below (s₁.setTop (mkF m 7 #[.val (.int i0), .unset, .unset, .unset, .unset] [(.int ((i0 &&& (2147483647 : Int32)) % (12 : Int32)))])) _
      rw [hk10]
      show Steps p.tables e below (s₁.setTop (mkF m 7 #[.val (.int i0), .unset, .unset, .unset, .unset] [(.int (8 : Int32))])) _
      refine XS.iconst X0.here hx rfl (hb hby at_7) ?_
      show Steps p.tables e below (s₁.setTop (mkF m 8 #[.val (.int i0), .unset, .unset, .unset, .unset] [(.int (1 : Int32)), (.int (8 : Int32))])) _
      refine XS.isub X0.here hx rfl (hb hby at_8) rfl ?_
      show Steps p.tables e below (s₁.setTop (mkF m 9 #[.val (.int i0), .unset, .unset, .unset, .unset] [(.int ((8 : Int32) - (1 : Int32)))])) _
      rw [show ((8 : Int32) - (1 : Int32)) = (7 : Int32) from by decide]
      show Steps p.tables e below (s₁.setTop (mkF m 9 #[.val (.int i0), .unset, .unset, .unset, .unset] [(.int (7 : Int32))])) _
      refine XS.istoreN X0.here hx rfl (hb hby at_9) rfl (l' := #[.val (.int i0), .val (.int (7 : Int32)), .unset, .unset, .unset]) rfl ?_
      show Steps p.tables e below (s₁.setTop (mkF m 10 #[.val (.int i0), .val (.int (7 : Int32)), .unset, .unset, .unset] [])) _
      refine XS.iconst X0.here hx rfl (hb hby at_10) ?_
      show Steps p.tables e below (s₁.setTop (mkF m 11 #[.val (.int i0), .val (.int (7 : Int32)), .unset, .unset, .unset] [(.int (4 : Int32))])) _
      refine st116 _ ?_
      show Steps p.tables e below (T116.setTop (mkF m 14 #[.val (.int i0), .val (.int (7 : Int32)), .unset, .unset, .unset] [(.ref b116)])) _
      refine XS.dup X116.here hx rfl (hb hby at_14) rfl rfl ?_
      show Steps p.tables e below (T116.setTop (mkF m 15 #[.val (.int i0), .val (.int (7 : Int32)), .unset, .unset, .unset] [(.ref b116), (.ref b116)])) _
      refine XS.iconst X116.here hx rfl (hb hby at_15) ?_
      show Steps p.tables e below (T116.setTop (mkF m 16 #[.val (.int i0), .val (.int (7 : Int32)), .unset, .unset, .unset] [(.int (0 : Int32)), (.ref b116), (.ref b116)])) _
      refine st117 _ ?_
      show Steps p.tables e below (T117.setTop (mkF m 19 #[.val (.int i0), .val (.int (7 : Int32)), .unset, .unset, .unset] [(.ref w0), (.int (0 : Int32)), (.ref b116), (.ref b116)])) _
      refine st118 _ ?_
      show Steps p.tables e below (T118.setTop (mkF m 20 #[.val (.int i0), .val (.int (7 : Int32)), .unset, .unset, .unset] [(.ref b116)])) _
      refine XS.dup X118.here hx rfl (hb hby at_20) rfl rfl ?_
      show Steps p.tables e below (T118.setTop (mkF m 21 #[.val (.int i0), .val (.int (7 : Int32)), .unset, .unset, .unset] [(.ref b116), (.ref b116)])) _
      refine XS.iconst X118.here hx rfl (hb hby at_21) ?_
      show Steps p.tables e below (T118.setTop (mkF m 22 #[.val (.int i0), .val (.int (7 : Int32)), .unset, .unset, .unset] [(.int (1 : Int32)), (.ref b116), (.ref b116)])) _
      refine st119 _ ?_
      show Steps p.tables e below (T119.setTop (mkF m 25 #[.val (.int i0), .val (.int (7 : Int32)), .unset, .unset, .unset] [(.ref w1), (.int (1 : Int32)), (.ref b116), (.ref b116)])) _
      refine st120 _ ?_
      show Steps p.tables e below (T120.setTop (mkF m 26 #[.val (.int i0), .val (.int (7 : Int32)), .unset, .unset, .unset] [(.ref b116)])) _
      refine XS.dup X120.here hx rfl (hb hby at_26) rfl rfl ?_
      show Steps p.tables e below (T120.setTop (mkF m 27 #[.val (.int i0), .val (.int (7 : Int32)), .unset, .unset, .unset] [(.ref b116), (.ref b116)])) _
      refine XS.iconst X120.here hx rfl (hb hby at_27) ?_
      show Steps p.tables e below (T120.setTop (mkF m 28 #[.val (.int i0), .val (.int (7 : Int32)), .unset, .unset, .unset] [(.int (2 : Int32)), (.ref b116), (.ref b116)])) _
      refine st121 _ ?_
      show Steps p.tables e below (T121.setTop (mkF m 31 #[.val (.int i0), .val (.int (7 : Int32)), .unset, .unset, .unset] [(.ref w2), (.int (2 : Int32)), (.ref b116), (.ref b116)])) _
      refine st122 _ ?_
      show Steps p.tables e below (T122.setTop (mkF m 32 #[.val (.int i0), .val (.int (7 : Int32)), .unset, .unset, .unset] [(.ref b116)])) _
      refine XS.dup X122.here hx rfl (hb hby at_32) rfl rfl ?_
      show Steps p.tables e below (T122.setTop (mkF m 33 #[.val (.int i0), .val (.int (7 : Int32)), .unset, .unset, .unset] [(.ref b116), (.ref b116)])) _
      refine XS.iconst X122.here hx rfl (hb hby at_33) ?_
      show Steps p.tables e below (T122.setTop (mkF m 34 #[.val (.int i0), .val (.int (7 : Int32)), .unset, .unset, .unset] [(.int (3 : Int32)), (.ref b116), (.ref b116)])) _
      refine st123 _ ?_
      show Steps p.tables e below (T123.setTop (mkF m 37 #[.val (.int i0), .val (.int (7 : Int32)), .unset, .unset, .unset] [(.ref w3), (.int (3 : Int32)), (.ref b116), (.ref b116)])) _
      refine st124 _ ?_
      show Steps p.tables e below (T124.setTop (mkF m 38 #[.val (.int i0), .val (.int (7 : Int32)), .unset, .unset, .unset] [(.ref b116)])) _
      refine XS.astoreN X124.here hx rfl (hb hby at_38) rfl rfl (l' := #[.val (.int i0), .val (.int (7 : Int32)), .val (.ref b116), .unset, .unset]) rfl ?_
      show Steps p.tables e below (T124.setTop (mkF m 39 #[.val (.int i0), .val (.int (7 : Int32)), .val (.ref b116), .unset, .unset] [])) _
      refine XS.iloadN X124.here hx rfl (hb hby at_39) rfl ?_
      show Steps p.tables e below (T124.setTop (mkF m 40 #[.val (.int i0), .val (.int (7 : Int32)), .val (.ref b116), .unset, .unset] [(.int (7 : Int32))])) _
      refine XS.ifYes X124.here hx rfl (pc0 := 40) (pc' := 48) rfl (hb hby at_40) rfl (by decide) (by decide) (by decide) ?_
      show Steps p.tables e below (T124.setTop (mkF m 48 #[.val (.int i0), .val (.int (7 : Int32)), .val (.ref b116), .unset, .unset] [])) _
      refine XS.iconst X124.here hx rfl (hb hby at_48) ?_
      show Steps p.tables e below (T124.setTop (mkF m 49 #[.val (.int i0), .val (.int (7 : Int32)), .val (.ref b116), .unset, .unset] [(.int (3 : Int32))])) _
      refine XS.iloadN X124.here hx rfl (hb hby at_49) rfl ?_
      show Steps p.tables e below (T124.setTop (mkF m 50 #[.val (.int i0), .val (.int (7 : Int32)), .val (.ref b116), .unset, .unset] [(.int (7 : Int32)), (.int (3 : Int32))])) _
      refine XS.iconst X124.here hx rfl (hb hby at_50) ?_
      show Steps p.tables e below (T124.setTop (mkF m 51 #[.val (.int i0), .val (.int (7 : Int32)), .val (.ref b116), .unset, .unset] [(.int (2 : Int32)), (.int (7 : Int32)), (.int (3 : Int32))])) _
      refine XS.iadd X124.here hx rfl (hb hby at_51) rfl ?_
      show Steps p.tables e below (T124.setTop (mkF m 52 #[.val (.int i0), .val (.int (7 : Int32)), .val (.ref b116), .unset, .unset] [(.int ((7 : Int32) + (2 : Int32))), (.int (3 : Int32))])) _
      rw [show ((7 : Int32) + (2 : Int32)) = (9 : Int32) from by decide]
      show Steps p.tables e below (T124.setTop (mkF m 52 #[.val (.int i0), .val (.int (7 : Int32)), .val (.ref b116), .unset, .unset] [(.int (9 : Int32)), (.int (3 : Int32))])) _
      refine XS.iconst X124.here hx rfl (hb hby at_52) ?_
      show Steps p.tables e below (T124.setTop (mkF m 53 #[.val (.int i0), .val (.int (7 : Int32)), .val (.ref b116), .unset, .unset] [(.int (3 : Int32)), (.int (9 : Int32)), (.int (3 : Int32))])) _
      refine XS.idiv X124.here hx rfl (hb hby at_53) rfl (by decide) ?_
      show Steps p.tables e below (T124.setTop (mkF m 54 #[.val (.int i0), .val (.int (7 : Int32)), .val (.ref b116), .unset, .unset] [(.int ((9 : Int32) / (3 : Int32))), (.int (3 : Int32))])) _
      rw [show ((9 : Int32) / (3 : Int32)) = (3 : Int32) from by decide]
      show Steps p.tables e below (T124.setTop (mkF m 54 #[.val (.int i0), .val (.int (7 : Int32)), .val (.ref b116), .unset, .unset] [(.int (3 : Int32)), (.int (3 : Int32))])) _
      refine st125 _ ?_
      show Steps p.tables e below (T125.setTop (mkF m 57 #[.val (.int i0), .val (.int (7 : Int32)), .val (.ref b116), .unset, .unset] [(.int (3 : Int32))])) _
      refine XS.istoreN X125.here hx rfl (hb hby at_57) rfl (l' := #[.val (.int i0), .val (.int (7 : Int32)), .val (.ref b116), .val (.int (3 : Int32)), .unset]) rfl ?_
      show Steps p.tables e below (T125.setTop (mkF m 58 #[.val (.int i0), .val (.int (7 : Int32)), .val (.ref b116), .val (.int (3 : Int32)), .unset] [])) _
      refine XS.iloadN X125.here hx rfl (hb hby at_58) rfl ?_
      show Steps p.tables e below (T125.setTop (mkF m 59 #[.val (.int i0), .val (.int (7 : Int32)), .val (.ref b116), .val (.int (3 : Int32)), .unset] [(.int (7 : Int32))])) _
      refine st127 _ ?_
      show Steps p.tables e below (T127.setTop (mkF m 62 #[.val (.int i0), .val (.int (7 : Int32)), .val (.ref b116), .val (.int (3 : Int32)), .unset] [(.ref w3)])) _
      refine XS.astore X127.here hx rfl (hb hby at_62) rfl rfl (l' := #[.val (.int i0), .val (.int (7 : Int32)), .val (.ref b116), .val (.int (3 : Int32)), .val (.ref w3)]) rfl ?_
      show Steps p.tables e below (T127.setTop (mkF m 64 #[.val (.int i0), .val (.int (7 : Int32)), .val (.ref b116), .val (.int (3 : Int32)), .val (.ref w3)] [])) _
      refine XS.aload X127.here hx rfl (hb hby at_64) rfl rfl ?_
      show Steps p.tables e below (T127.setTop (mkF m 66 #[.val (.int i0), .val (.int (7 : Int32)), .val (.ref b116), .val (.int (3 : Int32)), .val (.ref w3)] [(.ref w3)])) _
      refine XS.aloadN X127.here hx rfl (hb hby at_66) rfl rfl ?_
      show Steps p.tables e below (T127.setTop (mkF m 67 #[.val (.int i0), .val (.int (7 : Int32)), .val (.ref b116), .val (.int (3 : Int32)), .val (.ref w3)] [(.ref b116), (.ref w3)])) _
      refine XS.iloadN X127.here hx rfl (hb hby at_67) rfl ?_
      show Steps p.tables e below (T127.setTop (mkF m 68 #[.val (.int i0), .val (.int (7 : Int32)), .val (.ref b116), .val (.int (3 : Int32)), .val (.ref w3)] [(.int (3 : Int32)), (.ref b116), (.ref w3)])) _
      refine X127.aaload hx (j := (3 : Int32)) (v := (.ref w3)) (by rw [e127]; exact Ar128.1) (State.isArrayOf_alike hZ.alike Ar128.2.1) rfl Ar128.2.2 hin128 hat128 (g := (mkF m 68 #[.val (.int i0), .val (.int (7 : Int32)), .val (.ref b116), .val (.int (3 : Int32)), .val (.ref w3)] [(.int (3 : Int32)), (.ref b116), (.ref w3)])) rfl rfl (hb hby at_68) _ ?_
      show Steps p.tables e below (T127.setTop (mkF m 69 #[.val (.int i0), .val (.int (7 : Int32)), .val (.ref b116), .val (.int (3 : Int32)), .val (.ref w3)] [(.ref w3), (.ref w3)])) _
      refine Jvm.RoadKit.acmp (g := (mkF m 69 #[.val (.int i0), .val (.int (7 : Int32)), .val (.ref b116), .val (.int (3 : Int32)), .val (.ref w3)] [(.ref w3), (.ref w3)])) X127 hx rfl rfl rfl (pc0 := 69) (pc' := 72) (same := true) rfl (hb hby at_69) rfl (decide_eq_true rfl) (by decide) (by decide) ?_
      show Steps p.tables e below (T127.setTop (mkF m 72 #[.val (.int i0), .val (.int (7 : Int32)), .val (.ref b116), .val (.int (3 : Int32)), .val (.ref w3)] [])) _
      refine XS.iconst X127.here hx rfl (hb hby at_72) ?_
      show Steps p.tables e below (T127.setTop (mkF m 73 #[.val (.int i0), .val (.int (7 : Int32)), .val (.ref b116), .val (.int (3 : Int32)), .val (.ref w3)] [(.int (1 : Int32))])) _
      refine XS.goto X127.here hx rfl (pc0 := 73) (pc' := 77) rfl (hb hby at_73) (by decide) (by decide) ?_
      show Steps p.tables e below (T127.setTop (mkF m 77 #[.val (.int i0), .val (.int (7 : Int32)), .val (.ref b116), .val (.int (3 : Int32)), .val (.ref w3)] [(.int (1 : Int32))])) _
      exact retN X127 hx (t := .boolean) Bd.returns (by simp) (hb hby at_77) hr
    · show Ql n0 _ T127.heap _
      exact ⟨rfl, N127⟩
  · obtain ⟨T129, h129, k129, X129, e129, E129, A129, O129, st129⟩ := newR X0 hx hZ hown (hw _ (List.mem_of_getElem? (i := 1) rfl)) (hw _ (List.mem_of_getElem? (i := 2) rfl)) e0 (g := (mkF m 11 #[.val (.int i0), .val (.int (8 : Int32)), .unset, .unset, .unset] [(.int (4 : Int32))])) rfl (hb hby at_11) rfl (by decide) (cap := 4) (by decide) (by decide) (by decide) (by decide)
    obtain ⟨b129, g129⟩ : ∃ z, z = h0.size := ⟨_, rfl⟩
    rw [← g129] at A129 st129
    have V129 : Arv Z h129 b129 k129 (.object "com/example/libgate/libgate/Impact") (4 : Int32) [.null, .null, .null, .null] .null := (Arv.new A129 (by decide)).pad (pad_rep [] .null 4)
    have g_b129 : n0 ≤ b129 := Nat.le_trans (Nat.le_trans (Nat.le_of_eq O0.1.symm) O0.2.1) (Nat.le_of_eq g129.symm)
    have O_129 : Old Z n0 h129 := O0.ext E129
    obtain ⟨T130, X130, e130, st130⟩ := getS2 X129 hx hZ hown (host := "") (Or.inl (hw _ (List.mem_of_getElem? (i := 3) rfl))) Via.refl e129 (wS0.ext O_129.2) (g := (mkF m 16 #[.val (.int i0), .val (.int (8 : Int32)), .unset, .unset, .unset] [(.int (0 : Int32)), (.ref b129), (.ref b129)])) rfl (hb hby at_16)
    obtain ⟨cl131, Ar131, q131, S131, M131, H131, G131⟩ := V129
    have hin131 : ¬ ((0 : Int32) < 0 ∨ cl131.slots.size ≤ ((0 : Int32)).toNatClampNeg) := inb_of S131 ⟨by decide, by decide⟩
    obtain ⟨T131, h131, X131, e131, W131, st131⟩ := stR X130 hx hZ e130 Ar131 (j := (0 : Int32)) hin131 rfl (Sto.ofV Ar131 q131 O129 (Ins.self (wE0.ext O_129.2))) (g := (mkF m 19 #[.val (.int i0), .val (.int (8 : Int32)), .unset, .unset, .unset] [(.ref w0), (.int (0 : Int32)), (.ref b129), (.ref b129)])) rfl rfl (hb hby at_19)
    have V131 : Arv Z h131 b129 k129 (.object "com/example/libgate/libgate/Impact") (4 : Int32) [(.ref w0), .null, .null, .null] .null := Arv.set Ar131 q131 S131 M131 H131 G131 rfl W131 0 rfl (Nat.le_of_ble_eq_true rfl)
    have N131 := Fr.snoc X131 N0 g_b129
    have O_131 : Old Z n0 h131 := O_129.wr W131 g_b129
    obtain ⟨T132, X132, e132, st132⟩ := getS2 X131 hx hZ hown (host := "") (Or.inl (hw _ (List.mem_of_getElem? (i := 7) rfl))) Via.refl e131 (wS1.ext O_131.2) (g := (mkF m 22 #[.val (.int i0), .val (.int (8 : Int32)), .unset, .unset, .unset] [(.int (1 : Int32)), (.ref b129), (.ref b129)])) rfl (hb hby at_22)
    obtain ⟨cl133, Ar133, q133, S133, M133, H133, G133⟩ := V131
    have hin133 : ¬ ((1 : Int32) < 0 ∨ cl133.slots.size ≤ ((1 : Int32)).toNatClampNeg) := inb_of S133 ⟨by decide, by decide⟩
    obtain ⟨T133, h133, X133, e133, W133, st133⟩ := stR X132 hx hZ e132 Ar133 (j := (1 : Int32)) hin133 rfl (Sto.ofV Ar133 q133 O129 (Ins.self (wE1.ext O_131.2))) (g := (mkF m 25 #[.val (.int i0), .val (.int (8 : Int32)), .unset, .unset, .unset] [(.ref w1), (.int (1 : Int32)), (.ref b129), (.ref b129)])) rfl rfl (hb hby at_25)
    have V133 : Arv Z h133 b129 k129 (.object "com/example/libgate/libgate/Impact") (4 : Int32) [(.ref w0), (.ref w1), .null, .null] .null := Arv.set Ar133 q133 S133 M133 H133 G133 rfl W133 1 rfl (Nat.le_of_ble_eq_true rfl)
    have N133 := Fr.snoc X133 N131 g_b129
    have O_133 : Old Z n0 h133 := O_131.wr W133 g_b129
    obtain ⟨T134, X134, e134, st134⟩ := getS2 X133 hx hZ hown (host := "") (Or.inl (hw _ (List.mem_of_getElem? (i := 9) rfl))) Via.refl e133 (wS2.ext O_133.2) (g := (mkF m 28 #[.val (.int i0), .val (.int (8 : Int32)), .unset, .unset, .unset] [(.int (2 : Int32)), (.ref b129), (.ref b129)])) rfl (hb hby at_28)
    obtain ⟨cl135, Ar135, q135, S135, M135, H135, G135⟩ := V133
    have hin135 : ¬ ((2 : Int32) < 0 ∨ cl135.slots.size ≤ ((2 : Int32)).toNatClampNeg) := inb_of S135 ⟨by decide, by decide⟩
    obtain ⟨T135, h135, X135, e135, W135, st135⟩ := stR X134 hx hZ e134 Ar135 (j := (2 : Int32)) hin135 rfl (Sto.ofV Ar135 q135 O129 (Ins.self (wE2.ext O_133.2))) (g := (mkF m 31 #[.val (.int i0), .val (.int (8 : Int32)), .unset, .unset, .unset] [(.ref w2), (.int (2 : Int32)), (.ref b129), (.ref b129)])) rfl rfl (hb hby at_31)
    have V135 : Arv Z h135 b129 k129 (.object "com/example/libgate/libgate/Impact") (4 : Int32) [(.ref w0), (.ref w1), (.ref w2), .null] .null := Arv.set Ar135 q135 S135 M135 H135 G135 rfl W135 2 rfl (Nat.le_of_ble_eq_true rfl)
    have N135 := Fr.snoc X135 N133 g_b129
    have O_135 : Old Z n0 h135 := O_133.wr W135 g_b129
    obtain ⟨T136, X136, e136, st136⟩ := getS2 X135 hx hZ hown (host := "") (Or.inl (hw _ (List.mem_of_getElem? (i := 11) rfl))) Via.refl e135 (wS3.ext O_135.2) (g := (mkF m 34 #[.val (.int i0), .val (.int (8 : Int32)), .unset, .unset, .unset] [(.int (3 : Int32)), (.ref b129), (.ref b129)])) rfl (hb hby at_34)
    obtain ⟨cl137, Ar137, q137, S137, M137, H137, G137⟩ := V135
    have hin137 : ¬ ((3 : Int32) < 0 ∨ cl137.slots.size ≤ ((3 : Int32)).toNatClampNeg) := inb_of S137 ⟨by decide, by decide⟩
    obtain ⟨T137, h137, X137, e137, W137, st137⟩ := stR X136 hx hZ e136 Ar137 (j := (3 : Int32)) hin137 rfl (Sto.ofV Ar137 q137 O129 (Ins.self (wE3.ext O_135.2))) (g := (mkF m 37 #[.val (.int i0), .val (.int (8 : Int32)), .unset, .unset, .unset] [(.ref w3), (.int (3 : Int32)), (.ref b129), (.ref b129)])) rfl rfl (hb hby at_37)
    have V137 : Arv Z h137 b129 k129 (.object "com/example/libgate/libgate/Impact") (4 : Int32) [(.ref w0), (.ref w1), (.ref w2), (.ref w3)] .null := Arv.set Ar137 q137 S137 M137 H137 G137 rfl W137 3 rfl (Nat.le_of_ble_eq_true rfl)
    have N137 := Fr.snoc X137 N135 g_b129
    have O_137 : Old Z n0 h137 := O_135.wr W137 g_b129
    obtain ⟨_, _, ⟨T138, L138, k138, n138⟩, -, X138, ⟨Lc138, hQ138, l138, y138, z138⟩, st138⟩ := Jvm.LawKit.callS X137 hx (y := (⟨"java/lang/Math", "min", "(II)I"⟩ : MethodName)) hown (mvT hZ (hw _ (List.mem_of_getElem? (i := 17) rfl))) (mvT hZ (hw _ (List.mem_of_getElem? (i := 18) rfl))) (mvT hZ (hw _ (List.mem_of_getElem? (i := 19) rfl))) (mvT hZ (hw _ (List.mem_of_getElem? (i := 20) rfl))) (by decide) (backOf (W := 0) (rm11 l Z a0 hw [] w0 w1 w2 w3 h137 n0 hWd O_137) hZ (hw _ (List.mem_of_getElem? (i := 20) rfl)) (hw _ (List.mem_of_getElem? (i := 19) rfl)) (by decide) (by decide)) (g := (mkF m 54 #[.val (.int i0), .val (.int (8 : Int32)), .val (.ref b129), .unset, .unset] [(.int (3 : Int32)), (.int (3 : Int32))])) rfl (by rw [hml]; rfl) (argsL := [(.int (3 : Int32)), (.int (3 : Int32))]) (rest := []) (lenOf pd1 rfl) rfl (by show 2 * 0 + _ ≤ _; exact Nat.le_of_eq rfl) (hb hby at_54) (fun _ _ => ⟨rfl, e137, (by decide : 1 + 0 ≤ _), (by decide : 4 + 0 ≤ _)⟩)
    dsimp only [Pt.U, Pt.locs, Pt.cells, Pt.slots] at X138 l138 y138 z138 st138 hQ138
    subst l138 y138 z138
    obtain ⟨rfl, N138q, e138⟩ := hQ138
    have N138 := Fr.app N137 N138q
    obtain ⟨_, _, ⟨T140, L140, k140, n140⟩, -, X140, ⟨Lc140, hQ140, l140, y140, z140⟩, st140⟩ := Jvm.LawKit.callS X138 hx (y := (⟨"com/example/libgate/libgate/Impact", "of", "(I)Lcom/example/libgate/libgate/Impact;"⟩ : MethodName)) hown (mvT hZ (hw _ (List.mem_of_getElem? (i := 13) rfl))) (mvT hZ (hw _ (List.mem_of_getElem? (i := 14) rfl))) (mvT hZ (hw _ (List.mem_of_getElem? (i := 4) rfl))) (mvT hZ (hw _ (List.mem_of_getElem? (i := 15) rfl))) (by decide) (backOf (W := 0) (rm13 l Z a0 hw [] w0 w1 w2 w3 h137 n0 hWd O_137) hZ (hw _ (List.mem_of_getElem? (i := 15) rfl)) (hw _ (List.mem_of_getElem? (i := 4) rfl)) (by decide) (by decide)) (g := (mkF m 59 #[.val (.int i0), .val (.int (8 : Int32)), .val (.ref b129), .val (.int (3 : Int32)), .unset] [(.int (8 : Int32))])) rfl (by rw [hml]; rfl) (argsL := [(.int (8 : Int32))]) (rest := []) (lenOf pd0 rfl) rfl (by show 2 * 0 + _ ≤ _; exact Nat.le_of_eq rfl) (hb hby at_59) (fun _ _ => ⟨rfl, e138, (by decide : 1 + 0 ≤ _), (by decide : 4 + 0 ≤ _)⟩)
    dsimp only [Pt.U, Pt.locs, Pt.cells, Pt.slots] at X140 l140 y140 z140 st140 hQ140
    subst l140 y140 z140
    obtain ⟨rfl, N140q, e140⟩ := hQ140
    have N140 := Fr.app N138 N140q
    obtain ⟨cl141, Ar141, q141, S141, M141, H141, G141⟩ := V137
    have hin141 : ¬ ((3 : Int32) < 0 ∨ cl141.slots.size ≤ ((3 : Int32)).toNatClampNeg) := inb_of S141 ⟨by decide, by decide⟩
    have hat141 : cl141.slots[((3 : Int32)).toNatClampNeg]? = some (.ref w3) := Has.at H141 hin141 rfl
    obtain ⟨fs, hr, hrun, hended, hWr, hsame⟩ := X140.leave (v := some (.int (1 : Int32))) (fun h => by rw [Bd.returns] at h; cases h)
    refine ⟨_, _, pre1 _ ?_, hrun, hended, _, _, rfl, ?_, ⟨_, rfl⟩, hWr, hsame.mono (Nat.le_of_ble_eq_true rfl) (Nat.le_of_ble_eq_true rfl)⟩
    · show Steps p.tables e below (s₁.setTop (mkF m 6 #[.val (.int i0), .unset, .unset, .unset, .unset] [(.int (12 : Int32)), (.int (i0 &&& (2147483647 : Int32)))])) _
      refine iremM X0 hx rfl (hb hby at_6) rfl (by decide) ?_
      show Steps p.tables e below (s₁.setTop (mkF m 7 #[.val (.int i0), .unset, .unset, .unset, .unset] [(.int ((i0 &&& (2147483647 : Int32)) % (12 : Int32)))])) _
      rw [hk11]
      show Steps p.tables e below (s₁.setTop (mkF m 7 #[.val (.int i0), .unset, .unset, .unset, .unset] [(.int (9 : Int32))])) _
      refine XS.iconst X0.here hx rfl (hb hby at_7) ?_
      show Steps p.tables e below (s₁.setTop (mkF m 8 #[.val (.int i0), .unset, .unset, .unset, .unset] [(.int (1 : Int32)), (.int (9 : Int32))])) _
      refine XS.isub X0.here hx rfl (hb hby at_8) rfl ?_
      show Steps p.tables e below (s₁.setTop (mkF m 9 #[.val (.int i0), .unset, .unset, .unset, .unset] [(.int ((9 : Int32) - (1 : Int32)))])) _
      rw [show ((9 : Int32) - (1 : Int32)) = (8 : Int32) from by decide]
      show Steps p.tables e below (s₁.setTop (mkF m 9 #[.val (.int i0), .unset, .unset, .unset, .unset] [(.int (8 : Int32))])) _
      refine XS.istoreN X0.here hx rfl (hb hby at_9) rfl (l' := #[.val (.int i0), .val (.int (8 : Int32)), .unset, .unset, .unset]) rfl ?_
      show Steps p.tables e below (s₁.setTop (mkF m 10 #[.val (.int i0), .val (.int (8 : Int32)), .unset, .unset, .unset] [])) _
      refine XS.iconst X0.here hx rfl (hb hby at_10) ?_
      show Steps p.tables e below (s₁.setTop (mkF m 11 #[.val (.int i0), .val (.int (8 : Int32)), .unset, .unset, .unset] [(.int (4 : Int32))])) _
      refine st129 _ ?_
      show Steps p.tables e below (T129.setTop (mkF m 14 #[.val (.int i0), .val (.int (8 : Int32)), .unset, .unset, .unset] [(.ref b129)])) _
      refine XS.dup X129.here hx rfl (hb hby at_14) rfl rfl ?_
      show Steps p.tables e below (T129.setTop (mkF m 15 #[.val (.int i0), .val (.int (8 : Int32)), .unset, .unset, .unset] [(.ref b129), (.ref b129)])) _
      refine XS.iconst X129.here hx rfl (hb hby at_15) ?_
      show Steps p.tables e below (T129.setTop (mkF m 16 #[.val (.int i0), .val (.int (8 : Int32)), .unset, .unset, .unset] [(.int (0 : Int32)), (.ref b129), (.ref b129)])) _
      refine st130 _ ?_
      show Steps p.tables e below (T130.setTop (mkF m 19 #[.val (.int i0), .val (.int (8 : Int32)), .unset, .unset, .unset] [(.ref w0), (.int (0 : Int32)), (.ref b129), (.ref b129)])) _
      refine st131 _ ?_
      show Steps p.tables e below (T131.setTop (mkF m 20 #[.val (.int i0), .val (.int (8 : Int32)), .unset, .unset, .unset] [(.ref b129)])) _
      refine XS.dup X131.here hx rfl (hb hby at_20) rfl rfl ?_
      show Steps p.tables e below (T131.setTop (mkF m 21 #[.val (.int i0), .val (.int (8 : Int32)), .unset, .unset, .unset] [(.ref b129), (.ref b129)])) _
      refine XS.iconst X131.here hx rfl (hb hby at_21) ?_
      show Steps p.tables e below (T131.setTop (mkF m 22 #[.val (.int i0), .val (.int (8 : Int32)), .unset, .unset, .unset] [(.int (1 : Int32)), (.ref b129), (.ref b129)])) _
      refine st132 _ ?_
      show Steps p.tables e below (T132.setTop (mkF m 25 #[.val (.int i0), .val (.int (8 : Int32)), .unset, .unset, .unset] [(.ref w1), (.int (1 : Int32)), (.ref b129), (.ref b129)])) _
      refine st133 _ ?_
      show Steps p.tables e below (T133.setTop (mkF m 26 #[.val (.int i0), .val (.int (8 : Int32)), .unset, .unset, .unset] [(.ref b129)])) _
      refine XS.dup X133.here hx rfl (hb hby at_26) rfl rfl ?_
      show Steps p.tables e below (T133.setTop (mkF m 27 #[.val (.int i0), .val (.int (8 : Int32)), .unset, .unset, .unset] [(.ref b129), (.ref b129)])) _
      refine XS.iconst X133.here hx rfl (hb hby at_27) ?_
      show Steps p.tables e below (T133.setTop (mkF m 28 #[.val (.int i0), .val (.int (8 : Int32)), .unset, .unset, .unset] [(.int (2 : Int32)), (.ref b129), (.ref b129)])) _
      refine st134 _ ?_
      show Steps p.tables e below (T134.setTop (mkF m 31 #[.val (.int i0), .val (.int (8 : Int32)), .unset, .unset, .unset] [(.ref w2), (.int (2 : Int32)), (.ref b129), (.ref b129)])) _
      refine st135 _ ?_
      show Steps p.tables e below (T135.setTop (mkF m 32 #[.val (.int i0), .val (.int (8 : Int32)), .unset, .unset, .unset] [(.ref b129)])) _
      refine XS.dup X135.here hx rfl (hb hby at_32) rfl rfl ?_
      show Steps p.tables e below (T135.setTop (mkF m 33 #[.val (.int i0), .val (.int (8 : Int32)), .unset, .unset, .unset] [(.ref b129), (.ref b129)])) _
      refine XS.iconst X135.here hx rfl (hb hby at_33) ?_
      show Steps p.tables e below (T135.setTop (mkF m 34 #[.val (.int i0), .val (.int (8 : Int32)), .unset, .unset, .unset] [(.int (3 : Int32)), (.ref b129), (.ref b129)])) _
      refine st136 _ ?_
      show Steps p.tables e below (T136.setTop (mkF m 37 #[.val (.int i0), .val (.int (8 : Int32)), .unset, .unset, .unset] [(.ref w3), (.int (3 : Int32)), (.ref b129), (.ref b129)])) _
      refine st137 _ ?_
      show Steps p.tables e below (T137.setTop (mkF m 38 #[.val (.int i0), .val (.int (8 : Int32)), .unset, .unset, .unset] [(.ref b129)])) _
      refine XS.astoreN X137.here hx rfl (hb hby at_38) rfl rfl (l' := #[.val (.int i0), .val (.int (8 : Int32)), .val (.ref b129), .unset, .unset]) rfl ?_
      show Steps p.tables e below (T137.setTop (mkF m 39 #[.val (.int i0), .val (.int (8 : Int32)), .val (.ref b129), .unset, .unset] [])) _
      refine XS.iloadN X137.here hx rfl (hb hby at_39) rfl ?_
      show Steps p.tables e below (T137.setTop (mkF m 40 #[.val (.int i0), .val (.int (8 : Int32)), .val (.ref b129), .unset, .unset] [(.int (8 : Int32))])) _
      refine XS.ifYes X137.here hx rfl (pc0 := 40) (pc' := 48) rfl (hb hby at_40) rfl (by decide) (by decide) (by decide) ?_
      show Steps p.tables e below (T137.setTop (mkF m 48 #[.val (.int i0), .val (.int (8 : Int32)), .val (.ref b129), .unset, .unset] [])) _
      refine XS.iconst X137.here hx rfl (hb hby at_48) ?_
      show Steps p.tables e below (T137.setTop (mkF m 49 #[.val (.int i0), .val (.int (8 : Int32)), .val (.ref b129), .unset, .unset] [(.int (3 : Int32))])) _
      refine XS.iloadN X137.here hx rfl (hb hby at_49) rfl ?_
      show Steps p.tables e below (T137.setTop (mkF m 50 #[.val (.int i0), .val (.int (8 : Int32)), .val (.ref b129), .unset, .unset] [(.int (8 : Int32)), (.int (3 : Int32))])) _
      refine XS.iconst X137.here hx rfl (hb hby at_50) ?_
      show Steps p.tables e below (T137.setTop (mkF m 51 #[.val (.int i0), .val (.int (8 : Int32)), .val (.ref b129), .unset, .unset] [(.int (2 : Int32)), (.int (8 : Int32)), (.int (3 : Int32))])) _
      refine XS.iadd X137.here hx rfl (hb hby at_51) rfl ?_
      show Steps p.tables e below (T137.setTop (mkF m 52 #[.val (.int i0), .val (.int (8 : Int32)), .val (.ref b129), .unset, .unset] [(.int ((8 : Int32) + (2 : Int32))), (.int (3 : Int32))])) _
      rw [show ((8 : Int32) + (2 : Int32)) = (10 : Int32) from by decide]
      show Steps p.tables e below (T137.setTop (mkF m 52 #[.val (.int i0), .val (.int (8 : Int32)), .val (.ref b129), .unset, .unset] [(.int (10 : Int32)), (.int (3 : Int32))])) _
      refine XS.iconst X137.here hx rfl (hb hby at_52) ?_
      show Steps p.tables e below (T137.setTop (mkF m 53 #[.val (.int i0), .val (.int (8 : Int32)), .val (.ref b129), .unset, .unset] [(.int (3 : Int32)), (.int (10 : Int32)), (.int (3 : Int32))])) _
      refine XS.idiv X137.here hx rfl (hb hby at_53) rfl (by decide) ?_
      show Steps p.tables e below (T137.setTop (mkF m 54 #[.val (.int i0), .val (.int (8 : Int32)), .val (.ref b129), .unset, .unset] [(.int ((10 : Int32) / (3 : Int32))), (.int (3 : Int32))])) _
      rw [show ((10 : Int32) / (3 : Int32)) = (3 : Int32) from by decide]
      show Steps p.tables e below (T137.setTop (mkF m 54 #[.val (.int i0), .val (.int (8 : Int32)), .val (.ref b129), .unset, .unset] [(.int (3 : Int32)), (.int (3 : Int32))])) _
      refine st138 _ ?_
      show Steps p.tables e below (T138.setTop (mkF m 57 #[.val (.int i0), .val (.int (8 : Int32)), .val (.ref b129), .unset, .unset] [(.int (3 : Int32))])) _
      refine XS.istoreN X138.here hx rfl (hb hby at_57) rfl (l' := #[.val (.int i0), .val (.int (8 : Int32)), .val (.ref b129), .val (.int (3 : Int32)), .unset]) rfl ?_
      show Steps p.tables e below (T138.setTop (mkF m 58 #[.val (.int i0), .val (.int (8 : Int32)), .val (.ref b129), .val (.int (3 : Int32)), .unset] [])) _
      refine XS.iloadN X138.here hx rfl (hb hby at_58) rfl ?_
      show Steps p.tables e below (T138.setTop (mkF m 59 #[.val (.int i0), .val (.int (8 : Int32)), .val (.ref b129), .val (.int (3 : Int32)), .unset] [(.int (8 : Int32))])) _
      refine st140 _ ?_
      show Steps p.tables e below (T140.setTop (mkF m 62 #[.val (.int i0), .val (.int (8 : Int32)), .val (.ref b129), .val (.int (3 : Int32)), .unset] [(.ref w3)])) _
      refine XS.astore X140.here hx rfl (hb hby at_62) rfl rfl (l' := #[.val (.int i0), .val (.int (8 : Int32)), .val (.ref b129), .val (.int (3 : Int32)), .val (.ref w3)]) rfl ?_
      show Steps p.tables e below (T140.setTop (mkF m 64 #[.val (.int i0), .val (.int (8 : Int32)), .val (.ref b129), .val (.int (3 : Int32)), .val (.ref w3)] [])) _
      refine XS.aload X140.here hx rfl (hb hby at_64) rfl rfl ?_
      show Steps p.tables e below (T140.setTop (mkF m 66 #[.val (.int i0), .val (.int (8 : Int32)), .val (.ref b129), .val (.int (3 : Int32)), .val (.ref w3)] [(.ref w3)])) _
      refine XS.aloadN X140.here hx rfl (hb hby at_66) rfl rfl ?_
      show Steps p.tables e below (T140.setTop (mkF m 67 #[.val (.int i0), .val (.int (8 : Int32)), .val (.ref b129), .val (.int (3 : Int32)), .val (.ref w3)] [(.ref b129), (.ref w3)])) _
      refine XS.iloadN X140.here hx rfl (hb hby at_67) rfl ?_
      show Steps p.tables e below (T140.setTop (mkF m 68 #[.val (.int i0), .val (.int (8 : Int32)), .val (.ref b129), .val (.int (3 : Int32)), .val (.ref w3)] [(.int (3 : Int32)), (.ref b129), (.ref w3)])) _
      refine X140.aaload hx (j := (3 : Int32)) (v := (.ref w3)) (by rw [e140]; exact Ar141.1) (State.isArrayOf_alike hZ.alike Ar141.2.1) rfl Ar141.2.2 hin141 hat141 (g := (mkF m 68 #[.val (.int i0), .val (.int (8 : Int32)), .val (.ref b129), .val (.int (3 : Int32)), .val (.ref w3)] [(.int (3 : Int32)), (.ref b129), (.ref w3)])) rfl rfl (hb hby at_68) _ ?_
      show Steps p.tables e below (T140.setTop (mkF m 69 #[.val (.int i0), .val (.int (8 : Int32)), .val (.ref b129), .val (.int (3 : Int32)), .val (.ref w3)] [(.ref w3), (.ref w3)])) _
      refine Jvm.RoadKit.acmp (g := (mkF m 69 #[.val (.int i0), .val (.int (8 : Int32)), .val (.ref b129), .val (.int (3 : Int32)), .val (.ref w3)] [(.ref w3), (.ref w3)])) X140 hx rfl rfl rfl (pc0 := 69) (pc' := 72) (same := true) rfl (hb hby at_69) rfl (decide_eq_true rfl) (by decide) (by decide) ?_
      show Steps p.tables e below (T140.setTop (mkF m 72 #[.val (.int i0), .val (.int (8 : Int32)), .val (.ref b129), .val (.int (3 : Int32)), .val (.ref w3)] [])) _
      refine XS.iconst X140.here hx rfl (hb hby at_72) ?_
      show Steps p.tables e below (T140.setTop (mkF m 73 #[.val (.int i0), .val (.int (8 : Int32)), .val (.ref b129), .val (.int (3 : Int32)), .val (.ref w3)] [(.int (1 : Int32))])) _
      refine XS.goto X140.here hx rfl (pc0 := 73) (pc' := 77) rfl (hb hby at_73) (by decide) (by decide) ?_
      show Steps p.tables e below (T140.setTop (mkF m 77 #[.val (.int i0), .val (.int (8 : Int32)), .val (.ref b129), .val (.int (3 : Int32)), .val (.ref w3)] [(.int (1 : Int32))])) _
      exact retN X140 hx (t := .boolean) Bd.returns (by simp) (hb hby at_77) hr
    · show Ql n0 _ T140.heap _
      exact ⟨rfl, N140⟩
  · obtain ⟨T142, h142, k142, X142, e142, E142, A142, O142, st142⟩ := newR X0 hx hZ hown (hw _ (List.mem_of_getElem? (i := 1) rfl)) (hw _ (List.mem_of_getElem? (i := 2) rfl)) e0 (g := (mkF m 11 #[.val (.int i0), .val (.int (9 : Int32)), .unset, .unset, .unset] [(.int (4 : Int32))])) rfl (hb hby at_11) rfl (by decide) (cap := 4) (by decide) (by decide) (by decide) (by decide)
    obtain ⟨b142, g142⟩ : ∃ z, z = h0.size := ⟨_, rfl⟩
    rw [← g142] at A142 st142
    have V142 : Arv Z h142 b142 k142 (.object "com/example/libgate/libgate/Impact") (4 : Int32) [.null, .null, .null, .null] .null := (Arv.new A142 (by decide)).pad (pad_rep [] .null 4)
    have g_b142 : n0 ≤ b142 := Nat.le_trans (Nat.le_trans (Nat.le_of_eq O0.1.symm) O0.2.1) (Nat.le_of_eq g142.symm)
    have O_142 : Old Z n0 h142 := O0.ext E142
    obtain ⟨T143, X143, e143, st143⟩ := getS2 X142 hx hZ hown (host := "") (Or.inl (hw _ (List.mem_of_getElem? (i := 3) rfl))) Via.refl e142 (wS0.ext O_142.2) (g := (mkF m 16 #[.val (.int i0), .val (.int (9 : Int32)), .unset, .unset, .unset] [(.int (0 : Int32)), (.ref b142), (.ref b142)])) rfl (hb hby at_16)
    obtain ⟨cl144, Ar144, q144, S144, M144, H144, G144⟩ := V142
    have hin144 : ¬ ((0 : Int32) < 0 ∨ cl144.slots.size ≤ ((0 : Int32)).toNatClampNeg) := inb_of S144 ⟨by decide, by decide⟩
    obtain ⟨T144, h144, X144, e144, W144, st144⟩ := stR X143 hx hZ e143 Ar144 (j := (0 : Int32)) hin144 rfl (Sto.ofV Ar144 q144 O142 (Ins.self (wE0.ext O_142.2))) (g := (mkF m 19 #[.val (.int i0), .val (.int (9 : Int32)), .unset, .unset, .unset] [(.ref w0), (.int (0 : Int32)), (.ref b142), (.ref b142)])) rfl rfl (hb hby at_19)
    have V144 : Arv Z h144 b142 k142 (.object "com/example/libgate/libgate/Impact") (4 : Int32) [(.ref w0), .null, .null, .null] .null := Arv.set Ar144 q144 S144 M144 H144 G144 rfl W144 0 rfl (Nat.le_of_ble_eq_true rfl)
    have N144 := Fr.snoc X144 N0 g_b142
    have O_144 : Old Z n0 h144 := O_142.wr W144 g_b142
    obtain ⟨T145, X145, e145, st145⟩ := getS2 X144 hx hZ hown (host := "") (Or.inl (hw _ (List.mem_of_getElem? (i := 7) rfl))) Via.refl e144 (wS1.ext O_144.2) (g := (mkF m 22 #[.val (.int i0), .val (.int (9 : Int32)), .unset, .unset, .unset] [(.int (1 : Int32)), (.ref b142), (.ref b142)])) rfl (hb hby at_22)
    obtain ⟨cl146, Ar146, q146, S146, M146, H146, G146⟩ := V144
    have hin146 : ¬ ((1 : Int32) < 0 ∨ cl146.slots.size ≤ ((1 : Int32)).toNatClampNeg) := inb_of S146 ⟨by decide, by decide⟩
    obtain ⟨T146, h146, X146, e146, W146, st146⟩ := stR X145 hx hZ e145 Ar146 (j := (1 : Int32)) hin146 rfl (Sto.ofV Ar146 q146 O142 (Ins.self (wE1.ext O_144.2))) (g := (mkF m 25 #[.val (.int i0), .val (.int (9 : Int32)), .unset, .unset, .unset] [(.ref w1), (.int (1 : Int32)), (.ref b142), (.ref b142)])) rfl rfl (hb hby at_25)
    have V146 : Arv Z h146 b142 k142 (.object "com/example/libgate/libgate/Impact") (4 : Int32) [(.ref w0), (.ref w1), .null, .null] .null := Arv.set Ar146 q146 S146 M146 H146 G146 rfl W146 1 rfl (Nat.le_of_ble_eq_true rfl)
    have N146 := Fr.snoc X146 N144 g_b142
    have O_146 : Old Z n0 h146 := O_144.wr W146 g_b142
    obtain ⟨T147, X147, e147, st147⟩ := getS2 X146 hx hZ hown (host := "") (Or.inl (hw _ (List.mem_of_getElem? (i := 9) rfl))) Via.refl e146 (wS2.ext O_146.2) (g := (mkF m 28 #[.val (.int i0), .val (.int (9 : Int32)), .unset, .unset, .unset] [(.int (2 : Int32)), (.ref b142), (.ref b142)])) rfl (hb hby at_28)
    obtain ⟨cl148, Ar148, q148, S148, M148, H148, G148⟩ := V146
    have hin148 : ¬ ((2 : Int32) < 0 ∨ cl148.slots.size ≤ ((2 : Int32)).toNatClampNeg) := inb_of S148 ⟨by decide, by decide⟩
    obtain ⟨T148, h148, X148, e148, W148, st148⟩ := stR X147 hx hZ e147 Ar148 (j := (2 : Int32)) hin148 rfl (Sto.ofV Ar148 q148 O142 (Ins.self (wE2.ext O_146.2))) (g := (mkF m 31 #[.val (.int i0), .val (.int (9 : Int32)), .unset, .unset, .unset] [(.ref w2), (.int (2 : Int32)), (.ref b142), (.ref b142)])) rfl rfl (hb hby at_31)
    have V148 : Arv Z h148 b142 k142 (.object "com/example/libgate/libgate/Impact") (4 : Int32) [(.ref w0), (.ref w1), (.ref w2), .null] .null := Arv.set Ar148 q148 S148 M148 H148 G148 rfl W148 2 rfl (Nat.le_of_ble_eq_true rfl)
    have N148 := Fr.snoc X148 N146 g_b142
    have O_148 : Old Z n0 h148 := O_146.wr W148 g_b142
    obtain ⟨T149, X149, e149, st149⟩ := getS2 X148 hx hZ hown (host := "") (Or.inl (hw _ (List.mem_of_getElem? (i := 11) rfl))) Via.refl e148 (wS3.ext O_148.2) (g := (mkF m 34 #[.val (.int i0), .val (.int (9 : Int32)), .unset, .unset, .unset] [(.int (3 : Int32)), (.ref b142), (.ref b142)])) rfl (hb hby at_34)
    obtain ⟨cl150, Ar150, q150, S150, M150, H150, G150⟩ := V148
    have hin150 : ¬ ((3 : Int32) < 0 ∨ cl150.slots.size ≤ ((3 : Int32)).toNatClampNeg) := inb_of S150 ⟨by decide, by decide⟩
    obtain ⟨T150, h150, X150, e150, W150, st150⟩ := stR X149 hx hZ e149 Ar150 (j := (3 : Int32)) hin150 rfl (Sto.ofV Ar150 q150 O142 (Ins.self (wE3.ext O_148.2))) (g := (mkF m 37 #[.val (.int i0), .val (.int (9 : Int32)), .unset, .unset, .unset] [(.ref w3), (.int (3 : Int32)), (.ref b142), (.ref b142)])) rfl rfl (hb hby at_37)
    have V150 : Arv Z h150 b142 k142 (.object "com/example/libgate/libgate/Impact") (4 : Int32) [(.ref w0), (.ref w1), (.ref w2), (.ref w3)] .null := Arv.set Ar150 q150 S150 M150 H150 G150 rfl W150 3 rfl (Nat.le_of_ble_eq_true rfl)
    have N150 := Fr.snoc X150 N148 g_b142
    have O_150 : Old Z n0 h150 := O_148.wr W150 g_b142
    obtain ⟨_, _, ⟨T151, L151, k151, n151⟩, -, X151, ⟨Lc151, hQ151, l151, y151, z151⟩, st151⟩ := Jvm.LawKit.callS X150 hx (y := (⟨"java/lang/Math", "min", "(II)I"⟩ : MethodName)) hown (mvT hZ (hw _ (List.mem_of_getElem? (i := 17) rfl))) (mvT hZ (hw _ (List.mem_of_getElem? (i := 18) rfl))) (mvT hZ (hw _ (List.mem_of_getElem? (i := 19) rfl))) (mvT hZ (hw _ (List.mem_of_getElem? (i := 20) rfl))) (by decide) (backOf (W := 0) (rm11 l Z a0 hw [] w0 w1 w2 w3 h150 n0 hWd O_150) hZ (hw _ (List.mem_of_getElem? (i := 20) rfl)) (hw _ (List.mem_of_getElem? (i := 19) rfl)) (by decide) (by decide)) (g := (mkF m 54 #[.val (.int i0), .val (.int (9 : Int32)), .val (.ref b142), .unset, .unset] [(.int (3 : Int32)), (.int (3 : Int32))])) rfl (by rw [hml]; rfl) (argsL := [(.int (3 : Int32)), (.int (3 : Int32))]) (rest := []) (lenOf pd1 rfl) rfl (by show 2 * 0 + _ ≤ _; exact Nat.le_of_eq rfl) (hb hby at_54) (fun _ _ => ⟨rfl, e150, (by decide : 1 + 0 ≤ _), (by decide : 4 + 0 ≤ _)⟩)
    dsimp only [Pt.U, Pt.locs, Pt.cells, Pt.slots] at X151 l151 y151 z151 st151 hQ151
    subst l151 y151 z151
    obtain ⟨rfl, N151q, e151⟩ := hQ151
    have N151 := Fr.app N150 N151q
    obtain ⟨_, _, ⟨T153, L153, k153, n153⟩, -, X153, ⟨Lc153, hQ153, l153, y153, z153⟩, st153⟩ := Jvm.LawKit.callS X151 hx (y := (⟨"com/example/libgate/libgate/Impact", "of", "(I)Lcom/example/libgate/libgate/Impact;"⟩ : MethodName)) hown (mvT hZ (hw _ (List.mem_of_getElem? (i := 13) rfl))) (mvT hZ (hw _ (List.mem_of_getElem? (i := 14) rfl))) (mvT hZ (hw _ (List.mem_of_getElem? (i := 4) rfl))) (mvT hZ (hw _ (List.mem_of_getElem? (i := 15) rfl))) (by decide) (backOf (W := 0) (rm14 l Z a0 hw [] w0 w1 w2 w3 h150 n0 hWd O_150) hZ (hw _ (List.mem_of_getElem? (i := 15) rfl)) (hw _ (List.mem_of_getElem? (i := 4) rfl)) (by decide) (by decide)) (g := (mkF m 59 #[.val (.int i0), .val (.int (9 : Int32)), .val (.ref b142), .val (.int (3 : Int32)), .unset] [(.int (9 : Int32))])) rfl (by rw [hml]; rfl) (argsL := [(.int (9 : Int32))]) (rest := []) (lenOf pd0 rfl) rfl (by show 2 * 0 + _ ≤ _; exact Nat.le_of_eq rfl) (hb hby at_59) (fun _ _ => ⟨rfl, e151, (by decide : 1 + 0 ≤ _), (by decide : 4 + 0 ≤ _)⟩)
    dsimp only [Pt.U, Pt.locs, Pt.cells, Pt.slots] at X153 l153 y153 z153 st153 hQ153
    subst l153 y153 z153
    obtain ⟨rfl, N153q, e153⟩ := hQ153
    have N153 := Fr.app N151 N153q
    obtain ⟨cl154, Ar154, q154, S154, M154, H154, G154⟩ := V150
    have hin154 : ¬ ((3 : Int32) < 0 ∨ cl154.slots.size ≤ ((3 : Int32)).toNatClampNeg) := inb_of S154 ⟨by decide, by decide⟩
    have hat154 : cl154.slots[((3 : Int32)).toNatClampNeg]? = some (.ref w3) := Has.at H154 hin154 rfl
    obtain ⟨fs, hr, hrun, hended, hWr, hsame⟩ := X153.leave (v := some (.int (1 : Int32))) (fun h => by rw [Bd.returns] at h; cases h)
    refine ⟨_, _, pre1 _ ?_, hrun, hended, _, _, rfl, ?_, ⟨_, rfl⟩, hWr, hsame.mono (Nat.le_of_ble_eq_true rfl) (Nat.le_of_ble_eq_true rfl)⟩
    · show Steps p.tables e below (s₁.setTop (mkF m 6 #[.val (.int i0), .unset, .unset, .unset, .unset] [(.int (12 : Int32)), (.int (i0 &&& (2147483647 : Int32)))])) _
      refine iremM X0 hx rfl (hb hby at_6) rfl (by decide) ?_
      show Steps p.tables e below (s₁.setTop (mkF m 7 #[.val (.int i0), .unset, .unset, .unset, .unset] [(.int ((i0 &&& (2147483647 : Int32)) % (12 : Int32)))])) _
      rw [hk12]
      show Steps p.tables e below (s₁.setTop (mkF m 7 #[.val (.int i0), .unset, .unset, .unset, .unset] [(.int (10 : Int32))])) _
      refine XS.iconst X0.here hx rfl (hb hby at_7) ?_
      show Steps p.tables e below (s₁.setTop (mkF m 8 #[.val (.int i0), .unset, .unset, .unset, .unset] [(.int (1 : Int32)), (.int (10 : Int32))])) _
      refine XS.isub X0.here hx rfl (hb hby at_8) rfl ?_
      show Steps p.tables e below (s₁.setTop (mkF m 9 #[.val (.int i0), .unset, .unset, .unset, .unset] [(.int ((10 : Int32) - (1 : Int32)))])) _
      rw [show ((10 : Int32) - (1 : Int32)) = (9 : Int32) from by decide]
      show Steps p.tables e below (s₁.setTop (mkF m 9 #[.val (.int i0), .unset, .unset, .unset, .unset] [(.int (9 : Int32))])) _
      refine XS.istoreN X0.here hx rfl (hb hby at_9) rfl (l' := #[.val (.int i0), .val (.int (9 : Int32)), .unset, .unset, .unset]) rfl ?_
      show Steps p.tables e below (s₁.setTop (mkF m 10 #[.val (.int i0), .val (.int (9 : Int32)), .unset, .unset, .unset] [])) _
      refine XS.iconst X0.here hx rfl (hb hby at_10) ?_
      show Steps p.tables e below (s₁.setTop (mkF m 11 #[.val (.int i0), .val (.int (9 : Int32)), .unset, .unset, .unset] [(.int (4 : Int32))])) _
      refine st142 _ ?_
      show Steps p.tables e below (T142.setTop (mkF m 14 #[.val (.int i0), .val (.int (9 : Int32)), .unset, .unset, .unset] [(.ref b142)])) _
      refine XS.dup X142.here hx rfl (hb hby at_14) rfl rfl ?_
      show Steps p.tables e below (T142.setTop (mkF m 15 #[.val (.int i0), .val (.int (9 : Int32)), .unset, .unset, .unset] [(.ref b142), (.ref b142)])) _
      refine XS.iconst X142.here hx rfl (hb hby at_15) ?_
      show Steps p.tables e below (T142.setTop (mkF m 16 #[.val (.int i0), .val (.int (9 : Int32)), .unset, .unset, .unset] [(.int (0 : Int32)), (.ref b142), (.ref b142)])) _
      refine st143 _ ?_
      show Steps p.tables e below (T143.setTop (mkF m 19 #[.val (.int i0), .val (.int (9 : Int32)), .unset, .unset, .unset] [(.ref w0), (.int (0 : Int32)), (.ref b142), (.ref b142)])) _
      refine st144 _ ?_
      show Steps p.tables e below (T144.setTop (mkF m 20 #[.val (.int i0), .val (.int (9 : Int32)), .unset, .unset, .unset] [(.ref b142)])) _
      refine XS.dup X144.here hx rfl (hb hby at_20) rfl rfl ?_
      show Steps p.tables e below (T144.setTop (mkF m 21 #[.val (.int i0), .val (.int (9 : Int32)), .unset, .unset, .unset] [(.ref b142), (.ref b142)])) _
      refine XS.iconst X144.here hx rfl (hb hby at_21) ?_
      show Steps p.tables e below (T144.setTop (mkF m 22 #[.val (.int i0), .val (.int (9 : Int32)), .unset, .unset, .unset] [(.int (1 : Int32)), (.ref b142), (.ref b142)])) _
      refine st145 _ ?_
      show Steps p.tables e below (T145.setTop (mkF m 25 #[.val (.int i0), .val (.int (9 : Int32)), .unset, .unset, .unset] [(.ref w1), (.int (1 : Int32)), (.ref b142), (.ref b142)])) _
      refine st146 _ ?_
      show Steps p.tables e below (T146.setTop (mkF m 26 #[.val (.int i0), .val (.int (9 : Int32)), .unset, .unset, .unset] [(.ref b142)])) _
      refine XS.dup X146.here hx rfl (hb hby at_26) rfl rfl ?_
      show Steps p.tables e below (T146.setTop (mkF m 27 #[.val (.int i0), .val (.int (9 : Int32)), .unset, .unset, .unset] [(.ref b142), (.ref b142)])) _
      refine XS.iconst X146.here hx rfl (hb hby at_27) ?_
      show Steps p.tables e below (T146.setTop (mkF m 28 #[.val (.int i0), .val (.int (9 : Int32)), .unset, .unset, .unset] [(.int (2 : Int32)), (.ref b142), (.ref b142)])) _
      refine st147 _ ?_
      show Steps p.tables e below (T147.setTop (mkF m 31 #[.val (.int i0), .val (.int (9 : Int32)), .unset, .unset, .unset] [(.ref w2), (.int (2 : Int32)), (.ref b142), (.ref b142)])) _
      refine st148 _ ?_
      show Steps p.tables e below (T148.setTop (mkF m 32 #[.val (.int i0), .val (.int (9 : Int32)), .unset, .unset, .unset] [(.ref b142)])) _
      refine XS.dup X148.here hx rfl (hb hby at_32) rfl rfl ?_
      show Steps p.tables e below (T148.setTop (mkF m 33 #[.val (.int i0), .val (.int (9 : Int32)), .unset, .unset, .unset] [(.ref b142), (.ref b142)])) _
      refine XS.iconst X148.here hx rfl (hb hby at_33) ?_
      show Steps p.tables e below (T148.setTop (mkF m 34 #[.val (.int i0), .val (.int (9 : Int32)), .unset, .unset, .unset] [(.int (3 : Int32)), (.ref b142), (.ref b142)])) _
      refine st149 _ ?_
      show Steps p.tables e below (T149.setTop (mkF m 37 #[.val (.int i0), .val (.int (9 : Int32)), .unset, .unset, .unset] [(.ref w3), (.int (3 : Int32)), (.ref b142), (.ref b142)])) _
      refine st150 _ ?_
      show Steps p.tables e below (T150.setTop (mkF m 38 #[.val (.int i0), .val (.int (9 : Int32)), .unset, .unset, .unset] [(.ref b142)])) _
      refine XS.astoreN X150.here hx rfl (hb hby at_38) rfl rfl (l' := #[.val (.int i0), .val (.int (9 : Int32)), .val (.ref b142), .unset, .unset]) rfl ?_
      show Steps p.tables e below (T150.setTop (mkF m 39 #[.val (.int i0), .val (.int (9 : Int32)), .val (.ref b142), .unset, .unset] [])) _
      refine XS.iloadN X150.here hx rfl (hb hby at_39) rfl ?_
      show Steps p.tables e below (T150.setTop (mkF m 40 #[.val (.int i0), .val (.int (9 : Int32)), .val (.ref b142), .unset, .unset] [(.int (9 : Int32))])) _
      refine XS.ifYes X150.here hx rfl (pc0 := 40) (pc' := 48) rfl (hb hby at_40) rfl (by decide) (by decide) (by decide) ?_
      show Steps p.tables e below (T150.setTop (mkF m 48 #[.val (.int i0), .val (.int (9 : Int32)), .val (.ref b142), .unset, .unset] [])) _
      refine XS.iconst X150.here hx rfl (hb hby at_48) ?_
      show Steps p.tables e below (T150.setTop (mkF m 49 #[.val (.int i0), .val (.int (9 : Int32)), .val (.ref b142), .unset, .unset] [(.int (3 : Int32))])) _
      refine XS.iloadN X150.here hx rfl (hb hby at_49) rfl ?_
      show Steps p.tables e below (T150.setTop (mkF m 50 #[.val (.int i0), .val (.int (9 : Int32)), .val (.ref b142), .unset, .unset] [(.int (9 : Int32)), (.int (3 : Int32))])) _
      refine XS.iconst X150.here hx rfl (hb hby at_50) ?_
      show Steps p.tables e below (T150.setTop (mkF m 51 #[.val (.int i0), .val (.int (9 : Int32)), .val (.ref b142), .unset, .unset] [(.int (2 : Int32)), (.int (9 : Int32)), (.int (3 : Int32))])) _
      refine XS.iadd X150.here hx rfl (hb hby at_51) rfl ?_
      show Steps p.tables e below (T150.setTop (mkF m 52 #[.val (.int i0), .val (.int (9 : Int32)), .val (.ref b142), .unset, .unset] [(.int ((9 : Int32) + (2 : Int32))), (.int (3 : Int32))])) _
      rw [show ((9 : Int32) + (2 : Int32)) = (11 : Int32) from by decide]
      show Steps p.tables e below (T150.setTop (mkF m 52 #[.val (.int i0), .val (.int (9 : Int32)), .val (.ref b142), .unset, .unset] [(.int (11 : Int32)), (.int (3 : Int32))])) _
      refine XS.iconst X150.here hx rfl (hb hby at_52) ?_
      show Steps p.tables e below (T150.setTop (mkF m 53 #[.val (.int i0), .val (.int (9 : Int32)), .val (.ref b142), .unset, .unset] [(.int (3 : Int32)), (.int (11 : Int32)), (.int (3 : Int32))])) _
      refine XS.idiv X150.here hx rfl (hb hby at_53) rfl (by decide) ?_
      show Steps p.tables e below (T150.setTop (mkF m 54 #[.val (.int i0), .val (.int (9 : Int32)), .val (.ref b142), .unset, .unset] [(.int ((11 : Int32) / (3 : Int32))), (.int (3 : Int32))])) _
      rw [show ((11 : Int32) / (3 : Int32)) = (3 : Int32) from by decide]
      show Steps p.tables e below (T150.setTop (mkF m 54 #[.val (.int i0), .val (.int (9 : Int32)), .val (.ref b142), .unset, .unset] [(.int (3 : Int32)), (.int (3 : Int32))])) _
      refine st151 _ ?_
      show Steps p.tables e below (T151.setTop (mkF m 57 #[.val (.int i0), .val (.int (9 : Int32)), .val (.ref b142), .unset, .unset] [(.int (3 : Int32))])) _
      refine XS.istoreN X151.here hx rfl (hb hby at_57) rfl (l' := #[.val (.int i0), .val (.int (9 : Int32)), .val (.ref b142), .val (.int (3 : Int32)), .unset]) rfl ?_
      show Steps p.tables e below (T151.setTop (mkF m 58 #[.val (.int i0), .val (.int (9 : Int32)), .val (.ref b142), .val (.int (3 : Int32)), .unset] [])) _
      refine XS.iloadN X151.here hx rfl (hb hby at_58) rfl ?_
      show Steps p.tables e below (T151.setTop (mkF m 59 #[.val (.int i0), .val (.int (9 : Int32)), .val (.ref b142), .val (.int (3 : Int32)), .unset] [(.int (9 : Int32))])) _
      refine st153 _ ?_
      show Steps p.tables e below (T153.setTop (mkF m 62 #[.val (.int i0), .val (.int (9 : Int32)), .val (.ref b142), .val (.int (3 : Int32)), .unset] [(.ref w3)])) _
      refine XS.astore X153.here hx rfl (hb hby at_62) rfl rfl (l' := #[.val (.int i0), .val (.int (9 : Int32)), .val (.ref b142), .val (.int (3 : Int32)), .val (.ref w3)]) rfl ?_
      show Steps p.tables e below (T153.setTop (mkF m 64 #[.val (.int i0), .val (.int (9 : Int32)), .val (.ref b142), .val (.int (3 : Int32)), .val (.ref w3)] [])) _
      refine XS.aload X153.here hx rfl (hb hby at_64) rfl rfl ?_
      show Steps p.tables e below (T153.setTop (mkF m 66 #[.val (.int i0), .val (.int (9 : Int32)), .val (.ref b142), .val (.int (3 : Int32)), .val (.ref w3)] [(.ref w3)])) _
      refine XS.aloadN X153.here hx rfl (hb hby at_66) rfl rfl ?_
      show Steps p.tables e below (T153.setTop (mkF m 67 #[.val (.int i0), .val (.int (9 : Int32)), .val (.ref b142), .val (.int (3 : Int32)), .val (.ref w3)] [(.ref b142), (.ref w3)])) _
      refine XS.iloadN X153.here hx rfl (hb hby at_67) rfl ?_
      show Steps p.tables e below (T153.setTop (mkF m 68 #[.val (.int i0), .val (.int (9 : Int32)), .val (.ref b142), .val (.int (3 : Int32)), .val (.ref w3)] [(.int (3 : Int32)), (.ref b142), (.ref w3)])) _
      refine X153.aaload hx (j := (3 : Int32)) (v := (.ref w3)) (by rw [e153]; exact Ar154.1) (State.isArrayOf_alike hZ.alike Ar154.2.1) rfl Ar154.2.2 hin154 hat154 (g := (mkF m 68 #[.val (.int i0), .val (.int (9 : Int32)), .val (.ref b142), .val (.int (3 : Int32)), .val (.ref w3)] [(.int (3 : Int32)), (.ref b142), (.ref w3)])) rfl rfl (hb hby at_68) _ ?_
      show Steps p.tables e below (T153.setTop (mkF m 69 #[.val (.int i0), .val (.int (9 : Int32)), .val (.ref b142), .val (.int (3 : Int32)), .val (.ref w3)] [(.ref w3), (.ref w3)])) _
      refine Jvm.RoadKit.acmp (g := (mkF m 69 #[.val (.int i0), .val (.int (9 : Int32)), .val (.ref b142), .val (.int (3 : Int32)), .val (.ref w3)] [(.ref w3), (.ref w3)])) X153 hx rfl rfl rfl (pc0 := 69) (pc' := 72) (same := true) rfl (hb hby at_69) rfl (decide_eq_true rfl) (by decide) (by decide) ?_
      show Steps p.tables e below (T153.setTop (mkF m 72 #[.val (.int i0), .val (.int (9 : Int32)), .val (.ref b142), .val (.int (3 : Int32)), .val (.ref w3)] [])) _
      refine XS.iconst X153.here hx rfl (hb hby at_72) ?_
      show Steps p.tables e below (T153.setTop (mkF m 73 #[.val (.int i0), .val (.int (9 : Int32)), .val (.ref b142), .val (.int (3 : Int32)), .val (.ref w3)] [(.int (1 : Int32))])) _
      refine XS.goto X153.here hx rfl (pc0 := 73) (pc' := 77) rfl (hb hby at_73) (by decide) (by decide) ?_
      show Steps p.tables e below (T153.setTop (mkF m 77 #[.val (.int i0), .val (.int (9 : Int32)), .val (.ref b142), .val (.int (3 : Int32)), .val (.ref w3)] [(.int (1 : Int32))])) _
      exact retN X153 hx (t := .boolean) Bd.returns (by simp) (hb hby at_77) hr
    · show Ql n0 _ T153.heap _
      exact ⟨rfl, N153⟩
  · obtain ⟨T155, h155, k155, X155, e155, E155, A155, O155, st155⟩ := newR X0 hx hZ hown (hw _ (List.mem_of_getElem? (i := 1) rfl)) (hw _ (List.mem_of_getElem? (i := 2) rfl)) e0 (g := (mkF m 11 #[.val (.int i0), .val (.int (10 : Int32)), .unset, .unset, .unset] [(.int (4 : Int32))])) rfl (hb hby at_11) rfl (by decide) (cap := 4) (by decide) (by decide) (by decide) (by decide)
    obtain ⟨b155, g155⟩ : ∃ z, z = h0.size := ⟨_, rfl⟩
    rw [← g155] at A155 st155
    have V155 : Arv Z h155 b155 k155 (.object "com/example/libgate/libgate/Impact") (4 : Int32) [.null, .null, .null, .null] .null := (Arv.new A155 (by decide)).pad (pad_rep [] .null 4)
    have g_b155 : n0 ≤ b155 := Nat.le_trans (Nat.le_trans (Nat.le_of_eq O0.1.symm) O0.2.1) (Nat.le_of_eq g155.symm)
    have O_155 : Old Z n0 h155 := O0.ext E155
    obtain ⟨T156, X156, e156, st156⟩ := getS2 X155 hx hZ hown (host := "") (Or.inl (hw _ (List.mem_of_getElem? (i := 3) rfl))) Via.refl e155 (wS0.ext O_155.2) (g := (mkF m 16 #[.val (.int i0), .val (.int (10 : Int32)), .unset, .unset, .unset] [(.int (0 : Int32)), (.ref b155), (.ref b155)])) rfl (hb hby at_16)
    obtain ⟨cl157, Ar157, q157, S157, M157, H157, G157⟩ := V155
    have hin157 : ¬ ((0 : Int32) < 0 ∨ cl157.slots.size ≤ ((0 : Int32)).toNatClampNeg) := inb_of S157 ⟨by decide, by decide⟩
    obtain ⟨T157, h157, X157, e157, W157, st157⟩ := stR X156 hx hZ e156 Ar157 (j := (0 : Int32)) hin157 rfl (Sto.ofV Ar157 q157 O155 (Ins.self (wE0.ext O_155.2))) (g := (mkF m 19 #[.val (.int i0), .val (.int (10 : Int32)), .unset, .unset, .unset] [(.ref w0), (.int (0 : Int32)), (.ref b155), (.ref b155)])) rfl rfl (hb hby at_19)
    have V157 : Arv Z h157 b155 k155 (.object "com/example/libgate/libgate/Impact") (4 : Int32) [(.ref w0), .null, .null, .null] .null := Arv.set Ar157 q157 S157 M157 H157 G157 rfl W157 0 rfl (Nat.le_of_ble_eq_true rfl)
    have N157 := Fr.snoc X157 N0 g_b155
    have O_157 : Old Z n0 h157 := O_155.wr W157 g_b155
    obtain ⟨T158, X158, e158, st158⟩ := getS2 X157 hx hZ hown (host := "") (Or.inl (hw _ (List.mem_of_getElem? (i := 7) rfl))) Via.refl e157 (wS1.ext O_157.2) (g := (mkF m 22 #[.val (.int i0), .val (.int (10 : Int32)), .unset, .unset, .unset] [(.int (1 : Int32)), (.ref b155), (.ref b155)])) rfl (hb hby at_22)
    obtain ⟨cl159, Ar159, q159, S159, M159, H159, G159⟩ := V157
    have hin159 : ¬ ((1 : Int32) < 0 ∨ cl159.slots.size ≤ ((1 : Int32)).toNatClampNeg) := inb_of S159 ⟨by decide, by decide⟩
    obtain ⟨T159, h159, X159, e159, W159, st159⟩ := stR X158 hx hZ e158 Ar159 (j := (1 : Int32)) hin159 rfl (Sto.ofV Ar159 q159 O155 (Ins.self (wE1.ext O_157.2))) (g := (mkF m 25 #[.val (.int i0), .val (.int (10 : Int32)), .unset, .unset, .unset] [(.ref w1), (.int (1 : Int32)), (.ref b155), (.ref b155)])) rfl rfl (hb hby at_25)
    have V159 : Arv Z h159 b155 k155 (.object "com/example/libgate/libgate/Impact") (4 : Int32) [(.ref w0), (.ref w1), .null, .null] .null := Arv.set Ar159 q159 S159 M159 H159 G159 rfl W159 1 rfl (Nat.le_of_ble_eq_true rfl)
    have N159 := Fr.snoc X159 N157 g_b155
    have O_159 : Old Z n0 h159 := O_157.wr W159 g_b155
    obtain ⟨T160, X160, e160, st160⟩ := getS2 X159 hx hZ hown (host := "") (Or.inl (hw _ (List.mem_of_getElem? (i := 9) rfl))) Via.refl e159 (wS2.ext O_159.2) (g := (mkF m 28 #[.val (.int i0), .val (.int (10 : Int32)), .unset, .unset, .unset] [(.int (2 : Int32)), (.ref b155), (.ref b155)])) rfl (hb hby at_28)
    obtain ⟨cl161, Ar161, q161, S161, M161, H161, G161⟩ := V159
    have hin161 : ¬ ((2 : Int32) < 0 ∨ cl161.slots.size ≤ ((2 : Int32)).toNatClampNeg) := inb_of S161 ⟨by decide, by decide⟩
    obtain ⟨T161, h161, X161, e161, W161, st161⟩ := stR X160 hx hZ e160 Ar161 (j := (2 : Int32)) hin161 rfl (Sto.ofV Ar161 q161 O155 (Ins.self (wE2.ext O_159.2))) (g := (mkF m 31 #[.val (.int i0), .val (.int (10 : Int32)), .unset, .unset, .unset] [(.ref w2), (.int (2 : Int32)), (.ref b155), (.ref b155)])) rfl rfl (hb hby at_31)
    have V161 : Arv Z h161 b155 k155 (.object "com/example/libgate/libgate/Impact") (4 : Int32) [(.ref w0), (.ref w1), (.ref w2), .null] .null := Arv.set Ar161 q161 S161 M161 H161 G161 rfl W161 2 rfl (Nat.le_of_ble_eq_true rfl)
    have N161 := Fr.snoc X161 N159 g_b155
    have O_161 : Old Z n0 h161 := O_159.wr W161 g_b155
    obtain ⟨T162, X162, e162, st162⟩ := getS2 X161 hx hZ hown (host := "") (Or.inl (hw _ (List.mem_of_getElem? (i := 11) rfl))) Via.refl e161 (wS3.ext O_161.2) (g := (mkF m 34 #[.val (.int i0), .val (.int (10 : Int32)), .unset, .unset, .unset] [(.int (3 : Int32)), (.ref b155), (.ref b155)])) rfl (hb hby at_34)
    obtain ⟨cl163, Ar163, q163, S163, M163, H163, G163⟩ := V161
    have hin163 : ¬ ((3 : Int32) < 0 ∨ cl163.slots.size ≤ ((3 : Int32)).toNatClampNeg) := inb_of S163 ⟨by decide, by decide⟩
    obtain ⟨T163, h163, X163, e163, W163, st163⟩ := stR X162 hx hZ e162 Ar163 (j := (3 : Int32)) hin163 rfl (Sto.ofV Ar163 q163 O155 (Ins.self (wE3.ext O_161.2))) (g := (mkF m 37 #[.val (.int i0), .val (.int (10 : Int32)), .unset, .unset, .unset] [(.ref w3), (.int (3 : Int32)), (.ref b155), (.ref b155)])) rfl rfl (hb hby at_37)
    have V163 : Arv Z h163 b155 k155 (.object "com/example/libgate/libgate/Impact") (4 : Int32) [(.ref w0), (.ref w1), (.ref w2), (.ref w3)] .null := Arv.set Ar163 q163 S163 M163 H163 G163 rfl W163 3 rfl (Nat.le_of_ble_eq_true rfl)
    have N163 := Fr.snoc X163 N161 g_b155
    have O_163 : Old Z n0 h163 := O_161.wr W163 g_b155
    obtain ⟨_, _, ⟨T164, L164, k164, n164⟩, -, X164, ⟨Lc164, hQ164, l164, y164, z164⟩, st164⟩ := Jvm.LawKit.callS X163 hx (y := (⟨"java/lang/Math", "min", "(II)I"⟩ : MethodName)) hown (mvT hZ (hw _ (List.mem_of_getElem? (i := 17) rfl))) (mvT hZ (hw _ (List.mem_of_getElem? (i := 18) rfl))) (mvT hZ (hw _ (List.mem_of_getElem? (i := 19) rfl))) (mvT hZ (hw _ (List.mem_of_getElem? (i := 20) rfl))) (by decide) (backOf (W := 0) (rm15 l Z a0 hw [] w0 w1 w2 w3 h163 n0 hWd O_163) hZ (hw _ (List.mem_of_getElem? (i := 20) rfl)) (hw _ (List.mem_of_getElem? (i := 19) rfl)) (by decide) (by decide)) (g := (mkF m 54 #[.val (.int i0), .val (.int (10 : Int32)), .val (.ref b155), .unset, .unset] [(.int (4 : Int32)), (.int (3 : Int32))])) rfl (by rw [hml]; rfl) (argsL := [(.int (3 : Int32)), (.int (4 : Int32))]) (rest := []) (lenOf pd1 rfl) rfl (by show 2 * 0 + _ ≤ _; exact Nat.le_of_eq rfl) (hb hby at_54) (fun _ _ => ⟨rfl, e163, (by decide : 1 + 0 ≤ _), (by decide : 4 + 0 ≤ _)⟩)
    dsimp only [Pt.U, Pt.locs, Pt.cells, Pt.slots] at X164 l164 y164 z164 st164 hQ164
    subst l164 y164 z164
    obtain ⟨rfl, N164q, e164⟩ := hQ164
    have N164 := Fr.app N163 N164q
    obtain ⟨_, _, ⟨T166, L166, k166, n166⟩, -, X166, ⟨Lc166, hQ166, l166, y166, z166⟩, st166⟩ := Jvm.LawKit.callS X164 hx (y := (⟨"com/example/libgate/libgate/Impact", "of", "(I)Lcom/example/libgate/libgate/Impact;"⟩ : MethodName)) hown (mvT hZ (hw _ (List.mem_of_getElem? (i := 13) rfl))) (mvT hZ (hw _ (List.mem_of_getElem? (i := 14) rfl))) (mvT hZ (hw _ (List.mem_of_getElem? (i := 4) rfl))) (mvT hZ (hw _ (List.mem_of_getElem? (i := 15) rfl))) (by decide) (backOf (W := 0) (rm16 l Z a0 hw [] w0 w1 w2 w3 h163 n0 hWd O_163) hZ (hw _ (List.mem_of_getElem? (i := 15) rfl)) (hw _ (List.mem_of_getElem? (i := 4) rfl)) (by decide) (by decide)) (g := (mkF m 59 #[.val (.int i0), .val (.int (10 : Int32)), .val (.ref b155), .val (.int (3 : Int32)), .unset] [(.int (10 : Int32))])) rfl (by rw [hml]; rfl) (argsL := [(.int (10 : Int32))]) (rest := []) (lenOf pd0 rfl) rfl (by show 2 * 0 + _ ≤ _; exact Nat.le_of_eq rfl) (hb hby at_59) (fun _ _ => ⟨rfl, e164, (by decide : 1 + 0 ≤ _), (by decide : 4 + 0 ≤ _)⟩)
    dsimp only [Pt.U, Pt.locs, Pt.cells, Pt.slots] at X166 l166 y166 z166 st166 hQ166
    subst l166 y166 z166
    obtain ⟨rfl, N166q, e166⟩ := hQ166
    have N166 := Fr.app N164 N166q
    obtain ⟨cl167, Ar167, q167, S167, M167, H167, G167⟩ := V163
    have hin167 : ¬ ((3 : Int32) < 0 ∨ cl167.slots.size ≤ ((3 : Int32)).toNatClampNeg) := inb_of S167 ⟨by decide, by decide⟩
    have hat167 : cl167.slots[((3 : Int32)).toNatClampNeg]? = some (.ref w3) := Has.at H167 hin167 rfl
    obtain ⟨fs, hr, hrun, hended, hWr, hsame⟩ := X166.leave (v := some (.int (1 : Int32))) (fun h => by rw [Bd.returns] at h; cases h)
    refine ⟨_, _, pre1 _ ?_, hrun, hended, _, _, rfl, ?_, ⟨_, rfl⟩, hWr, hsame.mono (Nat.le_of_ble_eq_true rfl) (Nat.le_of_ble_eq_true rfl)⟩
    · show Steps p.tables e below (s₁.setTop (mkF m 6 #[.val (.int i0), .unset, .unset, .unset, .unset] [(.int (12 : Int32)), (.int (i0 &&& (2147483647 : Int32)))])) _
      refine iremM X0 hx rfl (hb hby at_6) rfl (by decide) ?_
      show Steps p.tables e below (s₁.setTop (mkF m 7 #[.val (.int i0), .unset, .unset, .unset, .unset] [(.int ((i0 &&& (2147483647 : Int32)) % (12 : Int32)))])) _
      rw [hk13]
      show Steps p.tables e below (s₁.setTop (mkF m 7 #[.val (.int i0), .unset, .unset, .unset, .unset] [(.int (11 : Int32))])) _
      refine XS.iconst X0.here hx rfl (hb hby at_7) ?_
      show Steps p.tables e below (s₁.setTop (mkF m 8 #[.val (.int i0), .unset, .unset, .unset, .unset] [(.int (1 : Int32)), (.int (11 : Int32))])) _
      refine XS.isub X0.here hx rfl (hb hby at_8) rfl ?_
      show Steps p.tables e below (s₁.setTop (mkF m 9 #[.val (.int i0), .unset, .unset, .unset, .unset] [(.int ((11 : Int32) - (1 : Int32)))])) _
      rw [show ((11 : Int32) - (1 : Int32)) = (10 : Int32) from by decide]
      show Steps p.tables e below (s₁.setTop (mkF m 9 #[.val (.int i0), .unset, .unset, .unset, .unset] [(.int (10 : Int32))])) _
      refine XS.istoreN X0.here hx rfl (hb hby at_9) rfl (l' := #[.val (.int i0), .val (.int (10 : Int32)), .unset, .unset, .unset]) rfl ?_
      show Steps p.tables e below (s₁.setTop (mkF m 10 #[.val (.int i0), .val (.int (10 : Int32)), .unset, .unset, .unset] [])) _
      refine XS.iconst X0.here hx rfl (hb hby at_10) ?_
      show Steps p.tables e below (s₁.setTop (mkF m 11 #[.val (.int i0), .val (.int (10 : Int32)), .unset, .unset, .unset] [(.int (4 : Int32))])) _
      refine st155 _ ?_
      show Steps p.tables e below (T155.setTop (mkF m 14 #[.val (.int i0), .val (.int (10 : Int32)), .unset, .unset, .unset] [(.ref b155)])) _
      refine XS.dup X155.here hx rfl (hb hby at_14) rfl rfl ?_
      show Steps p.tables e below (T155.setTop (mkF m 15 #[.val (.int i0), .val (.int (10 : Int32)), .unset, .unset, .unset] [(.ref b155), (.ref b155)])) _
      refine XS.iconst X155.here hx rfl (hb hby at_15) ?_
      show Steps p.tables e below (T155.setTop (mkF m 16 #[.val (.int i0), .val (.int (10 : Int32)), .unset, .unset, .unset] [(.int (0 : Int32)), (.ref b155), (.ref b155)])) _
      refine st156 _ ?_
      show Steps p.tables e below (T156.setTop (mkF m 19 #[.val (.int i0), .val (.int (10 : Int32)), .unset, .unset, .unset] [(.ref w0), (.int (0 : Int32)), (.ref b155), (.ref b155)])) _
      refine st157 _ ?_
      show Steps p.tables e below (T157.setTop (mkF m 20 #[.val (.int i0), .val (.int (10 : Int32)), .unset, .unset, .unset] [(.ref b155)])) _
      refine XS.dup X157.here hx rfl (hb hby at_20) rfl rfl ?_
      show Steps p.tables e below (T157.setTop (mkF m 21 #[.val (.int i0), .val (.int (10 : Int32)), .unset, .unset, .unset] [(.ref b155), (.ref b155)])) _
      refine XS.iconst X157.here hx rfl (hb hby at_21) ?_
      show Steps p.tables e below (T157.setTop (mkF m 22 #[.val (.int i0), .val (.int (10 : Int32)), .unset, .unset, .unset] [(.int (1 : Int32)), (.ref b155), (.ref b155)])) _
      refine st158 _ ?_
      show Steps p.tables e below (T158.setTop (mkF m 25 #[.val (.int i0), .val (.int (10 : Int32)), .unset, .unset, .unset] [(.ref w1), (.int (1 : Int32)), (.ref b155), (.ref b155)])) _
      refine st159 _ ?_
      show Steps p.tables e below (T159.setTop (mkF m 26 #[.val (.int i0), .val (.int (10 : Int32)), .unset, .unset, .unset] [(.ref b155)])) _
      refine XS.dup X159.here hx rfl (hb hby at_26) rfl rfl ?_
      show Steps p.tables e below (T159.setTop (mkF m 27 #[.val (.int i0), .val (.int (10 : Int32)), .unset, .unset, .unset] [(.ref b155), (.ref b155)])) _
      refine XS.iconst X159.here hx rfl (hb hby at_27) ?_
      show Steps p.tables e below (T159.setTop (mkF m 28 #[.val (.int i0), .val (.int (10 : Int32)), .unset, .unset, .unset] [(.int (2 : Int32)), (.ref b155), (.ref b155)])) _
      refine st160 _ ?_
      show Steps p.tables e below (T160.setTop (mkF m 31 #[.val (.int i0), .val (.int (10 : Int32)), .unset, .unset, .unset] [(.ref w2), (.int (2 : Int32)), (.ref b155), (.ref b155)])) _
      refine st161 _ ?_
      show Steps p.tables e below (T161.setTop (mkF m 32 #[.val (.int i0), .val (.int (10 : Int32)), .unset, .unset, .unset] [(.ref b155)])) _
      refine XS.dup X161.here hx rfl (hb hby at_32) rfl rfl ?_
      show Steps p.tables e below (T161.setTop (mkF m 33 #[.val (.int i0), .val (.int (10 : Int32)), .unset, .unset, .unset] [(.ref b155), (.ref b155)])) _
      refine XS.iconst X161.here hx rfl (hb hby at_33) ?_
      show Steps p.tables e below (T161.setTop (mkF m 34 #[.val (.int i0), .val (.int (10 : Int32)), .unset, .unset, .unset] [(.int (3 : Int32)), (.ref b155), (.ref b155)])) _
      refine st162 _ ?_
      show Steps p.tables e below (T162.setTop (mkF m 37 #[.val (.int i0), .val (.int (10 : Int32)), .unset, .unset, .unset] [(.ref w3), (.int (3 : Int32)), (.ref b155), (.ref b155)])) _
      refine st163 _ ?_
      show Steps p.tables e below (T163.setTop (mkF m 38 #[.val (.int i0), .val (.int (10 : Int32)), .unset, .unset, .unset] [(.ref b155)])) _
      refine XS.astoreN X163.here hx rfl (hb hby at_38) rfl rfl (l' := #[.val (.int i0), .val (.int (10 : Int32)), .val (.ref b155), .unset, .unset]) rfl ?_
      show Steps p.tables e below (T163.setTop (mkF m 39 #[.val (.int i0), .val (.int (10 : Int32)), .val (.ref b155), .unset, .unset] [])) _
      refine XS.iloadN X163.here hx rfl (hb hby at_39) rfl ?_
      show Steps p.tables e below (T163.setTop (mkF m 40 #[.val (.int i0), .val (.int (10 : Int32)), .val (.ref b155), .unset, .unset] [(.int (10 : Int32))])) _
      refine XS.ifYes X163.here hx rfl (pc0 := 40) (pc' := 48) rfl (hb hby at_40) rfl (by decide) (by decide) (by decide) ?_
      show Steps p.tables e below (T163.setTop (mkF m 48 #[.val (.int i0), .val (.int (10 : Int32)), .val (.ref b155), .unset, .unset] [])) _
      refine XS.iconst X163.here hx rfl (hb hby at_48) ?_
      show Steps p.tables e below (T163.setTop (mkF m 49 #[.val (.int i0), .val (.int (10 : Int32)), .val (.ref b155), .unset, .unset] [(.int (3 : Int32))])) _
      refine XS.iloadN X163.here hx rfl (hb hby at_49) rfl ?_
      show Steps p.tables e below (T163.setTop (mkF m 50 #[.val (.int i0), .val (.int (10 : Int32)), .val (.ref b155), .unset, .unset] [(.int (10 : Int32)), (.int (3 : Int32))])) _
      refine XS.iconst X163.here hx rfl (hb hby at_50) ?_
      show Steps p.tables e below (T163.setTop (mkF m 51 #[.val (.int i0), .val (.int (10 : Int32)), .val (.ref b155), .unset, .unset] [(.int (2 : Int32)), (.int (10 : Int32)), (.int (3 : Int32))])) _
      refine XS.iadd X163.here hx rfl (hb hby at_51) rfl ?_
      show Steps p.tables e below (T163.setTop (mkF m 52 #[.val (.int i0), .val (.int (10 : Int32)), .val (.ref b155), .unset, .unset] [(.int ((10 : Int32) + (2 : Int32))), (.int (3 : Int32))])) _
      rw [show ((10 : Int32) + (2 : Int32)) = (12 : Int32) from by decide]
      show Steps p.tables e below (T163.setTop (mkF m 52 #[.val (.int i0), .val (.int (10 : Int32)), .val (.ref b155), .unset, .unset] [(.int (12 : Int32)), (.int (3 : Int32))])) _
      refine XS.iconst X163.here hx rfl (hb hby at_52) ?_
      show Steps p.tables e below (T163.setTop (mkF m 53 #[.val (.int i0), .val (.int (10 : Int32)), .val (.ref b155), .unset, .unset] [(.int (3 : Int32)), (.int (12 : Int32)), (.int (3 : Int32))])) _
      refine XS.idiv X163.here hx rfl (hb hby at_53) rfl (by decide) ?_
      show Steps p.tables e below (T163.setTop (mkF m 54 #[.val (.int i0), .val (.int (10 : Int32)), .val (.ref b155), .unset, .unset] [(.int ((12 : Int32) / (3 : Int32))), (.int (3 : Int32))])) _
      rw [show ((12 : Int32) / (3 : Int32)) = (4 : Int32) from by decide]
      show Steps p.tables e below (T163.setTop (mkF m 54 #[.val (.int i0), .val (.int (10 : Int32)), .val (.ref b155), .unset, .unset] [(.int (4 : Int32)), (.int (3 : Int32))])) _
      refine st164 _ ?_
      show Steps p.tables e below (T164.setTop (mkF m 57 #[.val (.int i0), .val (.int (10 : Int32)), .val (.ref b155), .unset, .unset] [(.int (3 : Int32))])) _
      refine XS.istoreN X164.here hx rfl (hb hby at_57) rfl (l' := #[.val (.int i0), .val (.int (10 : Int32)), .val (.ref b155), .val (.int (3 : Int32)), .unset]) rfl ?_
      show Steps p.tables e below (T164.setTop (mkF m 58 #[.val (.int i0), .val (.int (10 : Int32)), .val (.ref b155), .val (.int (3 : Int32)), .unset] [])) _
      refine XS.iloadN X164.here hx rfl (hb hby at_58) rfl ?_
      show Steps p.tables e below (T164.setTop (mkF m 59 #[.val (.int i0), .val (.int (10 : Int32)), .val (.ref b155), .val (.int (3 : Int32)), .unset] [(.int (10 : Int32))])) _
      refine st166 _ ?_
      show Steps p.tables e below (T166.setTop (mkF m 62 #[.val (.int i0), .val (.int (10 : Int32)), .val (.ref b155), .val (.int (3 : Int32)), .unset] [(.ref w3)])) _
      refine XS.astore X166.here hx rfl (hb hby at_62) rfl rfl (l' := #[.val (.int i0), .val (.int (10 : Int32)), .val (.ref b155), .val (.int (3 : Int32)), .val (.ref w3)]) rfl ?_
      show Steps p.tables e below (T166.setTop (mkF m 64 #[.val (.int i0), .val (.int (10 : Int32)), .val (.ref b155), .val (.int (3 : Int32)), .val (.ref w3)] [])) _
      refine XS.aload X166.here hx rfl (hb hby at_64) rfl rfl ?_
      show Steps p.tables e below (T166.setTop (mkF m 66 #[.val (.int i0), .val (.int (10 : Int32)), .val (.ref b155), .val (.int (3 : Int32)), .val (.ref w3)] [(.ref w3)])) _
      refine XS.aloadN X166.here hx rfl (hb hby at_66) rfl rfl ?_
      show Steps p.tables e below (T166.setTop (mkF m 67 #[.val (.int i0), .val (.int (10 : Int32)), .val (.ref b155), .val (.int (3 : Int32)), .val (.ref w3)] [(.ref b155), (.ref w3)])) _
      refine XS.iloadN X166.here hx rfl (hb hby at_67) rfl ?_
      show Steps p.tables e below (T166.setTop (mkF m 68 #[.val (.int i0), .val (.int (10 : Int32)), .val (.ref b155), .val (.int (3 : Int32)), .val (.ref w3)] [(.int (3 : Int32)), (.ref b155), (.ref w3)])) _
      refine X166.aaload hx (j := (3 : Int32)) (v := (.ref w3)) (by rw [e166]; exact Ar167.1) (State.isArrayOf_alike hZ.alike Ar167.2.1) rfl Ar167.2.2 hin167 hat167 (g := (mkF m 68 #[.val (.int i0), .val (.int (10 : Int32)), .val (.ref b155), .val (.int (3 : Int32)), .val (.ref w3)] [(.int (3 : Int32)), (.ref b155), (.ref w3)])) rfl rfl (hb hby at_68) _ ?_
      show Steps p.tables e below (T166.setTop (mkF m 69 #[.val (.int i0), .val (.int (10 : Int32)), .val (.ref b155), .val (.int (3 : Int32)), .val (.ref w3)] [(.ref w3), (.ref w3)])) _
      refine Jvm.RoadKit.acmp (g := (mkF m 69 #[.val (.int i0), .val (.int (10 : Int32)), .val (.ref b155), .val (.int (3 : Int32)), .val (.ref w3)] [(.ref w3), (.ref w3)])) X166 hx rfl rfl rfl (pc0 := 69) (pc' := 72) (same := true) rfl (hb hby at_69) rfl (decide_eq_true rfl) (by decide) (by decide) ?_
      show Steps p.tables e below (T166.setTop (mkF m 72 #[.val (.int i0), .val (.int (10 : Int32)), .val (.ref b155), .val (.int (3 : Int32)), .val (.ref w3)] [])) _
      refine XS.iconst X166.here hx rfl (hb hby at_72) ?_
      show Steps p.tables e below (T166.setTop (mkF m 73 #[.val (.int i0), .val (.int (10 : Int32)), .val (.ref b155), .val (.int (3 : Int32)), .val (.ref w3)] [(.int (1 : Int32))])) _
      refine XS.goto X166.here hx rfl (pc0 := 73) (pc' := 77) rfl (hb hby at_73) (by decide) (by decide) ?_
      show Steps p.tables e below (T166.setTop (mkF m 77 #[.val (.int i0), .val (.int (10 : Int32)), .val (.ref b155), .val (.int (3 : Int32)), .val (.ref w3)] [(.int (1 : Int32))])) _
      exact retN X166 hx (t := .boolean) Bd.returns (by simp) (hb hby at_77) hr
    · show Ql n0 _ T166.heap _
      exact ⟨rfl, N166⟩
set_option maxRecDepth 65536 in
set_option maxHeartbeats 40000000 in
theorem comes_1 {Post : Tables → Env → Array Value → State → Outcome → State → Prop} (hpost : ∀ tb e args s v u, (limb_1_1.after args s (.returned v) u = true ∧ limb_1_2.after args s (.returned v) u = true ∧ True) → FrameEnd s (.returned v) u (Jvm.fieldLocs frame_1_writes args s ++ Jvm.arrayLocs frame_1_arrays args s ++ Jvm.staticLocs frame_1_statics s) 16 128 → Post tb e args s (.returned v) u) :
    ArmFor flags0 classFile x code maxLocals ret World_1 tables_1 room_1 Calls_1 rest_1 Pre_1 Post := by
  intro l hfl _ _ p e ha hc hk s m args below hf hA hF happ hP
  obtain ⟨hcalls, hrest, hpre⟩ := hP
  obtain ⟨-, -, -, hnamed, -, -, -, hat⟩ := (Spec.applies_iff hf).mp happ
  obtain ⟨hg, hn⟩ := and_e (Cond.before_iff.mp (show (Jvm.Cond.and given_1 narrow_1).before args s = true from hpre))
  obtain ⟨gc, g0⟩ := and_e hg
  obtain ⟨x0, rfl⟩ : ∃ x0 : Value, args = #[x0] := by
    have hs : args.size = 1 := by simpa [Cond.value, given_1] using gc
    obtain ⟨L⟩ := args
    match L, hs with
    | [x0], _ => exact ⟨x0, rfl⟩
  have hw := fun d (hd : d ∈ tables_1) => atoms_spec (ws := Jvm.Cond.code x code maxLocals ret :: tables_1) hat d (List.mem_cons_of_mem _ hd)
  have hfit : Fit s := fun {y c} hc i hi => by
    obtain ⟨ha, rfl⟩ := Array.getElem?_eq_some_iff.mp hc
    have q := List.all_eq_true.mp ((Array.all_eq_true_iff_forall_mem.mp hF) _ (Array.getElem_mem ha)) i (List.mem_range.mpr hi)
    simpa [Array.getElem?_eq_getElem hi] using q
  obtain ⟨i0, ei0⟩ := is_v g0
  obtain rfl : x0 = (.int i0) := Option.some.inj ei0
  obtain ⟨c0, r0⟩ := and_e hn
  obtain ⟨c1, r1⟩ := and_e r0
  obtain ⟨c2, r2⟩ := and_e r1
  obtain ⟨w0, ev0⟩ := exa_v c0
  have wE0 : Exa s s.heap w0 "com/example/libgate/libgate/Impact" := Exa.start ev0 c0
  have wS0 : Sta s s.heap "com/example/libgate/libgate/Impact" "NONE" "Lcom/example/libgate/libgate/Impact;" (.ref w0) := Sta.start ev0 (Or.inr ⟨(hw _ (List.mem_of_getElem? (i := 4) rfl)), (hw _ (List.mem_of_getElem? (i := 5) rfl))⟩)
  obtain ⟨w1, ev1⟩ := exa_v c1
  have wE1 : Exa s s.heap w1 "com/example/libgate/libgate/Impact" := Exa.start ev1 c1
  have wS1 : Sta s s.heap "com/example/libgate/libgate/Impact" "LOW" "Lcom/example/libgate/libgate/Impact;" (.ref w1) := Sta.start ev1 (Or.inr ⟨(hw _ (List.mem_of_getElem? (i := 4) rfl)), (hw _ (List.mem_of_getElem? (i := 8) rfl))⟩)
  obtain ⟨w2, ev2⟩ := exa_v c2
  have wE2 : Exa s s.heap w2 "com/example/libgate/libgate/Impact" := Exa.start ev2 c2
  have wS2 : Sta s s.heap "com/example/libgate/libgate/Impact" "MODERATE" "Lcom/example/libgate/libgate/Impact;" (.ref w2) := Sta.start ev2 (Or.inr ⟨(hw _ (List.mem_of_getElem? (i := 4) rfl)), (hw _ (List.mem_of_getElem? (i := 10) rfl))⟩)
  obtain ⟨w3, ev3⟩ := exa_v r2
  have wE3 : Exa s s.heap w3 "com/example/libgate/libgate/Impact" := Exa.start ev3 r2
  have wS3 : Sta s s.heap "com/example/libgate/libgate/Impact" "HIGH" "Lcom/example/libgate/libgate/Impact;" (.ref w3) := Sta.start ev3 (Or.inr ⟨(hw _ (List.mem_of_getElem? (i := 4) rfl)), (hw _ (List.mem_of_getElem? (i := 12) rfl))⟩)
  have hWd : Wd s w0 w1 w2 w3 := ⟨wS0, wE0, wS1, wE1, wS2, wE2, wS3, wE3, trivial⟩
  obtain ⟨n, o, h1, h2, h3, _, L, rfl, ⟨rfl, N⟩, hq⟩ := rm0 l s _ hw tables_1 w0 w1 w2 w3 i0 s.heap s.heap.size hWd (Old.start s) p e ha hc hk s m _ below hf ((Spec.applies_iff_loose hf).mp happ).1 ⟨rfl, State.Warmed39.refl s, rfl⟩ trivial
  exact ⟨n, _, h1, h2, h3, hpost _ _ _ _ _ _ ⟨Cond.after_iff.mpr rfl, Cond.after_iff.mpr (eq_i res_at (Term.int_eval (1)) rfl), trivial⟩ ⟨hq.1, hq.2.1, (hq.2.2.sift fun y hy => Or.inr (N y hy)).mono (by decide) (by decide)⟩⟩
theorem main_1_1 : Claimed_1_1 := comes_1 fun _ _ _ _ _ _ h hF => ⟨h.1, hF⟩
theorem main_1_2 : Claimed_1_2 := comes_1 fun _ _ _ _ _ _ h hF => ⟨h.2.1, hF⟩
end Jvm.Pilot.@@N@@
namespace Jvm.Pilot.@@N@@
open Jvm Jvm.ClassFile Sem Op Lib Jvm.Free Jvm.Stand Jvm.Pilot.@@N@@.Jvm.D
/-! MADE BY PROGRAM (witnessworld.py) out of the Statement's table words and the real class files: 14 classes; the members and pool entries that the words name. The judged class is class 1, her method 1. -/
namespace start1
open Jvm.ClassFile
def u (s : String) : CpInfo := .utf8 (stringToUtf16 s)
/-- a pool by its gaps: so many unusable entries, then the entry; so many at the end -/
def gap : Nat → List CpInfo → List CpInfo
  | 0, r => r
  | n + 1, r => .unusable :: gap n r
def poolList (es : List (Nat × CpInfo)) (last : Nat) : List CpInfo := es.foldr (fun e r => gap e.1 (e.2 :: r)) (gap last [])
def pool (es : List (Nat × CpInfo)) (last : Nat) : Array CpInfo := ⟨poolList es last⟩
def fileOf (pool : Array CpInfo) (this : Nat) (attrs : Array Attribute := #[]) (ms : Array MethodInfo := #[]) (fl : Nat := 33) (sup : Nat := 0) (ifs : Array Nat := #[]) (fds : Array FieldInfo := #[]) : ClassFile where
  minorVersion := 0
  majorVersion := 65
  constantPool := pool
  accessFlags := fl
  thisClass := this
  superClass := sup
  interfaces := ifs
  fields := fds
  methods := ms
  attributes := attrs
def plain (name : String) (sup : Option ClassId) : Class where
  name := name
  kind := .ordinary
  loader := none
  accessFlags := 33
  super := sup
  interfaces := #[]
  cf := none
  fields := #[]
  methods := #[]
  instanceTypes := #[]
  staticTypes := #[]
  resolved := #[]
  callSites := []
  init := .initialized
  statics := none
  mirror := none

def pool0 : Array CpInfo := pool [(5, u "<init>"), (0, u "()V"), (1, .class_ 10), (1, u "java/lang/Object")] 113

def k0m0 : Method := { name := "<init>", desc := "()V", sig := { parameters := [], returnType := none }, accessFlags := 1, code := none }
/-- java/lang/Object -/
def k0 : Class := { plain "java/lang/Object" none with
  accessFlags := 33
  interfaces := #[]
  cf := some (fileOf pool0 8 #[] #[{ accessFlags := 1, nameIndex := 5, descriptorIndex := 6, attributes := #[] }] 33 0 #[] #[])
  fields := #[]
  methods := #[k0m0]
  instanceTypes := #[]
  staticTypes := #[]
  resolved := Array.replicate 124 none
  statics := none }

def pool1 : Array CpInfo := pool [(2, .class_ 4), (1, u "java/lang/Object"), (0, u "<init>"), (0, u "()V"), (0, .integer 2147483647), (0, .class_ 9), (0, u "com/example/libgate/libgate/Impact"), (0, .fieldref 8 11), (0, .nameAndType 12 13), (0, u "NONE"), (0, u "Lcom/example/libgate/libgate/Impact;"), (0, .fieldref 8 15), (0, .nameAndType 16 13), (0, u "LOW"), (0, .fieldref 8 18), (0, .nameAndType 19 13), (0, u "MODERATE"), (0, .fieldref 8 21), (0, .nameAndType 22 13), (0, u "HIGH"), (0, .methodref 24 25), (0, .class_ 26), (0, .nameAndType 27 28), (0, u "java/lang/Math"), (0, u "min"), (0, u "(II)I"), (0, .methodref 8 30), (0, .nameAndType 31 32), (0, u "of"), (0, u "(I)Lcom/example/libgate/libgate/Impact;"), (0, .class_ 34), (0, u "com/example/libgate/libgate/ImpactOfPinLaw"), (2, u "law"), (0, u "(I)Z")] 5

def k1m0 : Method := { name := "<init>", desc := "()V", sig := { parameters := [], returnType := none }, accessFlags := 1, code := none }
def k1c1 : Code := { maxStack := 4, maxLocals := 5, code := code, exceptionTable := #[], attributes := #[] }
def k1m1 : Method := { name := "law", desc := "(I)Z", sig := { parameters := [.int], returnType := some .boolean }, accessFlags := 9, code := some k1c1 }
/-- com/example/libgate/libgate/ImpactOfPinLaw -/
def k1 : Class := { plain "com/example/libgate/libgate/ImpactOfPinLaw" (some 0) with
  accessFlags := 49
  interfaces := #[]
  cf := some (fileOf pool1 33 #[] #[{ accessFlags := 1, nameIndex := 5, descriptorIndex := 6, attributes := #[] }, { accessFlags := 9, nameIndex := 37, descriptorIndex := 38, attributes := #[] }] 49 2 #[] #[])
  fields := #[]
  methods := #[k1m0, k1m1]
  instanceTypes := #[]
  staticTypes := #[]
  resolved := Array.replicate 44 none
  statics := none }

def pool2 : Array CpInfo := pool [(1, .class_ 2), (0, u "java/lang/constant/Constable"), (0, .class_ 4), (0, u "java/lang/Object")] 6

/-- java/lang/constant/Constable -/
def k2 : Class := { plain "java/lang/constant/Constable" (some 0) with
  accessFlags := 1537
  interfaces := #[]
  cf := some (fileOf pool2 1 #[] #[] 1537 3 #[] #[])
  fields := #[]
  methods := #[]
  instanceTypes := #[]
  staticTypes := #[]
  resolved := Array.replicate 11 none
  statics := none }

def pool3 : Array CpInfo := pool [(1, .class_ 2), (0, u "java/lang/Comparable"), (0, .class_ 4), (0, u "java/lang/Object")] 7

/-- java/lang/Comparable -/
def k3 : Class := { plain "java/lang/Comparable" (some 0) with
  accessFlags := 1537
  interfaces := #[]
  cf := some (fileOf pool3 1 #[] #[] 1537 3 #[] #[])
  fields := #[]
  methods := #[]
  instanceTypes := #[]
  staticTypes := #[]
  resolved := Array.replicate 12 none
  statics := none }

def pool4 : Array CpInfo := pool [(1, .class_ 2), (0, u "java/io/Serializable"), (0, .class_ 4), (0, u "java/lang/Object")] 2

/-- java/io/Serializable -/
def k4 : Class := { plain "java/io/Serializable" (some 0) with
  accessFlags := 1537
  interfaces := #[]
  cf := some (fileOf pool4 1 #[] #[] 1537 3 #[] #[])
  fields := #[]
  methods := #[]
  instanceTypes := #[]
  staticTypes := #[]
  resolved := Array.replicate 7 none
  statics := none }

def pool5 : Array CpInfo := pool [(2, .class_ 4), (1, u "java/lang/Enum"), (0, u "name"), (0, u "Ljava/lang/String;"), (2, u "ordinal"), (0, u "I"), (1, .class_ 14), (1, u "java/lang/Object"), (4, u "hash"), (86, .class_ 108), (1, u "java/lang/Enum$EnumDesc"), (2, .class_ 112), (0, u "java/lang/constant/Constable"), (0, .class_ 114), (0, u "java/lang/Comparable"), (0, .class_ 116), (0, u "java/io/Serializable")] 87

/-- java/lang/Enum -/
def k5 : Class := { plain "java/lang/Enum" (some 0) with
  accessFlags := 1057
  interfaces := #[2, 3, 4]
  cf := some (fileOf pool5 2 #[.nestMembers #[106]] #[] 1057 12 #[111, 113, 115] #[{ accessFlags := 18, nameIndex := 5, descriptorIndex := 6, attributes := #[] }, { accessFlags := 18, nameIndex := 9, descriptorIndex := 10, attributes := #[] }, { accessFlags := 2, nameIndex := 19, descriptorIndex := 10, attributes := #[] }])
  fields := #[{ name := "name", type := (.object "java/lang/String"), accessFlags := 18, slot := 0, constantValue := 0 }, { name := "ordinal", type := .int, accessFlags := 18, slot := 1, constantValue := 0 }, { name := "hash", type := .int, accessFlags := 2, slot := 2, constantValue := 0 }]
  methods := #[]
  instanceTypes := #[(.object "java/lang/String"), .int, .int]
  staticTypes := #[]
  resolved := Array.replicate 204 none
  statics := none }

def pool6 : Array CpInfo := pool [(1, .class_ 2), (0, u "com/example/libgate/libgate/Impact"), (0, .fieldref 1 4), (0, .nameAndType 5 6), (0, u "NONE"), (0, u "Lcom/example/libgate/libgate/Impact;"), (0, .fieldref 1 8), (0, .nameAndType 9 6), (0, u "LOW"), (0, .fieldref 1 11), (0, .nameAndType 12 6), (0, u "MODERATE"), (0, .fieldref 1 14), (0, .nameAndType 15 6), (0, u "HIGH"), (2, u "$VALUES"), (0, u "[Lcom/example/libgate/libgate/Impact;"), (6, .class_ 28), (1, u "java/lang/Enum"), (8, u "jsonName"), (0, u "Ljava/lang/String;"), (27, u "of"), (0, u "(I)Lcom/example/libgate/libgate/Impact;")] 6

def k6c0 : Code := { maxStack := 2, maxLocals := 2, code := prog_34_method_5_code, exceptionTable := #[], attributes := #[] }
def k6m0 : Method := { name := "of", desc := "(I)Lcom/example/libgate/libgate/Impact;", sig := { parameters := [.int], returnType := some (.object "com/example/libgate/libgate/Impact") }, accessFlags := 8, code := some k6c0 }
/-- com/example/libgate/libgate/Impact -/
def k6 : Class := { plain "com/example/libgate/libgate/Impact" (some 5) with
  accessFlags := 16432
  interfaces := #[]
  cf := some (fileOf pool6 1 #[] #[{ accessFlags := 8, nameIndex := 66, descriptorIndex := 67, attributes := #[] }] 16432 26 #[] #[{ accessFlags := 16409, nameIndex := 5, descriptorIndex := 6, attributes := #[] }, { accessFlags := 16409, nameIndex := 9, descriptorIndex := 6, attributes := #[] }, { accessFlags := 16409, nameIndex := 12, descriptorIndex := 6, attributes := #[] }, { accessFlags := 16409, nameIndex := 15, descriptorIndex := 6, attributes := #[] }, { accessFlags := 18, nameIndex := 37, descriptorIndex := 38, attributes := #[] }, { accessFlags := 4122, nameIndex := 18, descriptorIndex := 19, attributes := #[] }])
  fields := #[{ name := "NONE", type := (.object "com/example/libgate/libgate/Impact"), accessFlags := 16409, slot := 0, constantValue := 0 }, { name := "LOW", type := (.object "com/example/libgate/libgate/Impact"), accessFlags := 16409, slot := 1, constantValue := 0 }, { name := "MODERATE", type := (.object "com/example/libgate/libgate/Impact"), accessFlags := 16409, slot := 2, constantValue := 0 }, { name := "HIGH", type := (.object "com/example/libgate/libgate/Impact"), accessFlags := 16409, slot := 3, constantValue := 0 }, { name := "jsonName", type := (.object "java/lang/String"), accessFlags := 18, slot := 3, constantValue := 0 }, { name := "$VALUES", type := (.array (.object "com/example/libgate/libgate/Impact")), accessFlags := 4122, slot := 4, constantValue := 0 }]
  methods := #[k6m0]
  instanceTypes := #[(.object "java/lang/String"), .int, .int, (.object "java/lang/String")]
  staticTypes := #[(.object "com/example/libgate/libgate/Impact"), (.object "com/example/libgate/libgate/Impact"), (.object "com/example/libgate/libgate/Impact"), (.object "com/example/libgate/libgate/Impact"), (.array (.object "com/example/libgate/libgate/Impact"))]
  resolved := Array.replicate 74 none
  statics := some 0 }

def pool7 : Array CpInfo := pool [(1, .class_ 2), (0, u "java/lang/Math"), (1, .class_ 6), (1, u "java/lang/Object"), (0, u "<init>"), (0, u "()V"), (89, .class_ 100), (1, u "java/lang/Math$RandomNumberGeneratorHolder"), (71, u "negativeZeroFloatBits"), (0, u "J"), (2, u "negativeZeroDoubleBits"), (24, u "min"), (43, u "$assertionsDisabled"), (0, u "Z"), (88, u "(II)I"), (2, u "twoToTheDoubleScaleDown"), (0, u "D"), (4, u "twoToTheDoubleScaleUp"), (9, u "E"), (3, u "PI"), (2, u "TAU"), (2, u "DEGREES_TO_RADIANS"), (0, u "RADIANS_TO_DEGREES")] 94

def k7m0 : Method := { name := "<init>", desc := "()V", sig := { parameters := [], returnType := none }, accessFlags := 2, code := none }
def k7c1 : Code := { maxStack := 2, maxLocals := 2, code := jdk_29_method_69_code, exceptionTable := #[], attributes := #[] }
def k7m1 : Method := { name := "min", desc := "(II)I", sig := { parameters := [.int, .int], returnType := some .int }, accessFlags := 9, code := some k7c1 }
/-- java/lang/Math -/
def k7 : Class := { plain "java/lang/Math" (some 0) with
  accessFlags := 49
  interfaces := #[]
  cf := some (fileOf pool7 1 #[.nestMembers #[98]] #[{ accessFlags := 2, nameIndex := 7, descriptorIndex := 8, attributes := #[] }, { accessFlags := 9, nameIndex := 201, descriptorIndex := 335, attributes := #[] }] 49 4 #[] #[{ accessFlags := 25, nameIndex := 354, descriptorIndex := 339, attributes := #[] }, { accessFlags := 25, nameIndex := 358, descriptorIndex := 339, attributes := #[] }, { accessFlags := 25, nameIndex := 361, descriptorIndex := 339, attributes := #[] }, { accessFlags := 26, nameIndex := 364, descriptorIndex := 339, attributes := #[] }, { accessFlags := 26, nameIndex := 365, descriptorIndex := 339, attributes := #[] }, { accessFlags := 26, nameIndex := 172, descriptorIndex := 173, attributes := #[] }, { accessFlags := 26, nameIndex := 176, descriptorIndex := 173, attributes := #[] }, { accessFlags := 8, nameIndex := 344, descriptorIndex := 339, attributes := #[] }, { accessFlags := 8, nameIndex := 338, descriptorIndex := 339, attributes := #[] }, { accessFlags := 4120, nameIndex := 245, descriptorIndex := 246, attributes := #[] }])
  fields := #[{ name := "E", type := .double, accessFlags := 25, slot := 0, constantValue := 0 }, { name := "PI", type := .double, accessFlags := 25, slot := 1, constantValue := 0 }, { name := "TAU", type := .double, accessFlags := 25, slot := 2, constantValue := 0 }, { name := "DEGREES_TO_RADIANS", type := .double, accessFlags := 26, slot := 3, constantValue := 0 }, { name := "RADIANS_TO_DEGREES", type := .double, accessFlags := 26, slot := 4, constantValue := 0 }, { name := "negativeZeroFloatBits", type := .long, accessFlags := 26, slot := 5, constantValue := 0 }, { name := "negativeZeroDoubleBits", type := .long, accessFlags := 26, slot := 6, constantValue := 0 }, { name := "twoToTheDoubleScaleUp", type := .double, accessFlags := 8, slot := 7, constantValue := 0 }, { name := "twoToTheDoubleScaleDown", type := .double, accessFlags := 8, slot := 8, constantValue := 0 }, { name := "$assertionsDisabled", type := .boolean, accessFlags := 4120, slot := 9, constantValue := 0 }]
  methods := #[k7m0, k7m1]
  instanceTypes := #[]
  staticTypes := #[.double, .double, .double, .double, .double, .long, .long, .double, .double, .boolean]
  resolved := Array.replicate 460 none
  statics := none }

def pool8 : Array CpInfo := pool [(1, u "java/lang/Cloneable"), (0, .class_ 1), (0, u "java/lang/Object"), (0, .class_ 3)] 3

/-- java/lang/Cloneable -/
def k8 : Class := { plain "java/lang/Cloneable" (some 0) with
  accessFlags := 1537
  interfaces := #[]
  cf := some (fileOf pool8 2 #[] #[] 1537 4 #[] #[])
  fields := #[]
  methods := #[]
  instanceTypes := #[]
  staticTypes := #[]
  resolved := Array.replicate 8 none
  statics := none }

/-- the primitive byte -/
def k9 : Class := { plain "byte" none with kind := .primitive 'B', accessFlags := 0x411 }
/-- [B -/
def k10 : Class := { plain "[B" (some 0) with kind := .array 9 .byte, interfaces := #[8, 4], accessFlags := 1041 }

/-- the primitive int -/
def k11 : Class := { plain "int" none with kind := .primitive 'I', accessFlags := 0x411 }
/-- [I -/
def k12 : Class := { plain "[I" (some 0) with kind := .array 11 .int, interfaces := #[8, 4], accessFlags := 1041 }

/-- [Lcom/example/libgate/libgate/Impact; -/
def k13 : Class := { plain "[Lcom/example/libgate/libgate/Impact;" (some 0) with kind := .array 6 (.object "com/example/libgate/libgate/Impact"), interfaces := #[8, 4], accessFlags := 1041 }

def heap : Heap := #[{ cls := 6, slots := #[.ref 1, .ref 2, .ref 3, .ref 4, .null], vm := .statics 6 },
  { cls := 6, slots := #[.null, .int 0, .int 0, .null], vm := .none },
  { cls := 6, slots := #[.null, .int 0, .int 0, .null], vm := .none },
  { cls := 6, slots := #[.null, .int 0, .int 0, .null], vm := .none },
  { cls := 6, slots := #[.null, .int 0, .int 0, .null], vm := .none }]
def classes : Array Class := #[k0, k1, k2, k3, k4, k5, k6, k7, k8, k9, k10, k11, k12, k13]
def interned : List (Array UInt16 × Addr) := []
def slotsUsed : Nat := 21
def theMethod : MethodId := ⟨1, 1⟩
def args0 : Array Value := #[.int 5]
def aboutOver (below : List Frame) : State where
  vm := { classes := classes, interned := interned.toArray }
  heap := heap
  slotsUsed := slotsUsed
  threads := #[{ frames := .invoking theMethod args0 :: below }]
def below0 : List Frame := [.native { method := ⟨0, 0⟩, args := #[] }]
def about1 : State := aboutOver below0
def p0 : Program := .bare "" "" ""
def e0 : Env := launch0.env 0 0 0
theorem w_frames : about1.frames = Frame.invoking theMethod args0 :: below0 := rfl
set_option maxRecDepth 65536 in
theorem w_args : argsFit about1.vm theMethod args0 = true := by decide +kernel
set_option maxRecDepth 65536 in
theorem w_heap : heapFits about1 = true := by decide +kernel
set_option maxRecDepth 65536 in
theorem w_runnable : about1.curStatus? = some .runnable := by decide +kernel
set_option maxRecDepth 65536 in
theorem w_alone : about1.alone = true := by decide +kernel
set_option maxRecDepth 65536 in
theorem w_named : about1.methodNamed? x = some theMethod := by decide +kernel
set_option maxRecDepth 65536 in
theorem w_hears : about1.hears theMethod below0 = true := by decide +kernel
set_option maxRecDepth 65536 in
theorem w_ripe : about1.ripe theMethod args0 below0 = true := by decide +kernel
theorem w_running : about1.status = .running := rfl
set_option maxRecDepth 65536 in
theorem w_room : about1.hasRoom e0.platform room_1 = true :=
  launch0.hasRoom_least _ room_1 (by decide +kernel) (by decide +kernel) (by decide +kernel) (by decide +kernel) (by decide +kernel) (by decide +kernel)
theorem allAtoms_all (ts : List Jvm.Cond) (a : Array Jvm.Value) (st : Jvm.State) : (allAtoms ts).before a st = ts.all (fun c => c.before a st) := by
  induction ts with
  | nil => rfl
  | cons c t ih =>
    show (Jvm.Cond.and c (allAtoms t)).before a st = _
    rw [Jvm.Cond.before_and, ih, List.all_cons]
def words1 : List Jvm.Cond := Jvm.Cond.code x code maxLocals ret :: tables_1
/-- a 'code' word, met by the world's own term for the bytes: nothing is compared byte by byte -/
theorem code_word {y : MethodName} {bytes : ByteArray} {mx : Nat} {rt : Option FieldType} {a : Array Value} {s : State} {m : MethodId} {meth : Method} {c : Code} (h1 : s.methodNamed? y = some m) (h2 : s.vm.method? m = some meth) (h3 : meth.code = some c) (h4 : c.code = bytes)
    (h5 : (c.maxLocals == mx && c.exceptionTable.isEmpty && decide (c.maxStack ≤ mostOperands) && decide (meth.sig.returnType = rt) && !meth.locks && decide (parseMethodDescriptor y.desc = some meth.sig)) = true) : (Jvm.Cond.code y bytes mx rt).before a s = true := by
  simp only [Bool.and_eq_true, beq_iff_eq, Bool.not_eq_true', decide_eq_true_eq] at h5
  obtain ⟨⟨⟨⟨⟨g1, g2⟩, g3⟩, g4⟩, g5⟩, g6⟩ := h5
  simp [Cond.before, Cond.holds, Cond.value, h1, h2, h3, h4, g1, g2, g3, g4, g5, g6]
def isCode : Jvm.Cond → Bool
  | .code _ _ _ _ => true
  | _ => false
theorem all_split {L : List Jvm.Cond} {P : Jvm.Cond → Bool} (h1 : L.all (fun c => isCode c || P c) = true) (h2 : ∀ c ∈ L.filter isCode, P c = true) : L.all P = true := by
  refine List.all_eq_true.mpr fun c hc => ?_
  have h := List.all_eq_true.mp h1 c hc
  rcases Bool.eq_false_or_eq_true (isCode c) with hi | hi
  · exact h2 c (List.mem_filter.mpr ⟨hc, hi⟩)
  · simpa [hi] using h
set_option maxRecDepth 65536 in
theorem w_c0 : (Jvm.Cond.code x code maxLocals ret).before args0 about1 = true := code_word (m := ⟨1, 1⟩) (meth := k1m1) (c := k1c1) (by decide +kernel) rfl rfl rfl (by decide +kernel)
set_option maxRecDepth 65536 in
theorem w_c1 : (Jvm.Cond.code ({ cls := "com/example/libgate/libgate/Impact", name := "of", desc := "(I)Lcom/example/libgate/libgate/Impact;" } : Jvm.MethodName) prog_34_method_5_code (2 : Nat) (Option.some (Jvm.ClassFile.FieldType.object "com/example/libgate/libgate/Impact"))).before args0 about1 = true := code_word (m := ⟨6, 0⟩) (meth := k6m0) (c := k6c0) (by decide +kernel) rfl rfl rfl (by decide +kernel)
set_option maxRecDepth 65536 in
theorem w_c2 : (Jvm.Cond.code ({ cls := "java/lang/Math", name := "min", desc := "(II)I" } : Jvm.MethodName) jdk_29_method_69_code (2 : Nat) (Option.some Jvm.ClassFile.FieldType.int)).before args0 about1 = true := code_word (m := ⟨7, 1⟩) (meth := k7m1) (c := k7c1) (by decide +kernel) rfl rfl rfl (by decide +kernel)
def codes1 : List Jvm.Cond := [Jvm.Cond.code x code maxLocals ret, Jvm.Cond.code ({ cls := "com/example/libgate/libgate/Impact", name := "of", desc := "(I)Lcom/example/libgate/libgate/Impact;" } : Jvm.MethodName) prog_34_method_5_code (2 : Nat) (Option.some (Jvm.ClassFile.FieldType.object "com/example/libgate/libgate/Impact")), Jvm.Cond.code ({ cls := "java/lang/Math", name := "min", desc := "(II)I" } : Jvm.MethodName) jdk_29_method_69_code (2 : Nat) (Option.some Jvm.ClassFile.FieldType.int)]
set_option maxRecDepth 65536 in
theorem codes_eq : words1.filter isCode = codes1 := rfl
theorem w_codes : ∀ c ∈ words1.filter isCode, c.before args0 about1 = true := by
  rw [codes_eq]
  intro c hc
  simp only [codes1, List.mem_cons, List.not_mem_nil, or_false] at hc
  rcases hc with rfl | rfl | rfl
  · exact w_c0
  · exact w_c1
  · exact w_c2
set_option maxRecDepth 65536 in
theorem w_t1 : (words1.take 24).all (fun c => isCode c || c.before args0 about1) = true := by decide +kernel
set_option maxRecDepth 65536 in
theorem w_t2 : (words1.drop 24).all (fun c => isCode c || c.before args0 about1) = true := by decide +kernel
theorem w_tables : (allAtoms (Jvm.Cond.code x code maxLocals ret :: tables_1)).before args0 about1 = true := by
  rw [allAtoms_all]
  show words1.all (fun c => c.before args0 about1) = true
  refine all_split ?_ w_codes
  rw [← List.take_append_drop 24 words1, List.all_append, w_t1, w_t2]
  rfl
set_option maxRecDepth 65536 in
theorem w_case : (Jvm.Cond.and given_1 narrow_1).before args0 about1 = true := by decide +kernel
theorem w_applies : (headSpec (Jvm.Cond.code x code maxLocals ret :: tables_1) room_1).applies x e0.platform about1 = true :=
  (Spec.applies_iff w_frames).mpr ⟨w_running, w_runnable, w_alone, w_named, w_hears, w_ripe, w_room, w_tables⟩
theorem atStart : AtStart classFile x code maxLocals ret World_1 tables_1 room_1 Calls_1 rest_1 Pre_1 launch0 p0 e0 about1 theMethod args0 below0 :=
  ⟨lists_1, trivial, launch0.admits_env _ _ _, launch0.least_env, fairChoices_fair.cas, fairChoices_fair.clock, w_frames, w_args, w_heap, w_applies, trivial, trivial, w_case⟩
end start1
theorem witness_1 : WitnessClaimed_1 := ⟨start1.p0, start1.e0, start1.about1, start1.theMethod, start1.args0, start1.below0, start1.atStart⟩
end Jvm.Pilot.@@N@@
