import JvmDerived
import JvmDerived.Pilot.@@N@@Statement
import JvmDerived.Pilot.@@N@@Code
set_option linter.unusedVariables false
set_option linter.unusedSimpArgs false
namespace Jvm.Pilot.@@N@@
open Jvm Jvm.ClassFile Sem Op Lib Jvm.Free Jvm.Stand Jvm.LawKit Jvm.RoadKit Bundle Jvm.Pilot.@@N@@.Jvm.D
theorem own_ofNat {y : Int32} {n : Nat} (h : y.toBitVec.toNat = n) : y = Int32.ofNat n := by
  subst h
  apply Int32.toBitVec_inj.mp
  apply BitVec.eq_of_toNat_eq
  simp
theorem own_and_le (x m : Int32) : (x &&& m).toBitVec.toNat ≤ m.toBitVec.toNat := by
  rw [Int32.toBitVec_and, BitVec.toNat_and]; exact Nat.and_le_right
theorem own_nonneg (x : Int32) : 0 ≤ (x &&& (2147483647 : Int32)).toInt := by
  have h := own_and_le x 2147483647
  have e : (2147483647 : Int32).toBitVec.toNat = 2147483647 := by decide
  rw [e] at h
  have : (x &&& (2147483647 : Int32)).toInt = (x &&& (2147483647 : Int32)).toBitVec.toInt := rfl
  rw [this, BitVec.toInt_eq_toNat_cond, if_pos (by omega)]
  omega
theorem own_rem_7 (x : Int32) : ((x &&& (2147483647 : Int32)) % (7 : Int32)) = (0 : Int32) ∨ ((x &&& (2147483647 : Int32)) % (7 : Int32)) = (1 : Int32) ∨ ((x &&& (2147483647 : Int32)) % (7 : Int32)) = (2 : Int32) ∨ ((x &&& (2147483647 : Int32)) % (7 : Int32)) = (3 : Int32) ∨ ((x &&& (2147483647 : Int32)) % (7 : Int32)) = (4 : Int32) ∨ ((x &&& (2147483647 : Int32)) % (7 : Int32)) = (5 : Int32) ∨ ((x &&& (2147483647 : Int32)) % (7 : Int32)) = (6 : Int32) := by
  have h := own_nonneg x
  generalize x &&& (2147483647 : Int32) = y at h ⊢
  have e : (y % (7 : Int32)).toInt = y.toInt.tmod 7 := by rw [Int32.toInt_mod]; rfl
  have e1 : y.toInt.tmod 7 = y.toInt % 7 := Int.tmod_eq_emod_of_nonneg h
  have q : (y % (7 : Int32)).toInt = 0 ∨ (y % (7 : Int32)).toInt = 1 ∨ (y % (7 : Int32)).toInt = 2 ∨ (y % (7 : Int32)).toInt = 3 ∨ (y % (7 : Int32)).toInt = 4 ∨ (y % (7 : Int32)).toInt = 5 ∨ (y % (7 : Int32)).toInt = 6 := by omega
  rcases q with q | q | q | q | q | q | q
  · exact Or.inl (Int32.toInt_inj.mp (q.trans (by decide)))
  · exact Or.inr (Or.inl (Int32.toInt_inj.mp (q.trans (by decide))))
  · exact Or.inr (Or.inr (Or.inl (Int32.toInt_inj.mp (q.trans (by decide)))))
  · exact Or.inr (Or.inr (Or.inr (Or.inl (Int32.toInt_inj.mp (q.trans (by decide))))))
  · exact Or.inr (Or.inr (Or.inr (Or.inr (Or.inl (Int32.toInt_inj.mp (q.trans (by decide)))))))
  · exact Or.inr (Or.inr (Or.inr (Or.inr (Or.inr (Or.inl (Int32.toInt_inj.mp (q.trans (by decide))))))))
  · exact Or.inr (Or.inr (Or.inr (Or.inr (Or.inr (Or.inr (Int32.toInt_inj.mp (q.trans (by decide))))))))
def Wd (Z : State) (w0 w1 w2 w3 w4 w5 w6 : Addr) : Prop := Sta Z Z.heap "com/example/wyrmsiege/wyrmsiege/model/Kind" "CAV" "Lcom/example/wyrmsiege/wyrmsiege/model/Kind;" (.ref w0) ∧ Exa Z Z.heap w0 "com/example/wyrmsiege/wyrmsiege/model/Kind" ∧ Sta Z Z.heap "com/example/wyrmsiege/wyrmsiege/model/Kind" "INF" "Lcom/example/wyrmsiege/wyrmsiege/model/Kind;" (.ref w1) ∧ Exa Z Z.heap w1 "com/example/wyrmsiege/wyrmsiege/model/Kind" ∧ Sta Z Z.heap "com/example/wyrmsiege/wyrmsiege/model/Kind" "ARH" "Lcom/example/wyrmsiege/wyrmsiege/model/Kind;" (.ref w2) ∧ Exa Z Z.heap w2 "com/example/wyrmsiege/wyrmsiege/model/Kind" ∧ Sta Z Z.heap "com/example/wyrmsiege/wyrmsiege/model/Kind" "MIL" "Lcom/example/wyrmsiege/wyrmsiege/model/Kind;" (.ref w3) ∧ Exa Z Z.heap w3 "com/example/wyrmsiege/wyrmsiege/model/Kind" ∧ Sta Z Z.heap "com/example/wyrmsiege/wyrmsiege/model/Kind" "HERO" "Lcom/example/wyrmsiege/wyrmsiege/model/Kind;" (.ref w4) ∧ Exa Z Z.heap w4 "com/example/wyrmsiege/wyrmsiege/model/Kind" ∧ Sta Z Z.heap "com/example/wyrmsiege/wyrmsiege/model/Kind" "WZD" "Lcom/example/wyrmsiege/wyrmsiege/model/Kind;" (.ref w5) ∧ Exa Z Z.heap w5 "com/example/wyrmsiege/wyrmsiege/model/Kind" ∧ Sta Z Z.heap "com/example/wyrmsiege/wyrmsiege/model/Kind" "DRAGON" "Lcom/example/wyrmsiege/wyrmsiege/model/Kind;" (.ref w6) ∧ Exa Z Z.heap w6 "com/example/wyrmsiege/wyrmsiege/model/Kind" ∧ Fld Z Z.heap w3 "java/lang/Enum" "ordinal" "I" (.int (3 : Int32)) ∧ Fld Z Z.heap w0 "java/lang/Enum" "ordinal" "I" (.int (0 : Int32)) ∧ Fld Z Z.heap w1 "java/lang/Enum" "ordinal" "I" (.int (1 : Int32)) ∧ Fld Z Z.heap w2 "java/lang/Enum" "ordinal" "I" (.int (2 : Int32)) ∧ Fld Z Z.heap w5 "java/lang/Enum" "ordinal" "I" (.int (5 : Int32)) ∧ Fld Z Z.heap w6 "java/lang/Enum" "ordinal" "I" (.int (6 : Int32)) ∧ Fld Z Z.heap w4 "java/lang/Enum" "ordinal" "I" (.int (4 : Int32)) ∧ True
def Qp (r : Option Value) (h0 : Heap) (n0 : Nat) (v : Option Value) (h : Heap) (L : List Loc) : Prop := v = r ∧ Fr n0 L ∧ h = h0
def Ql (n0 : Nat) (v : Option Value) (h : Heap) (L : List Loc) : Prop := v = some (.int (1 : Int32)) ∧ Fr n0 L
theorem d_prog_16_method_4_code_0 : decode prog_16_method_4_code 0 = .ok (.aload_n 0, 1) := by decide +kernel
theorem d_prog_16_method_4_code_1 : decode prog_16_method_4_code 1 = .ok (.getstatic 3, 3) := by decide +kernel
theorem d_prog_16_method_4_code_4 : decode prog_16_method_4_code 4 = .ok (.if_acmp .eq 24, 3) := by decide +kernel
theorem d_prog_16_method_4_code_28 : decode prog_16_method_4_code 28 = .ok (.iconst 1, 1) := by decide +kernel
theorem d_prog_16_method_4_code_29 : decode prog_16_method_4_code 29 = .ok (.goto 4, 3) := by decide +kernel
theorem d_prog_16_method_4_code_33 : decode prog_16_method_4_code 33 = .ok (.ireturn, 1) := by decide +kernel
theorem pn0 : plainName "com/example/wyrmsiege/wyrmsiege/model/Kind" = true := by first | (simp [plainName, overriddenIn]; done) | decide +kernel
theorem ef0 (m : MethodId)   (w0 : Addr) : entryFrame m #[(.ref w0)] 1 = mkF m 0 #[.val (.ref w0)] [] := by first | (simp [entryFrame, mkF, argsToLocals, Value.category]; done) | rfl
set_option maxRecDepth 65536 in
set_option maxHeartbeats 40000000 in
theorem rm1 (l : Launch) (Z : State) (a0 : Array Value) (hw : ∀ d ∈ tables_1, d.before a0 Z = true) (ws : List Jvm.Cond) (w0 w1 w2 w3 w4 w5 w6 : Addr) (h0 : Heap) (n0 : Nat) (hWd : Wd Z w0 w1 w2 w3 w4 w5 w6) (O0 : Old Z n0 h0) :
    MetFree l (⟨"com/example/wyrmsiege/wyrmsiege/model/Kind", "isTroop", "()Z"⟩ : MethodName) (head1 (Jvm.Cond.code (⟨"com/example/wyrmsiege/wyrmsiege/model/Kind", "isTroop", "()Z"⟩ : MethodName) prog_16_method_4_code 1 (some .boolean) :: ws) ({ frames := 0, cells := 0, slots := 0, locals := 0 } : Room)) (fun a U => a = #[(.ref w0)] ∧ Z.Warmed39 U.vm ∧ U.heap = h0) (fun _ _ _ _ _ => True) (fun _ U o U' => ∃ v L, o = .returned v ∧ Qp (some (.int (1 : Int32))) h0 n0 v U'.heap L ∧ FrameEnd U o U' L ({ frames := 0, cells := 0, slots := 0, locals := 0 } : Room).cells ({ frames := 0, cells := 0, slots := 0, locals := 0 } : Room).slots) := by
  refine MetFree.of_bodySF (plainFor_of_name pn0) hisR ?_
  intro p e s m args below meth c s₁ Bd hml0 hP hK
  obtain ⟨rfl, hZ, hh⟩ := hP
  have hx := Bd.exec
  have hby := Bd.bytes
  have hml : c.maxLocals = 1 := hml0
  have hown : s.vm.findClass "com/example/wyrmsiege/wyrmsiege/model/Kind" = some m.cls := findClass_of_methodNamed Bd.named
  have hnm := (name_of_methodNamed Bd.named Bd.method).1
  have X0 : Stand p l e ({ frames := 0, cells := 0, slots := 0, locals := 0 } : Room) s m #[(.ref w0)] below meth c s₁ [] 0 0 := Stand.of_body Bd
  have e0 : s₁.heap = h0 := by rw [← hh, Bd.state]; rfl
  have N0 := Fr.nil n0
  obtain ⟨wS0, wE0, wS1, wE1, wS2, wE2, wS3, wE3, wS4, wE4, wS5, wE5, wS6, wE6, wF3_ordinal, wF0_ordinal, wF1_ordinal, wF2_ordinal, wF5_ordinal, wF6_ordinal, wF4_ordinal, -⟩ := id hWd
  have pre0 : ∀ t, Steps p.tables e below (s₁.setTop (mkF m 0 #[.val (.ref w0)] [])) t → Steps p.tables e below (s₁.setTop (entryFrame m #[(.ref w0)] 1)) t := fun t k => castTop (ef0 m w0) k
  obtain ⟨T25, X25, e25, st25⟩ := getS2 X0 hx hZ hown (host := "") (Or.inl (hw _ (List.mem_of_getElem? (i := 24) rfl))) Via.refl e0 (wS0.ext O0.2) (g := (mkF m 1 #[.val (.ref w0)] [(.ref w0)])) rfl (hb hby d_prog_16_method_4_code_1)
  obtain ⟨fs, hr, hrun, hended, hWr, hsame⟩ := X25.leave (v := some (.int (1 : Int32))) (fun h => by rw [Bd.returns] at h; cases h)
  refine ⟨_, _, pre0 _ ?_, hrun, hended, _, _, rfl, ?_, ⟨_, rfl⟩, hWr, hsame.mono (Nat.le_of_ble_eq_true rfl) (Nat.le_of_ble_eq_true rfl)⟩
  · show Steps p.tables e below (s₁.setTop (mkF m 0 #[.val (.ref w0)] [])) _
    refine XS.aloadN X0.here hx rfl (hb hby d_prog_16_method_4_code_0) rfl rfl ?_
    show Steps p.tables e below (s₁.setTop (mkF m 1 #[.val (.ref w0)] [(.ref w0)])) _
    refine st25 _ ?_
    show Steps p.tables e below (T25.setTop (mkF m 4 #[.val (.ref w0)] [(.ref w0), (.ref w0)])) _
    refine Jvm.RoadKit.acmp (g := (mkF m 4 #[.val (.ref w0)] [(.ref w0), (.ref w0)])) X25 hx rfl rfl rfl (pc0 := 4) (pc' := 28) (same := true) rfl (hb hby d_prog_16_method_4_code_4) rfl (decide_eq_true rfl) (by decide) (by decide) ?_
    show Steps p.tables e below (T25.setTop (mkF m 28 #[.val (.ref w0)] [])) _
    refine XS.iconst X25.here hx rfl (hb hby d_prog_16_method_4_code_28) ?_
    show Steps p.tables e below (T25.setTop (mkF m 29 #[.val (.ref w0)] [(.int (1 : Int32))])) _
    refine XS.goto X25.here hx rfl (pc0 := 29) (pc' := 33) rfl (hb hby d_prog_16_method_4_code_29) (by decide) (by decide) ?_
    show Steps p.tables e below (T25.setTop (mkF m 33 #[.val (.ref w0)] [(.int (1 : Int32))])) _
    exact retN X25 hx (t := .boolean) Bd.returns (by simp) (hb hby d_prog_16_method_4_code_33) hr
  · show Qp (some (.int (1 : Int32))) h0 n0 _ T25.heap _
    rw [e25]
    exact ⟨rfl, N0, rfl⟩
theorem pd0 : parseMethodDescriptor "()Z" = some ⟨[], some .boolean⟩ := by decide +kernel
theorem d_prog_16_method_4_code_7 : decode prog_16_method_4_code 7 = .ok (.aload_n 0, 1) := by decide +kernel
theorem d_prog_16_method_4_code_8 : decode prog_16_method_4_code 8 = .ok (.getstatic 7, 3) := by decide +kernel
theorem d_prog_16_method_4_code_11 : decode prog_16_method_4_code 11 = .ok (.if_acmp .eq 17, 3) := by decide +kernel
theorem ef1 (m : MethodId)   (w1 : Addr) : entryFrame m #[(.ref w1)] 1 = mkF m 0 #[.val (.ref w1)] [] := by first | (simp [entryFrame, mkF, argsToLocals, Value.category]; done) | rfl
set_option maxRecDepth 65536 in
set_option maxHeartbeats 40000000 in
theorem rm2 (l : Launch) (Z : State) (a0 : Array Value) (hw : ∀ d ∈ tables_1, d.before a0 Z = true) (ws : List Jvm.Cond) (w0 w1 w2 w3 w4 w5 w6 : Addr) (h0 : Heap) (n0 : Nat) (hWd : Wd Z w0 w1 w2 w3 w4 w5 w6) (O0 : Old Z n0 h0) :
    MetFree l (⟨"com/example/wyrmsiege/wyrmsiege/model/Kind", "isTroop", "()Z"⟩ : MethodName) (head1 (Jvm.Cond.code (⟨"com/example/wyrmsiege/wyrmsiege/model/Kind", "isTroop", "()Z"⟩ : MethodName) prog_16_method_4_code 1 (some .boolean) :: ws) ({ frames := 0, cells := 0, slots := 0, locals := 0 } : Room)) (fun a U => a = #[(.ref w1)] ∧ Z.Warmed39 U.vm ∧ U.heap = h0) (fun _ _ _ _ _ => True) (fun _ U o U' => ∃ v L, o = .returned v ∧ Qp (some (.int (1 : Int32))) h0 n0 v U'.heap L ∧ FrameEnd U o U' L ({ frames := 0, cells := 0, slots := 0, locals := 0 } : Room).cells ({ frames := 0, cells := 0, slots := 0, locals := 0 } : Room).slots) := by
  refine MetFree.of_bodySF (plainFor_of_name pn0) hisR ?_
  intro p e s m args below meth c s₁ Bd hml0 hP hK
  obtain ⟨rfl, hZ, hh⟩ := hP
  have hx := Bd.exec
  have hby := Bd.bytes
  have hml : c.maxLocals = 1 := hml0
  have hown : s.vm.findClass "com/example/wyrmsiege/wyrmsiege/model/Kind" = some m.cls := findClass_of_methodNamed Bd.named
  have hnm := (name_of_methodNamed Bd.named Bd.method).1
  have X0 : Stand p l e ({ frames := 0, cells := 0, slots := 0, locals := 0 } : Room) s m #[(.ref w1)] below meth c s₁ [] 0 0 := Stand.of_body Bd
  have e0 : s₁.heap = h0 := by rw [← hh, Bd.state]; rfl
  have N0 := Fr.nil n0
  obtain ⟨wS0, wE0, wS1, wE1, wS2, wE2, wS3, wE3, wS4, wE4, wS5, wE5, wS6, wE6, wF3_ordinal, wF0_ordinal, wF1_ordinal, wF2_ordinal, wF5_ordinal, wF6_ordinal, wF4_ordinal, -⟩ := id hWd
  have pre0 : ∀ t, Steps p.tables e below (s₁.setTop (mkF m 0 #[.val (.ref w1)] [])) t → Steps p.tables e below (s₁.setTop (entryFrame m #[(.ref w1)] 1)) t := fun t k => castTop (ef1 m w1) k
  obtain ⟨T28, X28, e28, st28⟩ := getS2 X0 hx hZ hown (host := "") (Or.inl (hw _ (List.mem_of_getElem? (i := 24) rfl))) Via.refl e0 (wS0.ext O0.2) (g := (mkF m 1 #[.val (.ref w1)] [(.ref w1)])) rfl (hb hby d_prog_16_method_4_code_1)
  obtain ⟨T29, X29, e29, st29⟩ := getS2 X28 hx hZ hown (host := "") (Or.inl (hw _ (List.mem_of_getElem? (i := 25) rfl))) Via.refl e28 (wS1.ext O0.2) (g := (mkF m 8 #[.val (.ref w1)] [(.ref w1)])) rfl (hb hby d_prog_16_method_4_code_8)
  obtain ⟨fs, hr, hrun, hended, hWr, hsame⟩ := X29.leave (v := some (.int (1 : Int32))) (fun h => by rw [Bd.returns] at h; cases h)
  refine ⟨_, _, pre0 _ ?_, hrun, hended, _, _, rfl, ?_, ⟨_, rfl⟩, hWr, hsame.mono (Nat.le_of_ble_eq_true rfl) (Nat.le_of_ble_eq_true rfl)⟩
  · show Steps p.tables e below (s₁.setTop (mkF m 0 #[.val (.ref w1)] [])) _
    refine XS.aloadN X0.here hx rfl (hb hby d_prog_16_method_4_code_0) rfl rfl ?_
    show Steps p.tables e below (s₁.setTop (mkF m 1 #[.val (.ref w1)] [(.ref w1)])) _
    refine st28 _ ?_
    show Steps p.tables e below (T28.setTop (mkF m 4 #[.val (.ref w1)] [(.ref w0), (.ref w1)])) _
    refine Jvm.RoadKit.acmp (g := (mkF m 4 #[.val (.ref w1)] [(.ref w0), (.ref w1)])) X28 hx rfl rfl rfl (pc0 := 4) (pc' := 7) (same := false) rfl (hb hby d_prog_16_method_4_code_4) rfl (decide_eq_false fun q => (Fld.ne wF1_ordinal wF0_ordinal (fun q => absurd (Value.int.inj q) (by decide))) (Value.ref.inj q)) (by decide) (by decide) ?_
    show Steps p.tables e below (T28.setTop (mkF m 7 #[.val (.ref w1)] [])) _
    refine XS.aloadN X28.here hx rfl (hb hby d_prog_16_method_4_code_7) rfl rfl ?_
    show Steps p.tables e below (T28.setTop (mkF m 8 #[.val (.ref w1)] [(.ref w1)])) _
    refine st29 _ ?_
    show Steps p.tables e below (T29.setTop (mkF m 11 #[.val (.ref w1)] [(.ref w1), (.ref w1)])) _
    refine Jvm.RoadKit.acmp (g := (mkF m 11 #[.val (.ref w1)] [(.ref w1), (.ref w1)])) X29 hx rfl rfl rfl (pc0 := 11) (pc' := 28) (same := true) rfl (hb hby d_prog_16_method_4_code_11) rfl (decide_eq_true rfl) (by decide) (by decide) ?_
    show Steps p.tables e below (T29.setTop (mkF m 28 #[.val (.ref w1)] [])) _
    refine XS.iconst X29.here hx rfl (hb hby d_prog_16_method_4_code_28) ?_
    show Steps p.tables e below (T29.setTop (mkF m 29 #[.val (.ref w1)] [(.int (1 : Int32))])) _
    refine XS.goto X29.here hx rfl (pc0 := 29) (pc' := 33) rfl (hb hby d_prog_16_method_4_code_29) (by decide) (by decide) ?_
    show Steps p.tables e below (T29.setTop (mkF m 33 #[.val (.ref w1)] [(.int (1 : Int32))])) _
    exact retN X29 hx (t := .boolean) Bd.returns (by simp) (hb hby d_prog_16_method_4_code_33) hr
  · show Qp (some (.int (1 : Int32))) h0 n0 _ T29.heap _
    rw [e29]
    exact ⟨rfl, N0, rfl⟩
theorem d_prog_16_method_4_code_14 : decode prog_16_method_4_code 14 = .ok (.aload_n 0, 1) := by decide +kernel
theorem d_prog_16_method_4_code_15 : decode prog_16_method_4_code 15 = .ok (.getstatic 10, 3) := by decide +kernel
theorem d_prog_16_method_4_code_18 : decode prog_16_method_4_code 18 = .ok (.if_acmp .eq 10, 3) := by decide +kernel
theorem ef2 (m : MethodId)   (w2 : Addr) : entryFrame m #[(.ref w2)] 1 = mkF m 0 #[.val (.ref w2)] [] := by first | (simp [entryFrame, mkF, argsToLocals, Value.category]; done) | rfl
set_option maxRecDepth 65536 in
set_option maxHeartbeats 40000000 in
theorem rm3 (l : Launch) (Z : State) (a0 : Array Value) (hw : ∀ d ∈ tables_1, d.before a0 Z = true) (ws : List Jvm.Cond) (w0 w1 w2 w3 w4 w5 w6 : Addr) (h0 : Heap) (n0 : Nat) (hWd : Wd Z w0 w1 w2 w3 w4 w5 w6) (O0 : Old Z n0 h0) :
    MetFree l (⟨"com/example/wyrmsiege/wyrmsiege/model/Kind", "isTroop", "()Z"⟩ : MethodName) (head1 (Jvm.Cond.code (⟨"com/example/wyrmsiege/wyrmsiege/model/Kind", "isTroop", "()Z"⟩ : MethodName) prog_16_method_4_code 1 (some .boolean) :: ws) ({ frames := 0, cells := 0, slots := 0, locals := 0 } : Room)) (fun a U => a = #[(.ref w2)] ∧ Z.Warmed39 U.vm ∧ U.heap = h0) (fun _ _ _ _ _ => True) (fun _ U o U' => ∃ v L, o = .returned v ∧ Qp (some (.int (1 : Int32))) h0 n0 v U'.heap L ∧ FrameEnd U o U' L ({ frames := 0, cells := 0, slots := 0, locals := 0 } : Room).cells ({ frames := 0, cells := 0, slots := 0, locals := 0 } : Room).slots) := by
  refine MetFree.of_bodySF (plainFor_of_name pn0) hisR ?_
  intro p e s m args below meth c s₁ Bd hml0 hP hK
  obtain ⟨rfl, hZ, hh⟩ := hP
  have hx := Bd.exec
  have hby := Bd.bytes
  have hml : c.maxLocals = 1 := hml0
  have hown : s.vm.findClass "com/example/wyrmsiege/wyrmsiege/model/Kind" = some m.cls := findClass_of_methodNamed Bd.named
  have hnm := (name_of_methodNamed Bd.named Bd.method).1
  have X0 : Stand p l e ({ frames := 0, cells := 0, slots := 0, locals := 0 } : Room) s m #[(.ref w2)] below meth c s₁ [] 0 0 := Stand.of_body Bd
  have e0 : s₁.heap = h0 := by rw [← hh, Bd.state]; rfl
  have N0 := Fr.nil n0
  obtain ⟨wS0, wE0, wS1, wE1, wS2, wE2, wS3, wE3, wS4, wE4, wS5, wE5, wS6, wE6, wF3_ordinal, wF0_ordinal, wF1_ordinal, wF2_ordinal, wF5_ordinal, wF6_ordinal, wF4_ordinal, -⟩ := id hWd
  have pre0 : ∀ t, Steps p.tables e below (s₁.setTop (mkF m 0 #[.val (.ref w2)] [])) t → Steps p.tables e below (s₁.setTop (entryFrame m #[(.ref w2)] 1)) t := fun t k => castTop (ef2 m w2) k
  obtain ⟨T32, X32, e32, st32⟩ := getS2 X0 hx hZ hown (host := "") (Or.inl (hw _ (List.mem_of_getElem? (i := 24) rfl))) Via.refl e0 (wS0.ext O0.2) (g := (mkF m 1 #[.val (.ref w2)] [(.ref w2)])) rfl (hb hby d_prog_16_method_4_code_1)
  obtain ⟨T33, X33, e33, st33⟩ := getS2 X32 hx hZ hown (host := "") (Or.inl (hw _ (List.mem_of_getElem? (i := 25) rfl))) Via.refl e32 (wS1.ext O0.2) (g := (mkF m 8 #[.val (.ref w2)] [(.ref w2)])) rfl (hb hby d_prog_16_method_4_code_8)
  obtain ⟨T34, X34, e34, st34⟩ := getS2 X33 hx hZ hown (host := "") (Or.inl (hw _ (List.mem_of_getElem? (i := 26) rfl))) Via.refl e33 (wS2.ext O0.2) (g := (mkF m 15 #[.val (.ref w2)] [(.ref w2)])) rfl (hb hby d_prog_16_method_4_code_15)
  obtain ⟨fs, hr, hrun, hended, hWr, hsame⟩ := X34.leave (v := some (.int (1 : Int32))) (fun h => by rw [Bd.returns] at h; cases h)
  refine ⟨_, _, pre0 _ ?_, hrun, hended, _, _, rfl, ?_, ⟨_, rfl⟩, hWr, hsame.mono (Nat.le_of_ble_eq_true rfl) (Nat.le_of_ble_eq_true rfl)⟩
  · show Steps p.tables e below (s₁.setTop (mkF m 0 #[.val (.ref w2)] [])) _
    refine XS.aloadN X0.here hx rfl (hb hby d_prog_16_method_4_code_0) rfl rfl ?_
    show Steps p.tables e below (s₁.setTop (mkF m 1 #[.val (.ref w2)] [(.ref w2)])) _
    refine st32 _ ?_
    show Steps p.tables e below (T32.setTop (mkF m 4 #[.val (.ref w2)] [(.ref w0), (.ref w2)])) _
    refine Jvm.RoadKit.acmp (g := (mkF m 4 #[.val (.ref w2)] [(.ref w0), (.ref w2)])) X32 hx rfl rfl rfl (pc0 := 4) (pc' := 7) (same := false) rfl (hb hby d_prog_16_method_4_code_4) rfl (decide_eq_false fun q => (Fld.ne wF2_ordinal wF0_ordinal (fun q => absurd (Value.int.inj q) (by decide))) (Value.ref.inj q)) (by decide) (by decide) ?_
    show Steps p.tables e below (T32.setTop (mkF m 7 #[.val (.ref w2)] [])) _
    refine XS.aloadN X32.here hx rfl (hb hby d_prog_16_method_4_code_7) rfl rfl ?_
    show Steps p.tables e below (T32.setTop (mkF m 8 #[.val (.ref w2)] [(.ref w2)])) _
    refine st33 _ ?_
    show Steps p.tables e below (T33.setTop (mkF m 11 #[.val (.ref w2)] [(.ref w1), (.ref w2)])) _
    refine Jvm.RoadKit.acmp (g := (mkF m 11 #[.val (.ref w2)] [(.ref w1), (.ref w2)])) X33 hx rfl rfl rfl (pc0 := 11) (pc' := 14) (same := false) rfl (hb hby d_prog_16_method_4_code_11) rfl (decide_eq_false fun q => (Fld.ne wF2_ordinal wF1_ordinal (fun q => absurd (Value.int.inj q) (by decide))) (Value.ref.inj q)) (by decide) (by decide) ?_
    show Steps p.tables e below (T33.setTop (mkF m 14 #[.val (.ref w2)] [])) _
    refine XS.aloadN X33.here hx rfl (hb hby d_prog_16_method_4_code_14) rfl rfl ?_
    show Steps p.tables e below (T33.setTop (mkF m 15 #[.val (.ref w2)] [(.ref w2)])) _
    refine st34 _ ?_
    show Steps p.tables e below (T34.setTop (mkF m 18 #[.val (.ref w2)] [(.ref w2), (.ref w2)])) _
    refine Jvm.RoadKit.acmp (g := (mkF m 18 #[.val (.ref w2)] [(.ref w2), (.ref w2)])) X34 hx rfl rfl rfl (pc0 := 18) (pc' := 28) (same := true) rfl (hb hby d_prog_16_method_4_code_18) rfl (decide_eq_true rfl) (by decide) (by decide) ?_
    show Steps p.tables e below (T34.setTop (mkF m 28 #[.val (.ref w2)] [])) _
    refine XS.iconst X34.here hx rfl (hb hby d_prog_16_method_4_code_28) ?_
    show Steps p.tables e below (T34.setTop (mkF m 29 #[.val (.ref w2)] [(.int (1 : Int32))])) _
    refine XS.goto X34.here hx rfl (pc0 := 29) (pc' := 33) rfl (hb hby d_prog_16_method_4_code_29) (by decide) (by decide) ?_
    show Steps p.tables e below (T34.setTop (mkF m 33 #[.val (.ref w2)] [(.int (1 : Int32))])) _
    exact retN X34 hx (t := .boolean) Bd.returns (by simp) (hb hby d_prog_16_method_4_code_33) hr
  · show Qp (some (.int (1 : Int32))) h0 n0 _ T34.heap _
    rw [e34]
    exact ⟨rfl, N0, rfl⟩
theorem d_prog_16_method_4_code_21 : decode prog_16_method_4_code 21 = .ok (.aload_n 0, 1) := by decide +kernel
theorem d_prog_16_method_4_code_22 : decode prog_16_method_4_code 22 = .ok (.getstatic 13, 3) := by decide +kernel
theorem d_prog_16_method_4_code_25 : decode prog_16_method_4_code 25 = .ok (.if_acmp .ne 7, 3) := by decide +kernel
theorem ef3 (m : MethodId)   (w3 : Addr) : entryFrame m #[(.ref w3)] 1 = mkF m 0 #[.val (.ref w3)] [] := by first | (simp [entryFrame, mkF, argsToLocals, Value.category]; done) | rfl
set_option maxRecDepth 65536 in
set_option maxHeartbeats 40000000 in
theorem rm4 (l : Launch) (Z : State) (a0 : Array Value) (hw : ∀ d ∈ tables_1, d.before a0 Z = true) (ws : List Jvm.Cond) (w0 w1 w2 w3 w4 w5 w6 : Addr) (h0 : Heap) (n0 : Nat) (hWd : Wd Z w0 w1 w2 w3 w4 w5 w6) (O0 : Old Z n0 h0) :
    MetFree l (⟨"com/example/wyrmsiege/wyrmsiege/model/Kind", "isTroop", "()Z"⟩ : MethodName) (head1 (Jvm.Cond.code (⟨"com/example/wyrmsiege/wyrmsiege/model/Kind", "isTroop", "()Z"⟩ : MethodName) prog_16_method_4_code 1 (some .boolean) :: ws) ({ frames := 0, cells := 0, slots := 0, locals := 0 } : Room)) (fun a U => a = #[(.ref w3)] ∧ Z.Warmed39 U.vm ∧ U.heap = h0) (fun _ _ _ _ _ => True) (fun _ U o U' => ∃ v L, o = .returned v ∧ Qp (some (.int (1 : Int32))) h0 n0 v U'.heap L ∧ FrameEnd U o U' L ({ frames := 0, cells := 0, slots := 0, locals := 0 } : Room).cells ({ frames := 0, cells := 0, slots := 0, locals := 0 } : Room).slots) := by
  refine MetFree.of_bodySF (plainFor_of_name pn0) hisR ?_
  intro p e s m args below meth c s₁ Bd hml0 hP hK
  obtain ⟨rfl, hZ, hh⟩ := hP
  have hx := Bd.exec
  have hby := Bd.bytes
  have hml : c.maxLocals = 1 := hml0
  have hown : s.vm.findClass "com/example/wyrmsiege/wyrmsiege/model/Kind" = some m.cls := findClass_of_methodNamed Bd.named
  have hnm := (name_of_methodNamed Bd.named Bd.method).1
  have X0 : Stand p l e ({ frames := 0, cells := 0, slots := 0, locals := 0 } : Room) s m #[(.ref w3)] below meth c s₁ [] 0 0 := Stand.of_body Bd
  have e0 : s₁.heap = h0 := by rw [← hh, Bd.state]; rfl
  have N0 := Fr.nil n0
  obtain ⟨wS0, wE0, wS1, wE1, wS2, wE2, wS3, wE3, wS4, wE4, wS5, wE5, wS6, wE6, wF3_ordinal, wF0_ordinal, wF1_ordinal, wF2_ordinal, wF5_ordinal, wF6_ordinal, wF4_ordinal, -⟩ := id hWd
  have pre0 : ∀ t, Steps p.tables e below (s₁.setTop (mkF m 0 #[.val (.ref w3)] [])) t → Steps p.tables e below (s₁.setTop (entryFrame m #[(.ref w3)] 1)) t := fun t k => castTop (ef3 m w3) k
  obtain ⟨T37, X37, e37, st37⟩ := getS2 X0 hx hZ hown (host := "") (Or.inl (hw _ (List.mem_of_getElem? (i := 24) rfl))) Via.refl e0 (wS0.ext O0.2) (g := (mkF m 1 #[.val (.ref w3)] [(.ref w3)])) rfl (hb hby d_prog_16_method_4_code_1)
  obtain ⟨T38, X38, e38, st38⟩ := getS2 X37 hx hZ hown (host := "") (Or.inl (hw _ (List.mem_of_getElem? (i := 25) rfl))) Via.refl e37 (wS1.ext O0.2) (g := (mkF m 8 #[.val (.ref w3)] [(.ref w3)])) rfl (hb hby d_prog_16_method_4_code_8)
  obtain ⟨T39, X39, e39, st39⟩ := getS2 X38 hx hZ hown (host := "") (Or.inl (hw _ (List.mem_of_getElem? (i := 26) rfl))) Via.refl e38 (wS2.ext O0.2) (g := (mkF m 15 #[.val (.ref w3)] [(.ref w3)])) rfl (hb hby d_prog_16_method_4_code_15)
  obtain ⟨T40, X40, e40, st40⟩ := getS2 X39 hx hZ hown (host := "") (Or.inl (hw _ (List.mem_of_getElem? (i := 27) rfl))) Via.refl e39 (wS3.ext O0.2) (g := (mkF m 22 #[.val (.ref w3)] [(.ref w3)])) rfl (hb hby d_prog_16_method_4_code_22)
  obtain ⟨fs, hr, hrun, hended, hWr, hsame⟩ := X40.leave (v := some (.int (1 : Int32))) (fun h => by rw [Bd.returns] at h; cases h)
  refine ⟨_, _, pre0 _ ?_, hrun, hended, _, _, rfl, ?_, ⟨_, rfl⟩, hWr, hsame.mono (Nat.le_of_ble_eq_true rfl) (Nat.le_of_ble_eq_true rfl)⟩
  · show Steps p.tables e below (s₁.setTop (mkF m 0 #[.val (.ref w3)] [])) _
    refine XS.aloadN X0.here hx rfl (hb hby d_prog_16_method_4_code_0) rfl rfl ?_
    show Steps p.tables e below (s₁.setTop (mkF m 1 #[.val (.ref w3)] [(.ref w3)])) _
    refine st37 _ ?_
    show Steps p.tables e below (T37.setTop (mkF m 4 #[.val (.ref w3)] [(.ref w0), (.ref w3)])) _
    refine Jvm.RoadKit.acmp (g := (mkF m 4 #[.val (.ref w3)] [(.ref w0), (.ref w3)])) X37 hx rfl rfl rfl (pc0 := 4) (pc' := 7) (same := false) rfl (hb hby d_prog_16_method_4_code_4) rfl (decide_eq_false fun q => (Fld.ne wF3_ordinal wF0_ordinal (fun q => absurd (Value.int.inj q) (by decide))) (Value.ref.inj q)) (by decide) (by decide) ?_
    show Steps p.tables e below (T37.setTop (mkF m 7 #[.val (.ref w3)] [])) _
    refine XS.aloadN X37.here hx rfl (hb hby d_prog_16_method_4_code_7) rfl rfl ?_
    show Steps p.tables e below (T37.setTop (mkF m 8 #[.val (.ref w3)] [(.ref w3)])) _
    refine st38 _ ?_
    show Steps p.tables e below (T38.setTop (mkF m 11 #[.val (.ref w3)] [(.ref w1), (.ref w3)])) _
    refine Jvm.RoadKit.acmp (g := (mkF m 11 #[.val (.ref w3)] [(.ref w1), (.ref w3)])) X38 hx rfl rfl rfl (pc0 := 11) (pc' := 14) (same := false) rfl (hb hby d_prog_16_method_4_code_11) rfl (decide_eq_false fun q => (Fld.ne wF3_ordinal wF1_ordinal (fun q => absurd (Value.int.inj q) (by decide))) (Value.ref.inj q)) (by decide) (by decide) ?_
    show Steps p.tables e below (T38.setTop (mkF m 14 #[.val (.ref w3)] [])) _
    refine XS.aloadN X38.here hx rfl (hb hby d_prog_16_method_4_code_14) rfl rfl ?_
    show Steps p.tables e below (T38.setTop (mkF m 15 #[.val (.ref w3)] [(.ref w3)])) _
    refine st39 _ ?_
    show Steps p.tables e below (T39.setTop (mkF m 18 #[.val (.ref w3)] [(.ref w2), (.ref w3)])) _
    refine Jvm.RoadKit.acmp (g := (mkF m 18 #[.val (.ref w3)] [(.ref w2), (.ref w3)])) X39 hx rfl rfl rfl (pc0 := 18) (pc' := 21) (same := false) rfl (hb hby d_prog_16_method_4_code_18) rfl (decide_eq_false fun q => (Fld.ne wF3_ordinal wF2_ordinal (fun q => absurd (Value.int.inj q) (by decide))) (Value.ref.inj q)) (by decide) (by decide) ?_
    show Steps p.tables e below (T39.setTop (mkF m 21 #[.val (.ref w3)] [])) _
    refine XS.aloadN X39.here hx rfl (hb hby d_prog_16_method_4_code_21) rfl rfl ?_
    show Steps p.tables e below (T39.setTop (mkF m 22 #[.val (.ref w3)] [(.ref w3)])) _
    refine st40 _ ?_
    show Steps p.tables e below (T40.setTop (mkF m 25 #[.val (.ref w3)] [(.ref w3), (.ref w3)])) _
    refine Jvm.RoadKit.acmp (g := (mkF m 25 #[.val (.ref w3)] [(.ref w3), (.ref w3)])) X40 hx rfl rfl rfl (pc0 := 25) (pc' := 28) (same := true) rfl (hb hby d_prog_16_method_4_code_25) rfl (decide_eq_true rfl) (by decide) (by decide) ?_
    show Steps p.tables e below (T40.setTop (mkF m 28 #[.val (.ref w3)] [])) _
    refine XS.iconst X40.here hx rfl (hb hby d_prog_16_method_4_code_28) ?_
    show Steps p.tables e below (T40.setTop (mkF m 29 #[.val (.ref w3)] [(.int (1 : Int32))])) _
    refine XS.goto X40.here hx rfl (pc0 := 29) (pc' := 33) rfl (hb hby d_prog_16_method_4_code_29) (by decide) (by decide) ?_
    show Steps p.tables e below (T40.setTop (mkF m 33 #[.val (.ref w3)] [(.int (1 : Int32))])) _
    exact retN X40 hx (t := .boolean) Bd.returns (by simp) (hb hby d_prog_16_method_4_code_33) hr
  · show Qp (some (.int (1 : Int32))) h0 n0 _ T40.heap _
    rw [e40]
    exact ⟨rfl, N0, rfl⟩
theorem d_prog_16_method_4_code_32 : decode prog_16_method_4_code 32 = .ok (.iconst 0, 1) := by decide +kernel
theorem ef4 (m : MethodId)   (w4 : Addr) : entryFrame m #[(.ref w4)] 1 = mkF m 0 #[.val (.ref w4)] [] := by first | (simp [entryFrame, mkF, argsToLocals, Value.category]; done) | rfl
set_option maxRecDepth 65536 in
set_option maxHeartbeats 40000000 in
theorem rm5 (l : Launch) (Z : State) (a0 : Array Value) (hw : ∀ d ∈ tables_1, d.before a0 Z = true) (ws : List Jvm.Cond) (w0 w1 w2 w3 w4 w5 w6 : Addr) (h0 : Heap) (n0 : Nat) (hWd : Wd Z w0 w1 w2 w3 w4 w5 w6) (O0 : Old Z n0 h0) :
    MetFree l (⟨"com/example/wyrmsiege/wyrmsiege/model/Kind", "isTroop", "()Z"⟩ : MethodName) (head1 (Jvm.Cond.code (⟨"com/example/wyrmsiege/wyrmsiege/model/Kind", "isTroop", "()Z"⟩ : MethodName) prog_16_method_4_code 1 (some .boolean) :: ws) ({ frames := 0, cells := 0, slots := 0, locals := 0 } : Room)) (fun a U => a = #[(.ref w4)] ∧ Z.Warmed39 U.vm ∧ U.heap = h0) (fun _ _ _ _ _ => True) (fun _ U o U' => ∃ v L, o = .returned v ∧ Qp (some (.int (0 : Int32))) h0 n0 v U'.heap L ∧ FrameEnd U o U' L ({ frames := 0, cells := 0, slots := 0, locals := 0 } : Room).cells ({ frames := 0, cells := 0, slots := 0, locals := 0 } : Room).slots) := by
  refine MetFree.of_bodySF (plainFor_of_name pn0) hisR ?_
  intro p e s m args below meth c s₁ Bd hml0 hP hK
  obtain ⟨rfl, hZ, hh⟩ := hP
  have hx := Bd.exec
  have hby := Bd.bytes
  have hml : c.maxLocals = 1 := hml0
  have hown : s.vm.findClass "com/example/wyrmsiege/wyrmsiege/model/Kind" = some m.cls := findClass_of_methodNamed Bd.named
  have hnm := (name_of_methodNamed Bd.named Bd.method).1
  have X0 : Stand p l e ({ frames := 0, cells := 0, slots := 0, locals := 0 } : Room) s m #[(.ref w4)] below meth c s₁ [] 0 0 := Stand.of_body Bd
  have e0 : s₁.heap = h0 := by rw [← hh, Bd.state]; rfl
  have N0 := Fr.nil n0
  obtain ⟨wS0, wE0, wS1, wE1, wS2, wE2, wS3, wE3, wS4, wE4, wS5, wE5, wS6, wE6, wF3_ordinal, wF0_ordinal, wF1_ordinal, wF2_ordinal, wF5_ordinal, wF6_ordinal, wF4_ordinal, -⟩ := id hWd
  have pre0 : ∀ t, Steps p.tables e below (s₁.setTop (mkF m 0 #[.val (.ref w4)] [])) t → Steps p.tables e below (s₁.setTop (entryFrame m #[(.ref w4)] 1)) t := fun t k => castTop (ef4 m w4) k
  obtain ⟨T43, X43, e43, st43⟩ := getS2 X0 hx hZ hown (host := "") (Or.inl (hw _ (List.mem_of_getElem? (i := 24) rfl))) Via.refl e0 (wS0.ext O0.2) (g := (mkF m 1 #[.val (.ref w4)] [(.ref w4)])) rfl (hb hby d_prog_16_method_4_code_1)
  obtain ⟨T44, X44, e44, st44⟩ := getS2 X43 hx hZ hown (host := "") (Or.inl (hw _ (List.mem_of_getElem? (i := 25) rfl))) Via.refl e43 (wS1.ext O0.2) (g := (mkF m 8 #[.val (.ref w4)] [(.ref w4)])) rfl (hb hby d_prog_16_method_4_code_8)
  obtain ⟨T45, X45, e45, st45⟩ := getS2 X44 hx hZ hown (host := "") (Or.inl (hw _ (List.mem_of_getElem? (i := 26) rfl))) Via.refl e44 (wS2.ext O0.2) (g := (mkF m 15 #[.val (.ref w4)] [(.ref w4)])) rfl (hb hby d_prog_16_method_4_code_15)
  obtain ⟨T46, X46, e46, st46⟩ := getS2 X45 hx hZ hown (host := "") (Or.inl (hw _ (List.mem_of_getElem? (i := 27) rfl))) Via.refl e45 (wS3.ext O0.2) (g := (mkF m 22 #[.val (.ref w4)] [(.ref w4)])) rfl (hb hby d_prog_16_method_4_code_22)
  obtain ⟨fs, hr, hrun, hended, hWr, hsame⟩ := X46.leave (v := some (.int (0 : Int32))) (fun h => by rw [Bd.returns] at h; cases h)
  refine ⟨_, _, pre0 _ ?_, hrun, hended, _, _, rfl, ?_, ⟨_, rfl⟩, hWr, hsame.mono (Nat.le_of_ble_eq_true rfl) (Nat.le_of_ble_eq_true rfl)⟩
  · show Steps p.tables e below (s₁.setTop (mkF m 0 #[.val (.ref w4)] [])) _
    refine XS.aloadN X0.here hx rfl (hb hby d_prog_16_method_4_code_0) rfl rfl ?_
    show Steps p.tables e below (s₁.setTop (mkF m 1 #[.val (.ref w4)] [(.ref w4)])) _
    refine st43 _ ?_
    show Steps p.tables e below (T43.setTop (mkF m 4 #[.val (.ref w4)] [(.ref w0), (.ref w4)])) _
    refine Jvm.RoadKit.acmp (g := (mkF m 4 #[.val (.ref w4)] [(.ref w0), (.ref w4)])) X43 hx rfl rfl rfl (pc0 := 4) (pc' := 7) (same := false) rfl (hb hby d_prog_16_method_4_code_4) rfl (decide_eq_false fun q => (Fld.ne wF4_ordinal wF0_ordinal (fun q => absurd (Value.int.inj q) (by decide))) (Value.ref.inj q)) (by decide) (by decide) ?_
    show Steps p.tables e below (T43.setTop (mkF m 7 #[.val (.ref w4)] [])) _
    refine XS.aloadN X43.here hx rfl (hb hby d_prog_16_method_4_code_7) rfl rfl ?_
    show Steps p.tables e below (T43.setTop (mkF m 8 #[.val (.ref w4)] [(.ref w4)])) _
    refine st44 _ ?_
    show Steps p.tables e below (T44.setTop (mkF m 11 #[.val (.ref w4)] [(.ref w1), (.ref w4)])) _
    refine Jvm.RoadKit.acmp (g := (mkF m 11 #[.val (.ref w4)] [(.ref w1), (.ref w4)])) X44 hx rfl rfl rfl (pc0 := 11) (pc' := 14) (same := false) rfl (hb hby d_prog_16_method_4_code_11) rfl (decide_eq_false fun q => (Fld.ne wF4_ordinal wF1_ordinal (fun q => absurd (Value.int.inj q) (by decide))) (Value.ref.inj q)) (by decide) (by decide) ?_
    show Steps p.tables e below (T44.setTop (mkF m 14 #[.val (.ref w4)] [])) _
    refine XS.aloadN X44.here hx rfl (hb hby d_prog_16_method_4_code_14) rfl rfl ?_
    show Steps p.tables e below (T44.setTop (mkF m 15 #[.val (.ref w4)] [(.ref w4)])) _
    refine st45 _ ?_
    show Steps p.tables e below (T45.setTop (mkF m 18 #[.val (.ref w4)] [(.ref w2), (.ref w4)])) _
    refine Jvm.RoadKit.acmp (g := (mkF m 18 #[.val (.ref w4)] [(.ref w2), (.ref w4)])) X45 hx rfl rfl rfl (pc0 := 18) (pc' := 21) (same := false) rfl (hb hby d_prog_16_method_4_code_18) rfl (decide_eq_false fun q => (Fld.ne wF4_ordinal wF2_ordinal (fun q => absurd (Value.int.inj q) (by decide))) (Value.ref.inj q)) (by decide) (by decide) ?_
    show Steps p.tables e below (T45.setTop (mkF m 21 #[.val (.ref w4)] [])) _
    refine XS.aloadN X45.here hx rfl (hb hby d_prog_16_method_4_code_21) rfl rfl ?_
    show Steps p.tables e below (T45.setTop (mkF m 22 #[.val (.ref w4)] [(.ref w4)])) _
    refine st46 _ ?_
    show Steps p.tables e below (T46.setTop (mkF m 25 #[.val (.ref w4)] [(.ref w3), (.ref w4)])) _
    refine Jvm.RoadKit.acmp (g := (mkF m 25 #[.val (.ref w4)] [(.ref w3), (.ref w4)])) X46 hx rfl rfl rfl (pc0 := 25) (pc' := 32) (same := false) rfl (hb hby d_prog_16_method_4_code_25) rfl (decide_eq_false fun q => (Fld.ne wF4_ordinal wF3_ordinal (fun q => absurd (Value.int.inj q) (by decide))) (Value.ref.inj q)) (by decide) (by decide) ?_
    show Steps p.tables e below (T46.setTop (mkF m 32 #[.val (.ref w4)] [])) _
    refine XS.iconst X46.here hx rfl (hb hby d_prog_16_method_4_code_32) ?_
    show Steps p.tables e below (T46.setTop (mkF m 33 #[.val (.ref w4)] [(.int (0 : Int32))])) _
    exact retN X46 hx (t := .boolean) Bd.returns (by simp) (hb hby d_prog_16_method_4_code_33) hr
  · show Qp (some (.int (0 : Int32))) h0 n0 _ T46.heap _
    rw [e46]
    exact ⟨rfl, N0, rfl⟩
theorem ef5 (m : MethodId)   (w5 : Addr) : entryFrame m #[(.ref w5)] 1 = mkF m 0 #[.val (.ref w5)] [] := by first | (simp [entryFrame, mkF, argsToLocals, Value.category]; done) | rfl
set_option maxRecDepth 65536 in
set_option maxHeartbeats 40000000 in
theorem rm6 (l : Launch) (Z : State) (a0 : Array Value) (hw : ∀ d ∈ tables_1, d.before a0 Z = true) (ws : List Jvm.Cond) (w0 w1 w2 w3 w4 w5 w6 : Addr) (h0 : Heap) (n0 : Nat) (hWd : Wd Z w0 w1 w2 w3 w4 w5 w6) (O0 : Old Z n0 h0) :
    MetFree l (⟨"com/example/wyrmsiege/wyrmsiege/model/Kind", "isTroop", "()Z"⟩ : MethodName) (head1 (Jvm.Cond.code (⟨"com/example/wyrmsiege/wyrmsiege/model/Kind", "isTroop", "()Z"⟩ : MethodName) prog_16_method_4_code 1 (some .boolean) :: ws) ({ frames := 0, cells := 0, slots := 0, locals := 0 } : Room)) (fun a U => a = #[(.ref w5)] ∧ Z.Warmed39 U.vm ∧ U.heap = h0) (fun _ _ _ _ _ => True) (fun _ U o U' => ∃ v L, o = .returned v ∧ Qp (some (.int (0 : Int32))) h0 n0 v U'.heap L ∧ FrameEnd U o U' L ({ frames := 0, cells := 0, slots := 0, locals := 0 } : Room).cells ({ frames := 0, cells := 0, slots := 0, locals := 0 } : Room).slots) := by
  refine MetFree.of_bodySF (plainFor_of_name pn0) hisR ?_
  intro p e s m args below meth c s₁ Bd hml0 hP hK
  obtain ⟨rfl, hZ, hh⟩ := hP
  have hx := Bd.exec
  have hby := Bd.bytes
  have hml : c.maxLocals = 1 := hml0
  have hown : s.vm.findClass "com/example/wyrmsiege/wyrmsiege/model/Kind" = some m.cls := findClass_of_methodNamed Bd.named
  have hnm := (name_of_methodNamed Bd.named Bd.method).1
  have X0 : Stand p l e ({ frames := 0, cells := 0, slots := 0, locals := 0 } : Room) s m #[(.ref w5)] below meth c s₁ [] 0 0 := Stand.of_body Bd
  have e0 : s₁.heap = h0 := by rw [← hh, Bd.state]; rfl
  have N0 := Fr.nil n0
  obtain ⟨wS0, wE0, wS1, wE1, wS2, wE2, wS3, wE3, wS4, wE4, wS5, wE5, wS6, wE6, wF3_ordinal, wF0_ordinal, wF1_ordinal, wF2_ordinal, wF5_ordinal, wF6_ordinal, wF4_ordinal, -⟩ := id hWd
  have pre0 : ∀ t, Steps p.tables e below (s₁.setTop (mkF m 0 #[.val (.ref w5)] [])) t → Steps p.tables e below (s₁.setTop (entryFrame m #[(.ref w5)] 1)) t := fun t k => castTop (ef5 m w5) k
  obtain ⟨T49, X49, e49, st49⟩ := getS2 X0 hx hZ hown (host := "") (Or.inl (hw _ (List.mem_of_getElem? (i := 24) rfl))) Via.refl e0 (wS0.ext O0.2) (g := (mkF m 1 #[.val (.ref w5)] [(.ref w5)])) rfl (hb hby d_prog_16_method_4_code_1)
  obtain ⟨T50, X50, e50, st50⟩ := getS2 X49 hx hZ hown (host := "") (Or.inl (hw _ (List.mem_of_getElem? (i := 25) rfl))) Via.refl e49 (wS1.ext O0.2) (g := (mkF m 8 #[.val (.ref w5)] [(.ref w5)])) rfl (hb hby d_prog_16_method_4_code_8)
  obtain ⟨T51, X51, e51, st51⟩ := getS2 X50 hx hZ hown (host := "") (Or.inl (hw _ (List.mem_of_getElem? (i := 26) rfl))) Via.refl e50 (wS2.ext O0.2) (g := (mkF m 15 #[.val (.ref w5)] [(.ref w5)])) rfl (hb hby d_prog_16_method_4_code_15)
  obtain ⟨T52, X52, e52, st52⟩ := getS2 X51 hx hZ hown (host := "") (Or.inl (hw _ (List.mem_of_getElem? (i := 27) rfl))) Via.refl e51 (wS3.ext O0.2) (g := (mkF m 22 #[.val (.ref w5)] [(.ref w5)])) rfl (hb hby d_prog_16_method_4_code_22)
  obtain ⟨fs, hr, hrun, hended, hWr, hsame⟩ := X52.leave (v := some (.int (0 : Int32))) (fun h => by rw [Bd.returns] at h; cases h)
  refine ⟨_, _, pre0 _ ?_, hrun, hended, _, _, rfl, ?_, ⟨_, rfl⟩, hWr, hsame.mono (Nat.le_of_ble_eq_true rfl) (Nat.le_of_ble_eq_true rfl)⟩
  · show Steps p.tables e below (s₁.setTop (mkF m 0 #[.val (.ref w5)] [])) _
    refine XS.aloadN X0.here hx rfl (hb hby d_prog_16_method_4_code_0) rfl rfl ?_
    show Steps p.tables e below (s₁.setTop (mkF m 1 #[.val (.ref w5)] [(.ref w5)])) _
    refine st49 _ ?_
    show Steps p.tables e below (T49.setTop (mkF m 4 #[.val (.ref w5)] [(.ref w0), (.ref w5)])) _
    refine Jvm.RoadKit.acmp (g := (mkF m 4 #[.val (.ref w5)] [(.ref w0), (.ref w5)])) X49 hx rfl rfl rfl (pc0 := 4) (pc' := 7) (same := false) rfl (hb hby d_prog_16_method_4_code_4) rfl (decide_eq_false fun q => (Fld.ne wF5_ordinal wF0_ordinal (fun q => absurd (Value.int.inj q) (by decide))) (Value.ref.inj q)) (by decide) (by decide) ?_
    show Steps p.tables e below (T49.setTop (mkF m 7 #[.val (.ref w5)] [])) _
    refine XS.aloadN X49.here hx rfl (hb hby d_prog_16_method_4_code_7) rfl rfl ?_
    show Steps p.tables e below (T49.setTop (mkF m 8 #[.val (.ref w5)] [(.ref w5)])) _
    refine st50 _ ?_
    show Steps p.tables e below (T50.setTop (mkF m 11 #[.val (.ref w5)] [(.ref w1), (.ref w5)])) _
    refine Jvm.RoadKit.acmp (g := (mkF m 11 #[.val (.ref w5)] [(.ref w1), (.ref w5)])) X50 hx rfl rfl rfl (pc0 := 11) (pc' := 14) (same := false) rfl (hb hby d_prog_16_method_4_code_11) rfl (decide_eq_false fun q => (Fld.ne wF5_ordinal wF1_ordinal (fun q => absurd (Value.int.inj q) (by decide))) (Value.ref.inj q)) (by decide) (by decide) ?_
    show Steps p.tables e below (T50.setTop (mkF m 14 #[.val (.ref w5)] [])) _
    refine XS.aloadN X50.here hx rfl (hb hby d_prog_16_method_4_code_14) rfl rfl ?_
    show Steps p.tables e below (T50.setTop (mkF m 15 #[.val (.ref w5)] [(.ref w5)])) _
    refine st51 _ ?_
    show Steps p.tables e below (T51.setTop (mkF m 18 #[.val (.ref w5)] [(.ref w2), (.ref w5)])) _
    refine Jvm.RoadKit.acmp (g := (mkF m 18 #[.val (.ref w5)] [(.ref w2), (.ref w5)])) X51 hx rfl rfl rfl (pc0 := 18) (pc' := 21) (same := false) rfl (hb hby d_prog_16_method_4_code_18) rfl (decide_eq_false fun q => (Fld.ne wF5_ordinal wF2_ordinal (fun q => absurd (Value.int.inj q) (by decide))) (Value.ref.inj q)) (by decide) (by decide) ?_
    show Steps p.tables e below (T51.setTop (mkF m 21 #[.val (.ref w5)] [])) _
    refine XS.aloadN X51.here hx rfl (hb hby d_prog_16_method_4_code_21) rfl rfl ?_
    show Steps p.tables e below (T51.setTop (mkF m 22 #[.val (.ref w5)] [(.ref w5)])) _
    refine st52 _ ?_
    show Steps p.tables e below (T52.setTop (mkF m 25 #[.val (.ref w5)] [(.ref w3), (.ref w5)])) _
    refine Jvm.RoadKit.acmp (g := (mkF m 25 #[.val (.ref w5)] [(.ref w3), (.ref w5)])) X52 hx rfl rfl rfl (pc0 := 25) (pc' := 32) (same := false) rfl (hb hby d_prog_16_method_4_code_25) rfl (decide_eq_false fun q => (Fld.ne wF5_ordinal wF3_ordinal (fun q => absurd (Value.int.inj q) (by decide))) (Value.ref.inj q)) (by decide) (by decide) ?_
    show Steps p.tables e below (T52.setTop (mkF m 32 #[.val (.ref w5)] [])) _
    refine XS.iconst X52.here hx rfl (hb hby d_prog_16_method_4_code_32) ?_
    show Steps p.tables e below (T52.setTop (mkF m 33 #[.val (.ref w5)] [(.int (0 : Int32))])) _
    exact retN X52 hx (t := .boolean) Bd.returns (by simp) (hb hby d_prog_16_method_4_code_33) hr
  · show Qp (some (.int (0 : Int32))) h0 n0 _ T52.heap _
    rw [e52]
    exact ⟨rfl, N0, rfl⟩
theorem ef6 (m : MethodId)   (w6 : Addr) : entryFrame m #[(.ref w6)] 1 = mkF m 0 #[.val (.ref w6)] [] := by first | (simp [entryFrame, mkF, argsToLocals, Value.category]; done) | rfl
set_option maxRecDepth 65536 in
set_option maxHeartbeats 40000000 in
theorem rm7 (l : Launch) (Z : State) (a0 : Array Value) (hw : ∀ d ∈ tables_1, d.before a0 Z = true) (ws : List Jvm.Cond) (w0 w1 w2 w3 w4 w5 w6 : Addr) (h0 : Heap) (n0 : Nat) (hWd : Wd Z w0 w1 w2 w3 w4 w5 w6) (O0 : Old Z n0 h0) :
    MetFree l (⟨"com/example/wyrmsiege/wyrmsiege/model/Kind", "isTroop", "()Z"⟩ : MethodName) (head1 (Jvm.Cond.code (⟨"com/example/wyrmsiege/wyrmsiege/model/Kind", "isTroop", "()Z"⟩ : MethodName) prog_16_method_4_code 1 (some .boolean) :: ws) ({ frames := 0, cells := 0, slots := 0, locals := 0 } : Room)) (fun a U => a = #[(.ref w6)] ∧ Z.Warmed39 U.vm ∧ U.heap = h0) (fun _ _ _ _ _ => True) (fun _ U o U' => ∃ v L, o = .returned v ∧ Qp (some (.int (0 : Int32))) h0 n0 v U'.heap L ∧ FrameEnd U o U' L ({ frames := 0, cells := 0, slots := 0, locals := 0 } : Room).cells ({ frames := 0, cells := 0, slots := 0, locals := 0 } : Room).slots) := by
  refine MetFree.of_bodySF (plainFor_of_name pn0) hisR ?_
  intro p e s m args below meth c s₁ Bd hml0 hP hK
  obtain ⟨rfl, hZ, hh⟩ := hP
  have hx := Bd.exec
  have hby := Bd.bytes
  have hml : c.maxLocals = 1 := hml0
  have hown : s.vm.findClass "com/example/wyrmsiege/wyrmsiege/model/Kind" = some m.cls := findClass_of_methodNamed Bd.named
  have hnm := (name_of_methodNamed Bd.named Bd.method).1
  have X0 : Stand p l e ({ frames := 0, cells := 0, slots := 0, locals := 0 } : Room) s m #[(.ref w6)] below meth c s₁ [] 0 0 := Stand.of_body Bd
  have e0 : s₁.heap = h0 := by rw [← hh, Bd.state]; rfl
  have N0 := Fr.nil n0
  obtain ⟨wS0, wE0, wS1, wE1, wS2, wE2, wS3, wE3, wS4, wE4, wS5, wE5, wS6, wE6, wF3_ordinal, wF0_ordinal, wF1_ordinal, wF2_ordinal, wF5_ordinal, wF6_ordinal, wF4_ordinal, -⟩ := id hWd
  have pre0 : ∀ t, Steps p.tables e below (s₁.setTop (mkF m 0 #[.val (.ref w6)] [])) t → Steps p.tables e below (s₁.setTop (entryFrame m #[(.ref w6)] 1)) t := fun t k => castTop (ef6 m w6) k
  obtain ⟨T55, X55, e55, st55⟩ := getS2 X0 hx hZ hown (host := "") (Or.inl (hw _ (List.mem_of_getElem? (i := 24) rfl))) Via.refl e0 (wS0.ext O0.2) (g := (mkF m 1 #[.val (.ref w6)] [(.ref w6)])) rfl (hb hby d_prog_16_method_4_code_1)
  obtain ⟨T56, X56, e56, st56⟩ := getS2 X55 hx hZ hown (host := "") (Or.inl (hw _ (List.mem_of_getElem? (i := 25) rfl))) Via.refl e55 (wS1.ext O0.2) (g := (mkF m 8 #[.val (.ref w6)] [(.ref w6)])) rfl (hb hby d_prog_16_method_4_code_8)
  obtain ⟨T57, X57, e57, st57⟩ := getS2 X56 hx hZ hown (host := "") (Or.inl (hw _ (List.mem_of_getElem? (i := 26) rfl))) Via.refl e56 (wS2.ext O0.2) (g := (mkF m 15 #[.val (.ref w6)] [(.ref w6)])) rfl (hb hby d_prog_16_method_4_code_15)
  obtain ⟨T58, X58, e58, st58⟩ := getS2 X57 hx hZ hown (host := "") (Or.inl (hw _ (List.mem_of_getElem? (i := 27) rfl))) Via.refl e57 (wS3.ext O0.2) (g := (mkF m 22 #[.val (.ref w6)] [(.ref w6)])) rfl (hb hby d_prog_16_method_4_code_22)
  obtain ⟨fs, hr, hrun, hended, hWr, hsame⟩ := X58.leave (v := some (.int (0 : Int32))) (fun h => by rw [Bd.returns] at h; cases h)
  refine ⟨_, _, pre0 _ ?_, hrun, hended, _, _, rfl, ?_, ⟨_, rfl⟩, hWr, hsame.mono (Nat.le_of_ble_eq_true rfl) (Nat.le_of_ble_eq_true rfl)⟩
  · show Steps p.tables e below (s₁.setTop (mkF m 0 #[.val (.ref w6)] [])) _
    refine XS.aloadN X0.here hx rfl (hb hby d_prog_16_method_4_code_0) rfl rfl ?_
    show Steps p.tables e below (s₁.setTop (mkF m 1 #[.val (.ref w6)] [(.ref w6)])) _
    refine st55 _ ?_
    show Steps p.tables e below (T55.setTop (mkF m 4 #[.val (.ref w6)] [(.ref w0), (.ref w6)])) _
    refine Jvm.RoadKit.acmp (g := (mkF m 4 #[.val (.ref w6)] [(.ref w0), (.ref w6)])) X55 hx rfl rfl rfl (pc0 := 4) (pc' := 7) (same := false) rfl (hb hby d_prog_16_method_4_code_4) rfl (decide_eq_false fun q => (Fld.ne wF6_ordinal wF0_ordinal (fun q => absurd (Value.int.inj q) (by decide))) (Value.ref.inj q)) (by decide) (by decide) ?_
    show Steps p.tables e below (T55.setTop (mkF m 7 #[.val (.ref w6)] [])) _
    refine XS.aloadN X55.here hx rfl (hb hby d_prog_16_method_4_code_7) rfl rfl ?_
    show Steps p.tables e below (T55.setTop (mkF m 8 #[.val (.ref w6)] [(.ref w6)])) _
    refine st56 _ ?_
    show Steps p.tables e below (T56.setTop (mkF m 11 #[.val (.ref w6)] [(.ref w1), (.ref w6)])) _
    refine Jvm.RoadKit.acmp (g := (mkF m 11 #[.val (.ref w6)] [(.ref w1), (.ref w6)])) X56 hx rfl rfl rfl (pc0 := 11) (pc' := 14) (same := false) rfl (hb hby d_prog_16_method_4_code_11) rfl (decide_eq_false fun q => (Fld.ne wF6_ordinal wF1_ordinal (fun q => absurd (Value.int.inj q) (by decide))) (Value.ref.inj q)) (by decide) (by decide) ?_
    show Steps p.tables e below (T56.setTop (mkF m 14 #[.val (.ref w6)] [])) _
    refine XS.aloadN X56.here hx rfl (hb hby d_prog_16_method_4_code_14) rfl rfl ?_
    show Steps p.tables e below (T56.setTop (mkF m 15 #[.val (.ref w6)] [(.ref w6)])) _
    refine st57 _ ?_
    show Steps p.tables e below (T57.setTop (mkF m 18 #[.val (.ref w6)] [(.ref w2), (.ref w6)])) _
    refine Jvm.RoadKit.acmp (g := (mkF m 18 #[.val (.ref w6)] [(.ref w2), (.ref w6)])) X57 hx rfl rfl rfl (pc0 := 18) (pc' := 21) (same := false) rfl (hb hby d_prog_16_method_4_code_18) rfl (decide_eq_false fun q => (Fld.ne wF6_ordinal wF2_ordinal (fun q => absurd (Value.int.inj q) (by decide))) (Value.ref.inj q)) (by decide) (by decide) ?_
    show Steps p.tables e below (T57.setTop (mkF m 21 #[.val (.ref w6)] [])) _
    refine XS.aloadN X57.here hx rfl (hb hby d_prog_16_method_4_code_21) rfl rfl ?_
    show Steps p.tables e below (T57.setTop (mkF m 22 #[.val (.ref w6)] [(.ref w6)])) _
    refine st58 _ ?_
    show Steps p.tables e below (T58.setTop (mkF m 25 #[.val (.ref w6)] [(.ref w3), (.ref w6)])) _
    refine Jvm.RoadKit.acmp (g := (mkF m 25 #[.val (.ref w6)] [(.ref w3), (.ref w6)])) X58 hx rfl rfl rfl (pc0 := 25) (pc' := 32) (same := false) rfl (hb hby d_prog_16_method_4_code_25) rfl (decide_eq_false fun q => (Fld.ne wF6_ordinal wF3_ordinal (fun q => absurd (Value.int.inj q) (by decide))) (Value.ref.inj q)) (by decide) (by decide) ?_
    show Steps p.tables e below (T58.setTop (mkF m 32 #[.val (.ref w6)] [])) _
    refine XS.iconst X58.here hx rfl (hb hby d_prog_16_method_4_code_32) ?_
    show Steps p.tables e below (T58.setTop (mkF m 33 #[.val (.ref w6)] [(.int (0 : Int32))])) _
    exact retN X58 hx (t := .boolean) Bd.returns (by simp) (hb hby d_prog_16_method_4_code_33) hr
  · show Qp (some (.int (0 : Int32))) h0 n0 _ T58.heap _
    rw [e58]
    exact ⟨rfl, N0, rfl⟩
theorem pn1 : plainName "com/example/wyrmsiege/wyrmsiege/model/KindIsTroopPinLaw" = true := by first | (simp [plainName, overriddenIn]; done) | decide +kernel
theorem ef7 (m : MethodId) (i0 : Int32)   : entryFrame m #[(.int i0)] maxLocals = mkF m 0 #[.val (.int i0), .unset, .unset, .unset] [] := by first | (simp [entryFrame, mkF, argsToLocals, Value.category, maxLocals]; done) | rfl
set_option maxRecDepth 65536 in
set_option maxHeartbeats 40000000 in
theorem rm0 (l : Launch) (Z : State) (a0 : Array Value) (hw : ∀ d ∈ tables_1, d.before a0 Z = true) (ws : List Jvm.Cond) (w0 w1 w2 w3 w4 w5 w6 : Addr) (i0 : Int32) (h0 : Heap) (n0 : Nat) (hWd : Wd Z w0 w1 w2 w3 w4 w5 w6) (O0 : Old Z n0 h0) :
    MetFree l x (head1 (Jvm.Cond.code x code maxLocals ret :: ws) room_1) (fun a U => a = #[(.int i0)] ∧ Z.Warmed39 U.vm ∧ U.heap = h0) (fun _ _ _ _ _ => True) (fun _ U o U' => ∃ v L, o = .returned v ∧ Ql n0 v U'.heap L ∧ FrameEnd U o U' L room_1.cells room_1.slots) := by
  refine MetFree.of_bodySF (plainFor_of_name pn1) hisR ?_
  intro p e s m args below meth c s₁ Bd hml0 hP hK
  obtain ⟨rfl, hZ, hh⟩ := hP
  have hx := Bd.exec
  have hby := Bd.bytes
  have hml : c.maxLocals = 4 := hml0
  have hown : s.vm.findClass "com/example/wyrmsiege/wyrmsiege/model/KindIsTroopPinLaw" = some m.cls := findClass_of_methodNamed Bd.named
  have hnm := (name_of_methodNamed Bd.named Bd.method).1
  have X0 : Stand p l e room_1 s m #[(.int i0)] below meth c s₁ [] 0 0 := Stand.of_body Bd
  have e0 : s₁.heap = h0 := by rw [← hh, Bd.state]; rfl
  have N0 := Fr.nil n0
  obtain ⟨wS0, wE0, wS1, wE1, wS2, wE2, wS3, wE3, wS4, wE4, wS5, wE5, wS6, wE6, wF3_ordinal, wF0_ordinal, wF1_ordinal, wF2_ordinal, wF5_ordinal, wF6_ordinal, wF4_ordinal, -⟩ := id hWd
  have pre0 : ∀ t, Steps p.tables e below (s₁.setTop (mkF m 0 #[.val (.int i0), .unset, .unset, .unset] [])) t → Steps p.tables e below (s₁.setTop (entryFrame m #[(.int i0)] maxLocals)) t := fun t k => castTop (ef7 m i0) k
  obtain ⟨T1, h1, k1, X1, e1, E1, A1, O1, st1⟩ := newR X0 hx hZ hown (hw _ (List.mem_of_getElem? (i := 0) rfl)) (hw _ (List.mem_of_getElem? (i := 1) rfl)) e0 (g := (mkF m 2 #[.val (.int i0), .unset, .unset, .unset] [(.int (7 : Int32))])) rfl (hb hby at_2) rfl (by decide) (cap := 7) (by decide) (by decide) (by decide) (by decide)
  obtain ⟨b1, g1⟩ : ∃ z, z = h0.size := ⟨_, rfl⟩
  rw [← g1] at A1 st1
  have V1 : Arv Z h1 b1 k1 (.object "com/example/wyrmsiege/wyrmsiege/model/Kind") (7 : Int32) [.null, .null, .null, .null, .null, .null, .null] .null := (Arv.new A1 (by decide)).pad (pad_rep [] .null 7)
  have g_b1 : n0 ≤ b1 := Nat.le_trans (Nat.le_trans (Nat.le_of_eq O0.1.symm) O0.2.1) (Nat.le_of_eq g1.symm)
  have O_1 : Old Z n0 h1 := O0.ext E1
  obtain ⟨T2, X2, e2, st2⟩ := getS2 X1 hx hZ hown (host := "") (Or.inl (hw _ (List.mem_of_getElem? (i := 2) rfl))) Via.refl e1 (wS0.ext O_1.2) (g := (mkF m 7 #[.val (.int i0), .unset, .unset, .unset] [(.int (0 : Int32)), (.ref b1), (.ref b1)])) rfl (hb hby at_7)
  obtain ⟨cl3, Ar3, q3, S3, M3, H3, G3⟩ := V1
  have hin3 : ¬ ((0 : Int32) < 0 ∨ cl3.slots.size ≤ ((0 : Int32)).toNatClampNeg) := inb_of S3 ⟨by decide, by decide⟩
  obtain ⟨T3, h3, X3, e3, W3, st3⟩ := stR X2 hx hZ e2 Ar3 (j := (0 : Int32)) hin3 rfl (Sto.ofV Ar3 q3 O1 (Ins.self (wE0.ext O_1.2))) (g := (mkF m 10 #[.val (.int i0), .unset, .unset, .unset] [(.ref w0), (.int (0 : Int32)), (.ref b1), (.ref b1)])) rfl rfl (hb hby at_10)
  have V3 : Arv Z h3 b1 k1 (.object "com/example/wyrmsiege/wyrmsiege/model/Kind") (7 : Int32) [(.ref w0), .null, .null, .null, .null, .null, .null] .null := Arv.set Ar3 q3 S3 M3 H3 G3 rfl W3 0 rfl (Nat.le_of_ble_eq_true rfl)
  have N3 := Fr.snoc X3 N0 g_b1
  have O_3 : Old Z n0 h3 := O_1.wr W3 g_b1
  obtain ⟨T4, X4, e4, st4⟩ := getS2 X3 hx hZ hown (host := "") (Or.inl (hw _ (List.mem_of_getElem? (i := 6) rfl))) Via.refl e3 (wS1.ext O_3.2) (g := (mkF m 13 #[.val (.int i0), .unset, .unset, .unset] [(.int (1 : Int32)), (.ref b1), (.ref b1)])) rfl (hb hby at_13)
  obtain ⟨cl5, Ar5, q5, S5, M5, H5, G5⟩ := V3
  have hin5 : ¬ ((1 : Int32) < 0 ∨ cl5.slots.size ≤ ((1 : Int32)).toNatClampNeg) := inb_of S5 ⟨by decide, by decide⟩
  obtain ⟨T5, h5, X5, e5, W5, st5⟩ := stR X4 hx hZ e4 Ar5 (j := (1 : Int32)) hin5 rfl (Sto.ofV Ar5 q5 O1 (Ins.self (wE1.ext O_3.2))) (g := (mkF m 16 #[.val (.int i0), .unset, .unset, .unset] [(.ref w1), (.int (1 : Int32)), (.ref b1), (.ref b1)])) rfl rfl (hb hby at_16)
  have V5 : Arv Z h5 b1 k1 (.object "com/example/wyrmsiege/wyrmsiege/model/Kind") (7 : Int32) [(.ref w0), (.ref w1), .null, .null, .null, .null, .null] .null := Arv.set Ar5 q5 S5 M5 H5 G5 rfl W5 1 rfl (Nat.le_of_ble_eq_true rfl)
  have N5 := Fr.snoc X5 N3 g_b1
  have O_5 : Old Z n0 h5 := O_3.wr W5 g_b1
  obtain ⟨T6, X6, e6, st6⟩ := getS2 X5 hx hZ hown (host := "") (Or.inl (hw _ (List.mem_of_getElem? (i := 8) rfl))) Via.refl e5 (wS2.ext O_5.2) (g := (mkF m 19 #[.val (.int i0), .unset, .unset, .unset] [(.int (2 : Int32)), (.ref b1), (.ref b1)])) rfl (hb hby at_19)
  obtain ⟨cl7, Ar7, q7, S7, M7, H7, G7⟩ := V5
  have hin7 : ¬ ((2 : Int32) < 0 ∨ cl7.slots.size ≤ ((2 : Int32)).toNatClampNeg) := inb_of S7 ⟨by decide, by decide⟩
  obtain ⟨T7, h7, X7, e7, W7, st7⟩ := stR X6 hx hZ e6 Ar7 (j := (2 : Int32)) hin7 rfl (Sto.ofV Ar7 q7 O1 (Ins.self (wE2.ext O_5.2))) (g := (mkF m 22 #[.val (.int i0), .unset, .unset, .unset] [(.ref w2), (.int (2 : Int32)), (.ref b1), (.ref b1)])) rfl rfl (hb hby at_22)
  have V7 : Arv Z h7 b1 k1 (.object "com/example/wyrmsiege/wyrmsiege/model/Kind") (7 : Int32) [(.ref w0), (.ref w1), (.ref w2), .null, .null, .null, .null] .null := Arv.set Ar7 q7 S7 M7 H7 G7 rfl W7 2 rfl (Nat.le_of_ble_eq_true rfl)
  have N7 := Fr.snoc X7 N5 g_b1
  have O_7 : Old Z n0 h7 := O_5.wr W7 g_b1
  obtain ⟨T8, X8, e8, st8⟩ := getS2 X7 hx hZ hown (host := "") (Or.inl (hw _ (List.mem_of_getElem? (i := 10) rfl))) Via.refl e7 (wS3.ext O_7.2) (g := (mkF m 25 #[.val (.int i0), .unset, .unset, .unset] [(.int (3 : Int32)), (.ref b1), (.ref b1)])) rfl (hb hby at_25)
  obtain ⟨cl9, Ar9, q9, S9, M9, H9, G9⟩ := V7
  have hin9 : ¬ ((3 : Int32) < 0 ∨ cl9.slots.size ≤ ((3 : Int32)).toNatClampNeg) := inb_of S9 ⟨by decide, by decide⟩
  obtain ⟨T9, h9, X9, e9, W9, st9⟩ := stR X8 hx hZ e8 Ar9 (j := (3 : Int32)) hin9 rfl (Sto.ofV Ar9 q9 O1 (Ins.self (wE3.ext O_7.2))) (g := (mkF m 28 #[.val (.int i0), .unset, .unset, .unset] [(.ref w3), (.int (3 : Int32)), (.ref b1), (.ref b1)])) rfl rfl (hb hby at_28)
  have V9 : Arv Z h9 b1 k1 (.object "com/example/wyrmsiege/wyrmsiege/model/Kind") (7 : Int32) [(.ref w0), (.ref w1), (.ref w2), (.ref w3), .null, .null, .null] .null := Arv.set Ar9 q9 S9 M9 H9 G9 rfl W9 3 rfl (Nat.le_of_ble_eq_true rfl)
  have N9 := Fr.snoc X9 N7 g_b1
  have O_9 : Old Z n0 h9 := O_7.wr W9 g_b1
  obtain ⟨T10, X10, e10, st10⟩ := getS2 X9 hx hZ hown (host := "") (Or.inl (hw _ (List.mem_of_getElem? (i := 12) rfl))) Via.refl e9 (wS4.ext O_9.2) (g := (mkF m 31 #[.val (.int i0), .unset, .unset, .unset] [(.int (4 : Int32)), (.ref b1), (.ref b1)])) rfl (hb hby at_31)
  obtain ⟨cl11, Ar11, q11, S11, M11, H11, G11⟩ := V9
  have hin11 : ¬ ((4 : Int32) < 0 ∨ cl11.slots.size ≤ ((4 : Int32)).toNatClampNeg) := inb_of S11 ⟨by decide, by decide⟩
  obtain ⟨T11, h11, X11, e11, W11, st11⟩ := stR X10 hx hZ e10 Ar11 (j := (4 : Int32)) hin11 rfl (Sto.ofV Ar11 q11 O1 (Ins.self (wE4.ext O_9.2))) (g := (mkF m 34 #[.val (.int i0), .unset, .unset, .unset] [(.ref w4), (.int (4 : Int32)), (.ref b1), (.ref b1)])) rfl rfl (hb hby at_34)
  have V11 : Arv Z h11 b1 k1 (.object "com/example/wyrmsiege/wyrmsiege/model/Kind") (7 : Int32) [(.ref w0), (.ref w1), (.ref w2), (.ref w3), (.ref w4), .null, .null] .null := Arv.set Ar11 q11 S11 M11 H11 G11 rfl W11 4 rfl (Nat.le_of_ble_eq_true rfl)
  have N11 := Fr.snoc X11 N9 g_b1
  have O_11 : Old Z n0 h11 := O_9.wr W11 g_b1
  obtain ⟨T12, X12, e12, st12⟩ := getS2 X11 hx hZ hown (host := "") (Or.inl (hw _ (List.mem_of_getElem? (i := 14) rfl))) Via.refl e11 (wS5.ext O_11.2) (g := (mkF m 37 #[.val (.int i0), .unset, .unset, .unset] [(.int (5 : Int32)), (.ref b1), (.ref b1)])) rfl (hb hby at_37)
  obtain ⟨cl13, Ar13, q13, S13, M13, H13, G13⟩ := V11
  have hin13 : ¬ ((5 : Int32) < 0 ∨ cl13.slots.size ≤ ((5 : Int32)).toNatClampNeg) := inb_of S13 ⟨by decide, by decide⟩
  obtain ⟨T13, h13, X13, e13, W13, st13⟩ := stR X12 hx hZ e12 Ar13 (j := (5 : Int32)) hin13 rfl (Sto.ofV Ar13 q13 O1 (Ins.self (wE5.ext O_11.2))) (g := (mkF m 40 #[.val (.int i0), .unset, .unset, .unset] [(.ref w5), (.int (5 : Int32)), (.ref b1), (.ref b1)])) rfl rfl (hb hby at_40)
  have V13 : Arv Z h13 b1 k1 (.object "com/example/wyrmsiege/wyrmsiege/model/Kind") (7 : Int32) [(.ref w0), (.ref w1), (.ref w2), (.ref w3), (.ref w4), (.ref w5), .null] .null := Arv.set Ar13 q13 S13 M13 H13 G13 rfl W13 5 rfl (Nat.le_of_ble_eq_true rfl)
  have N13 := Fr.snoc X13 N11 g_b1
  have O_13 : Old Z n0 h13 := O_11.wr W13 g_b1
  obtain ⟨T14, X14, e14, st14⟩ := getS2 X13 hx hZ hown (host := "") (Or.inl (hw _ (List.mem_of_getElem? (i := 16) rfl))) Via.refl e13 (wS6.ext O_13.2) (g := (mkF m 44 #[.val (.int i0), .unset, .unset, .unset] [(.int (6 : Int32)), (.ref b1), (.ref b1)])) rfl (hb hby at_44)
  obtain ⟨cl15, Ar15, q15, S15, M15, H15, G15⟩ := V13
  have hin15 : ¬ ((6 : Int32) < 0 ∨ cl15.slots.size ≤ ((6 : Int32)).toNatClampNeg) := inb_of S15 ⟨by decide, by decide⟩
  obtain ⟨T15, h15, X15, e15, W15, st15⟩ := stR X14 hx hZ e14 Ar15 (j := (6 : Int32)) hin15 rfl (Sto.ofV Ar15 q15 O1 (Ins.self (wE6.ext O_13.2))) (g := (mkF m 47 #[.val (.int i0), .unset, .unset, .unset] [(.ref w6), (.int (6 : Int32)), (.ref b1), (.ref b1)])) rfl rfl (hb hby at_47)
  have V15 : Arv Z h15 b1 k1 (.object "com/example/wyrmsiege/wyrmsiege/model/Kind") (7 : Int32) [(.ref w0), (.ref w1), (.ref w2), (.ref w3), (.ref w4), (.ref w5), (.ref w6)] .null := Arv.set Ar15 q15 S15 M15 H15 G15 rfl W15 6 rfl (Nat.le_of_ble_eq_true rfl)
  have N15 := Fr.snoc X15 N13 g_b1
  have O_15 : Old Z n0 h15 := O_13.wr W15 g_b1
  have pre16 : ∀ t, Steps p.tables e below (T15.setTop (mkF m 55 #[.val (.int i0), .val (.ref b1), .unset, .unset] [(.int (7 : Int32)), (.int (i0 &&& (2147483647 : Int32)))])) t → Steps p.tables e below (s₁.setTop (entryFrame m #[(.int i0)] maxLocals)) t := by
    intro t k
    refine pre0 _ ?_
    show Steps p.tables e below (s₁.setTop (mkF m 0 #[.val (.int i0), .unset, .unset, .unset] [])) _
    refine XS.bipush X0.here hx rfl (hb hby at_0) ?_
    show Steps p.tables e below (s₁.setTop (mkF m 2 #[.val (.int i0), .unset, .unset, .unset] [(.int (7 : Int32))])) _
    refine st1 _ ?_
    show Steps p.tables e below (T1.setTop (mkF m 5 #[.val (.int i0), .unset, .unset, .unset] [(.ref b1)])) _
    refine XS.dup X1.here hx rfl (hb hby at_5) rfl rfl ?_
    show Steps p.tables e below (T1.setTop (mkF m 6 #[.val (.int i0), .unset, .unset, .unset] [(.ref b1), (.ref b1)])) _
    refine XS.iconst X1.here hx rfl (hb hby at_6) ?_
    show Steps p.tables e below (T1.setTop (mkF m 7 #[.val (.int i0), .unset, .unset, .unset] [(.int (0 : Int32)), (.ref b1), (.ref b1)])) _
    refine st2 _ ?_
    show Steps p.tables e below (T2.setTop (mkF m 10 #[.val (.int i0), .unset, .unset, .unset] [(.ref w0), (.int (0 : Int32)), (.ref b1), (.ref b1)])) _
    refine st3 _ ?_
    show Steps p.tables e below (T3.setTop (mkF m 11 #[.val (.int i0), .unset, .unset, .unset] [(.ref b1)])) _
    refine XS.dup X3.here hx rfl (hb hby at_11) rfl rfl ?_
    show Steps p.tables e below (T3.setTop (mkF m 12 #[.val (.int i0), .unset, .unset, .unset] [(.ref b1), (.ref b1)])) _
    refine XS.iconst X3.here hx rfl (hb hby at_12) ?_
    show Steps p.tables e below (T3.setTop (mkF m 13 #[.val (.int i0), .unset, .unset, .unset] [(.int (1 : Int32)), (.ref b1), (.ref b1)])) _
    refine st4 _ ?_
    show Steps p.tables e below (T4.setTop (mkF m 16 #[.val (.int i0), .unset, .unset, .unset] [(.ref w1), (.int (1 : Int32)), (.ref b1), (.ref b1)])) _
    refine st5 _ ?_
    show Steps p.tables e below (T5.setTop (mkF m 17 #[.val (.int i0), .unset, .unset, .unset] [(.ref b1)])) _
    refine XS.dup X5.here hx rfl (hb hby at_17) rfl rfl ?_
    show Steps p.tables e below (T5.setTop (mkF m 18 #[.val (.int i0), .unset, .unset, .unset] [(.ref b1), (.ref b1)])) _
    refine XS.iconst X5.here hx rfl (hb hby at_18) ?_
    show Steps p.tables e below (T5.setTop (mkF m 19 #[.val (.int i0), .unset, .unset, .unset] [(.int (2 : Int32)), (.ref b1), (.ref b1)])) _
    refine st6 _ ?_
    show Steps p.tables e below (T6.setTop (mkF m 22 #[.val (.int i0), .unset, .unset, .unset] [(.ref w2), (.int (2 : Int32)), (.ref b1), (.ref b1)])) _
    refine st7 _ ?_
    show Steps p.tables e below (T7.setTop (mkF m 23 #[.val (.int i0), .unset, .unset, .unset] [(.ref b1)])) _
    refine XS.dup X7.here hx rfl (hb hby at_23) rfl rfl ?_
    show Steps p.tables e below (T7.setTop (mkF m 24 #[.val (.int i0), .unset, .unset, .unset] [(.ref b1), (.ref b1)])) _
    refine XS.iconst X7.here hx rfl (hb hby at_24) ?_
    show Steps p.tables e below (T7.setTop (mkF m 25 #[.val (.int i0), .unset, .unset, .unset] [(.int (3 : Int32)), (.ref b1), (.ref b1)])) _
    refine st8 _ ?_
    show Steps p.tables e below (T8.setTop (mkF m 28 #[.val (.int i0), .unset, .unset, .unset] [(.ref w3), (.int (3 : Int32)), (.ref b1), (.ref b1)])) _
    refine st9 _ ?_
    show Steps p.tables e below (T9.setTop (mkF m 29 #[.val (.int i0), .unset, .unset, .unset] [(.ref b1)])) _
    refine XS.dup X9.here hx rfl (hb hby at_29) rfl rfl ?_
    show Steps p.tables e below (T9.setTop (mkF m 30 #[.val (.int i0), .unset, .unset, .unset] [(.ref b1), (.ref b1)])) _
    refine XS.iconst X9.here hx rfl (hb hby at_30) ?_
    show Steps p.tables e below (T9.setTop (mkF m 31 #[.val (.int i0), .unset, .unset, .unset] [(.int (4 : Int32)), (.ref b1), (.ref b1)])) _
    refine st10 _ ?_
    show Steps p.tables e below (T10.setTop (mkF m 34 #[.val (.int i0), .unset, .unset, .unset] [(.ref w4), (.int (4 : Int32)), (.ref b1), (.ref b1)])) _
    refine st11 _ ?_
    show Steps p.tables e below (T11.setTop (mkF m 35 #[.val (.int i0), .unset, .unset, .unset] [(.ref b1)])) _
    refine XS.dup X11.here hx rfl (hb hby at_35) rfl rfl ?_
    show Steps p.tables e below (T11.setTop (mkF m 36 #[.val (.int i0), .unset, .unset, .unset] [(.ref b1), (.ref b1)])) _
    refine XS.iconst X11.here hx rfl (hb hby at_36) ?_
    show Steps p.tables e below (T11.setTop (mkF m 37 #[.val (.int i0), .unset, .unset, .unset] [(.int (5 : Int32)), (.ref b1), (.ref b1)])) _
    refine st12 _ ?_
    show Steps p.tables e below (T12.setTop (mkF m 40 #[.val (.int i0), .unset, .unset, .unset] [(.ref w5), (.int (5 : Int32)), (.ref b1), (.ref b1)])) _
    refine st13 _ ?_
    show Steps p.tables e below (T13.setTop (mkF m 41 #[.val (.int i0), .unset, .unset, .unset] [(.ref b1)])) _
    refine XS.dup X13.here hx rfl (hb hby at_41) rfl rfl ?_
    show Steps p.tables e below (T13.setTop (mkF m 42 #[.val (.int i0), .unset, .unset, .unset] [(.ref b1), (.ref b1)])) _
    refine XS.bipush X13.here hx rfl (hb hby at_42) ?_
    show Steps p.tables e below (T13.setTop (mkF m 44 #[.val (.int i0), .unset, .unset, .unset] [(.int (6 : Int32)), (.ref b1), (.ref b1)])) _
    refine st14 _ ?_
    show Steps p.tables e below (T14.setTop (mkF m 47 #[.val (.int i0), .unset, .unset, .unset] [(.ref w6), (.int (6 : Int32)), (.ref b1), (.ref b1)])) _
    refine st15 _ ?_
    show Steps p.tables e below (T15.setTop (mkF m 48 #[.val (.int i0), .unset, .unset, .unset] [(.ref b1)])) _
    refine XS.astoreN X15.here hx rfl (hb hby at_48) rfl rfl (l' := #[.val (.int i0), .val (.ref b1), .unset, .unset]) rfl ?_
    show Steps p.tables e below (T15.setTop (mkF m 49 #[.val (.int i0), .val (.ref b1), .unset, .unset] [])) _
    refine XS.iloadN X15.here hx rfl (hb hby at_49) rfl ?_
    show Steps p.tables e below (T15.setTop (mkF m 50 #[.val (.int i0), .val (.ref b1), .unset, .unset] [(.int i0)])) _
    refine X15.ldcInt hx hown (mvT hZ (hw _ (List.mem_of_getElem? (i := 18) rfl))) (g := (mkF m 50 #[.val (.int i0), .val (.ref b1), .unset, .unset] [(.int i0)])) rfl (hb hby at_50) _ ?_
    show Steps p.tables e below (T15.setTop (mkF m 52 #[.val (.int i0), .val (.ref b1), .unset, .unset] [(.int (2147483647 : Int32)), (.int i0)])) _
    refine XS.iand X15.here hx rfl (hb hby at_52) rfl ?_
    show Steps p.tables e below (T15.setTop (mkF m 53 #[.val (.int i0), .val (.ref b1), .unset, .unset] [(.int (i0 &&& (2147483647 : Int32)))])) _
    refine XS.bipush X15.here hx rfl (hb hby at_53) ?_
    show Steps p.tables e below (T15.setTop (mkF m 55 #[.val (.int i0), .val (.ref b1), .unset, .unset] [(.int (7 : Int32)), (.int (i0 &&& (2147483647 : Int32)))])) _
    exact k
  rcases own_rem_7 i0 with hk17 | hk18 | hk19 | hk20 | hk21 | hk22 | hk23
  · obtain ⟨cl24, Ar24, q24, S24, M24, H24, G24⟩ := V15
    have hin24 : ¬ ((0 : Int32) < 0 ∨ cl24.slots.size ≤ ((0 : Int32)).toNatClampNeg) := inb_of S24 ⟨by decide, by decide⟩
    have hat24 : cl24.slots[((0 : Int32)).toNatClampNeg]? = some (.ref w0) := Has.at H24 hin24 rfl
    obtain ⟨cq26, kq26, q26a, q26b, q26c⟩ := isOf hZ e15 (wE0.ext O_15.2)
    obtain ⟨_, _, ⟨T26, L26, k26, n26⟩, -, X26, ⟨Lc26, hQ26, l26, y26, z26⟩, st26⟩ := X15.virtualBack hx (y := (⟨"com/example/wyrmsiege/wyrmsiege/model/Kind", "isTroop", "()Z"⟩ : MethodName)) (z := (⟨"com/example/wyrmsiege/wyrmsiege/model/Kind", "isTroop", "()Z"⟩ : MethodName)) hown (mvT hZ (hw _ (List.mem_of_getElem? (i := 19) rfl))) (mvT hZ (hw _ (List.mem_of_getElem? (i := 20) rfl))) (notFace_of_selects (args := #[]) (mvT hZ (hw _ (List.mem_of_getElem? (i := 22) rfl)))) (mvT hZ (hw _ (List.mem_of_getElem? (i := 22) rfl))) (mvT hZ (hw _ (List.mem_of_getElem? (i := 21) rfl))) (by decide) (backOf (W := 0) (rm1 l Z a0 hw [] w0 w1 w2 w3 w4 w5 w6 h15 n0 hWd O_15) hZ (hw _ (List.mem_of_getElem? (i := 23) rfl)) (hw _ (List.mem_of_getElem? (i := 3) rfl)) (by decide) (by decide)) q26a q26c (g := (mkF m 71 #[.val (.int i0), .val (.ref b1), .val (.int (0 : Int32)), .val (.int (1 : Int32))] [(.ref w0)])) rfl (by rw [hml]; rfl) (Steps.refl _) (argsL := []) (rest := []) (lenOf pd0 rfl) rfl (by show 2 * 0 + _ ≤ _; exact Nat.le_of_eq rfl) (hb hby at_71) (fun _ _ => ⟨rfl, e15, (by decide : 1 + 0 ≤ _), (by decide : 7 + 0 ≤ _)⟩)
    dsimp only [Pt.U, Pt.locs, Pt.cells, Pt.slots] at X26 l26 y26 z26 st26 hQ26
    subst l26 y26 z26
    obtain ⟨rfl, N26q, e26⟩ := hQ26
    have N26 := Fr.app N15 N26q
    obtain ⟨fs, hr, hrun, hended, hWr, hsame⟩ := X26.leave (v := some (.int (1 : Int32))) (fun h => by rw [Bd.returns] at h; cases h)
    refine ⟨_, _, pre16 _ ?_, hrun, hended, _, _, rfl, ?_, ⟨_, rfl⟩, hWr, hsame.mono (Nat.le_of_ble_eq_true rfl) (Nat.le_of_ble_eq_true rfl)⟩
    · show Steps p.tables e below (T15.setTop (mkF m 55 #[.val (.int i0), .val (.ref b1), .unset, .unset] [(.int (7 : Int32)), (.int (i0 &&& (2147483647 : Int32)))])) _
      refine iremM X15 hx rfl (hb hby at_55) rfl (by decide) ?_
      show Steps p.tables e below (T15.setTop (mkF m 56 #[.val (.int i0), .val (.ref b1), .unset, .unset] [(.int ((i0 &&& (2147483647 : Int32)) % (7 : Int32)))])) _
      rw [hk17]
      show Steps p.tables e below (T15.setTop (mkF m 56 #[.val (.int i0), .val (.ref b1), .unset, .unset] [(.int (0 : Int32))])) _
      refine XS.istoreN X15.here hx rfl (hb hby at_56) rfl (l' := #[.val (.int i0), .val (.ref b1), .val (.int (0 : Int32)), .unset]) rfl ?_
      show Steps p.tables e below (T15.setTop (mkF m 57 #[.val (.int i0), .val (.ref b1), .val (.int (0 : Int32)), .unset] [])) _
      refine XS.iloadN X15.here hx rfl (hb hby at_57) rfl ?_
      show Steps p.tables e below (T15.setTop (mkF m 58 #[.val (.int i0), .val (.ref b1), .val (.int (0 : Int32)), .unset] [(.int (0 : Int32))])) _
      refine XS.iconst X15.here hx rfl (hb hby at_58) ?_
      show Steps p.tables e below (T15.setTop (mkF m 59 #[.val (.int i0), .val (.ref b1), .val (.int (0 : Int32)), .unset] [(.int (4 : Int32)), (.int (0 : Int32))])) _
      refine XS.icmpNo X15.here hx rfl (hb hby at_59) rfl (by decide) ?_
      show Steps p.tables e below (T15.setTop (mkF m 62 #[.val (.int i0), .val (.ref b1), .val (.int (0 : Int32)), .unset] [])) _
      refine XS.iconst X15.here hx rfl (hb hby at_62) ?_
      show Steps p.tables e below (T15.setTop (mkF m 63 #[.val (.int i0), .val (.ref b1), .val (.int (0 : Int32)), .unset] [(.int (1 : Int32))])) _
      refine XS.goto X15.here hx rfl (pc0 := 63) (pc' := 67) rfl (hb hby at_63) (by decide) (by decide) ?_
      show Steps p.tables e below (T15.setTop (mkF m 67 #[.val (.int i0), .val (.ref b1), .val (.int (0 : Int32)), .unset] [(.int (1 : Int32))])) _
      refine XS.istoreN X15.here hx rfl (hb hby at_67) rfl (l' := #[.val (.int i0), .val (.ref b1), .val (.int (0 : Int32)), .val (.int (1 : Int32))]) rfl ?_
      show Steps p.tables e below (T15.setTop (mkF m 68 #[.val (.int i0), .val (.ref b1), .val (.int (0 : Int32)), .val (.int (1 : Int32))] [])) _
      refine XS.aloadN X15.here hx rfl (hb hby at_68) rfl rfl ?_
      show Steps p.tables e below (T15.setTop (mkF m 69 #[.val (.int i0), .val (.ref b1), .val (.int (0 : Int32)), .val (.int (1 : Int32))] [(.ref b1)])) _
      refine XS.iloadN X15.here hx rfl (hb hby at_69) rfl ?_
      show Steps p.tables e below (T15.setTop (mkF m 70 #[.val (.int i0), .val (.ref b1), .val (.int (0 : Int32)), .val (.int (1 : Int32))] [(.int (0 : Int32)), (.ref b1)])) _
      refine X15.aaload hx (j := (0 : Int32)) (v := (.ref w0)) (by rw [e15]; exact Ar24.1) (State.isArrayOf_alike hZ.alike Ar24.2.1) rfl Ar24.2.2 hin24 hat24 (g := (mkF m 70 #[.val (.int i0), .val (.ref b1), .val (.int (0 : Int32)), .val (.int (1 : Int32))] [(.int (0 : Int32)), (.ref b1)])) rfl rfl (hb hby at_70) _ ?_
      show Steps p.tables e below (T15.setTop (mkF m 71 #[.val (.int i0), .val (.ref b1), .val (.int (0 : Int32)), .val (.int (1 : Int32))] [(.ref w0)])) _
      refine st26.trans ?_
      show Steps p.tables e below (T26.setTop (mkF m 74 #[.val (.int i0), .val (.ref b1), .val (.int (0 : Int32)), .val (.int (1 : Int32))] [(.int (1 : Int32))])) _
      refine XS.iloadN X26.here hx rfl (hb hby at_74) rfl ?_
      show Steps p.tables e below (T26.setTop (mkF m 75 #[.val (.int i0), .val (.ref b1), .val (.int (0 : Int32)), .val (.int (1 : Int32))] [(.int (1 : Int32)), (.int (1 : Int32))])) _
      refine XS.icmpNo X26.here hx rfl (hb hby at_75) rfl (by decide) ?_
      show Steps p.tables e below (T26.setTop (mkF m 78 #[.val (.int i0), .val (.ref b1), .val (.int (0 : Int32)), .val (.int (1 : Int32))] [])) _
      refine XS.iconst X26.here hx rfl (hb hby at_78) ?_
      show Steps p.tables e below (T26.setTop (mkF m 79 #[.val (.int i0), .val (.ref b1), .val (.int (0 : Int32)), .val (.int (1 : Int32))] [(.int (1 : Int32))])) _
      refine XS.goto X26.here hx rfl (pc0 := 79) (pc' := 83) rfl (hb hby at_79) (by decide) (by decide) ?_
      show Steps p.tables e below (T26.setTop (mkF m 83 #[.val (.int i0), .val (.ref b1), .val (.int (0 : Int32)), .val (.int (1 : Int32))] [(.int (1 : Int32))])) _
      exact retN X26 hx (t := .boolean) Bd.returns (by simp) (hb hby at_83) hr
    · show Ql n0 _ T26.heap _
      exact ⟨rfl, N26⟩
  · obtain ⟨cl27, Ar27, q27, S27, M27, H27, G27⟩ := V15
    have hin27 : ¬ ((1 : Int32) < 0 ∨ cl27.slots.size ≤ ((1 : Int32)).toNatClampNeg) := inb_of S27 ⟨by decide, by decide⟩
    have hat27 : cl27.slots[((1 : Int32)).toNatClampNeg]? = some (.ref w1) := Has.at H27 hin27 rfl
    obtain ⟨cq30, kq30, q30a, q30b, q30c⟩ := isOf hZ e15 (wE1.ext O_15.2)
    obtain ⟨_, _, ⟨T30, L30, k30, n30⟩, -, X30, ⟨Lc30, hQ30, l30, y30, z30⟩, st30⟩ := X15.virtualBack hx (y := (⟨"com/example/wyrmsiege/wyrmsiege/model/Kind", "isTroop", "()Z"⟩ : MethodName)) (z := (⟨"com/example/wyrmsiege/wyrmsiege/model/Kind", "isTroop", "()Z"⟩ : MethodName)) hown (mvT hZ (hw _ (List.mem_of_getElem? (i := 19) rfl))) (mvT hZ (hw _ (List.mem_of_getElem? (i := 20) rfl))) (notFace_of_selects (args := #[]) (mvT hZ (hw _ (List.mem_of_getElem? (i := 22) rfl)))) (mvT hZ (hw _ (List.mem_of_getElem? (i := 22) rfl))) (mvT hZ (hw _ (List.mem_of_getElem? (i := 21) rfl))) (by decide) (backOf (W := 0) (rm2 l Z a0 hw [] w0 w1 w2 w3 w4 w5 w6 h15 n0 hWd O_15) hZ (hw _ (List.mem_of_getElem? (i := 23) rfl)) (hw _ (List.mem_of_getElem? (i := 3) rfl)) (by decide) (by decide)) q30a q30c (g := (mkF m 71 #[.val (.int i0), .val (.ref b1), .val (.int (1 : Int32)), .val (.int (1 : Int32))] [(.ref w1)])) rfl (by rw [hml]; rfl) (Steps.refl _) (argsL := []) (rest := []) (lenOf pd0 rfl) rfl (by show 2 * 0 + _ ≤ _; exact Nat.le_of_eq rfl) (hb hby at_71) (fun _ _ => ⟨rfl, e15, (by decide : 1 + 0 ≤ _), (by decide : 7 + 0 ≤ _)⟩)
    dsimp only [Pt.U, Pt.locs, Pt.cells, Pt.slots] at X30 l30 y30 z30 st30 hQ30
    subst l30 y30 z30
    obtain ⟨rfl, N30q, e30⟩ := hQ30
    have N30 := Fr.app N15 N30q
    obtain ⟨fs, hr, hrun, hended, hWr, hsame⟩ := X30.leave (v := some (.int (1 : Int32))) (fun h => by rw [Bd.returns] at h; cases h)
    refine ⟨_, _, pre16 _ ?_, hrun, hended, _, _, rfl, ?_, ⟨_, rfl⟩, hWr, hsame.mono (Nat.le_of_ble_eq_true rfl) (Nat.le_of_ble_eq_true rfl)⟩
    · show Steps p.tables e below (T15.setTop (mkF m 55 #[.val (.int i0), .val (.ref b1), .unset, .unset] [(.int (7 : Int32)), (.int (i0 &&& (2147483647 : Int32)))])) _
      refine iremM X15 hx rfl (hb hby at_55) rfl (by decide) ?_
      show Steps p.tables e below (T15.setTop (mkF m 56 #[.val (.int i0), .val (.ref b1), .unset, .unset] [(.int ((i0 &&& (2147483647 : Int32)) % (7 : Int32)))])) _
      rw [hk18]
      show Steps p.tables e below (T15.setTop (mkF m 56 #[.val (.int i0), .val (.ref b1), .unset, .unset] [(.int (1 : Int32))])) _
      refine XS.istoreN X15.here hx rfl (hb hby at_56) rfl (l' := #[.val (.int i0), .val (.ref b1), .val (.int (1 : Int32)), .unset]) rfl ?_
      show Steps p.tables e below (T15.setTop (mkF m 57 #[.val (.int i0), .val (.ref b1), .val (.int (1 : Int32)), .unset] [])) _
      refine XS.iloadN X15.here hx rfl (hb hby at_57) rfl ?_
      show Steps p.tables e below (T15.setTop (mkF m 58 #[.val (.int i0), .val (.ref b1), .val (.int (1 : Int32)), .unset] [(.int (1 : Int32))])) _
      refine XS.iconst X15.here hx rfl (hb hby at_58) ?_
      show Steps p.tables e below (T15.setTop (mkF m 59 #[.val (.int i0), .val (.ref b1), .val (.int (1 : Int32)), .unset] [(.int (4 : Int32)), (.int (1 : Int32))])) _
      refine XS.icmpNo X15.here hx rfl (hb hby at_59) rfl (by decide) ?_
      show Steps p.tables e below (T15.setTop (mkF m 62 #[.val (.int i0), .val (.ref b1), .val (.int (1 : Int32)), .unset] [])) _
      refine XS.iconst X15.here hx rfl (hb hby at_62) ?_
      show Steps p.tables e below (T15.setTop (mkF m 63 #[.val (.int i0), .val (.ref b1), .val (.int (1 : Int32)), .unset] [(.int (1 : Int32))])) _
      refine XS.goto X15.here hx rfl (pc0 := 63) (pc' := 67) rfl (hb hby at_63) (by decide) (by decide) ?_
      show Steps p.tables e below (T15.setTop (mkF m 67 #[.val (.int i0), .val (.ref b1), .val (.int (1 : Int32)), .unset] [(.int (1 : Int32))])) _
      refine XS.istoreN X15.here hx rfl (hb hby at_67) rfl (l' := #[.val (.int i0), .val (.ref b1), .val (.int (1 : Int32)), .val (.int (1 : Int32))]) rfl ?_
      show Steps p.tables e below (T15.setTop (mkF m 68 #[.val (.int i0), .val (.ref b1), .val (.int (1 : Int32)), .val (.int (1 : Int32))] [])) _
      refine XS.aloadN X15.here hx rfl (hb hby at_68) rfl rfl ?_
      show Steps p.tables e below (T15.setTop (mkF m 69 #[.val (.int i0), .val (.ref b1), .val (.int (1 : Int32)), .val (.int (1 : Int32))] [(.ref b1)])) _
      refine XS.iloadN X15.here hx rfl (hb hby at_69) rfl ?_
      show Steps p.tables e below (T15.setTop (mkF m 70 #[.val (.int i0), .val (.ref b1), .val (.int (1 : Int32)), .val (.int (1 : Int32))] [(.int (1 : Int32)), (.ref b1)])) _
      refine X15.aaload hx (j := (1 : Int32)) (v := (.ref w1)) (by rw [e15]; exact Ar27.1) (State.isArrayOf_alike hZ.alike Ar27.2.1) rfl Ar27.2.2 hin27 hat27 (g := (mkF m 70 #[.val (.int i0), .val (.ref b1), .val (.int (1 : Int32)), .val (.int (1 : Int32))] [(.int (1 : Int32)), (.ref b1)])) rfl rfl (hb hby at_70) _ ?_
      show Steps p.tables e below (T15.setTop (mkF m 71 #[.val (.int i0), .val (.ref b1), .val (.int (1 : Int32)), .val (.int (1 : Int32))] [(.ref w1)])) _
      refine st30.trans ?_
      show Steps p.tables e below (T30.setTop (mkF m 74 #[.val (.int i0), .val (.ref b1), .val (.int (1 : Int32)), .val (.int (1 : Int32))] [(.int (1 : Int32))])) _
      refine XS.iloadN X30.here hx rfl (hb hby at_74) rfl ?_
      show Steps p.tables e below (T30.setTop (mkF m 75 #[.val (.int i0), .val (.ref b1), .val (.int (1 : Int32)), .val (.int (1 : Int32))] [(.int (1 : Int32)), (.int (1 : Int32))])) _
      refine XS.icmpNo X30.here hx rfl (hb hby at_75) rfl (by decide) ?_
      show Steps p.tables e below (T30.setTop (mkF m 78 #[.val (.int i0), .val (.ref b1), .val (.int (1 : Int32)), .val (.int (1 : Int32))] [])) _
      refine XS.iconst X30.here hx rfl (hb hby at_78) ?_
      show Steps p.tables e below (T30.setTop (mkF m 79 #[.val (.int i0), .val (.ref b1), .val (.int (1 : Int32)), .val (.int (1 : Int32))] [(.int (1 : Int32))])) _
      refine XS.goto X30.here hx rfl (pc0 := 79) (pc' := 83) rfl (hb hby at_79) (by decide) (by decide) ?_
      show Steps p.tables e below (T30.setTop (mkF m 83 #[.val (.int i0), .val (.ref b1), .val (.int (1 : Int32)), .val (.int (1 : Int32))] [(.int (1 : Int32))])) _
      exact retN X30 hx (t := .boolean) Bd.returns (by simp) (hb hby at_83) hr
    · show Ql n0 _ T30.heap _
      exact ⟨rfl, N30⟩
  · obtain ⟨cl31, Ar31, q31, S31, M31, H31, G31⟩ := V15
    have hin31 : ¬ ((2 : Int32) < 0 ∨ cl31.slots.size ≤ ((2 : Int32)).toNatClampNeg) := inb_of S31 ⟨by decide, by decide⟩
    have hat31 : cl31.slots[((2 : Int32)).toNatClampNeg]? = some (.ref w2) := Has.at H31 hin31 rfl
    obtain ⟨cq35, kq35, q35a, q35b, q35c⟩ := isOf hZ e15 (wE2.ext O_15.2)
    obtain ⟨_, _, ⟨T35, L35, k35, n35⟩, -, X35, ⟨Lc35, hQ35, l35, y35, z35⟩, st35⟩ := X15.virtualBack hx (y := (⟨"com/example/wyrmsiege/wyrmsiege/model/Kind", "isTroop", "()Z"⟩ : MethodName)) (z := (⟨"com/example/wyrmsiege/wyrmsiege/model/Kind", "isTroop", "()Z"⟩ : MethodName)) hown (mvT hZ (hw _ (List.mem_of_getElem? (i := 19) rfl))) (mvT hZ (hw _ (List.mem_of_getElem? (i := 20) rfl))) (notFace_of_selects (args := #[]) (mvT hZ (hw _ (List.mem_of_getElem? (i := 22) rfl)))) (mvT hZ (hw _ (List.mem_of_getElem? (i := 22) rfl))) (mvT hZ (hw _ (List.mem_of_getElem? (i := 21) rfl))) (by decide) (backOf (W := 0) (rm3 l Z a0 hw [] w0 w1 w2 w3 w4 w5 w6 h15 n0 hWd O_15) hZ (hw _ (List.mem_of_getElem? (i := 23) rfl)) (hw _ (List.mem_of_getElem? (i := 3) rfl)) (by decide) (by decide)) q35a q35c (g := (mkF m 71 #[.val (.int i0), .val (.ref b1), .val (.int (2 : Int32)), .val (.int (1 : Int32))] [(.ref w2)])) rfl (by rw [hml]; rfl) (Steps.refl _) (argsL := []) (rest := []) (lenOf pd0 rfl) rfl (by show 2 * 0 + _ ≤ _; exact Nat.le_of_eq rfl) (hb hby at_71) (fun _ _ => ⟨rfl, e15, (by decide : 1 + 0 ≤ _), (by decide : 7 + 0 ≤ _)⟩)
    dsimp only [Pt.U, Pt.locs, Pt.cells, Pt.slots] at X35 l35 y35 z35 st35 hQ35
    subst l35 y35 z35
    obtain ⟨rfl, N35q, e35⟩ := hQ35
    have N35 := Fr.app N15 N35q
    obtain ⟨fs, hr, hrun, hended, hWr, hsame⟩ := X35.leave (v := some (.int (1 : Int32))) (fun h => by rw [Bd.returns] at h; cases h)
    refine ⟨_, _, pre16 _ ?_, hrun, hended, _, _, rfl, ?_, ⟨_, rfl⟩, hWr, hsame.mono (Nat.le_of_ble_eq_true rfl) (Nat.le_of_ble_eq_true rfl)⟩
    · show Steps p.tables e below (T15.setTop (mkF m 55 #[.val (.int i0), .val (.ref b1), .unset, .unset] [(.int (7 : Int32)), (.int (i0 &&& (2147483647 : Int32)))])) _
      refine iremM X15 hx rfl (hb hby at_55) rfl (by decide) ?_
      show Steps p.tables e below (T15.setTop (mkF m 56 #[.val (.int i0), .val (.ref b1), .unset, .unset] [(.int ((i0 &&& (2147483647 : Int32)) % (7 : Int32)))])) _
      rw [hk19]
      show Steps p.tables e below (T15.setTop (mkF m 56 #[.val (.int i0), .val (.ref b1), .unset, .unset] [(.int (2 : Int32))])) _
      refine XS.istoreN X15.here hx rfl (hb hby at_56) rfl (l' := #[.val (.int i0), .val (.ref b1), .val (.int (2 : Int32)), .unset]) rfl ?_
      show Steps p.tables e below (T15.setTop (mkF m 57 #[.val (.int i0), .val (.ref b1), .val (.int (2 : Int32)), .unset] [])) _
      refine XS.iloadN X15.here hx rfl (hb hby at_57) rfl ?_
      show Steps p.tables e below (T15.setTop (mkF m 58 #[.val (.int i0), .val (.ref b1), .val (.int (2 : Int32)), .unset] [(.int (2 : Int32))])) _
      refine XS.iconst X15.here hx rfl (hb hby at_58) ?_
      show Steps p.tables e below (T15.setTop (mkF m 59 #[.val (.int i0), .val (.ref b1), .val (.int (2 : Int32)), .unset] [(.int (4 : Int32)), (.int (2 : Int32))])) _
      refine XS.icmpNo X15.here hx rfl (hb hby at_59) rfl (by decide) ?_
      show Steps p.tables e below (T15.setTop (mkF m 62 #[.val (.int i0), .val (.ref b1), .val (.int (2 : Int32)), .unset] [])) _
      refine XS.iconst X15.here hx rfl (hb hby at_62) ?_
      show Steps p.tables e below (T15.setTop (mkF m 63 #[.val (.int i0), .val (.ref b1), .val (.int (2 : Int32)), .unset] [(.int (1 : Int32))])) _
      refine XS.goto X15.here hx rfl (pc0 := 63) (pc' := 67) rfl (hb hby at_63) (by decide) (by decide) ?_
      show Steps p.tables e below (T15.setTop (mkF m 67 #[.val (.int i0), .val (.ref b1), .val (.int (2 : Int32)), .unset] [(.int (1 : Int32))])) _
      refine XS.istoreN X15.here hx rfl (hb hby at_67) rfl (l' := #[.val (.int i0), .val (.ref b1), .val (.int (2 : Int32)), .val (.int (1 : Int32))]) rfl ?_
      show Steps p.tables e below (T15.setTop (mkF m 68 #[.val (.int i0), .val (.ref b1), .val (.int (2 : Int32)), .val (.int (1 : Int32))] [])) _
      refine XS.aloadN X15.here hx rfl (hb hby at_68) rfl rfl ?_
      show Steps p.tables e below (T15.setTop (mkF m 69 #[.val (.int i0), .val (.ref b1), .val (.int (2 : Int32)), .val (.int (1 : Int32))] [(.ref b1)])) _
      refine XS.iloadN X15.here hx rfl (hb hby at_69) rfl ?_
      show Steps p.tables e below (T15.setTop (mkF m 70 #[.val (.int i0), .val (.ref b1), .val (.int (2 : Int32)), .val (.int (1 : Int32))] [(.int (2 : Int32)), (.ref b1)])) _
      refine X15.aaload hx (j := (2 : Int32)) (v := (.ref w2)) (by rw [e15]; exact Ar31.1) (State.isArrayOf_alike hZ.alike Ar31.2.1) rfl Ar31.2.2 hin31 hat31 (g := (mkF m 70 #[.val (.int i0), .val (.ref b1), .val (.int (2 : Int32)), .val (.int (1 : Int32))] [(.int (2 : Int32)), (.ref b1)])) rfl rfl (hb hby at_70) _ ?_
      show Steps p.tables e below (T15.setTop (mkF m 71 #[.val (.int i0), .val (.ref b1), .val (.int (2 : Int32)), .val (.int (1 : Int32))] [(.ref w2)])) _
      refine st35.trans ?_
      show Steps p.tables e below (T35.setTop (mkF m 74 #[.val (.int i0), .val (.ref b1), .val (.int (2 : Int32)), .val (.int (1 : Int32))] [(.int (1 : Int32))])) _
      refine XS.iloadN X35.here hx rfl (hb hby at_74) rfl ?_
      show Steps p.tables e below (T35.setTop (mkF m 75 #[.val (.int i0), .val (.ref b1), .val (.int (2 : Int32)), .val (.int (1 : Int32))] [(.int (1 : Int32)), (.int (1 : Int32))])) _
      refine XS.icmpNo X35.here hx rfl (hb hby at_75) rfl (by decide) ?_
      show Steps p.tables e below (T35.setTop (mkF m 78 #[.val (.int i0), .val (.ref b1), .val (.int (2 : Int32)), .val (.int (1 : Int32))] [])) _
      refine XS.iconst X35.here hx rfl (hb hby at_78) ?_
      show Steps p.tables e below (T35.setTop (mkF m 79 #[.val (.int i0), .val (.ref b1), .val (.int (2 : Int32)), .val (.int (1 : Int32))] [(.int (1 : Int32))])) _
      refine XS.goto X35.here hx rfl (pc0 := 79) (pc' := 83) rfl (hb hby at_79) (by decide) (by decide) ?_
      show Steps p.tables e below (T35.setTop (mkF m 83 #[.val (.int i0), .val (.ref b1), .val (.int (2 : Int32)), .val (.int (1 : Int32))] [(.int (1 : Int32))])) _
      exact retN X35 hx (t := .boolean) Bd.returns (by simp) (hb hby at_83) hr
    · show Ql n0 _ T35.heap _
      exact ⟨rfl, N35⟩
  · obtain ⟨cl36, Ar36, q36, S36, M36, H36, G36⟩ := V15
    have hin36 : ¬ ((3 : Int32) < 0 ∨ cl36.slots.size ≤ ((3 : Int32)).toNatClampNeg) := inb_of S36 ⟨by decide, by decide⟩
    have hat36 : cl36.slots[((3 : Int32)).toNatClampNeg]? = some (.ref w3) := Has.at H36 hin36 rfl
    obtain ⟨cq41, kq41, q41a, q41b, q41c⟩ := isOf hZ e15 (wE3.ext O_15.2)
    obtain ⟨_, _, ⟨T41, L41, k41, n41⟩, -, X41, ⟨Lc41, hQ41, l41, y41, z41⟩, st41⟩ := X15.virtualBack hx (y := (⟨"com/example/wyrmsiege/wyrmsiege/model/Kind", "isTroop", "()Z"⟩ : MethodName)) (z := (⟨"com/example/wyrmsiege/wyrmsiege/model/Kind", "isTroop", "()Z"⟩ : MethodName)) hown (mvT hZ (hw _ (List.mem_of_getElem? (i := 19) rfl))) (mvT hZ (hw _ (List.mem_of_getElem? (i := 20) rfl))) (notFace_of_selects (args := #[]) (mvT hZ (hw _ (List.mem_of_getElem? (i := 22) rfl)))) (mvT hZ (hw _ (List.mem_of_getElem? (i := 22) rfl))) (mvT hZ (hw _ (List.mem_of_getElem? (i := 21) rfl))) (by decide) (backOf (W := 0) (rm4 l Z a0 hw [] w0 w1 w2 w3 w4 w5 w6 h15 n0 hWd O_15) hZ (hw _ (List.mem_of_getElem? (i := 23) rfl)) (hw _ (List.mem_of_getElem? (i := 3) rfl)) (by decide) (by decide)) q41a q41c (g := (mkF m 71 #[.val (.int i0), .val (.ref b1), .val (.int (3 : Int32)), .val (.int (1 : Int32))] [(.ref w3)])) rfl (by rw [hml]; rfl) (Steps.refl _) (argsL := []) (rest := []) (lenOf pd0 rfl) rfl (by show 2 * 0 + _ ≤ _; exact Nat.le_of_eq rfl) (hb hby at_71) (fun _ _ => ⟨rfl, e15, (by decide : 1 + 0 ≤ _), (by decide : 7 + 0 ≤ _)⟩)
    dsimp only [Pt.U, Pt.locs, Pt.cells, Pt.slots] at X41 l41 y41 z41 st41 hQ41
    subst l41 y41 z41
    obtain ⟨rfl, N41q, e41⟩ := hQ41
    have N41 := Fr.app N15 N41q
    obtain ⟨fs, hr, hrun, hended, hWr, hsame⟩ := X41.leave (v := some (.int (1 : Int32))) (fun h => by rw [Bd.returns] at h; cases h)
    refine ⟨_, _, pre16 _ ?_, hrun, hended, _, _, rfl, ?_, ⟨_, rfl⟩, hWr, hsame.mono (Nat.le_of_ble_eq_true rfl) (Nat.le_of_ble_eq_true rfl)⟩
    · show Steps p.tables e below (T15.setTop (mkF m 55 #[.val (.int i0), .val (.ref b1), .unset, .unset] [(.int (7 : Int32)), (.int (i0 &&& (2147483647 : Int32)))])) _
      refine iremM X15 hx rfl (hb hby at_55) rfl (by decide) ?_
      show Steps p.tables e below (T15.setTop (mkF m 56 #[.val (.int i0), .val (.ref b1), .unset, .unset] [(.int ((i0 &&& (2147483647 : Int32)) % (7 : Int32)))])) _
      rw [hk20]
      show Steps p.tables e below (T15.setTop (mkF m 56 #[.val (.int i0), .val (.ref b1), .unset, .unset] [(.int (3 : Int32))])) _
      refine XS.istoreN X15.here hx rfl (hb hby at_56) rfl (l' := #[.val (.int i0), .val (.ref b1), .val (.int (3 : Int32)), .unset]) rfl ?_
      show Steps p.tables e below (T15.setTop (mkF m 57 #[.val (.int i0), .val (.ref b1), .val (.int (3 : Int32)), .unset] [])) _
      refine XS.iloadN X15.here hx rfl (hb hby at_57) rfl ?_
      show Steps p.tables e below (T15.setTop (mkF m 58 #[.val (.int i0), .val (.ref b1), .val (.int (3 : Int32)), .unset] [(.int (3 : Int32))])) _
      refine XS.iconst X15.here hx rfl (hb hby at_58) ?_
      show Steps p.tables e below (T15.setTop (mkF m 59 #[.val (.int i0), .val (.ref b1), .val (.int (3 : Int32)), .unset] [(.int (4 : Int32)), (.int (3 : Int32))])) _
      refine XS.icmpNo X15.here hx rfl (hb hby at_59) rfl (by decide) ?_
      show Steps p.tables e below (T15.setTop (mkF m 62 #[.val (.int i0), .val (.ref b1), .val (.int (3 : Int32)), .unset] [])) _
      refine XS.iconst X15.here hx rfl (hb hby at_62) ?_
      show Steps p.tables e below (T15.setTop (mkF m 63 #[.val (.int i0), .val (.ref b1), .val (.int (3 : Int32)), .unset] [(.int (1 : Int32))])) _
      refine XS.goto X15.here hx rfl (pc0 := 63) (pc' := 67) rfl (hb hby at_63) (by decide) (by decide) ?_
      show Steps p.tables e below (T15.setTop (mkF m 67 #[.val (.int i0), .val (.ref b1), .val (.int (3 : Int32)), .unset] [(.int (1 : Int32))])) _
      refine XS.istoreN X15.here hx rfl (hb hby at_67) rfl (l' := #[.val (.int i0), .val (.ref b1), .val (.int (3 : Int32)), .val (.int (1 : Int32))]) rfl ?_
      show Steps p.tables e below (T15.setTop (mkF m 68 #[.val (.int i0), .val (.ref b1), .val (.int (3 : Int32)), .val (.int (1 : Int32))] [])) _
      refine XS.aloadN X15.here hx rfl (hb hby at_68) rfl rfl ?_
      show Steps p.tables e below (T15.setTop (mkF m 69 #[.val (.int i0), .val (.ref b1), .val (.int (3 : Int32)), .val (.int (1 : Int32))] [(.ref b1)])) _
      refine XS.iloadN X15.here hx rfl (hb hby at_69) rfl ?_
      show Steps p.tables e below (T15.setTop (mkF m 70 #[.val (.int i0), .val (.ref b1), .val (.int (3 : Int32)), .val (.int (1 : Int32))] [(.int (3 : Int32)), (.ref b1)])) _
      refine X15.aaload hx (j := (3 : Int32)) (v := (.ref w3)) (by rw [e15]; exact Ar36.1) (State.isArrayOf_alike hZ.alike Ar36.2.1) rfl Ar36.2.2 hin36 hat36 (g := (mkF m 70 #[.val (.int i0), .val (.ref b1), .val (.int (3 : Int32)), .val (.int (1 : Int32))] [(.int (3 : Int32)), (.ref b1)])) rfl rfl (hb hby at_70) _ ?_
      show Steps p.tables e below (T15.setTop (mkF m 71 #[.val (.int i0), .val (.ref b1), .val (.int (3 : Int32)), .val (.int (1 : Int32))] [(.ref w3)])) _
      refine st41.trans ?_
      show Steps p.tables e below (T41.setTop (mkF m 74 #[.val (.int i0), .val (.ref b1), .val (.int (3 : Int32)), .val (.int (1 : Int32))] [(.int (1 : Int32))])) _
      refine XS.iloadN X41.here hx rfl (hb hby at_74) rfl ?_
      show Steps p.tables e below (T41.setTop (mkF m 75 #[.val (.int i0), .val (.ref b1), .val (.int (3 : Int32)), .val (.int (1 : Int32))] [(.int (1 : Int32)), (.int (1 : Int32))])) _
      refine XS.icmpNo X41.here hx rfl (hb hby at_75) rfl (by decide) ?_
      show Steps p.tables e below (T41.setTop (mkF m 78 #[.val (.int i0), .val (.ref b1), .val (.int (3 : Int32)), .val (.int (1 : Int32))] [])) _
      refine XS.iconst X41.here hx rfl (hb hby at_78) ?_
      show Steps p.tables e below (T41.setTop (mkF m 79 #[.val (.int i0), .val (.ref b1), .val (.int (3 : Int32)), .val (.int (1 : Int32))] [(.int (1 : Int32))])) _
      refine XS.goto X41.here hx rfl (pc0 := 79) (pc' := 83) rfl (hb hby at_79) (by decide) (by decide) ?_
      show Steps p.tables e below (T41.setTop (mkF m 83 #[.val (.int i0), .val (.ref b1), .val (.int (3 : Int32)), .val (.int (1 : Int32))] [(.int (1 : Int32))])) _
      exact retN X41 hx (t := .boolean) Bd.returns (by simp) (hb hby at_83) hr
    · show Ql n0 _ T41.heap _
      exact ⟨rfl, N41⟩
  · obtain ⟨cl42, Ar42, q42, S42, M42, H42, G42⟩ := V15
    have hin42 : ¬ ((4 : Int32) < 0 ∨ cl42.slots.size ≤ ((4 : Int32)).toNatClampNeg) := inb_of S42 ⟨by decide, by decide⟩
    have hat42 : cl42.slots[((4 : Int32)).toNatClampNeg]? = some (.ref w4) := Has.at H42 hin42 rfl
    obtain ⟨cq47, kq47, q47a, q47b, q47c⟩ := isOf hZ e15 (wE4.ext O_15.2)
    obtain ⟨_, _, ⟨T47, L47, k47, n47⟩, -, X47, ⟨Lc47, hQ47, l47, y47, z47⟩, st47⟩ := X15.virtualBack hx (y := (⟨"com/example/wyrmsiege/wyrmsiege/model/Kind", "isTroop", "()Z"⟩ : MethodName)) (z := (⟨"com/example/wyrmsiege/wyrmsiege/model/Kind", "isTroop", "()Z"⟩ : MethodName)) hown (mvT hZ (hw _ (List.mem_of_getElem? (i := 19) rfl))) (mvT hZ (hw _ (List.mem_of_getElem? (i := 20) rfl))) (notFace_of_selects (args := #[]) (mvT hZ (hw _ (List.mem_of_getElem? (i := 22) rfl)))) (mvT hZ (hw _ (List.mem_of_getElem? (i := 22) rfl))) (mvT hZ (hw _ (List.mem_of_getElem? (i := 21) rfl))) (by decide) (backOf (W := 0) (rm5 l Z a0 hw [] w0 w1 w2 w3 w4 w5 w6 h15 n0 hWd O_15) hZ (hw _ (List.mem_of_getElem? (i := 23) rfl)) (hw _ (List.mem_of_getElem? (i := 3) rfl)) (by decide) (by decide)) q47a q47c (g := (mkF m 71 #[.val (.int i0), .val (.ref b1), .val (.int (4 : Int32)), .val (.int (0 : Int32))] [(.ref w4)])) rfl (by rw [hml]; rfl) (Steps.refl _) (argsL := []) (rest := []) (lenOf pd0 rfl) rfl (by show 2 * 0 + _ ≤ _; exact Nat.le_of_eq rfl) (hb hby at_71) (fun _ _ => ⟨rfl, e15, (by decide : 1 + 0 ≤ _), (by decide : 7 + 0 ≤ _)⟩)
    dsimp only [Pt.U, Pt.locs, Pt.cells, Pt.slots] at X47 l47 y47 z47 st47 hQ47
    subst l47 y47 z47
    obtain ⟨rfl, N47q, e47⟩ := hQ47
    have N47 := Fr.app N15 N47q
    obtain ⟨fs, hr, hrun, hended, hWr, hsame⟩ := X47.leave (v := some (.int (1 : Int32))) (fun h => by rw [Bd.returns] at h; cases h)
    refine ⟨_, _, pre16 _ ?_, hrun, hended, _, _, rfl, ?_, ⟨_, rfl⟩, hWr, hsame.mono (Nat.le_of_ble_eq_true rfl) (Nat.le_of_ble_eq_true rfl)⟩
    · show Steps p.tables e below (T15.setTop (mkF m 55 #[.val (.int i0), .val (.ref b1), .unset, .unset] [(.int (7 : Int32)), (.int (i0 &&& (2147483647 : Int32)))])) _
      refine iremM X15 hx rfl (hb hby at_55) rfl (by decide) ?_
      show Steps p.tables e below (T15.setTop (mkF m 56 #[.val (.int i0), .val (.ref b1), .unset, .unset] [(.int ((i0 &&& (2147483647 : Int32)) % (7 : Int32)))])) _
      rw [hk21]
      show Steps p.tables e below (T15.setTop (mkF m 56 #[.val (.int i0), .val (.ref b1), .unset, .unset] [(.int (4 : Int32))])) _
      refine XS.istoreN X15.here hx rfl (hb hby at_56) rfl (l' := #[.val (.int i0), .val (.ref b1), .val (.int (4 : Int32)), .unset]) rfl ?_
      show Steps p.tables e below (T15.setTop (mkF m 57 #[.val (.int i0), .val (.ref b1), .val (.int (4 : Int32)), .unset] [])) _
      refine XS.iloadN X15.here hx rfl (hb hby at_57) rfl ?_
      show Steps p.tables e below (T15.setTop (mkF m 58 #[.val (.int i0), .val (.ref b1), .val (.int (4 : Int32)), .unset] [(.int (4 : Int32))])) _
      refine XS.iconst X15.here hx rfl (hb hby at_58) ?_
      show Steps p.tables e below (T15.setTop (mkF m 59 #[.val (.int i0), .val (.ref b1), .val (.int (4 : Int32)), .unset] [(.int (4 : Int32)), (.int (4 : Int32))])) _
      refine XS.icmpYes X15.here hx rfl (pc0 := 59) (pc' := 66) rfl (hb hby at_59) rfl (by decide) (by decide) (by decide) ?_
      show Steps p.tables e below (T15.setTop (mkF m 66 #[.val (.int i0), .val (.ref b1), .val (.int (4 : Int32)), .unset] [])) _
      refine XS.iconst X15.here hx rfl (hb hby at_66) ?_
      show Steps p.tables e below (T15.setTop (mkF m 67 #[.val (.int i0), .val (.ref b1), .val (.int (4 : Int32)), .unset] [(.int (0 : Int32))])) _
      refine XS.istoreN X15.here hx rfl (hb hby at_67) rfl (l' := #[.val (.int i0), .val (.ref b1), .val (.int (4 : Int32)), .val (.int (0 : Int32))]) rfl ?_
      show Steps p.tables e below (T15.setTop (mkF m 68 #[.val (.int i0), .val (.ref b1), .val (.int (4 : Int32)), .val (.int (0 : Int32))] [])) _
      refine XS.aloadN X15.here hx rfl (hb hby at_68) rfl rfl ?_
      show Steps p.tables e below (T15.setTop (mkF m 69 #[.val (.int i0), .val (.ref b1), .val (.int (4 : Int32)), .val (.int (0 : Int32))] [(.ref b1)])) _
      refine XS.iloadN X15.here hx rfl (hb hby at_69) rfl ?_
      show Steps p.tables e below (T15.setTop (mkF m 70 #[.val (.int i0), .val (.ref b1), .val (.int (4 : Int32)), .val (.int (0 : Int32))] [(.int (4 : Int32)), (.ref b1)])) _
      refine X15.aaload hx (j := (4 : Int32)) (v := (.ref w4)) (by rw [e15]; exact Ar42.1) (State.isArrayOf_alike hZ.alike Ar42.2.1) rfl Ar42.2.2 hin42 hat42 (g := (mkF m 70 #[.val (.int i0), .val (.ref b1), .val (.int (4 : Int32)), .val (.int (0 : Int32))] [(.int (4 : Int32)), (.ref b1)])) rfl rfl (hb hby at_70) _ ?_
      show Steps p.tables e below (T15.setTop (mkF m 71 #[.val (.int i0), .val (.ref b1), .val (.int (4 : Int32)), .val (.int (0 : Int32))] [(.ref w4)])) _
      refine st47.trans ?_
      show Steps p.tables e below (T47.setTop (mkF m 74 #[.val (.int i0), .val (.ref b1), .val (.int (4 : Int32)), .val (.int (0 : Int32))] [(.int (0 : Int32))])) _
      refine XS.iloadN X47.here hx rfl (hb hby at_74) rfl ?_
      show Steps p.tables e below (T47.setTop (mkF m 75 #[.val (.int i0), .val (.ref b1), .val (.int (4 : Int32)), .val (.int (0 : Int32))] [(.int (0 : Int32)), (.int (0 : Int32))])) _
      refine XS.icmpNo X47.here hx rfl (hb hby at_75) rfl (by decide) ?_
      show Steps p.tables e below (T47.setTop (mkF m 78 #[.val (.int i0), .val (.ref b1), .val (.int (4 : Int32)), .val (.int (0 : Int32))] [])) _
      refine XS.iconst X47.here hx rfl (hb hby at_78) ?_
      show Steps p.tables e below (T47.setTop (mkF m 79 #[.val (.int i0), .val (.ref b1), .val (.int (4 : Int32)), .val (.int (0 : Int32))] [(.int (1 : Int32))])) _
      refine XS.goto X47.here hx rfl (pc0 := 79) (pc' := 83) rfl (hb hby at_79) (by decide) (by decide) ?_
      show Steps p.tables e below (T47.setTop (mkF m 83 #[.val (.int i0), .val (.ref b1), .val (.int (4 : Int32)), .val (.int (0 : Int32))] [(.int (1 : Int32))])) _
      exact retN X47 hx (t := .boolean) Bd.returns (by simp) (hb hby at_83) hr
    · show Ql n0 _ T47.heap _
      exact ⟨rfl, N47⟩
  · obtain ⟨cl48, Ar48, q48, S48, M48, H48, G48⟩ := V15
    have hin48 : ¬ ((5 : Int32) < 0 ∨ cl48.slots.size ≤ ((5 : Int32)).toNatClampNeg) := inb_of S48 ⟨by decide, by decide⟩
    have hat48 : cl48.slots[((5 : Int32)).toNatClampNeg]? = some (.ref w5) := Has.at H48 hin48 rfl
    obtain ⟨cq53, kq53, q53a, q53b, q53c⟩ := isOf hZ e15 (wE5.ext O_15.2)
    obtain ⟨_, _, ⟨T53, L53, k53, n53⟩, -, X53, ⟨Lc53, hQ53, l53, y53, z53⟩, st53⟩ := X15.virtualBack hx (y := (⟨"com/example/wyrmsiege/wyrmsiege/model/Kind", "isTroop", "()Z"⟩ : MethodName)) (z := (⟨"com/example/wyrmsiege/wyrmsiege/model/Kind", "isTroop", "()Z"⟩ : MethodName)) hown (mvT hZ (hw _ (List.mem_of_getElem? (i := 19) rfl))) (mvT hZ (hw _ (List.mem_of_getElem? (i := 20) rfl))) (notFace_of_selects (args := #[]) (mvT hZ (hw _ (List.mem_of_getElem? (i := 22) rfl)))) (mvT hZ (hw _ (List.mem_of_getElem? (i := 22) rfl))) (mvT hZ (hw _ (List.mem_of_getElem? (i := 21) rfl))) (by decide) (backOf (W := 0) (rm6 l Z a0 hw [] w0 w1 w2 w3 w4 w5 w6 h15 n0 hWd O_15) hZ (hw _ (List.mem_of_getElem? (i := 23) rfl)) (hw _ (List.mem_of_getElem? (i := 3) rfl)) (by decide) (by decide)) q53a q53c (g := (mkF m 71 #[.val (.int i0), .val (.ref b1), .val (.int (5 : Int32)), .val (.int (0 : Int32))] [(.ref w5)])) rfl (by rw [hml]; rfl) (Steps.refl _) (argsL := []) (rest := []) (lenOf pd0 rfl) rfl (by show 2 * 0 + _ ≤ _; exact Nat.le_of_eq rfl) (hb hby at_71) (fun _ _ => ⟨rfl, e15, (by decide : 1 + 0 ≤ _), (by decide : 7 + 0 ≤ _)⟩)
    dsimp only [Pt.U, Pt.locs, Pt.cells, Pt.slots] at X53 l53 y53 z53 st53 hQ53
    subst l53 y53 z53
    obtain ⟨rfl, N53q, e53⟩ := hQ53
    have N53 := Fr.app N15 N53q
    obtain ⟨fs, hr, hrun, hended, hWr, hsame⟩ := X53.leave (v := some (.int (1 : Int32))) (fun h => by rw [Bd.returns] at h; cases h)
    refine ⟨_, _, pre16 _ ?_, hrun, hended, _, _, rfl, ?_, ⟨_, rfl⟩, hWr, hsame.mono (Nat.le_of_ble_eq_true rfl) (Nat.le_of_ble_eq_true rfl)⟩
    · show Steps p.tables e below (T15.setTop (mkF m 55 #[.val (.int i0), .val (.ref b1), .unset, .unset] [(.int (7 : Int32)), (.int (i0 &&& (2147483647 : Int32)))])) _
      refine iremM X15 hx rfl (hb hby at_55) rfl (by decide) ?_
      show Steps p.tables e below (T15.setTop (mkF m 56 #[.val (.int i0), .val (.ref b1), .unset, .unset] [(.int ((i0 &&& (2147483647 : Int32)) % (7 : Int32)))])) _
      rw [hk22]
      show Steps p.tables e below (T15.setTop (mkF m 56 #[.val (.int i0), .val (.ref b1), .unset, .unset] [(.int (5 : Int32))])) _
      refine XS.istoreN X15.here hx rfl (hb hby at_56) rfl (l' := #[.val (.int i0), .val (.ref b1), .val (.int (5 : Int32)), .unset]) rfl ?_
      show Steps p.tables e below (T15.setTop (mkF m 57 #[.val (.int i0), .val (.ref b1), .val (.int (5 : Int32)), .unset] [])) _
      refine XS.iloadN X15.here hx rfl (hb hby at_57) rfl ?_
      show Steps p.tables e below (T15.setTop (mkF m 58 #[.val (.int i0), .val (.ref b1), .val (.int (5 : Int32)), .unset] [(.int (5 : Int32))])) _
      refine XS.iconst X15.here hx rfl (hb hby at_58) ?_
      show Steps p.tables e below (T15.setTop (mkF m 59 #[.val (.int i0), .val (.ref b1), .val (.int (5 : Int32)), .unset] [(.int (4 : Int32)), (.int (5 : Int32))])) _
      refine XS.icmpYes X15.here hx rfl (pc0 := 59) (pc' := 66) rfl (hb hby at_59) rfl (by decide) (by decide) (by decide) ?_
      show Steps p.tables e below (T15.setTop (mkF m 66 #[.val (.int i0), .val (.ref b1), .val (.int (5 : Int32)), .unset] [])) _
      refine XS.iconst X15.here hx rfl (hb hby at_66) ?_
      show Steps p.tables e below (T15.setTop (mkF m 67 #[.val (.int i0), .val (.ref b1), .val (.int (5 : Int32)), .unset] [(.int (0 : Int32))])) _
      refine XS.istoreN X15.here hx rfl (hb hby at_67) rfl (l' := #[.val (.int i0), .val (.ref b1), .val (.int (5 : Int32)), .val (.int (0 : Int32))]) rfl ?_
      show Steps p.tables e below (T15.setTop (mkF m 68 #[.val (.int i0), .val (.ref b1), .val (.int (5 : Int32)), .val (.int (0 : Int32))] [])) _
      refine XS.aloadN X15.here hx rfl (hb hby at_68) rfl rfl ?_
      show Steps p.tables e below (T15.setTop (mkF m 69 #[.val (.int i0), .val (.ref b1), .val (.int (5 : Int32)), .val (.int (0 : Int32))] [(.ref b1)])) _
      refine XS.iloadN X15.here hx rfl (hb hby at_69) rfl ?_
      show Steps p.tables e below (T15.setTop (mkF m 70 #[.val (.int i0), .val (.ref b1), .val (.int (5 : Int32)), .val (.int (0 : Int32))] [(.int (5 : Int32)), (.ref b1)])) _
      refine X15.aaload hx (j := (5 : Int32)) (v := (.ref w5)) (by rw [e15]; exact Ar48.1) (State.isArrayOf_alike hZ.alike Ar48.2.1) rfl Ar48.2.2 hin48 hat48 (g := (mkF m 70 #[.val (.int i0), .val (.ref b1), .val (.int (5 : Int32)), .val (.int (0 : Int32))] [(.int (5 : Int32)), (.ref b1)])) rfl rfl (hb hby at_70) _ ?_
      show Steps p.tables e below (T15.setTop (mkF m 71 #[.val (.int i0), .val (.ref b1), .val (.int (5 : Int32)), .val (.int (0 : Int32))] [(.ref w5)])) _
      refine st53.trans ?_
      show Steps p.tables e below (T53.setTop (mkF m 74 #[.val (.int i0), .val (.ref b1), .val (.int (5 : Int32)), .val (.int (0 : Int32))] [(.int (0 : Int32))])) _
      refine XS.iloadN X53.here hx rfl (hb hby at_74) rfl ?_
      show Steps p.tables e below (T53.setTop (mkF m 75 #[.val (.int i0), .val (.ref b1), .val (.int (5 : Int32)), .val (.int (0 : Int32))] [(.int (0 : Int32)), (.int (0 : Int32))])) _
      refine XS.icmpNo X53.here hx rfl (hb hby at_75) rfl (by decide) ?_
      show Steps p.tables e below (T53.setTop (mkF m 78 #[.val (.int i0), .val (.ref b1), .val (.int (5 : Int32)), .val (.int (0 : Int32))] [])) _
      refine XS.iconst X53.here hx rfl (hb hby at_78) ?_
      show Steps p.tables e below (T53.setTop (mkF m 79 #[.val (.int i0), .val (.ref b1), .val (.int (5 : Int32)), .val (.int (0 : Int32))] [(.int (1 : Int32))])) _
      refine XS.goto X53.here hx rfl (pc0 := 79) (pc' := 83) rfl (hb hby at_79) (by decide) (by decide) ?_
      show Steps p.tables e below (T53.setTop (mkF m 83 #[.val (.int i0), .val (.ref b1), .val (.int (5 : Int32)), .val (.int (0 : Int32))] [(.int (1 : Int32))])) _
      exact retN X53 hx (t := .boolean) Bd.returns (by simp) (hb hby at_83) hr
    · show Ql n0 _ T53.heap _
      exact ⟨rfl, N53⟩
  · obtain ⟨cl54, Ar54, q54, S54, M54, H54, G54⟩ := V15
    have hin54 : ¬ ((6 : Int32) < 0 ∨ cl54.slots.size ≤ ((6 : Int32)).toNatClampNeg) := inb_of S54 ⟨by decide, by decide⟩
    have hat54 : cl54.slots[((6 : Int32)).toNatClampNeg]? = some (.ref w6) := Has.at H54 hin54 rfl
    obtain ⟨cq59, kq59, q59a, q59b, q59c⟩ := isOf hZ e15 (wE6.ext O_15.2)
    obtain ⟨_, _, ⟨T59, L59, k59, n59⟩, -, X59, ⟨Lc59, hQ59, l59, y59, z59⟩, st59⟩ := X15.virtualBack hx (y := (⟨"com/example/wyrmsiege/wyrmsiege/model/Kind", "isTroop", "()Z"⟩ : MethodName)) (z := (⟨"com/example/wyrmsiege/wyrmsiege/model/Kind", "isTroop", "()Z"⟩ : MethodName)) hown (mvT hZ (hw _ (List.mem_of_getElem? (i := 19) rfl))) (mvT hZ (hw _ (List.mem_of_getElem? (i := 20) rfl))) (notFace_of_selects (args := #[]) (mvT hZ (hw _ (List.mem_of_getElem? (i := 22) rfl)))) (mvT hZ (hw _ (List.mem_of_getElem? (i := 22) rfl))) (mvT hZ (hw _ (List.mem_of_getElem? (i := 21) rfl))) (by decide) (backOf (W := 0) (rm7 l Z a0 hw [] w0 w1 w2 w3 w4 w5 w6 h15 n0 hWd O_15) hZ (hw _ (List.mem_of_getElem? (i := 23) rfl)) (hw _ (List.mem_of_getElem? (i := 3) rfl)) (by decide) (by decide)) q59a q59c (g := (mkF m 71 #[.val (.int i0), .val (.ref b1), .val (.int (6 : Int32)), .val (.int (0 : Int32))] [(.ref w6)])) rfl (by rw [hml]; rfl) (Steps.refl _) (argsL := []) (rest := []) (lenOf pd0 rfl) rfl (by show 2 * 0 + _ ≤ _; exact Nat.le_of_eq rfl) (hb hby at_71) (fun _ _ => ⟨rfl, e15, (by decide : 1 + 0 ≤ _), (by decide : 7 + 0 ≤ _)⟩)
    dsimp only [Pt.U, Pt.locs, Pt.cells, Pt.slots] at X59 l59 y59 z59 st59 hQ59
    subst l59 y59 z59
    obtain ⟨rfl, N59q, e59⟩ := hQ59
    have N59 := Fr.app N15 N59q
    obtain ⟨fs, hr, hrun, hended, hWr, hsame⟩ := X59.leave (v := some (.int (1 : Int32))) (fun h => by rw [Bd.returns] at h; cases h)
    refine ⟨_, _, pre16 _ ?_, hrun, hended, _, _, rfl, ?_, ⟨_, rfl⟩, hWr, hsame.mono (Nat.le_of_ble_eq_true rfl) (Nat.le_of_ble_eq_true rfl)⟩
    · show Steps p.tables e below (T15.setTop (mkF m 55 #[.val (.int i0), .val (.ref b1), .unset, .unset] [(.int (7 : Int32)), (.int (i0 &&& (2147483647 : Int32)))])) _
      refine iremM X15 hx rfl (hb hby at_55) rfl (by decide) ?_
      show Steps p.tables e below (T15.setTop (mkF m 56 #[.val (.int i0), .val (.ref b1), .unset, .unset] [(.int ((i0 &&& (2147483647 : Int32)) % (7 : Int32)))])) _
      rw [hk23]
      show Steps p.tables e below (T15.setTop (mkF m 56 #[.val (.int i0), .val (.ref b1), .unset, .unset] [(.int (6 : Int32))])) _
      refine XS.istoreN X15.here hx rfl (hb hby at_56) rfl (l' := #[.val (.int i0), .val (.ref b1), .val (.int (6 : Int32)), .unset]) rfl ?_
      show Steps p.tables e below (T15.setTop (mkF m 57 #[.val (.int i0), .val (.ref b1), .val (.int (6 : Int32)), .unset] [])) _
      refine XS.iloadN X15.here hx rfl (hb hby at_57) rfl ?_
      show Steps p.tables e below (T15.setTop (mkF m 58 #[.val (.int i0), .val (.ref b1), .val (.int (6 : Int32)), .unset] [(.int (6 : Int32))])) _
      refine XS.iconst X15.here hx rfl (hb hby at_58) ?_
      show Steps p.tables e below (T15.setTop (mkF m 59 #[.val (.int i0), .val (.ref b1), .val (.int (6 : Int32)), .unset] [(.int (4 : Int32)), (.int (6 : Int32))])) _
      refine XS.icmpYes X15.here hx rfl (pc0 := 59) (pc' := 66) rfl (hb hby at_59) rfl (by decide) (by decide) (by decide) ?_
      show Steps p.tables e below (T15.setTop (mkF m 66 #[.val (.int i0), .val (.ref b1), .val (.int (6 : Int32)), .unset] [])) _
      refine XS.iconst X15.here hx rfl (hb hby at_66) ?_
      show Steps p.tables e below (T15.setTop (mkF m 67 #[.val (.int i0), .val (.ref b1), .val (.int (6 : Int32)), .unset] [(.int (0 : Int32))])) _
      refine XS.istoreN X15.here hx rfl (hb hby at_67) rfl (l' := #[.val (.int i0), .val (.ref b1), .val (.int (6 : Int32)), .val (.int (0 : Int32))]) rfl ?_
      show Steps p.tables e below (T15.setTop (mkF m 68 #[.val (.int i0), .val (.ref b1), .val (.int (6 : Int32)), .val (.int (0 : Int32))] [])) _
      refine XS.aloadN X15.here hx rfl (hb hby at_68) rfl rfl ?_
      show Steps p.tables e below (T15.setTop (mkF m 69 #[.val (.int i0), .val (.ref b1), .val (.int (6 : Int32)), .val (.int (0 : Int32))] [(.ref b1)])) _
      refine XS.iloadN X15.here hx rfl (hb hby at_69) rfl ?_
      show Steps p.tables e below (T15.setTop (mkF m 70 #[.val (.int i0), .val (.ref b1), .val (.int (6 : Int32)), .val (.int (0 : Int32))] [(.int (6 : Int32)), (.ref b1)])) _
      refine X15.aaload hx (j := (6 : Int32)) (v := (.ref w6)) (by rw [e15]; exact Ar54.1) (State.isArrayOf_alike hZ.alike Ar54.2.1) rfl Ar54.2.2 hin54 hat54 (g := (mkF m 70 #[.val (.int i0), .val (.ref b1), .val (.int (6 : Int32)), .val (.int (0 : Int32))] [(.int (6 : Int32)), (.ref b1)])) rfl rfl (hb hby at_70) _ ?_
      show Steps p.tables e below (T15.setTop (mkF m 71 #[.val (.int i0), .val (.ref b1), .val (.int (6 : Int32)), .val (.int (0 : Int32))] [(.ref w6)])) _
      refine st59.trans ?_
      show Steps p.tables e below (T59.setTop (mkF m 74 #[.val (.int i0), .val (.ref b1), .val (.int (6 : Int32)), .val (.int (0 : Int32))] [(.int (0 : Int32))])) _
      refine XS.iloadN X59.here hx rfl (hb hby at_74) rfl ?_
      show Steps p.tables e below (T59.setTop (mkF m 75 #[.val (.int i0), .val (.ref b1), .val (.int (6 : Int32)), .val (.int (0 : Int32))] [(.int (0 : Int32)), (.int (0 : Int32))])) _
      refine XS.icmpNo X59.here hx rfl (hb hby at_75) rfl (by decide) ?_
      show Steps p.tables e below (T59.setTop (mkF m 78 #[.val (.int i0), .val (.ref b1), .val (.int (6 : Int32)), .val (.int (0 : Int32))] [])) _
      refine XS.iconst X59.here hx rfl (hb hby at_78) ?_
      show Steps p.tables e below (T59.setTop (mkF m 79 #[.val (.int i0), .val (.ref b1), .val (.int (6 : Int32)), .val (.int (0 : Int32))] [(.int (1 : Int32))])) _
      refine XS.goto X59.here hx rfl (pc0 := 79) (pc' := 83) rfl (hb hby at_79) (by decide) (by decide) ?_
      show Steps p.tables e below (T59.setTop (mkF m 83 #[.val (.int i0), .val (.ref b1), .val (.int (6 : Int32)), .val (.int (0 : Int32))] [(.int (1 : Int32))])) _
      exact retN X59 hx (t := .boolean) Bd.returns (by simp) (hb hby at_83) hr
    · show Ql n0 _ T59.heap _
      exact ⟨rfl, N59⟩
set_option maxRecDepth 65536 in
set_option maxHeartbeats 40000000 in
theorem comes_1 {Post : Tables → Env → Array Value → State → Outcome → State → Prop} (hpost : ∀ tb e args s v u, (limb_1_1.after args s (.returned v) u = true ∧ limb_1_2.after args s (.returned v) u = true ∧ True) → FrameEnd s (.returned v) u (Jvm.fieldLocs frame_1_writes args s ++ Jvm.arrayLocs frame_1_arrays args s ++ Jvm.staticLocs frame_1_statics s) 16 128 → Post tb e args s (.returned v) u) :
    ArmFor flags0 classFile x code maxLocals ret World_1 tables_1 room_1 Calls_1 rest_1 Pre_1 Post := by
  intro l hfl _ _ p e ha hc hk s m args below hf hA hF happ hP
  obtain ⟨hcalls, hrest, hpre⟩ := hP
  obtain ⟨-, -, -, hnamed, -, -, -, hat⟩ := (Spec.applies_iff hf).mp happ
  obtain ⟨hg, hn⟩ := and_e (Cond.before_iff.mp (show (Jvm.Cond.and given_1 narrow_1).before args s = true from hpre))
  obtain ⟨gc, g0⟩ := and_e hg
  obtain ⟨x0, rfl⟩ : ∃ x0 : Value, args = #[x0] := by
    have hs : args.size = 1 := by simpa [Cond.value, given_1] using gc
    obtain ⟨L⟩ := args
    match L, hs with
    | [x0], _ => exact ⟨x0, rfl⟩
  have hw := fun d (hd : d ∈ tables_1) => atoms_spec (ws := Jvm.Cond.code x code maxLocals ret :: tables_1) hat d (List.mem_cons_of_mem _ hd)
  have hfit : Fit s := fun {y c} hc i hi => by
    obtain ⟨ha, rfl⟩ := Array.getElem?_eq_some_iff.mp hc
    have q := List.all_eq_true.mp ((Array.all_eq_true_iff_forall_mem.mp hF) _ (Array.getElem_mem ha)) i (List.mem_range.mpr hi)
    simpa [Array.getElem?_eq_getElem hi] using q
  obtain ⟨i0, ei0⟩ := is_v g0
  obtain rfl : x0 = (.int i0) := Option.some.inj ei0
  obtain ⟨c0, r0⟩ := and_e hn
  obtain ⟨c1, r1⟩ := and_e r0
  obtain ⟨c2, r2⟩ := and_e r1
  obtain ⟨c3, r3⟩ := and_e r2
  obtain ⟨c4, r4⟩ := and_e r3
  obtain ⟨c5, r5⟩ := and_e r4
  obtain ⟨c6, r6⟩ := and_e r5
  obtain ⟨c7, r7⟩ := and_e r6
  obtain ⟨c8, r8⟩ := and_e r7
  obtain ⟨c9, r9⟩ := and_e r8
  obtain ⟨c10, r10⟩ := and_e r9
  obtain ⟨c11, r11⟩ := and_e r10
  obtain ⟨c12, r12⟩ := and_e r11
  obtain ⟨w0, ev0⟩ := exa_v c0
  have wE0 : Exa s s.heap w0 "com/example/wyrmsiege/wyrmsiege/model/Kind" := Exa.start ev0 c0
  have wS0 : Sta s s.heap "com/example/wyrmsiege/wyrmsiege/model/Kind" "CAV" "Lcom/example/wyrmsiege/wyrmsiege/model/Kind;" (.ref w0) := Sta.start ev0 (Or.inr ⟨(hw _ (List.mem_of_getElem? (i := 3) rfl)), (hw _ (List.mem_of_getElem? (i := 4) rfl))⟩)
  obtain ⟨w1, ev1⟩ := exa_v c1
  have wE1 : Exa s s.heap w1 "com/example/wyrmsiege/wyrmsiege/model/Kind" := Exa.start ev1 c1
  have wS1 : Sta s s.heap "com/example/wyrmsiege/wyrmsiege/model/Kind" "INF" "Lcom/example/wyrmsiege/wyrmsiege/model/Kind;" (.ref w1) := Sta.start ev1 (Or.inr ⟨(hw _ (List.mem_of_getElem? (i := 3) rfl)), (hw _ (List.mem_of_getElem? (i := 7) rfl))⟩)
  obtain ⟨w2, ev2⟩ := exa_v c2
  have wE2 : Exa s s.heap w2 "com/example/wyrmsiege/wyrmsiege/model/Kind" := Exa.start ev2 c2
  have wS2 : Sta s s.heap "com/example/wyrmsiege/wyrmsiege/model/Kind" "ARH" "Lcom/example/wyrmsiege/wyrmsiege/model/Kind;" (.ref w2) := Sta.start ev2 (Or.inr ⟨(hw _ (List.mem_of_getElem? (i := 3) rfl)), (hw _ (List.mem_of_getElem? (i := 9) rfl))⟩)
  obtain ⟨w3, ev3⟩ := exa_v c3
  have wE3 : Exa s s.heap w3 "com/example/wyrmsiege/wyrmsiege/model/Kind" := Exa.start ev3 c3
  have wS3 : Sta s s.heap "com/example/wyrmsiege/wyrmsiege/model/Kind" "MIL" "Lcom/example/wyrmsiege/wyrmsiege/model/Kind;" (.ref w3) := Sta.start ev3 (Or.inr ⟨(hw _ (List.mem_of_getElem? (i := 3) rfl)), (hw _ (List.mem_of_getElem? (i := 11) rfl))⟩)
  obtain ⟨w4, ev4⟩ := exa_v c4
  have wE4 : Exa s s.heap w4 "com/example/wyrmsiege/wyrmsiege/model/Kind" := Exa.start ev4 c4
  have wS4 : Sta s s.heap "com/example/wyrmsiege/wyrmsiege/model/Kind" "HERO" "Lcom/example/wyrmsiege/wyrmsiege/model/Kind;" (.ref w4) := Sta.start ev4 (Or.inr ⟨(hw _ (List.mem_of_getElem? (i := 3) rfl)), (hw _ (List.mem_of_getElem? (i := 13) rfl))⟩)
  obtain ⟨w5, ev5⟩ := exa_v c5
  have wE5 : Exa s s.heap w5 "com/example/wyrmsiege/wyrmsiege/model/Kind" := Exa.start ev5 c5
  have wS5 : Sta s s.heap "com/example/wyrmsiege/wyrmsiege/model/Kind" "WZD" "Lcom/example/wyrmsiege/wyrmsiege/model/Kind;" (.ref w5) := Sta.start ev5 (Or.inr ⟨(hw _ (List.mem_of_getElem? (i := 3) rfl)), (hw _ (List.mem_of_getElem? (i := 15) rfl))⟩)
  obtain ⟨w6, ev6⟩ := exa_v c6
  have wE6 : Exa s s.heap w6 "com/example/wyrmsiege/wyrmsiege/model/Kind" := Exa.start ev6 c6
  have wS6 : Sta s s.heap "com/example/wyrmsiege/wyrmsiege/model/Kind" "DRAGON" "Lcom/example/wyrmsiege/wyrmsiege/model/Kind;" (.ref w6) := Sta.start ev6 (Or.inr ⟨(hw _ (List.mem_of_getElem? (i := 3) rfl)), (hw _ (List.mem_of_getElem? (i := 17) rfl))⟩)
  have wF3_ordinal : Fld s s.heap w3 "java/lang/Enum" "ordinal" "I" (.int (3 : Int32)) := Fld.start ((fld_at ev3).symm.trans (eqv_i (Term.int_eval _) c7))
  have wF0_ordinal : Fld s s.heap w0 "java/lang/Enum" "ordinal" "I" (.int (0 : Int32)) := Fld.start ((fld_at ev0).symm.trans (eqv_i (Term.int_eval _) c8))
  have wF1_ordinal : Fld s s.heap w1 "java/lang/Enum" "ordinal" "I" (.int (1 : Int32)) := Fld.start ((fld_at ev1).symm.trans (eqv_i (Term.int_eval _) c9))
  have wF2_ordinal : Fld s s.heap w2 "java/lang/Enum" "ordinal" "I" (.int (2 : Int32)) := Fld.start ((fld_at ev2).symm.trans (eqv_i (Term.int_eval _) c10))
  have wF5_ordinal : Fld s s.heap w5 "java/lang/Enum" "ordinal" "I" (.int (5 : Int32)) := Fld.start ((fld_at ev5).symm.trans (eqv_i (Term.int_eval _) c11))
  have wF6_ordinal : Fld s s.heap w6 "java/lang/Enum" "ordinal" "I" (.int (6 : Int32)) := Fld.start ((fld_at ev6).symm.trans (eqv_i (Term.int_eval _) c12))
  have wF4_ordinal : Fld s s.heap w4 "java/lang/Enum" "ordinal" "I" (.int (4 : Int32)) := Fld.start ((fld_at ev4).symm.trans (eqv_i (Term.int_eval _) r12))
  have hWd : Wd s w0 w1 w2 w3 w4 w5 w6 := ⟨wS0, wE0, wS1, wE1, wS2, wE2, wS3, wE3, wS4, wE4, wS5, wE5, wS6, wE6, wF3_ordinal, wF0_ordinal, wF1_ordinal, wF2_ordinal, wF5_ordinal, wF6_ordinal, wF4_ordinal, trivial⟩
  obtain ⟨n, o, h1, h2, h3, _, L, rfl, ⟨rfl, N⟩, hq⟩ := rm0 l s _ hw tables_1 w0 w1 w2 w3 w4 w5 w6 i0 s.heap s.heap.size hWd (Old.start s) p e ha hc hk s m _ below hf ((Spec.applies_iff_loose hf).mp happ).1 ⟨rfl, State.Warmed39.refl s, rfl⟩ trivial
  exact ⟨n, _, h1, h2, h3, hpost _ _ _ _ _ _ ⟨Cond.after_iff.mpr rfl, Cond.after_iff.mpr (eq_i res_at (Term.int_eval (1)) rfl), trivial⟩ ⟨hq.1, hq.2.1, (hq.2.2.sift fun y hy => Or.inr (N y hy)).mono (by decide) (by decide)⟩⟩
theorem main_1_1 : Claimed_1_1 := comes_1 fun _ _ _ _ _ _ h hF => ⟨h.1, hF⟩
theorem main_1_2 : Claimed_1_2 := comes_1 fun _ _ _ _ _ _ h hF => ⟨h.2.1, hF⟩
end Jvm.Pilot.@@N@@
namespace Jvm.Pilot.@@N@@
open Jvm Jvm.ClassFile Sem Op Lib Jvm.Free Jvm.Stand Jvm.Pilot.@@N@@.Jvm.D
/-! MADE BY PROGRAM (witnessworld.py) out of the Statement's table words and the real class files: 13 classes; the members and pool entries that the words name. The judged class is class 1, her method 1. -/
namespace start1
open Jvm.ClassFile
def u (s : String) : CpInfo := .utf8 (stringToUtf16 s)
/-- a pool by its gaps: so many unusable entries, then the entry; so many at the end -/
def gap : Nat → List CpInfo → List CpInfo
  | 0, r => r
  | n + 1, r => .unusable :: gap n r
def poolList (es : List (Nat × CpInfo)) (last : Nat) : List CpInfo := es.foldr (fun e r => gap e.1 (e.2 :: r)) (gap last [])
def pool (es : List (Nat × CpInfo)) (last : Nat) : Array CpInfo := ⟨poolList es last⟩
def fileOf (pool : Array CpInfo) (this : Nat) (attrs : Array Attribute := #[]) (ms : Array MethodInfo := #[]) (fl : Nat := 33) (sup : Nat := 0) (ifs : Array Nat := #[]) (fds : Array FieldInfo := #[]) : ClassFile where
  minorVersion := 0
  majorVersion := 65
  constantPool := pool
  accessFlags := fl
  thisClass := this
  superClass := sup
  interfaces := ifs
  fields := fds
  methods := ms
  attributes := attrs
def plain (name : String) (sup : Option ClassId) : Class where
  name := name
  kind := .ordinary
  loader := none
  accessFlags := 33
  super := sup
  interfaces := #[]
  cf := none
  fields := #[]
  methods := #[]
  instanceTypes := #[]
  staticTypes := #[]
  resolved := #[]
  callSites := []
  init := .initialized
  statics := none
  mirror := none

def pool0 : Array CpInfo := pool [(5, u "<init>"), (0, u "()V"), (1, .class_ 10), (1, u "java/lang/Object")] 113

def k0m0 : Method := { name := "<init>", desc := "()V", sig := { parameters := [], returnType := none }, accessFlags := 1, code := none }
/-- java/lang/Object -/
def k0 : Class := { plain "java/lang/Object" none with
  accessFlags := 33
  interfaces := #[]
  cf := some (fileOf pool0 8 #[] #[{ accessFlags := 1, nameIndex := 5, descriptorIndex := 6, attributes := #[] }] 33 0 #[] #[])
  fields := #[]
  methods := #[k0m0]
  instanceTypes := #[]
  staticTypes := #[]
  resolved := Array.replicate 124 none
  statics := none }

def pool1 : Array CpInfo := pool [(2, .class_ 4), (1, u "java/lang/Object"), (0, u "<init>"), (0, u "()V"), (0, .class_ 8), (0, u "com/example/wyrmsiege/wyrmsiege/model/Kind"), (0, .fieldref 7 10), (0, .nameAndType 11 12), (0, u "CAV"), (0, u "Lcom/example/wyrmsiege/wyrmsiege/model/Kind;"), (0, .fieldref 7 14), (0, .nameAndType 15 12), (0, u "INF"), (0, .fieldref 7 17), (0, .nameAndType 18 12), (0, u "ARH"), (0, .fieldref 7 20), (0, .nameAndType 21 12), (0, u "MIL"), (0, .fieldref 7 23), (0, .nameAndType 24 12), (0, u "HERO"), (0, .fieldref 7 26), (0, .nameAndType 27 12), (0, u "WZD"), (0, .fieldref 7 29), (0, .nameAndType 30 12), (0, u "DRAGON"), (0, .integer 2147483647), (0, .methodref 7 33), (0, .nameAndType 34 35), (0, u "isTroop"), (0, u "()Z"), (0, .class_ 37), (0, u "com/example/wyrmsiege/wyrmsiege/model/KindIsTroopPinLaw"), (2, u "law"), (0, u "(I)Z")] 5

def k1m0 : Method := { name := "<init>", desc := "()V", sig := { parameters := [], returnType := none }, accessFlags := 1, code := none }
def k1c1 : Code := { maxStack := 4, maxLocals := 4, code := code, exceptionTable := #[], attributes := #[] }
def k1m1 : Method := { name := "law", desc := "(I)Z", sig := { parameters := [.int], returnType := some .boolean }, accessFlags := 9, code := some k1c1 }
/-- com/example/wyrmsiege/wyrmsiege/model/KindIsTroopPinLaw -/
def k1 : Class := { plain "com/example/wyrmsiege/wyrmsiege/model/KindIsTroopPinLaw" (some 0) with
  accessFlags := 49
  interfaces := #[]
  cf := some (fileOf pool1 36 #[] #[{ accessFlags := 1, nameIndex := 5, descriptorIndex := 6, attributes := #[] }, { accessFlags := 9, nameIndex := 40, descriptorIndex := 41, attributes := #[] }] 49 2 #[] #[])
  fields := #[]
  methods := #[k1m0, k1m1]
  instanceTypes := #[]
  staticTypes := #[]
  resolved := Array.replicate 47 none
  statics := none }

def pool2 : Array CpInfo := pool [(1, .class_ 2), (0, u "java/lang/constant/Constable"), (0, .class_ 4), (0, u "java/lang/Object")] 6

/-- java/lang/constant/Constable -/
def k2 : Class := { plain "java/lang/constant/Constable" (some 0) with
  accessFlags := 1537
  interfaces := #[]
  cf := some (fileOf pool2 1 #[] #[] 1537 3 #[] #[])
  fields := #[]
  methods := #[]
  instanceTypes := #[]
  staticTypes := #[]
  resolved := Array.replicate 11 none
  statics := none }

def pool3 : Array CpInfo := pool [(1, .class_ 2), (0, u "java/lang/Comparable"), (0, .class_ 4), (0, u "java/lang/Object")] 7

/-- java/lang/Comparable -/
def k3 : Class := { plain "java/lang/Comparable" (some 0) with
  accessFlags := 1537
  interfaces := #[]
  cf := some (fileOf pool3 1 #[] #[] 1537 3 #[] #[])
  fields := #[]
  methods := #[]
  instanceTypes := #[]
  staticTypes := #[]
  resolved := Array.replicate 12 none
  statics := none }

def pool4 : Array CpInfo := pool [(1, .class_ 2), (0, u "java/io/Serializable"), (0, .class_ 4), (0, u "java/lang/Object")] 2

/-- java/io/Serializable -/
def k4 : Class := { plain "java/io/Serializable" (some 0) with
  accessFlags := 1537
  interfaces := #[]
  cf := some (fileOf pool4 1 #[] #[] 1537 3 #[] #[])
  fields := #[]
  methods := #[]
  instanceTypes := #[]
  staticTypes := #[]
  resolved := Array.replicate 7 none
  statics := none }

def pool5 : Array CpInfo := pool [(2, .class_ 4), (1, u "java/lang/Enum"), (0, u "name"), (0, u "Ljava/lang/String;"), (2, u "ordinal"), (0, u "I"), (1, .class_ 14), (1, u "java/lang/Object"), (4, u "hash"), (86, .class_ 108), (1, u "java/lang/Enum$EnumDesc"), (2, .class_ 112), (0, u "java/lang/constant/Constable"), (0, .class_ 114), (0, u "java/lang/Comparable"), (0, .class_ 116), (0, u "java/io/Serializable")] 87

/-- java/lang/Enum -/
def k5 : Class := { plain "java/lang/Enum" (some 0) with
  accessFlags := 1057
  interfaces := #[2, 3, 4]
  cf := some (fileOf pool5 2 #[.nestMembers #[106]] #[] 1057 12 #[111, 113, 115] #[{ accessFlags := 18, nameIndex := 5, descriptorIndex := 6, attributes := #[] }, { accessFlags := 18, nameIndex := 9, descriptorIndex := 10, attributes := #[] }, { accessFlags := 2, nameIndex := 19, descriptorIndex := 10, attributes := #[] }])
  fields := #[{ name := "name", type := (.object "java/lang/String"), accessFlags := 18, slot := 0, constantValue := 0 }, { name := "ordinal", type := .int, accessFlags := 18, slot := 1, constantValue := 0 }, { name := "hash", type := .int, accessFlags := 2, slot := 2, constantValue := 0 }]
  methods := #[]
  instanceTypes := #[(.object "java/lang/String"), .int, .int]
  staticTypes := #[]
  resolved := Array.replicate 204 none
  statics := none }

def pool6 : Array CpInfo := pool [(1, .class_ 2), (0, u "com/example/wyrmsiege/wyrmsiege/model/Kind"), (0, .fieldref 1 4), (0, .nameAndType 5 6), (0, u "CAV"), (0, u "Lcom/example/wyrmsiege/wyrmsiege/model/Kind;"), (0, .fieldref 1 8), (0, .nameAndType 9 6), (0, u "INF"), (0, .fieldref 1 11), (0, .nameAndType 12 6), (0, u "ARH"), (0, .fieldref 1 14), (0, .nameAndType 15 6), (0, u "MIL"), (2, u "HERO"), (2, u "WZD"), (2, u "DRAGON"), (2, u "$VALUES"), (0, u "[Lcom/example/wyrmsiege/wyrmsiege/model/Kind;"), (6, .class_ 37), (1, u "java/lang/Enum"), (47, u "isTroop"), (0, u "()Z")] 8

def k6c0 : Code := { maxStack := 2, maxLocals := 1, code := prog_16_method_4_code, exceptionTable := #[], attributes := #[] }
def k6m0 : Method := { name := "isTroop", desc := "()Z", sig := { parameters := [], returnType := some .boolean }, accessFlags := 1, code := some k6c0 }
/-- com/example/wyrmsiege/wyrmsiege/model/Kind -/
def k6 : Class := { plain "com/example/wyrmsiege/wyrmsiege/model/Kind" (some 5) with
  accessFlags := 16433
  interfaces := #[]
  cf := some (fileOf pool6 1 #[] #[{ accessFlags := 1, nameIndex := 85, descriptorIndex := 86, attributes := #[] }] 16433 35 #[] #[{ accessFlags := 16409, nameIndex := 5, descriptorIndex := 6, attributes := #[] }, { accessFlags := 16409, nameIndex := 9, descriptorIndex := 6, attributes := #[] }, { accessFlags := 16409, nameIndex := 12, descriptorIndex := 6, attributes := #[] }, { accessFlags := 16409, nameIndex := 15, descriptorIndex := 6, attributes := #[] }, { accessFlags := 16409, nameIndex := 18, descriptorIndex := 6, attributes := #[] }, { accessFlags := 16409, nameIndex := 21, descriptorIndex := 6, attributes := #[] }, { accessFlags := 16409, nameIndex := 24, descriptorIndex := 6, attributes := #[] }, { accessFlags := 4122, nameIndex := 27, descriptorIndex := 28, attributes := #[] }])
  fields := #[{ name := "CAV", type := (.object "com/example/wyrmsiege/wyrmsiege/model/Kind"), accessFlags := 16409, slot := 0, constantValue := 0 }, { name := "INF", type := (.object "com/example/wyrmsiege/wyrmsiege/model/Kind"), accessFlags := 16409, slot := 1, constantValue := 0 }, { name := "ARH", type := (.object "com/example/wyrmsiege/wyrmsiege/model/Kind"), accessFlags := 16409, slot := 2, constantValue := 0 }, { name := "MIL", type := (.object "com/example/wyrmsiege/wyrmsiege/model/Kind"), accessFlags := 16409, slot := 3, constantValue := 0 }, { name := "HERO", type := (.object "com/example/wyrmsiege/wyrmsiege/model/Kind"), accessFlags := 16409, slot := 4, constantValue := 0 }, { name := "WZD", type := (.object "com/example/wyrmsiege/wyrmsiege/model/Kind"), accessFlags := 16409, slot := 5, constantValue := 0 }, { name := "DRAGON", type := (.object "com/example/wyrmsiege/wyrmsiege/model/Kind"), accessFlags := 16409, slot := 6, constantValue := 0 }, { name := "$VALUES", type := (.array (.object "com/example/wyrmsiege/wyrmsiege/model/Kind")), accessFlags := 4122, slot := 7, constantValue := 0 }]
  methods := #[k6m0]
  instanceTypes := #[(.object "java/lang/String"), .int, .int]
  staticTypes := #[(.object "com/example/wyrmsiege/wyrmsiege/model/Kind"), (.object "com/example/wyrmsiege/wyrmsiege/model/Kind"), (.object "com/example/wyrmsiege/wyrmsiege/model/Kind"), (.object "com/example/wyrmsiege/wyrmsiege/model/Kind"), (.object "com/example/wyrmsiege/wyrmsiege/model/Kind"), (.object "com/example/wyrmsiege/wyrmsiege/model/Kind"), (.object "com/example/wyrmsiege/wyrmsiege/model/Kind"), (.array (.object "com/example/wyrmsiege/wyrmsiege/model/Kind"))]
  resolved := Array.replicate 95 none
  statics := some 0 }

def pool7 : Array CpInfo := pool [(1, u "java/lang/Cloneable"), (0, .class_ 1), (0, u "java/lang/Object"), (0, .class_ 3)] 3

/-- java/lang/Cloneable -/
def k7 : Class := { plain "java/lang/Cloneable" (some 0) with
  accessFlags := 1537
  interfaces := #[]
  cf := some (fileOf pool7 2 #[] #[] 1537 4 #[] #[])
  fields := #[]
  methods := #[]
  instanceTypes := #[]
  staticTypes := #[]
  resolved := Array.replicate 8 none
  statics := none }

/-- the primitive byte -/
def k8 : Class := { plain "byte" none with kind := .primitive 'B', accessFlags := 0x411 }
/-- [B -/
def k9 : Class := { plain "[B" (some 0) with kind := .array 8 .byte, interfaces := #[7, 4], accessFlags := 1041 }

/-- the primitive int -/
def k10 : Class := { plain "int" none with kind := .primitive 'I', accessFlags := 0x411 }
/-- [I -/
def k11 : Class := { plain "[I" (some 0) with kind := .array 10 .int, interfaces := #[7, 4], accessFlags := 1041 }

/-- [Lcom/example/wyrmsiege/wyrmsiege/model/Kind; -/
def k12 : Class := { plain "[Lcom/example/wyrmsiege/wyrmsiege/model/Kind;" (some 0) with kind := .array 6 (.object "com/example/wyrmsiege/wyrmsiege/model/Kind"), interfaces := #[7, 4], accessFlags := 1041 }

def heap : Heap := #[{ cls := 6, slots := #[.ref 1, .ref 2, .ref 3, .ref 4, .ref 5, .ref 6, .ref 7, .null], vm := .statics 6 },
  { cls := 6, slots := #[.null, .int 0, .int 0], vm := .none },
  { cls := 6, slots := #[.null, .int 1, .int 0], vm := .none },
  { cls := 6, slots := #[.null, .int 2, .int 0], vm := .none },
  { cls := 6, slots := #[.null, .int 3, .int 0], vm := .none },
  { cls := 6, slots := #[.null, .int 4, .int 0], vm := .none },
  { cls := 6, slots := #[.null, .int 5, .int 0], vm := .none },
  { cls := 6, slots := #[.null, .int 6, .int 0], vm := .none }]
def classes : Array Class := #[k0, k1, k2, k3, k4, k5, k6, k7, k8, k9, k10, k11, k12]
def interned : List (Array UInt16 × Addr) := []
def slotsUsed : Nat := 29
def theMethod : MethodId := ⟨1, 1⟩
def args0 : Array Value := #[.int 5]
def aboutOver (below : List Frame) : State where
  vm := { classes := classes, interned := interned.toArray }
  heap := heap
  slotsUsed := slotsUsed
  threads := #[{ frames := .invoking theMethod args0 :: below }]
def below0 : List Frame := [.native { method := ⟨0, 0⟩, args := #[] }]
def about1 : State := aboutOver below0
def p0 : Program := .bare "" "" ""
def e0 : Env := launch0.env 0 0 0
theorem w_frames : about1.frames = Frame.invoking theMethod args0 :: below0 := rfl
set_option maxRecDepth 65536 in
theorem w_args : argsFit about1.vm theMethod args0 = true := by decide +kernel
set_option maxRecDepth 65536 in
theorem w_heap : heapFits about1 = true := by decide +kernel
set_option maxRecDepth 65536 in
theorem w_runnable : about1.curStatus? = some .runnable := by decide +kernel
set_option maxRecDepth 65536 in
theorem w_alone : about1.alone = true := by decide +kernel
set_option maxRecDepth 65536 in
theorem w_named : about1.methodNamed? x = some theMethod := by decide +kernel
set_option maxRecDepth 65536 in
theorem w_hears : about1.hears theMethod below0 = true := by decide +kernel
set_option maxRecDepth 65536 in
theorem w_ripe : about1.ripe theMethod args0 below0 = true := by decide +kernel
theorem w_running : about1.status = .running := rfl
set_option maxRecDepth 65536 in
theorem w_room : about1.hasRoom e0.platform room_1 = true :=
  launch0.hasRoom_least _ room_1 (by decide +kernel) (by decide +kernel) (by decide +kernel) (by decide +kernel) (by decide +kernel) (by decide +kernel)
theorem allAtoms_all (ts : List Jvm.Cond) (a : Array Jvm.Value) (st : Jvm.State) : (allAtoms ts).before a st = ts.all (fun c => c.before a st) := by
  induction ts with
  | nil => rfl
  | cons c t ih =>
    show (Jvm.Cond.and c (allAtoms t)).before a st = _
    rw [Jvm.Cond.before_and, ih, List.all_cons]
def words1 : List Jvm.Cond := Jvm.Cond.code x code maxLocals ret :: tables_1
/-- a 'code' word, met by the world's own term for the bytes: nothing is compared byte by byte -/
theorem code_word {y : MethodName} {bytes : ByteArray} {mx : Nat} {rt : Option FieldType} {a : Array Value} {s : State} {m : MethodId} {meth : Method} {c : Code} (h1 : s.methodNamed? y = some m) (h2 : s.vm.method? m = some meth) (h3 : meth.code = some c) (h4 : c.code = bytes)
    (h5 : (c.maxLocals == mx && c.exceptionTable.isEmpty && decide (c.maxStack ≤ mostOperands) && decide (meth.sig.returnType = rt) && !meth.locks && decide (parseMethodDescriptor y.desc = some meth.sig)) = true) : (Jvm.Cond.code y bytes mx rt).before a s = true := by
  simp only [Bool.and_eq_true, beq_iff_eq, Bool.not_eq_true', decide_eq_true_eq] at h5
  obtain ⟨⟨⟨⟨⟨g1, g2⟩, g3⟩, g4⟩, g5⟩, g6⟩ := h5
  simp [Cond.before, Cond.holds, Cond.value, h1, h2, h3, h4, g1, g2, g3, g4, g5, g6]
def isCode : Jvm.Cond → Bool
  | .code _ _ _ _ => true
  | _ => false
theorem all_split {L : List Jvm.Cond} {P : Jvm.Cond → Bool} (h1 : L.all (fun c => isCode c || P c) = true) (h2 : ∀ c ∈ L.filter isCode, P c = true) : L.all P = true := by
  refine List.all_eq_true.mpr fun c hc => ?_
  have h := List.all_eq_true.mp h1 c hc
  rcases Bool.eq_false_or_eq_true (isCode c) with hi | hi
  · exact h2 c (List.mem_filter.mpr ⟨hc, hi⟩)
  · simpa [hi] using h
set_option maxRecDepth 65536 in
theorem w_c0 : (Jvm.Cond.code x code maxLocals ret).before args0 about1 = true := code_word (m := ⟨1, 1⟩) (meth := k1m1) (c := k1c1) (by decide +kernel) rfl rfl rfl (by decide +kernel)
set_option maxRecDepth 65536 in
theorem w_c1 : (Jvm.Cond.code ({ cls := "com/example/wyrmsiege/wyrmsiege/model/Kind", name := "isTroop", desc := "()Z" } : Jvm.MethodName) prog_16_method_4_code (1 : Nat) (Option.some Jvm.ClassFile.FieldType.boolean)).before args0 about1 = true := code_word (m := ⟨6, 0⟩) (meth := k6m0) (c := k6c0) (by decide +kernel) rfl rfl rfl (by decide +kernel)
def codes1 : List Jvm.Cond := [Jvm.Cond.code x code maxLocals ret, Jvm.Cond.code ({ cls := "com/example/wyrmsiege/wyrmsiege/model/Kind", name := "isTroop", desc := "()Z" } : Jvm.MethodName) prog_16_method_4_code (1 : Nat) (Option.some Jvm.ClassFile.FieldType.boolean)]
set_option maxRecDepth 65536 in
theorem codes_eq : words1.filter isCode = codes1 := rfl
theorem w_codes : ∀ c ∈ words1.filter isCode, c.before args0 about1 = true := by
  rw [codes_eq]
  intro c hc
  simp only [codes1, List.mem_cons, List.not_mem_nil, or_false] at hc
  rcases hc with rfl | rfl
  · exact w_c0
  · exact w_c1
set_option maxRecDepth 65536 in
theorem w_t1 : (words1.take 24).all (fun c => isCode c || c.before args0 about1) = true := by decide +kernel
set_option maxRecDepth 65536 in
theorem w_t2 : (words1.drop 24).all (fun c => isCode c || c.before args0 about1) = true := by decide +kernel
theorem w_tables : (allAtoms (Jvm.Cond.code x code maxLocals ret :: tables_1)).before args0 about1 = true := by
  rw [allAtoms_all]
  show words1.all (fun c => c.before args0 about1) = true
  refine all_split ?_ w_codes
  rw [← List.take_append_drop 24 words1, List.all_append, w_t1, w_t2]
  rfl
set_option maxRecDepth 65536 in
theorem w_case : (Jvm.Cond.and given_1 narrow_1).before args0 about1 = true := by decide +kernel
theorem w_applies : (headSpec (Jvm.Cond.code x code maxLocals ret :: tables_1) room_1).applies x e0.platform about1 = true :=
  (Spec.applies_iff w_frames).mpr ⟨w_running, w_runnable, w_alone, w_named, w_hears, w_ripe, w_room, w_tables⟩
theorem atStart : AtStart classFile x code maxLocals ret World_1 tables_1 room_1 Calls_1 rest_1 Pre_1 launch0 p0 e0 about1 theMethod args0 below0 :=
  ⟨lists_1, trivial, launch0.admits_env _ _ _, launch0.least_env, fairChoices_fair.cas, fairChoices_fair.clock, w_frames, w_args, w_heap, w_applies, trivial, trivial, w_case⟩
end start1
theorem witness_1 : WitnessClaimed_1 := ⟨start1.p0, start1.e0, start1.about1, start1.theMethod, start1.args0, start1.below0, start1.atStart⟩
end Jvm.Pilot.@@N@@
