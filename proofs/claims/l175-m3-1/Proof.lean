import JvmDerived
import JvmDerived.Pilot.@@N@@Statement
import JvmDerived.Pilot.@@N@@Code
set_option linter.unusedVariables false
set_option linter.unusedSimpArgs false
namespace Jvm.Pilot.@@N@@
open Jvm Jvm.ClassFile Sem Op Lib Jvm.Free Jvm.Stand Jvm.LawKit Jvm.RoadKit Bundle Jvm.Pilot.@@N@@.Jvm.D
theorem own_ofNat {y : Int32} {n : Nat} (h : y.toBitVec.toNat = n) : y = Int32.ofNat n := by
  subst h
  apply Int32.toBitVec_inj.mp
  apply BitVec.eq_of_toNat_eq
  simp
theorem own_and_le (x m : Int32) : (x &&& m).toBitVec.toNat ≤ m.toBitVec.toNat := by
  rw [Int32.toBitVec_and, BitVec.toNat_and]; exact Nat.and_le_right
theorem own_and_3 (x : Int32) : (x &&& (3 : Int32)) = (0 : Int32) ∨ (x &&& (3 : Int32)) = (1 : Int32) ∨ (x &&& (3 : Int32)) = (2 : Int32) ∨ (x &&& (3 : Int32)) = (3 : Int32) := by
  have h := own_and_le x (3 : Int32)
  have e : (3 : Int32).toBitVec.toNat = 3 := by decide
  rw [e] at h
  generalize x &&& (3 : Int32) = y at h ⊢
  have q : y.toBitVec.toNat = 0 ∨ y.toBitVec.toNat = 1 ∨ y.toBitVec.toNat = 2 ∨ y.toBitVec.toNat = 3 := by omega
  rcases q with q | q | q | q <;> simp [own_ofNat q]
def Wd (Z : State) (w0 w1 w2 w3 : Addr) : Prop := Sta Z Z.heap "com/example/palimpsest/palimpsest/engine/LockKind" "ROW" "Lcom/example/palimpsest/palimpsest/engine/LockKind;" (.ref w0) ∧ Exa Z Z.heap w0 "com/example/palimpsest/palimpsest/engine/LockKind" ∧ Sta Z Z.heap "com/example/palimpsest/palimpsest/engine/LockKind" "NEXT_KEY" "Lcom/example/palimpsest/palimpsest/engine/LockKind;" (.ref w1) ∧ Exa Z Z.heap w1 "com/example/palimpsest/palimpsest/engine/LockKind" ∧ Sta Z Z.heap "com/example/palimpsest/palimpsest/engine/LockKind" "INSERT" "Lcom/example/palimpsest/palimpsest/engine/LockKind;" (.ref w2) ∧ Exa Z Z.heap w2 "com/example/palimpsest/palimpsest/engine/LockKind" ∧ Sta Z Z.heap "com/example/palimpsest/palimpsest/engine/LockKind" "GAP" "Lcom/example/palimpsest/palimpsest/engine/LockKind;" (.ref w3) ∧ Exa Z Z.heap w3 "com/example/palimpsest/palimpsest/engine/LockKind" ∧ Fld Z Z.heap w0 "com/example/palimpsest/palimpsest/engine/LockKind" "coversRow" "Z" (.int (1 : Int32)) ∧ Fld Z Z.heap w1 "com/example/palimpsest/palimpsest/engine/LockKind" "coversGap" "Z" (.int (1 : Int32)) ∧ Fld Z Z.heap w1 "com/example/palimpsest/palimpsest/engine/LockKind" "coversRow" "Z" (.int (1 : Int32)) ∧ Fld Z Z.heap w2 "com/example/palimpsest/palimpsest/engine/LockKind" "coversRow" "Z" (.int (0 : Int32)) ∧ Fld Z Z.heap w3 "com/example/palimpsest/palimpsest/engine/LockKind" "coversGap" "Z" (.int (1 : Int32)) ∧ Fld Z Z.heap w3 "com/example/palimpsest/palimpsest/engine/LockKind" "coversRow" "Z" (.int (0 : Int32)) ∧ Fld Z Z.heap w0 "com/example/palimpsest/palimpsest/engine/LockKind" "coversGap" "Z" (.int (0 : Int32)) ∧ Fld Z Z.heap w2 "com/example/palimpsest/palimpsest/engine/LockKind" "coversGap" "Z" (.int (0 : Int32)) ∧ True
def Qp (r : Option Value) (h0 : Heap) (n0 : Nat) (v : Option Value) (h : Heap) (L : List Loc) : Prop := v = r ∧ Fr n0 L ∧ h = h0
def Ql (n0 : Nat) (v : Option Value) (h : Heap) (L : List Loc) : Prop := v = some (.int (1 : Int32)) ∧ Fr n0 L
theorem d_prog_9_method_6_code_0 : decode prog_9_method_6_code 0 = .ok (.aload_n 0, 1) := by decide +kernel
theorem d_prog_9_method_6_code_1 : decode prog_9_method_6_code 1 = .ok (.getfield 35, 3) := by decide +kernel
theorem d_prog_9_method_6_code_4 : decode prog_9_method_6_code 4 = .ok (.ifCond .eq 9, 3) := by decide +kernel
theorem d_prog_9_method_6_code_7 : decode prog_9_method_6_code 7 = .ok (.getstatic 10, 3) := by decide +kernel
theorem d_prog_9_method_6_code_10 : decode prog_9_method_6_code 10 = .ok (.goto 6, 3) := by decide +kernel
theorem d_prog_9_method_6_code_16 : decode prog_9_method_6_code 16 = .ok (.areturn, 1) := by decide +kernel
theorem pn0 : plainName "com/example/palimpsest/palimpsest/engine/LockKind" = true := by first | (simp [plainName, overriddenIn]; done) | decide +kernel
theorem ef0 (m : MethodId)   (w0 : Addr) : entryFrame m #[(.ref w0)] 1 = mkF m 0 #[.val (.ref w0)] [] := by first | (simp [entryFrame, mkF, argsToLocals, Value.category]; done) | rfl
set_option maxRecDepth 65536 in
set_option maxHeartbeats 40000000 in
theorem rm1 (l : Launch) (Z : State) (a0 : Array Value) (hw : ∀ d ∈ tables_1, d.before a0 Z = true) (ws : List Jvm.Cond) (w0 w1 w2 w3 : Addr) (h0 : Heap) (n0 : Nat) (hWd : Wd Z w0 w1 w2 w3) (O0 : Old Z n0 h0) :
    MetFree l (⟨"com/example/palimpsest/palimpsest/engine/LockKind", "withGap", "()Lcom/example/palimpsest/palimpsest/engine/LockKind;"⟩ : MethodName) (head1 (Jvm.Cond.code (⟨"com/example/palimpsest/palimpsest/engine/LockKind", "withGap", "()Lcom/example/palimpsest/palimpsest/engine/LockKind;"⟩ : MethodName) prog_9_method_6_code 1 (some (.object "com/example/palimpsest/palimpsest/engine/LockKind")) :: ws) ({ frames := 0, cells := 0, slots := 0, locals := 0 } : Room)) (fun a U => a = #[(.ref w0)] ∧ Z.Warmed39 U.vm ∧ U.heap = h0) (fun _ _ _ _ _ => True) (fun _ U o U' => ∃ v L, o = .returned v ∧ Qp (some (.ref w1)) h0 n0 v U'.heap L ∧ FrameEnd U o U' L ({ frames := 0, cells := 0, slots := 0, locals := 0 } : Room).cells ({ frames := 0, cells := 0, slots := 0, locals := 0 } : Room).slots) := by
  refine MetFree.of_bodySF (plainFor_of_name pn0) hisR ?_
  intro p e s m args below meth c s₁ Bd hml0 hP hK
  obtain ⟨rfl, hZ, hh⟩ := hP
  have hx := Bd.exec
  have hby := Bd.bytes
  have hml : c.maxLocals = 1 := hml0
  have hown : s.vm.findClass "com/example/palimpsest/palimpsest/engine/LockKind" = some m.cls := findClass_of_methodNamed Bd.named
  have hnm := (name_of_methodNamed Bd.named Bd.method).1
  have X0 : Stand p l e ({ frames := 0, cells := 0, slots := 0, locals := 0 } : Room) s m #[(.ref w0)] below meth c s₁ [] 0 0 := Stand.of_body Bd
  have e0 : s₁.heap = h0 := by rw [← hh, Bd.state]; rfl
  have N0 := Fr.nil n0
  obtain ⟨wS0, wE0, wS1, wE1, wS2, wE2, wS3, wE3, wF0_coversRow, wF1_coversGap, wF1_coversRow, wF2_coversRow, wF3_coversGap, wF3_coversRow, wF0_coversGap, wF2_coversGap, -⟩ := id hWd
  have pre0 : ∀ t, Steps p.tables e below (s₁.setTop (mkF m 0 #[.val (.ref w0)] [])) t → Steps p.tables e below (s₁.setTop (entryFrame m #[(.ref w0)] 1)) t := fun t k => castTop (ef0 m w0) k
  obtain ⟨T8, X8, e8, st8⟩ := getF X0 hx hZ hown (host := "") (Or.inl (hw _ (List.mem_of_getElem? (i := 10) rfl))) Via.refl e0 (wF0_coversRow.ext O0.2) (g := (mkF m 1 #[.val (.ref w0)] [(.ref w0)])) rfl rfl (hb hby d_prog_9_method_6_code_1)
  obtain ⟨T9, X9, e9, st9⟩ := getS2 X8 hx hZ hown (host := "") (Or.inl (hw _ (List.mem_of_getElem? (i := 12) rfl))) Via.refl e8 (wS1.ext O0.2) (g := (mkF m 7 #[.val (.ref w0)] [])) rfl (hb hby d_prog_9_method_6_code_7)
  obtain ⟨fs, hr, hrun, hended, hWr, hsame⟩ := X9.leave (v := some (.ref w1)) (fun h => by rw [Bd.returns] at h; cases h)
  refine ⟨_, _, pre0 _ ?_, hrun, hended, _, _, rfl, ?_, ⟨_, rfl⟩, hWr, hsame.mono (Nat.le_of_ble_eq_true rfl) (Nat.le_of_ble_eq_true rfl)⟩
  · show Steps p.tables e below (s₁.setTop (mkF m 0 #[.val (.ref w0)] [])) _
    refine XS.aloadN X0.here hx rfl (hb hby d_prog_9_method_6_code_0) rfl rfl ?_
    show Steps p.tables e below (s₁.setTop (mkF m 1 #[.val (.ref w0)] [(.ref w0)])) _
    refine st8 _ ?_
    show Steps p.tables e below (T8.setTop (mkF m 4 #[.val (.ref w0)] [(.int (1 : Int32))])) _
    refine XS.ifNo X8.here hx rfl (hb hby d_prog_9_method_6_code_4) rfl (by decide) ?_
    show Steps p.tables e below (T8.setTop (mkF m 7 #[.val (.ref w0)] [])) _
    refine st9 _ ?_
    show Steps p.tables e below (T9.setTop (mkF m 10 #[.val (.ref w0)] [(.ref w1)])) _
    refine XS.goto X9.here hx rfl (pc0 := 10) (pc' := 16) rfl (hb hby d_prog_9_method_6_code_10) (by decide) (by decide) ?_
    show Steps p.tables e below (T9.setTop (mkF m 16 #[.val (.ref w0)] [(.ref w1)])) _
    exact retOut X9 hx (t := (.object "com/example/palimpsest/palimpsest/engine/LockKind")) (i := .areturn) Bd.returns rfl (Or.inr (Or.inr (Or.inr (Or.inr ⟨rfl, rfl, rfl⟩)))) (hb hby d_prog_9_method_6_code_16) hr
  · show Qp (some (.ref w1)) h0 n0 _ T9.heap _
    rw [e9]
    exact ⟨rfl, N0, rfl⟩
theorem pd0 : parseMethodDescriptor "()Lcom/example/palimpsest/palimpsest/engine/LockKind;" = some ⟨[], some (.object "com/example/palimpsest/palimpsest/engine/LockKind")⟩ := by decide +kernel
theorem d_prog_9_method_5_code_0 : decode prog_9_method_5_code 0 = .ok (.aload_n 0, 1) := by decide +kernel
theorem d_prog_9_method_5_code_1 : decode prog_9_method_5_code 1 = .ok (.getfield 39, 3) := by decide +kernel
theorem d_prog_9_method_5_code_4 : decode prog_9_method_5_code 4 = .ok (.ireturn, 1) := by decide +kernel
theorem ef1 (m : MethodId)   (w1 : Addr) : entryFrame m #[(.ref w1)] 1 = mkF m 0 #[.val (.ref w1)] [] := by first | (simp [entryFrame, mkF, argsToLocals, Value.category]; done) | rfl
set_option maxRecDepth 65536 in
set_option maxHeartbeats 40000000 in
theorem rm2 (l : Launch) (Z : State) (a0 : Array Value) (hw : ∀ d ∈ tables_1, d.before a0 Z = true) (ws : List Jvm.Cond) (w0 w1 w2 w3 : Addr) (h0 : Heap) (n0 : Nat) (hWd : Wd Z w0 w1 w2 w3) (O0 : Old Z n0 h0) :
    MetFree l (⟨"com/example/palimpsest/palimpsest/engine/LockKind", "coversGap", "()Z"⟩ : MethodName) (head1 (Jvm.Cond.code (⟨"com/example/palimpsest/palimpsest/engine/LockKind", "coversGap", "()Z"⟩ : MethodName) prog_9_method_5_code 1 (some .boolean) :: ws) ({ frames := 0, cells := 0, slots := 0, locals := 0 } : Room)) (fun a U => a = #[(.ref w1)] ∧ Z.Warmed39 U.vm ∧ U.heap = h0) (fun _ _ _ _ _ => True) (fun _ U o U' => ∃ v L, o = .returned v ∧ Qp (some (.int (1 : Int32))) h0 n0 v U'.heap L ∧ FrameEnd U o U' L ({ frames := 0, cells := 0, slots := 0, locals := 0 } : Room).cells ({ frames := 0, cells := 0, slots := 0, locals := 0 } : Room).slots) := by
  refine MetFree.of_bodySF (plainFor_of_name pn0) hisR ?_
  intro p e s m args below meth c s₁ Bd hml0 hP hK
  obtain ⟨rfl, hZ, hh⟩ := hP
  have hx := Bd.exec
  have hby := Bd.bytes
  have hml : c.maxLocals = 1 := hml0
  have hown : s.vm.findClass "com/example/palimpsest/palimpsest/engine/LockKind" = some m.cls := findClass_of_methodNamed Bd.named
  have hnm := (name_of_methodNamed Bd.named Bd.method).1
  have X0 : Stand p l e ({ frames := 0, cells := 0, slots := 0, locals := 0 } : Room) s m #[(.ref w1)] below meth c s₁ [] 0 0 := Stand.of_body Bd
  have e0 : s₁.heap = h0 := by rw [← hh, Bd.state]; rfl
  have N0 := Fr.nil n0
  obtain ⟨wS0, wE0, wS1, wE1, wS2, wE2, wS3, wE3, wF0_coversRow, wF1_coversGap, wF1_coversRow, wF2_coversRow, wF3_coversGap, wF3_coversRow, wF0_coversGap, wF2_coversGap, -⟩ := id hWd
  have pre0 : ∀ t, Steps p.tables e below (s₁.setTop (mkF m 0 #[.val (.ref w1)] [])) t → Steps p.tables e below (s₁.setTop (entryFrame m #[(.ref w1)] 1)) t := fun t k => castTop (ef1 m w1) k
  obtain ⟨T11, X11, e11, st11⟩ := getF X0 hx hZ hown (host := "") (Or.inl (hw _ (List.mem_of_getElem? (i := 18) rfl))) Via.refl e0 (wF1_coversGap.ext O0.2) (g := (mkF m 1 #[.val (.ref w1)] [(.ref w1)])) rfl rfl (hb hby d_prog_9_method_5_code_1)
  obtain ⟨fs, hr, hrun, hended, hWr, hsame⟩ := X11.leave (v := some (.int (1 : Int32))) (fun h => by rw [Bd.returns] at h; cases h)
  refine ⟨_, _, pre0 _ ?_, hrun, hended, _, _, rfl, ?_, ⟨_, rfl⟩, hWr, hsame.mono (Nat.le_of_ble_eq_true rfl) (Nat.le_of_ble_eq_true rfl)⟩
  · show Steps p.tables e below (s₁.setTop (mkF m 0 #[.val (.ref w1)] [])) _
    refine XS.aloadN X0.here hx rfl (hb hby d_prog_9_method_5_code_0) rfl rfl ?_
    show Steps p.tables e below (s₁.setTop (mkF m 1 #[.val (.ref w1)] [(.ref w1)])) _
    refine st11 _ ?_
    show Steps p.tables e below (T11.setTop (mkF m 4 #[.val (.ref w1)] [(.int (1 : Int32))])) _
    exact retN X11 hx (t := .boolean) Bd.returns (by simp) (hb hby d_prog_9_method_5_code_4) hr
  · show Qp (some (.int (1 : Int32))) h0 n0 _ T11.heap _
    rw [e11]
    exact ⟨rfl, N0, rfl⟩
theorem pd1 : parseMethodDescriptor "()Z" = some ⟨[], some .boolean⟩ := by decide +kernel
theorem d_prog_9_method_4_code_0 : decode prog_9_method_4_code 0 = .ok (.aload_n 0, 1) := by decide +kernel
theorem d_prog_9_method_4_code_1 : decode prog_9_method_4_code 1 = .ok (.getfield 35, 3) := by decide +kernel
theorem d_prog_9_method_4_code_4 : decode prog_9_method_4_code 4 = .ok (.ireturn, 1) := by decide +kernel
set_option maxRecDepth 65536 in
set_option maxHeartbeats 40000000 in
theorem rm3 (l : Launch) (Z : State) (a0 : Array Value) (hw : ∀ d ∈ tables_1, d.before a0 Z = true) (ws : List Jvm.Cond) (w0 w1 w2 w3 : Addr) (h0 : Heap) (n0 : Nat) (hWd : Wd Z w0 w1 w2 w3) (O0 : Old Z n0 h0) :
    MetFree l (⟨"com/example/palimpsest/palimpsest/engine/LockKind", "coversRow", "()Z"⟩ : MethodName) (head1 (Jvm.Cond.code (⟨"com/example/palimpsest/palimpsest/engine/LockKind", "coversRow", "()Z"⟩ : MethodName) prog_9_method_4_code 1 (some .boolean) :: ws) ({ frames := 0, cells := 0, slots := 0, locals := 0 } : Room)) (fun a U => a = #[(.ref w1)] ∧ Z.Warmed39 U.vm ∧ U.heap = h0) (fun _ _ _ _ _ => True) (fun _ U o U' => ∃ v L, o = .returned v ∧ Qp (some (.int (1 : Int32))) h0 n0 v U'.heap L ∧ FrameEnd U o U' L ({ frames := 0, cells := 0, slots := 0, locals := 0 } : Room).cells ({ frames := 0, cells := 0, slots := 0, locals := 0 } : Room).slots) := by
  refine MetFree.of_bodySF (plainFor_of_name pn0) hisR ?_
  intro p e s m args below meth c s₁ Bd hml0 hP hK
  obtain ⟨rfl, hZ, hh⟩ := hP
  have hx := Bd.exec
  have hby := Bd.bytes
  have hml : c.maxLocals = 1 := hml0
  have hown : s.vm.findClass "com/example/palimpsest/palimpsest/engine/LockKind" = some m.cls := findClass_of_methodNamed Bd.named
  have hnm := (name_of_methodNamed Bd.named Bd.method).1
  have X0 : Stand p l e ({ frames := 0, cells := 0, slots := 0, locals := 0 } : Room) s m #[(.ref w1)] below meth c s₁ [] 0 0 := Stand.of_body Bd
  have e0 : s₁.heap = h0 := by rw [← hh, Bd.state]; rfl
  have N0 := Fr.nil n0
  obtain ⟨wS0, wE0, wS1, wE1, wS2, wE2, wS3, wE3, wF0_coversRow, wF1_coversGap, wF1_coversRow, wF2_coversRow, wF3_coversGap, wF3_coversRow, wF0_coversGap, wF2_coversGap, -⟩ := id hWd
  have pre0 : ∀ t, Steps p.tables e below (s₁.setTop (mkF m 0 #[.val (.ref w1)] [])) t → Steps p.tables e below (s₁.setTop (entryFrame m #[(.ref w1)] 1)) t := fun t k => castTop (ef1 m w1) k
  obtain ⟨T13, X13, e13, st13⟩ := getF X0 hx hZ hown (host := "") (Or.inl (hw _ (List.mem_of_getElem? (i := 10) rfl))) Via.refl e0 (wF1_coversRow.ext O0.2) (g := (mkF m 1 #[.val (.ref w1)] [(.ref w1)])) rfl rfl (hb hby d_prog_9_method_4_code_1)
  obtain ⟨fs, hr, hrun, hended, hWr, hsame⟩ := X13.leave (v := some (.int (1 : Int32))) (fun h => by rw [Bd.returns] at h; cases h)
  refine ⟨_, _, pre0 _ ?_, hrun, hended, _, _, rfl, ?_, ⟨_, rfl⟩, hWr, hsame.mono (Nat.le_of_ble_eq_true rfl) (Nat.le_of_ble_eq_true rfl)⟩
  · show Steps p.tables e below (s₁.setTop (mkF m 0 #[.val (.ref w1)] [])) _
    refine XS.aloadN X0.here hx rfl (hb hby d_prog_9_method_4_code_0) rfl rfl ?_
    show Steps p.tables e below (s₁.setTop (mkF m 1 #[.val (.ref w1)] [(.ref w1)])) _
    refine st13 _ ?_
    show Steps p.tables e below (T13.setTop (mkF m 4 #[.val (.ref w1)] [(.int (1 : Int32))])) _
    exact retN X13 hx (t := .boolean) Bd.returns (by simp) (hb hby d_prog_9_method_4_code_4) hr
  · show Qp (some (.int (1 : Int32))) h0 n0 _ T13.heap _
    rw [e13]
    exact ⟨rfl, N0, rfl⟩
set_option maxRecDepth 65536 in
set_option maxHeartbeats 40000000 in
theorem rm4 (l : Launch) (Z : State) (a0 : Array Value) (hw : ∀ d ∈ tables_1, d.before a0 Z = true) (ws : List Jvm.Cond) (w0 w1 w2 w3 : Addr) (h0 : Heap) (n0 : Nat) (hWd : Wd Z w0 w1 w2 w3) (O0 : Old Z n0 h0) :
    MetFree l (⟨"com/example/palimpsest/palimpsest/engine/LockKind", "coversRow", "()Z"⟩ : MethodName) (head1 (Jvm.Cond.code (⟨"com/example/palimpsest/palimpsest/engine/LockKind", "coversRow", "()Z"⟩ : MethodName) prog_9_method_4_code 1 (some .boolean) :: ws) ({ frames := 0, cells := 0, slots := 0, locals := 0 } : Room)) (fun a U => a = #[(.ref w0)] ∧ Z.Warmed39 U.vm ∧ U.heap = h0) (fun _ _ _ _ _ => True) (fun _ U o U' => ∃ v L, o = .returned v ∧ Qp (some (.int (1 : Int32))) h0 n0 v U'.heap L ∧ FrameEnd U o U' L ({ frames := 0, cells := 0, slots := 0, locals := 0 } : Room).cells ({ frames := 0, cells := 0, slots := 0, locals := 0 } : Room).slots) := by
  refine MetFree.of_bodySF (plainFor_of_name pn0) hisR ?_
  intro p e s m args below meth c s₁ Bd hml0 hP hK
  obtain ⟨rfl, hZ, hh⟩ := hP
  have hx := Bd.exec
  have hby := Bd.bytes
  have hml : c.maxLocals = 1 := hml0
  have hown : s.vm.findClass "com/example/palimpsest/palimpsest/engine/LockKind" = some m.cls := findClass_of_methodNamed Bd.named
  have hnm := (name_of_methodNamed Bd.named Bd.method).1
  have X0 : Stand p l e ({ frames := 0, cells := 0, slots := 0, locals := 0 } : Room) s m #[(.ref w0)] below meth c s₁ [] 0 0 := Stand.of_body Bd
  have e0 : s₁.heap = h0 := by rw [← hh, Bd.state]; rfl
  have N0 := Fr.nil n0
  obtain ⟨wS0, wE0, wS1, wE1, wS2, wE2, wS3, wE3, wF0_coversRow, wF1_coversGap, wF1_coversRow, wF2_coversRow, wF3_coversGap, wF3_coversRow, wF0_coversGap, wF2_coversGap, -⟩ := id hWd
  have pre0 : ∀ t, Steps p.tables e below (s₁.setTop (mkF m 0 #[.val (.ref w0)] [])) t → Steps p.tables e below (s₁.setTop (entryFrame m #[(.ref w0)] 1)) t := fun t k => castTop (ef0 m w0) k
  obtain ⟨T15, X15, e15, st15⟩ := getF X0 hx hZ hown (host := "") (Or.inl (hw _ (List.mem_of_getElem? (i := 10) rfl))) Via.refl e0 (wF0_coversRow.ext O0.2) (g := (mkF m 1 #[.val (.ref w0)] [(.ref w0)])) rfl rfl (hb hby d_prog_9_method_4_code_1)
  obtain ⟨fs, hr, hrun, hended, hWr, hsame⟩ := X15.leave (v := some (.int (1 : Int32))) (fun h => by rw [Bd.returns] at h; cases h)
  refine ⟨_, _, pre0 _ ?_, hrun, hended, _, _, rfl, ?_, ⟨_, rfl⟩, hWr, hsame.mono (Nat.le_of_ble_eq_true rfl) (Nat.le_of_ble_eq_true rfl)⟩
  · show Steps p.tables e below (s₁.setTop (mkF m 0 #[.val (.ref w0)] [])) _
    refine XS.aloadN X0.here hx rfl (hb hby d_prog_9_method_4_code_0) rfl rfl ?_
    show Steps p.tables e below (s₁.setTop (mkF m 1 #[.val (.ref w0)] [(.ref w0)])) _
    refine st15 _ ?_
    show Steps p.tables e below (T15.setTop (mkF m 4 #[.val (.ref w0)] [(.int (1 : Int32))])) _
    exact retN X15 hx (t := .boolean) Bd.returns (by simp) (hb hby d_prog_9_method_4_code_4) hr
  · show Qp (some (.int (1 : Int32))) h0 n0 _ T15.heap _
    rw [e15]
    exact ⟨rfl, N0, rfl⟩
theorem d_prog_9_method_6_code_13 : decode prog_9_method_6_code 13 = .ok (.getstatic 7, 3) := by decide +kernel
theorem ef2 (m : MethodId)   (w3 : Addr) : entryFrame m #[(.ref w3)] 1 = mkF m 0 #[.val (.ref w3)] [] := by first | (simp [entryFrame, mkF, argsToLocals, Value.category]; done) | rfl
set_option maxRecDepth 65536 in
set_option maxHeartbeats 40000000 in
theorem rm5 (l : Launch) (Z : State) (a0 : Array Value) (hw : ∀ d ∈ tables_1, d.before a0 Z = true) (ws : List Jvm.Cond) (w0 w1 w2 w3 : Addr) (h0 : Heap) (n0 : Nat) (hWd : Wd Z w0 w1 w2 w3) (O0 : Old Z n0 h0) :
    MetFree l (⟨"com/example/palimpsest/palimpsest/engine/LockKind", "withGap", "()Lcom/example/palimpsest/palimpsest/engine/LockKind;"⟩ : MethodName) (head1 (Jvm.Cond.code (⟨"com/example/palimpsest/palimpsest/engine/LockKind", "withGap", "()Lcom/example/palimpsest/palimpsest/engine/LockKind;"⟩ : MethodName) prog_9_method_6_code 1 (some (.object "com/example/palimpsest/palimpsest/engine/LockKind")) :: ws) ({ frames := 0, cells := 0, slots := 0, locals := 0 } : Room)) (fun a U => a = #[(.ref w3)] ∧ Z.Warmed39 U.vm ∧ U.heap = h0) (fun _ _ _ _ _ => True) (fun _ U o U' => ∃ v L, o = .returned v ∧ Qp (some (.ref w3)) h0 n0 v U'.heap L ∧ FrameEnd U o U' L ({ frames := 0, cells := 0, slots := 0, locals := 0 } : Room).cells ({ frames := 0, cells := 0, slots := 0, locals := 0 } : Room).slots) := by
  refine MetFree.of_bodySF (plainFor_of_name pn0) hisR ?_
  intro p e s m args below meth c s₁ Bd hml0 hP hK
  obtain ⟨rfl, hZ, hh⟩ := hP
  have hx := Bd.exec
  have hby := Bd.bytes
  have hml : c.maxLocals = 1 := hml0
  have hown : s.vm.findClass "com/example/palimpsest/palimpsest/engine/LockKind" = some m.cls := findClass_of_methodNamed Bd.named
  have hnm := (name_of_methodNamed Bd.named Bd.method).1
  have X0 : Stand p l e ({ frames := 0, cells := 0, slots := 0, locals := 0 } : Room) s m #[(.ref w3)] below meth c s₁ [] 0 0 := Stand.of_body Bd
  have e0 : s₁.heap = h0 := by rw [← hh, Bd.state]; rfl
  have N0 := Fr.nil n0
  obtain ⟨wS0, wE0, wS1, wE1, wS2, wE2, wS3, wE3, wF0_coversRow, wF1_coversGap, wF1_coversRow, wF2_coversRow, wF3_coversGap, wF3_coversRow, wF0_coversGap, wF2_coversGap, -⟩ := id hWd
  have pre0 : ∀ t, Steps p.tables e below (s₁.setTop (mkF m 0 #[.val (.ref w3)] [])) t → Steps p.tables e below (s₁.setTop (entryFrame m #[(.ref w3)] 1)) t := fun t k => castTop (ef2 m w3) k
  obtain ⟨T19, X19, e19, st19⟩ := getF X0 hx hZ hown (host := "") (Or.inl (hw _ (List.mem_of_getElem? (i := 10) rfl))) Via.refl e0 (wF3_coversRow.ext O0.2) (g := (mkF m 1 #[.val (.ref w3)] [(.ref w3)])) rfl rfl (hb hby d_prog_9_method_6_code_1)
  obtain ⟨T20, X20, e20, st20⟩ := getS2 X19 hx hZ hown (host := "") (Or.inl (hw _ (List.mem_of_getElem? (i := 29) rfl))) Via.refl e19 (wS3.ext O0.2) (g := (mkF m 13 #[.val (.ref w3)] [])) rfl (hb hby d_prog_9_method_6_code_13)
  obtain ⟨fs, hr, hrun, hended, hWr, hsame⟩ := X20.leave (v := some (.ref w3)) (fun h => by rw [Bd.returns] at h; cases h)
  refine ⟨_, _, pre0 _ ?_, hrun, hended, _, _, rfl, ?_, ⟨_, rfl⟩, hWr, hsame.mono (Nat.le_of_ble_eq_true rfl) (Nat.le_of_ble_eq_true rfl)⟩
  · show Steps p.tables e below (s₁.setTop (mkF m 0 #[.val (.ref w3)] [])) _
    refine XS.aloadN X0.here hx rfl (hb hby d_prog_9_method_6_code_0) rfl rfl ?_
    show Steps p.tables e below (s₁.setTop (mkF m 1 #[.val (.ref w3)] [(.ref w3)])) _
    refine st19 _ ?_
    show Steps p.tables e below (T19.setTop (mkF m 4 #[.val (.ref w3)] [(.int (0 : Int32))])) _
    refine XS.ifYes X19.here hx rfl (pc0 := 4) (pc' := 13) rfl (hb hby d_prog_9_method_6_code_4) rfl (by decide) (by decide) (by decide) ?_
    show Steps p.tables e below (T19.setTop (mkF m 13 #[.val (.ref w3)] [])) _
    refine st20 _ ?_
    show Steps p.tables e below (T20.setTop (mkF m 16 #[.val (.ref w3)] [(.ref w3)])) _
    exact retOut X20 hx (t := (.object "com/example/palimpsest/palimpsest/engine/LockKind")) (i := .areturn) Bd.returns rfl (Or.inr (Or.inr (Or.inr (Or.inr ⟨rfl, rfl, rfl⟩)))) (hb hby d_prog_9_method_6_code_16) hr
  · show Qp (some (.ref w3)) h0 n0 _ T20.heap _
    rw [e20]
    exact ⟨rfl, N0, rfl⟩
set_option maxRecDepth 65536 in
set_option maxHeartbeats 40000000 in
theorem rm6 (l : Launch) (Z : State) (a0 : Array Value) (hw : ∀ d ∈ tables_1, d.before a0 Z = true) (ws : List Jvm.Cond) (w0 w1 w2 w3 : Addr) (h0 : Heap) (n0 : Nat) (hWd : Wd Z w0 w1 w2 w3) (O0 : Old Z n0 h0) :
    MetFree l (⟨"com/example/palimpsest/palimpsest/engine/LockKind", "coversGap", "()Z"⟩ : MethodName) (head1 (Jvm.Cond.code (⟨"com/example/palimpsest/palimpsest/engine/LockKind", "coversGap", "()Z"⟩ : MethodName) prog_9_method_5_code 1 (some .boolean) :: ws) ({ frames := 0, cells := 0, slots := 0, locals := 0 } : Room)) (fun a U => a = #[(.ref w3)] ∧ Z.Warmed39 U.vm ∧ U.heap = h0) (fun _ _ _ _ _ => True) (fun _ U o U' => ∃ v L, o = .returned v ∧ Qp (some (.int (1 : Int32))) h0 n0 v U'.heap L ∧ FrameEnd U o U' L ({ frames := 0, cells := 0, slots := 0, locals := 0 } : Room).cells ({ frames := 0, cells := 0, slots := 0, locals := 0 } : Room).slots) := by
  refine MetFree.of_bodySF (plainFor_of_name pn0) hisR ?_
  intro p e s m args below meth c s₁ Bd hml0 hP hK
  obtain ⟨rfl, hZ, hh⟩ := hP
  have hx := Bd.exec
  have hby := Bd.bytes
  have hml : c.maxLocals = 1 := hml0
  have hown : s.vm.findClass "com/example/palimpsest/palimpsest/engine/LockKind" = some m.cls := findClass_of_methodNamed Bd.named
  have hnm := (name_of_methodNamed Bd.named Bd.method).1
  have X0 : Stand p l e ({ frames := 0, cells := 0, slots := 0, locals := 0 } : Room) s m #[(.ref w3)] below meth c s₁ [] 0 0 := Stand.of_body Bd
  have e0 : s₁.heap = h0 := by rw [← hh, Bd.state]; rfl
  have N0 := Fr.nil n0
  obtain ⟨wS0, wE0, wS1, wE1, wS2, wE2, wS3, wE3, wF0_coversRow, wF1_coversGap, wF1_coversRow, wF2_coversRow, wF3_coversGap, wF3_coversRow, wF0_coversGap, wF2_coversGap, -⟩ := id hWd
  have pre0 : ∀ t, Steps p.tables e below (s₁.setTop (mkF m 0 #[.val (.ref w3)] [])) t → Steps p.tables e below (s₁.setTop (entryFrame m #[(.ref w3)] 1)) t := fun t k => castTop (ef2 m w3) k
  obtain ⟨T22, X22, e22, st22⟩ := getF X0 hx hZ hown (host := "") (Or.inl (hw _ (List.mem_of_getElem? (i := 18) rfl))) Via.refl e0 (wF3_coversGap.ext O0.2) (g := (mkF m 1 #[.val (.ref w3)] [(.ref w3)])) rfl rfl (hb hby d_prog_9_method_5_code_1)
  obtain ⟨fs, hr, hrun, hended, hWr, hsame⟩ := X22.leave (v := some (.int (1 : Int32))) (fun h => by rw [Bd.returns] at h; cases h)
  refine ⟨_, _, pre0 _ ?_, hrun, hended, _, _, rfl, ?_, ⟨_, rfl⟩, hWr, hsame.mono (Nat.le_of_ble_eq_true rfl) (Nat.le_of_ble_eq_true rfl)⟩
  · show Steps p.tables e below (s₁.setTop (mkF m 0 #[.val (.ref w3)] [])) _
    refine XS.aloadN X0.here hx rfl (hb hby d_prog_9_method_5_code_0) rfl rfl ?_
    show Steps p.tables e below (s₁.setTop (mkF m 1 #[.val (.ref w3)] [(.ref w3)])) _
    refine st22 _ ?_
    show Steps p.tables e below (T22.setTop (mkF m 4 #[.val (.ref w3)] [(.int (1 : Int32))])) _
    exact retN X22 hx (t := .boolean) Bd.returns (by simp) (hb hby d_prog_9_method_5_code_4) hr
  · show Qp (some (.int (1 : Int32))) h0 n0 _ T22.heap _
    rw [e22]
    exact ⟨rfl, N0, rfl⟩
set_option maxRecDepth 65536 in
set_option maxHeartbeats 40000000 in
theorem rm7 (l : Launch) (Z : State) (a0 : Array Value) (hw : ∀ d ∈ tables_1, d.before a0 Z = true) (ws : List Jvm.Cond) (w0 w1 w2 w3 : Addr) (h0 : Heap) (n0 : Nat) (hWd : Wd Z w0 w1 w2 w3) (O0 : Old Z n0 h0) :
    MetFree l (⟨"com/example/palimpsest/palimpsest/engine/LockKind", "coversRow", "()Z"⟩ : MethodName) (head1 (Jvm.Cond.code (⟨"com/example/palimpsest/palimpsest/engine/LockKind", "coversRow", "()Z"⟩ : MethodName) prog_9_method_4_code 1 (some .boolean) :: ws) ({ frames := 0, cells := 0, slots := 0, locals := 0 } : Room)) (fun a U => a = #[(.ref w3)] ∧ Z.Warmed39 U.vm ∧ U.heap = h0) (fun _ _ _ _ _ => True) (fun _ U o U' => ∃ v L, o = .returned v ∧ Qp (some (.int (0 : Int32))) h0 n0 v U'.heap L ∧ FrameEnd U o U' L ({ frames := 0, cells := 0, slots := 0, locals := 0 } : Room).cells ({ frames := 0, cells := 0, slots := 0, locals := 0 } : Room).slots) := by
  refine MetFree.of_bodySF (plainFor_of_name pn0) hisR ?_
  intro p e s m args below meth c s₁ Bd hml0 hP hK
  obtain ⟨rfl, hZ, hh⟩ := hP
  have hx := Bd.exec
  have hby := Bd.bytes
  have hml : c.maxLocals = 1 := hml0
  have hown : s.vm.findClass "com/example/palimpsest/palimpsest/engine/LockKind" = some m.cls := findClass_of_methodNamed Bd.named
  have hnm := (name_of_methodNamed Bd.named Bd.method).1
  have X0 : Stand p l e ({ frames := 0, cells := 0, slots := 0, locals := 0 } : Room) s m #[(.ref w3)] below meth c s₁ [] 0 0 := Stand.of_body Bd
  have e0 : s₁.heap = h0 := by rw [← hh, Bd.state]; rfl
  have N0 := Fr.nil n0
  obtain ⟨wS0, wE0, wS1, wE1, wS2, wE2, wS3, wE3, wF0_coversRow, wF1_coversGap, wF1_coversRow, wF2_coversRow, wF3_coversGap, wF3_coversRow, wF0_coversGap, wF2_coversGap, -⟩ := id hWd
  have pre0 : ∀ t, Steps p.tables e below (s₁.setTop (mkF m 0 #[.val (.ref w3)] [])) t → Steps p.tables e below (s₁.setTop (entryFrame m #[(.ref w3)] 1)) t := fun t k => castTop (ef2 m w3) k
  obtain ⟨T24, X24, e24, st24⟩ := getF X0 hx hZ hown (host := "") (Or.inl (hw _ (List.mem_of_getElem? (i := 10) rfl))) Via.refl e0 (wF3_coversRow.ext O0.2) (g := (mkF m 1 #[.val (.ref w3)] [(.ref w3)])) rfl rfl (hb hby d_prog_9_method_4_code_1)
  obtain ⟨fs, hr, hrun, hended, hWr, hsame⟩ := X24.leave (v := some (.int (0 : Int32))) (fun h => by rw [Bd.returns] at h; cases h)
  refine ⟨_, _, pre0 _ ?_, hrun, hended, _, _, rfl, ?_, ⟨_, rfl⟩, hWr, hsame.mono (Nat.le_of_ble_eq_true rfl) (Nat.le_of_ble_eq_true rfl)⟩
  · show Steps p.tables e below (s₁.setTop (mkF m 0 #[.val (.ref w3)] [])) _
    refine XS.aloadN X0.here hx rfl (hb hby d_prog_9_method_4_code_0) rfl rfl ?_
    show Steps p.tables e below (s₁.setTop (mkF m 1 #[.val (.ref w3)] [(.ref w3)])) _
    refine st24 _ ?_
    show Steps p.tables e below (T24.setTop (mkF m 4 #[.val (.ref w3)] [(.int (0 : Int32))])) _
    exact retN X24 hx (t := .boolean) Bd.returns (by simp) (hb hby d_prog_9_method_4_code_4) hr
  · show Qp (some (.int (0 : Int32))) h0 n0 _ T24.heap _
    rw [e24]
    exact ⟨rfl, N0, rfl⟩
set_option maxRecDepth 65536 in
set_option maxHeartbeats 40000000 in
theorem rm8 (l : Launch) (Z : State) (a0 : Array Value) (hw : ∀ d ∈ tables_1, d.before a0 Z = true) (ws : List Jvm.Cond) (w0 w1 w2 w3 : Addr) (h0 : Heap) (n0 : Nat) (hWd : Wd Z w0 w1 w2 w3) (O0 : Old Z n0 h0) :
    MetFree l (⟨"com/example/palimpsest/palimpsest/engine/LockKind", "withGap", "()Lcom/example/palimpsest/palimpsest/engine/LockKind;"⟩ : MethodName) (head1 (Jvm.Cond.code (⟨"com/example/palimpsest/palimpsest/engine/LockKind", "withGap", "()Lcom/example/palimpsest/palimpsest/engine/LockKind;"⟩ : MethodName) prog_9_method_6_code 1 (some (.object "com/example/palimpsest/palimpsest/engine/LockKind")) :: ws) ({ frames := 0, cells := 0, slots := 0, locals := 0 } : Room)) (fun a U => a = #[(.ref w1)] ∧ Z.Warmed39 U.vm ∧ U.heap = h0) (fun _ _ _ _ _ => True) (fun _ U o U' => ∃ v L, o = .returned v ∧ Qp (some (.ref w1)) h0 n0 v U'.heap L ∧ FrameEnd U o U' L ({ frames := 0, cells := 0, slots := 0, locals := 0 } : Room).cells ({ frames := 0, cells := 0, slots := 0, locals := 0 } : Room).slots) := by
  refine MetFree.of_bodySF (plainFor_of_name pn0) hisR ?_
  intro p e s m args below meth c s₁ Bd hml0 hP hK
  obtain ⟨rfl, hZ, hh⟩ := hP
  have hx := Bd.exec
  have hby := Bd.bytes
  have hml : c.maxLocals = 1 := hml0
  have hown : s.vm.findClass "com/example/palimpsest/palimpsest/engine/LockKind" = some m.cls := findClass_of_methodNamed Bd.named
  have hnm := (name_of_methodNamed Bd.named Bd.method).1
  have X0 : Stand p l e ({ frames := 0, cells := 0, slots := 0, locals := 0 } : Room) s m #[(.ref w1)] below meth c s₁ [] 0 0 := Stand.of_body Bd
  have e0 : s₁.heap = h0 := by rw [← hh, Bd.state]; rfl
  have N0 := Fr.nil n0
  obtain ⟨wS0, wE0, wS1, wE1, wS2, wE2, wS3, wE3, wF0_coversRow, wF1_coversGap, wF1_coversRow, wF2_coversRow, wF3_coversGap, wF3_coversRow, wF0_coversGap, wF2_coversGap, -⟩ := id hWd
  have pre0 : ∀ t, Steps p.tables e below (s₁.setTop (mkF m 0 #[.val (.ref w1)] [])) t → Steps p.tables e below (s₁.setTop (entryFrame m #[(.ref w1)] 1)) t := fun t k => castTop (ef1 m w1) k
  obtain ⟨T29, X29, e29, st29⟩ := getF X0 hx hZ hown (host := "") (Or.inl (hw _ (List.mem_of_getElem? (i := 10) rfl))) Via.refl e0 (wF1_coversRow.ext O0.2) (g := (mkF m 1 #[.val (.ref w1)] [(.ref w1)])) rfl rfl (hb hby d_prog_9_method_6_code_1)
  obtain ⟨T30, X30, e30, st30⟩ := getS2 X29 hx hZ hown (host := "") (Or.inl (hw _ (List.mem_of_getElem? (i := 12) rfl))) Via.refl e29 (wS1.ext O0.2) (g := (mkF m 7 #[.val (.ref w1)] [])) rfl (hb hby d_prog_9_method_6_code_7)
  obtain ⟨fs, hr, hrun, hended, hWr, hsame⟩ := X30.leave (v := some (.ref w1)) (fun h => by rw [Bd.returns] at h; cases h)
  refine ⟨_, _, pre0 _ ?_, hrun, hended, _, _, rfl, ?_, ⟨_, rfl⟩, hWr, hsame.mono (Nat.le_of_ble_eq_true rfl) (Nat.le_of_ble_eq_true rfl)⟩
  · show Steps p.tables e below (s₁.setTop (mkF m 0 #[.val (.ref w1)] [])) _
    refine XS.aloadN X0.here hx rfl (hb hby d_prog_9_method_6_code_0) rfl rfl ?_
    show Steps p.tables e below (s₁.setTop (mkF m 1 #[.val (.ref w1)] [(.ref w1)])) _
    refine st29 _ ?_
    show Steps p.tables e below (T29.setTop (mkF m 4 #[.val (.ref w1)] [(.int (1 : Int32))])) _
    refine XS.ifNo X29.here hx rfl (hb hby d_prog_9_method_6_code_4) rfl (by decide) ?_
    show Steps p.tables e below (T29.setTop (mkF m 7 #[.val (.ref w1)] [])) _
    refine st30 _ ?_
    show Steps p.tables e below (T30.setTop (mkF m 10 #[.val (.ref w1)] [(.ref w1)])) _
    refine XS.goto X30.here hx rfl (pc0 := 10) (pc' := 16) rfl (hb hby d_prog_9_method_6_code_10) (by decide) (by decide) ?_
    show Steps p.tables e below (T30.setTop (mkF m 16 #[.val (.ref w1)] [(.ref w1)])) _
    exact retOut X30 hx (t := (.object "com/example/palimpsest/palimpsest/engine/LockKind")) (i := .areturn) Bd.returns rfl (Or.inr (Or.inr (Or.inr (Or.inr ⟨rfl, rfl, rfl⟩)))) (hb hby d_prog_9_method_6_code_16) hr
  · show Qp (some (.ref w1)) h0 n0 _ T30.heap _
    rw [e30]
    exact ⟨rfl, N0, rfl⟩
theorem ef3 (m : MethodId)   (w2 : Addr) : entryFrame m #[(.ref w2)] 1 = mkF m 0 #[.val (.ref w2)] [] := by first | (simp [entryFrame, mkF, argsToLocals, Value.category]; done) | rfl
set_option maxRecDepth 65536 in
set_option maxHeartbeats 40000000 in
theorem rm9 (l : Launch) (Z : State) (a0 : Array Value) (hw : ∀ d ∈ tables_1, d.before a0 Z = true) (ws : List Jvm.Cond) (w0 w1 w2 w3 : Addr) (h0 : Heap) (n0 : Nat) (hWd : Wd Z w0 w1 w2 w3) (O0 : Old Z n0 h0) :
    MetFree l (⟨"com/example/palimpsest/palimpsest/engine/LockKind", "withGap", "()Lcom/example/palimpsest/palimpsest/engine/LockKind;"⟩ : MethodName) (head1 (Jvm.Cond.code (⟨"com/example/palimpsest/palimpsest/engine/LockKind", "withGap", "()Lcom/example/palimpsest/palimpsest/engine/LockKind;"⟩ : MethodName) prog_9_method_6_code 1 (some (.object "com/example/palimpsest/palimpsest/engine/LockKind")) :: ws) ({ frames := 0, cells := 0, slots := 0, locals := 0 } : Room)) (fun a U => a = #[(.ref w2)] ∧ Z.Warmed39 U.vm ∧ U.heap = h0) (fun _ _ _ _ _ => True) (fun _ U o U' => ∃ v L, o = .returned v ∧ Qp (some (.ref w3)) h0 n0 v U'.heap L ∧ FrameEnd U o U' L ({ frames := 0, cells := 0, slots := 0, locals := 0 } : Room).cells ({ frames := 0, cells := 0, slots := 0, locals := 0 } : Room).slots) := by
  refine MetFree.of_bodySF (plainFor_of_name pn0) hisR ?_
  intro p e s m args below meth c s₁ Bd hml0 hP hK
  obtain ⟨rfl, hZ, hh⟩ := hP
  have hx := Bd.exec
  have hby := Bd.bytes
  have hml : c.maxLocals = 1 := hml0
  have hown : s.vm.findClass "com/example/palimpsest/palimpsest/engine/LockKind" = some m.cls := findClass_of_methodNamed Bd.named
  have hnm := (name_of_methodNamed Bd.named Bd.method).1
  have X0 : Stand p l e ({ frames := 0, cells := 0, slots := 0, locals := 0 } : Room) s m #[(.ref w2)] below meth c s₁ [] 0 0 := Stand.of_body Bd
  have e0 : s₁.heap = h0 := by rw [← hh, Bd.state]; rfl
  have N0 := Fr.nil n0
  obtain ⟨wS0, wE0, wS1, wE1, wS2, wE2, wS3, wE3, wF0_coversRow, wF1_coversGap, wF1_coversRow, wF2_coversRow, wF3_coversGap, wF3_coversRow, wF0_coversGap, wF2_coversGap, -⟩ := id hWd
  have pre0 : ∀ t, Steps p.tables e below (s₁.setTop (mkF m 0 #[.val (.ref w2)] [])) t → Steps p.tables e below (s₁.setTop (entryFrame m #[(.ref w2)] 1)) t := fun t k => castTop (ef3 m w2) k
  obtain ⟨T37, X37, e37, st37⟩ := getF X0 hx hZ hown (host := "") (Or.inl (hw _ (List.mem_of_getElem? (i := 10) rfl))) Via.refl e0 (wF2_coversRow.ext O0.2) (g := (mkF m 1 #[.val (.ref w2)] [(.ref w2)])) rfl rfl (hb hby d_prog_9_method_6_code_1)
  obtain ⟨T38, X38, e38, st38⟩ := getS2 X37 hx hZ hown (host := "") (Or.inl (hw _ (List.mem_of_getElem? (i := 29) rfl))) Via.refl e37 (wS3.ext O0.2) (g := (mkF m 13 #[.val (.ref w2)] [])) rfl (hb hby d_prog_9_method_6_code_13)
  obtain ⟨fs, hr, hrun, hended, hWr, hsame⟩ := X38.leave (v := some (.ref w3)) (fun h => by rw [Bd.returns] at h; cases h)
  refine ⟨_, _, pre0 _ ?_, hrun, hended, _, _, rfl, ?_, ⟨_, rfl⟩, hWr, hsame.mono (Nat.le_of_ble_eq_true rfl) (Nat.le_of_ble_eq_true rfl)⟩
  · show Steps p.tables e below (s₁.setTop (mkF m 0 #[.val (.ref w2)] [])) _
    refine XS.aloadN X0.here hx rfl (hb hby d_prog_9_method_6_code_0) rfl rfl ?_
    show Steps p.tables e below (s₁.setTop (mkF m 1 #[.val (.ref w2)] [(.ref w2)])) _
    refine st37 _ ?_
    show Steps p.tables e below (T37.setTop (mkF m 4 #[.val (.ref w2)] [(.int (0 : Int32))])) _
    refine XS.ifYes X37.here hx rfl (pc0 := 4) (pc' := 13) rfl (hb hby d_prog_9_method_6_code_4) rfl (by decide) (by decide) (by decide) ?_
    show Steps p.tables e below (T37.setTop (mkF m 13 #[.val (.ref w2)] [])) _
    refine st38 _ ?_
    show Steps p.tables e below (T38.setTop (mkF m 16 #[.val (.ref w2)] [(.ref w3)])) _
    exact retOut X38 hx (t := (.object "com/example/palimpsest/palimpsest/engine/LockKind")) (i := .areturn) Bd.returns rfl (Or.inr (Or.inr (Or.inr (Or.inr ⟨rfl, rfl, rfl⟩)))) (hb hby d_prog_9_method_6_code_16) hr
  · show Qp (some (.ref w3)) h0 n0 _ T38.heap _
    rw [e38]
    exact ⟨rfl, N0, rfl⟩
set_option maxRecDepth 65536 in
set_option maxHeartbeats 40000000 in
theorem rm10 (l : Launch) (Z : State) (a0 : Array Value) (hw : ∀ d ∈ tables_1, d.before a0 Z = true) (ws : List Jvm.Cond) (w0 w1 w2 w3 : Addr) (h0 : Heap) (n0 : Nat) (hWd : Wd Z w0 w1 w2 w3) (O0 : Old Z n0 h0) :
    MetFree l (⟨"com/example/palimpsest/palimpsest/engine/LockKind", "coversRow", "()Z"⟩ : MethodName) (head1 (Jvm.Cond.code (⟨"com/example/palimpsest/palimpsest/engine/LockKind", "coversRow", "()Z"⟩ : MethodName) prog_9_method_4_code 1 (some .boolean) :: ws) ({ frames := 0, cells := 0, slots := 0, locals := 0 } : Room)) (fun a U => a = #[(.ref w2)] ∧ Z.Warmed39 U.vm ∧ U.heap = h0) (fun _ _ _ _ _ => True) (fun _ U o U' => ∃ v L, o = .returned v ∧ Qp (some (.int (0 : Int32))) h0 n0 v U'.heap L ∧ FrameEnd U o U' L ({ frames := 0, cells := 0, slots := 0, locals := 0 } : Room).cells ({ frames := 0, cells := 0, slots := 0, locals := 0 } : Room).slots) := by
  refine MetFree.of_bodySF (plainFor_of_name pn0) hisR ?_
  intro p e s m args below meth c s₁ Bd hml0 hP hK
  obtain ⟨rfl, hZ, hh⟩ := hP
  have hx := Bd.exec
  have hby := Bd.bytes
  have hml : c.maxLocals = 1 := hml0
  have hown : s.vm.findClass "com/example/palimpsest/palimpsest/engine/LockKind" = some m.cls := findClass_of_methodNamed Bd.named
  have hnm := (name_of_methodNamed Bd.named Bd.method).1
  have X0 : Stand p l e ({ frames := 0, cells := 0, slots := 0, locals := 0 } : Room) s m #[(.ref w2)] below meth c s₁ [] 0 0 := Stand.of_body Bd
  have e0 : s₁.heap = h0 := by rw [← hh, Bd.state]; rfl
  have N0 := Fr.nil n0
  obtain ⟨wS0, wE0, wS1, wE1, wS2, wE2, wS3, wE3, wF0_coversRow, wF1_coversGap, wF1_coversRow, wF2_coversRow, wF3_coversGap, wF3_coversRow, wF0_coversGap, wF2_coversGap, -⟩ := id hWd
  have pre0 : ∀ t, Steps p.tables e below (s₁.setTop (mkF m 0 #[.val (.ref w2)] [])) t → Steps p.tables e below (s₁.setTop (entryFrame m #[(.ref w2)] 1)) t := fun t k => castTop (ef3 m w2) k
  obtain ⟨T42, X42, e42, st42⟩ := getF X0 hx hZ hown (host := "") (Or.inl (hw _ (List.mem_of_getElem? (i := 10) rfl))) Via.refl e0 (wF2_coversRow.ext O0.2) (g := (mkF m 1 #[.val (.ref w2)] [(.ref w2)])) rfl rfl (hb hby d_prog_9_method_4_code_1)
  obtain ⟨fs, hr, hrun, hended, hWr, hsame⟩ := X42.leave (v := some (.int (0 : Int32))) (fun h => by rw [Bd.returns] at h; cases h)
  refine ⟨_, _, pre0 _ ?_, hrun, hended, _, _, rfl, ?_, ⟨_, rfl⟩, hWr, hsame.mono (Nat.le_of_ble_eq_true rfl) (Nat.le_of_ble_eq_true rfl)⟩
  · show Steps p.tables e below (s₁.setTop (mkF m 0 #[.val (.ref w2)] [])) _
    refine XS.aloadN X0.here hx rfl (hb hby d_prog_9_method_4_code_0) rfl rfl ?_
    show Steps p.tables e below (s₁.setTop (mkF m 1 #[.val (.ref w2)] [(.ref w2)])) _
    refine st42 _ ?_
    show Steps p.tables e below (T42.setTop (mkF m 4 #[.val (.ref w2)] [(.int (0 : Int32))])) _
    exact retN X42 hx (t := .boolean) Bd.returns (by simp) (hb hby d_prog_9_method_4_code_4) hr
  · show Qp (some (.int (0 : Int32))) h0 n0 _ T42.heap _
    rw [e42]
    exact ⟨rfl, N0, rfl⟩
theorem pn1 : plainName "com/example/palimpsest/palimpsest/engine/LockKindWithGapPinLaw" = true := by first | (simp [plainName, overriddenIn]; done) | decide +kernel
theorem ef4 (m : MethodId) (i0 : Int32)   : entryFrame m #[(.int i0)] maxLocals = mkF m 0 #[.val (.int i0), .unset, .unset, .unset, .unset] [] := by first | (simp [entryFrame, mkF, argsToLocals, Value.category, maxLocals]; done) | rfl
set_option maxRecDepth 65536 in
set_option maxHeartbeats 40000000 in
theorem rm0 (l : Launch) (Z : State) (a0 : Array Value) (hw : ∀ d ∈ tables_1, d.before a0 Z = true) (ws : List Jvm.Cond) (w0 w1 w2 w3 : Addr) (i0 : Int32) (h0 : Heap) (n0 : Nat) (hWd : Wd Z w0 w1 w2 w3) (O0 : Old Z n0 h0) :
    MetFree l x (head1 (Jvm.Cond.code x code maxLocals ret :: ws) room_1) (fun a U => a = #[(.int i0)] ∧ Z.Warmed39 U.vm ∧ U.heap = h0) (fun _ _ _ _ _ => True) (fun _ U o U' => ∃ v L, o = .returned v ∧ Ql n0 v U'.heap L ∧ FrameEnd U o U' L room_1.cells room_1.slots) := by
  refine MetFree.of_bodySF (plainFor_of_name pn1) hisR ?_
  intro p e s m args below meth c s₁ Bd hml0 hP hK
  obtain ⟨rfl, hZ, hh⟩ := hP
  have hx := Bd.exec
  have hby := Bd.bytes
  have hml : c.maxLocals = 5 := hml0
  have hown : s.vm.findClass "com/example/palimpsest/palimpsest/engine/LockKindWithGapPinLaw" = some m.cls := findClass_of_methodNamed Bd.named
  have hnm := (name_of_methodNamed Bd.named Bd.method).1
  have X0 : Stand p l e room_1 s m #[(.int i0)] below meth c s₁ [] 0 0 := Stand.of_body Bd
  have e0 : s₁.heap = h0 := by rw [← hh, Bd.state]; rfl
  have N0 := Fr.nil n0
  obtain ⟨wS0, wE0, wS1, wE1, wS2, wE2, wS3, wE3, wF0_coversRow, wF1_coversGap, wF1_coversRow, wF2_coversRow, wF3_coversGap, wF3_coversRow, wF0_coversGap, wF2_coversGap, -⟩ := id hWd
  have pre0 : ∀ t, Steps p.tables e below (s₁.setTop (mkF m 0 #[.val (.int i0), .unset, .unset, .unset, .unset] [])) t → Steps p.tables e below (s₁.setTop (entryFrame m #[(.int i0)] maxLocals)) t := fun t k => castTop (ef4 m i0) k
  have pre1 : ∀ t, Steps p.tables e below (s₁.setTop (mkF m 2 #[.val (.int i0), .unset, .unset, .unset, .unset] [(.int (3 : Int32)), (.int i0)])) t → Steps p.tables e below (s₁.setTop (entryFrame m #[(.int i0)] maxLocals)) t := by
    intro t k
    refine pre0 _ ?_
    show Steps p.tables e below (s₁.setTop (mkF m 0 #[.val (.int i0), .unset, .unset, .unset, .unset] [])) _
    refine XS.iloadN X0.here hx rfl (hb hby at_0) rfl ?_
    show Steps p.tables e below (s₁.setTop (mkF m 1 #[.val (.int i0), .unset, .unset, .unset, .unset] [(.int i0)])) _
    refine XS.iconst X0.here hx rfl (hb hby at_1) ?_
    show Steps p.tables e below (s₁.setTop (mkF m 2 #[.val (.int i0), .unset, .unset, .unset, .unset] [(.int (3 : Int32)), (.int i0)])) _
    exact k
  rcases own_and_3 i0 with hk2 | hk3 | hk4 | hk5
  · obtain ⟨T6, X6, e6, st6⟩ := getS2 X0 hx hZ hown (host := "") (Or.inl (hw _ (List.mem_of_getElem? (i := 0) rfl))) Via.refl e0 (wS0.ext O0.2) (g := (mkF m 8 #[.val (.int i0), .val (.int (0 : Int32)), .unset, .unset, .unset] [])) rfl (hb hby at_8)
    obtain ⟨T7, X7, e7, st7⟩ := getS2 X6 hx hZ hown (host := "") (Or.inl (hw _ (List.mem_of_getElem? (i := 3) rfl))) Via.refl e6 (wS1.ext O0.2) (g := (mkF m 12 #[.val (.int i0), .val (.int (0 : Int32)), .val (.ref w0), .unset, .unset] [])) rfl (hb hby at_12)
    obtain ⟨cq10, kq10, q10a, q10b, q10c⟩ := isOf hZ e7 (wE0.ext O0.2)
    obtain ⟨_, _, ⟨T10, L10, k10, n10⟩, -, X10, ⟨Lc10, hQ10, l10, y10, z10⟩, st10⟩ := X7.virtualBack hx (y := (⟨"com/example/palimpsest/palimpsest/engine/LockKind", "withGap", "()Lcom/example/palimpsest/palimpsest/engine/LockKind;"⟩ : MethodName)) (z := (⟨"com/example/palimpsest/palimpsest/engine/LockKind", "withGap", "()Lcom/example/palimpsest/palimpsest/engine/LockKind;"⟩ : MethodName)) hown (mvT hZ (hw _ (List.mem_of_getElem? (i := 5) rfl))) (mvT hZ (hw _ (List.mem_of_getElem? (i := 6) rfl))) (notFace_of_selects (args := #[]) (mvT hZ (hw _ (List.mem_of_getElem? (i := 8) rfl)))) (mvT hZ (hw _ (List.mem_of_getElem? (i := 8) rfl))) (mvT hZ (hw _ (List.mem_of_getElem? (i := 7) rfl))) (by decide) (backOf (W := 0) (rm1 l Z a0 hw [] w0 w1 w2 w3 h0 n0 hWd O0) hZ (hw _ (List.mem_of_getElem? (i := 9) rfl)) (hw _ (List.mem_of_getElem? (i := 1) rfl)) (by decide) (by decide)) q10a q10c (g := (mkF m 60 #[.val (.int i0), .val (.int (0 : Int32)), .val (.ref w0), .val (.ref w1), .unset] [(.ref w0)])) rfl (by rw [hml]; rfl) (Steps.refl _) (argsL := []) (rest := []) (lenOf pd0 rfl) rfl (by show 2 * 0 + _ ≤ _; exact Nat.le_of_eq rfl) (hb hby at_60) (fun _ _ => ⟨rfl, e7, (by decide : 0 + 0 ≤ _), (by decide : 0 + 0 ≤ _)⟩)
    dsimp only [Pt.U, Pt.locs, Pt.cells, Pt.slots] at X10 l10 y10 z10 st10 hQ10
    subst l10 y10 z10
    obtain ⟨rfl, N10q, e10⟩ := hQ10
    have N10 := Fr.app N0 N10q
    obtain ⟨cq12, kq12, q12a, q12b, q12c⟩ := isOf hZ e10 (wE1.ext O0.2)
    obtain ⟨_, _, ⟨T12, L12, k12, n12⟩, -, X12, ⟨Lc12, hQ12, l12, y12, z12⟩, st12⟩ := X10.virtualBack hx (y := (⟨"com/example/palimpsest/palimpsest/engine/LockKind", "coversGap", "()Z"⟩ : MethodName)) (z := (⟨"com/example/palimpsest/palimpsest/engine/LockKind", "coversGap", "()Z"⟩ : MethodName)) hown (mvT hZ (hw _ (List.mem_of_getElem? (i := 13) rfl))) (mvT hZ (hw _ (List.mem_of_getElem? (i := 14) rfl))) (notFace_of_selects (args := #[]) (mvT hZ (hw _ (List.mem_of_getElem? (i := 16) rfl)))) (mvT hZ (hw _ (List.mem_of_getElem? (i := 16) rfl))) (mvT hZ (hw _ (List.mem_of_getElem? (i := 15) rfl))) (by decide) (backOf (W := 0) (rm2 l Z a0 hw [] w0 w1 w2 w3 h0 n0 hWd O0) hZ (hw _ (List.mem_of_getElem? (i := 17) rfl)) (hw _ (List.mem_of_getElem? (i := 1) rfl)) (by decide) (by decide)) q12a q12c (g := (mkF m 73 #[.val (.int i0), .val (.int (0 : Int32)), .val (.ref w0), .val (.ref w1), .val (.ref w1)] [(.ref w1)])) rfl (by rw [hml]; rfl) (Steps.refl _) (argsL := []) (rest := []) (lenOf pd1 rfl) rfl (by show 2 * 0 + _ ≤ _; exact Nat.le_of_eq rfl) (hb hby at_73) (fun _ _ => ⟨rfl, e10, (by decide : 0 + 0 ≤ _), (by decide : 0 + 0 ≤ _)⟩)
    dsimp only [Pt.U, Pt.locs, Pt.cells, Pt.slots] at X12 l12 y12 z12 st12 hQ12
    subst l12 y12 z12
    obtain ⟨rfl, N12q, e12⟩ := hQ12
    have N12 := Fr.app N10 N12q
    obtain ⟨cq14, kq14, q14a, q14b, q14c⟩ := isOf hZ e12 (wE1.ext O0.2)
    obtain ⟨_, _, ⟨T14, L14, k14, n14⟩, -, X14, ⟨Lc14, hQ14, l14, y14, z14⟩, st14⟩ := X12.virtualBack hx (y := (⟨"com/example/palimpsest/palimpsest/engine/LockKind", "coversRow", "()Z"⟩ : MethodName)) (z := (⟨"com/example/palimpsest/palimpsest/engine/LockKind", "coversRow", "()Z"⟩ : MethodName)) hown (mvT hZ (hw _ (List.mem_of_getElem? (i := 20) rfl))) (mvT hZ (hw _ (List.mem_of_getElem? (i := 21) rfl))) (notFace_of_selects (args := #[]) (mvT hZ (hw _ (List.mem_of_getElem? (i := 23) rfl)))) (mvT hZ (hw _ (List.mem_of_getElem? (i := 23) rfl))) (mvT hZ (hw _ (List.mem_of_getElem? (i := 22) rfl))) (by decide) (backOf (W := 0) (rm3 l Z a0 hw [] w0 w1 w2 w3 h0 n0 hWd O0) hZ (hw _ (List.mem_of_getElem? (i := 24) rfl)) (hw _ (List.mem_of_getElem? (i := 1) rfl)) (by decide) (by decide)) q14a q14c (g := (mkF m 81 #[.val (.int i0), .val (.int (0 : Int32)), .val (.ref w0), .val (.ref w1), .val (.ref w1)] [(.ref w1)])) rfl (by rw [hml]; rfl) (Steps.refl _) (argsL := []) (rest := []) (lenOf pd1 rfl) rfl (by show 2 * 0 + _ ≤ _; exact Nat.le_of_eq rfl) (hb hby at_81) (fun _ _ => ⟨rfl, e12, (by decide : 0 + 0 ≤ _), (by decide : 0 + 0 ≤ _)⟩)
    dsimp only [Pt.U, Pt.locs, Pt.cells, Pt.slots] at X14 l14 y14 z14 st14 hQ14
    subst l14 y14 z14
    obtain ⟨rfl, N14q, e14⟩ := hQ14
    have N14 := Fr.app N12 N14q
    obtain ⟨cq16, kq16, q16a, q16b, q16c⟩ := isOf hZ e14 (wE0.ext O0.2)
    obtain ⟨_, _, ⟨T16, L16, k16, n16⟩, -, X16, ⟨Lc16, hQ16, l16, y16, z16⟩, st16⟩ := X14.virtualBack hx (y := (⟨"com/example/palimpsest/palimpsest/engine/LockKind", "coversRow", "()Z"⟩ : MethodName)) (z := (⟨"com/example/palimpsest/palimpsest/engine/LockKind", "coversRow", "()Z"⟩ : MethodName)) hown (mvT hZ (hw _ (List.mem_of_getElem? (i := 20) rfl))) (mvT hZ (hw _ (List.mem_of_getElem? (i := 21) rfl))) (notFace_of_selects (args := #[]) (mvT hZ (hw _ (List.mem_of_getElem? (i := 23) rfl)))) (mvT hZ (hw _ (List.mem_of_getElem? (i := 23) rfl))) (mvT hZ (hw _ (List.mem_of_getElem? (i := 22) rfl))) (by decide) (backOf (W := 1) (rm4 l Z a0 hw [] w0 w1 w2 w3 h0 n0 hWd O0) hZ (hw _ (List.mem_of_getElem? (i := 24) rfl)) (hw _ (List.mem_of_getElem? (i := 1) rfl)) (by decide) (by decide)) q16a q16c (g := (mkF m 85 #[.val (.int i0), .val (.int (0 : Int32)), .val (.ref w0), .val (.ref w1), .val (.ref w1)] [(.ref w0), (.int (1 : Int32))])) rfl (by rw [hml]; rfl) (Steps.refl _) (argsL := []) (rest := [(.int (1 : Int32))]) (lenOf pd1 rfl) rfl (by show 2 * 0 + _ ≤ _; exact Nat.le_of_eq rfl) (hb hby at_85) (fun _ _ => ⟨rfl, e14, (by decide : 0 + 0 ≤ _), (by decide : 0 + 0 ≤ _)⟩)
    dsimp only [Pt.U, Pt.locs, Pt.cells, Pt.slots] at X16 l16 y16 z16 st16 hQ16
    subst l16 y16 z16
    obtain ⟨rfl, N16q, e16⟩ := hQ16
    have N16 := Fr.app N14 N16q
    obtain ⟨fs, hr, hrun, hended, hWr, hsame⟩ := X16.leave (v := some (.int (1 : Int32))) (fun h => by rw [Bd.returns] at h; cases h)
    refine ⟨_, _, pre1 _ ?_, hrun, hended, _, _, rfl, ?_, ⟨_, rfl⟩, hWr, hsame.mono (Nat.le_of_ble_eq_true rfl) (Nat.le_of_ble_eq_true rfl)⟩
    · show Steps p.tables e below (s₁.setTop (mkF m 2 #[.val (.int i0), .unset, .unset, .unset, .unset] [(.int (3 : Int32)), (.int i0)])) _
      refine XS.iand X0.here hx rfl (hb hby at_2) rfl ?_
      show Steps p.tables e below (s₁.setTop (mkF m 3 #[.val (.int i0), .unset, .unset, .unset, .unset] [(.int (i0 &&& (3 : Int32)))])) _
      rw [hk2]
      show Steps p.tables e below (s₁.setTop (mkF m 3 #[.val (.int i0), .unset, .unset, .unset, .unset] [(.int (0 : Int32))])) _
      refine XS.istoreN X0.here hx rfl (hb hby at_3) rfl (l' := #[.val (.int i0), .val (.int (0 : Int32)), .unset, .unset, .unset]) rfl ?_
      show Steps p.tables e below (s₁.setTop (mkF m 4 #[.val (.int i0), .val (.int (0 : Int32)), .unset, .unset, .unset] [])) _
      refine XS.iloadN X0.here hx rfl (hb hby at_4) rfl ?_
      show Steps p.tables e below (s₁.setTop (mkF m 5 #[.val (.int i0), .val (.int (0 : Int32)), .unset, .unset, .unset] [(.int (0 : Int32))])) _
      refine XS.ifNo X0.here hx rfl (hb hby at_5) rfl (by decide) ?_
      show Steps p.tables e below (s₁.setTop (mkF m 8 #[.val (.int i0), .val (.int (0 : Int32)), .unset, .unset, .unset] [])) _
      refine st6 _ ?_
      show Steps p.tables e below (T6.setTop (mkF m 11 #[.val (.int i0), .val (.int (0 : Int32)), .unset, .unset, .unset] [(.ref w0)])) _
      refine XS.astoreN X6.here hx rfl (hb hby at_11) rfl rfl (l' := #[.val (.int i0), .val (.int (0 : Int32)), .val (.ref w0), .unset, .unset]) rfl ?_
      show Steps p.tables e below (T6.setTop (mkF m 12 #[.val (.int i0), .val (.int (0 : Int32)), .val (.ref w0), .unset, .unset] [])) _
      refine st7 _ ?_
      show Steps p.tables e below (T7.setTop (mkF m 15 #[.val (.int i0), .val (.int (0 : Int32)), .val (.ref w0), .unset, .unset] [(.ref w1)])) _
      refine XS.astoreN X7.here hx rfl (hb hby at_15) rfl rfl (l' := #[.val (.int i0), .val (.int (0 : Int32)), .val (.ref w0), .val (.ref w1), .unset]) rfl ?_
      show Steps p.tables e below (T7.setTop (mkF m 16 #[.val (.int i0), .val (.int (0 : Int32)), .val (.ref w0), .val (.ref w1), .unset] [])) _
      refine XS.goto X7.here hx rfl (pc0 := 16) (pc' := 59) rfl (hb hby at_16) (by decide) (by decide) ?_
      show Steps p.tables e below (T7.setTop (mkF m 59 #[.val (.int i0), .val (.int (0 : Int32)), .val (.ref w0), .val (.ref w1), .unset] [])) _
      refine XS.aloadN X7.here hx rfl (hb hby at_59) rfl rfl ?_
      show Steps p.tables e below (T7.setTop (mkF m 60 #[.val (.int i0), .val (.int (0 : Int32)), .val (.ref w0), .val (.ref w1), .unset] [(.ref w0)])) _
      refine st10.trans ?_
      show Steps p.tables e below (T10.setTop (mkF m 63 #[.val (.int i0), .val (.int (0 : Int32)), .val (.ref w0), .val (.ref w1), .unset] [(.ref w1)])) _
      refine XS.astore X10.here hx rfl (hb hby at_63) rfl rfl (l' := #[.val (.int i0), .val (.int (0 : Int32)), .val (.ref w0), .val (.ref w1), .val (.ref w1)]) rfl ?_
      show Steps p.tables e below (T10.setTop (mkF m 65 #[.val (.int i0), .val (.int (0 : Int32)), .val (.ref w0), .val (.ref w1), .val (.ref w1)] [])) _
      refine XS.aload X10.here hx rfl (hb hby at_65) rfl rfl ?_
      show Steps p.tables e below (T10.setTop (mkF m 67 #[.val (.int i0), .val (.int (0 : Int32)), .val (.ref w0), .val (.ref w1), .val (.ref w1)] [(.ref w1)])) _
      refine XS.aloadN X10.here hx rfl (hb hby at_67) rfl rfl ?_
      show Steps p.tables e below (T10.setTop (mkF m 68 #[.val (.int i0), .val (.int (0 : Int32)), .val (.ref w0), .val (.ref w1), .val (.ref w1)] [(.ref w1), (.ref w1)])) _
      refine Jvm.RoadKit.acmp (g := (mkF m 68 #[.val (.int i0), .val (.int (0 : Int32)), .val (.ref w0), .val (.ref w1), .val (.ref w1)] [(.ref w1), (.ref w1)])) X10 hx rfl rfl rfl (pc0 := 68) (pc' := 71) (same := true) rfl (hb hby at_68) rfl (decide_eq_true rfl) (by decide) (by decide) ?_
      show Steps p.tables e below (T10.setTop (mkF m 71 #[.val (.int i0), .val (.int (0 : Int32)), .val (.ref w0), .val (.ref w1), .val (.ref w1)] [])) _
      refine XS.aload X10.here hx rfl (hb hby at_71) rfl rfl ?_
      show Steps p.tables e below (T10.setTop (mkF m 73 #[.val (.int i0), .val (.int (0 : Int32)), .val (.ref w0), .val (.ref w1), .val (.ref w1)] [(.ref w1)])) _
      refine st12.trans ?_
      show Steps p.tables e below (T12.setTop (mkF m 76 #[.val (.int i0), .val (.int (0 : Int32)), .val (.ref w0), .val (.ref w1), .val (.ref w1)] [(.int (1 : Int32))])) _
      refine XS.ifNo X12.here hx rfl (hb hby at_76) rfl (by decide) ?_
      show Steps p.tables e below (T12.setTop (mkF m 79 #[.val (.int i0), .val (.int (0 : Int32)), .val (.ref w0), .val (.ref w1), .val (.ref w1)] [])) _
      refine XS.aload X12.here hx rfl (hb hby at_79) rfl rfl ?_
      show Steps p.tables e below (T12.setTop (mkF m 81 #[.val (.int i0), .val (.int (0 : Int32)), .val (.ref w0), .val (.ref w1), .val (.ref w1)] [(.ref w1)])) _
      refine st14.trans ?_
      show Steps p.tables e below (T14.setTop (mkF m 84 #[.val (.int i0), .val (.int (0 : Int32)), .val (.ref w0), .val (.ref w1), .val (.ref w1)] [(.int (1 : Int32))])) _
      refine XS.aloadN X14.here hx rfl (hb hby at_84) rfl rfl ?_
      show Steps p.tables e below (T14.setTop (mkF m 85 #[.val (.int i0), .val (.int (0 : Int32)), .val (.ref w0), .val (.ref w1), .val (.ref w1)] [(.ref w0), (.int (1 : Int32))])) _
      refine st16.trans ?_
      show Steps p.tables e below (T16.setTop (mkF m 88 #[.val (.int i0), .val (.int (0 : Int32)), .val (.ref w0), .val (.ref w1), .val (.ref w1)] [(.int (1 : Int32)), (.int (1 : Int32))])) _
      refine XS.icmpNo X16.here hx rfl (hb hby at_88) rfl (by decide) ?_
      show Steps p.tables e below (T16.setTop (mkF m 91 #[.val (.int i0), .val (.int (0 : Int32)), .val (.ref w0), .val (.ref w1), .val (.ref w1)] [])) _
      refine XS.iconst X16.here hx rfl (hb hby at_91) ?_
      show Steps p.tables e below (T16.setTop (mkF m 92 #[.val (.int i0), .val (.int (0 : Int32)), .val (.ref w0), .val (.ref w1), .val (.ref w1)] [(.int (1 : Int32))])) _
      refine XS.goto X16.here hx rfl (pc0 := 92) (pc' := 96) rfl (hb hby at_92) (by decide) (by decide) ?_
      show Steps p.tables e below (T16.setTop (mkF m 96 #[.val (.int i0), .val (.int (0 : Int32)), .val (.ref w0), .val (.ref w1), .val (.ref w1)] [(.int (1 : Int32))])) _
      exact retN X16 hx (t := .boolean) Bd.returns (by simp) (hb hby at_96) hr
    · show Ql n0 _ T16.heap _
      exact ⟨rfl, N16⟩
  · obtain ⟨T17, X17, e17, st17⟩ := getS2 X0 hx hZ hown (host := "") (Or.inl (hw _ (List.mem_of_getElem? (i := 27) rfl))) Via.refl e0 (wS3.ext O0.2) (g := (mkF m 24 #[.val (.int i0), .val (.int (1 : Int32)), .unset, .unset, .unset] [])) rfl (hb hby at_24)
    obtain ⟨T18, X18, e18, st18⟩ := getS2 X17 hx hZ hown (host := "") (Or.inl (hw _ (List.mem_of_getElem? (i := 27) rfl))) Via.refl e17 (wS3.ext O0.2) (g := (mkF m 28 #[.val (.int i0), .val (.int (1 : Int32)), .val (.ref w3), .unset, .unset] [])) rfl (hb hby at_28)
    obtain ⟨cq21, kq21, q21a, q21b, q21c⟩ := isOf hZ e18 (wE3.ext O0.2)
    obtain ⟨_, _, ⟨T21, L21, k21, n21⟩, -, X21, ⟨Lc21, hQ21, l21, y21, z21⟩, st21⟩ := X18.virtualBack hx (y := (⟨"com/example/palimpsest/palimpsest/engine/LockKind", "withGap", "()Lcom/example/palimpsest/palimpsest/engine/LockKind;"⟩ : MethodName)) (z := (⟨"com/example/palimpsest/palimpsest/engine/LockKind", "withGap", "()Lcom/example/palimpsest/palimpsest/engine/LockKind;"⟩ : MethodName)) hown (mvT hZ (hw _ (List.mem_of_getElem? (i := 5) rfl))) (mvT hZ (hw _ (List.mem_of_getElem? (i := 6) rfl))) (notFace_of_selects (args := #[]) (mvT hZ (hw _ (List.mem_of_getElem? (i := 8) rfl)))) (mvT hZ (hw _ (List.mem_of_getElem? (i := 8) rfl))) (mvT hZ (hw _ (List.mem_of_getElem? (i := 7) rfl))) (by decide) (backOf (W := 0) (rm5 l Z a0 hw [] w0 w1 w2 w3 h0 n0 hWd O0) hZ (hw _ (List.mem_of_getElem? (i := 9) rfl)) (hw _ (List.mem_of_getElem? (i := 1) rfl)) (by decide) (by decide)) q21a q21c (g := (mkF m 60 #[.val (.int i0), .val (.int (1 : Int32)), .val (.ref w3), .val (.ref w3), .unset] [(.ref w3)])) rfl (by rw [hml]; rfl) (Steps.refl _) (argsL := []) (rest := []) (lenOf pd0 rfl) rfl (by show 2 * 0 + _ ≤ _; exact Nat.le_of_eq rfl) (hb hby at_60) (fun _ _ => ⟨rfl, e18, (by decide : 0 + 0 ≤ _), (by decide : 0 + 0 ≤ _)⟩)
    dsimp only [Pt.U, Pt.locs, Pt.cells, Pt.slots] at X21 l21 y21 z21 st21 hQ21
    subst l21 y21 z21
    obtain ⟨rfl, N21q, e21⟩ := hQ21
    have N21 := Fr.app N0 N21q
    obtain ⟨cq23, kq23, q23a, q23b, q23c⟩ := isOf hZ e21 (wE3.ext O0.2)
    obtain ⟨_, _, ⟨T23, L23, k23, n23⟩, -, X23, ⟨Lc23, hQ23, l23, y23, z23⟩, st23⟩ := X21.virtualBack hx (y := (⟨"com/example/palimpsest/palimpsest/engine/LockKind", "coversGap", "()Z"⟩ : MethodName)) (z := (⟨"com/example/palimpsest/palimpsest/engine/LockKind", "coversGap", "()Z"⟩ : MethodName)) hown (mvT hZ (hw _ (List.mem_of_getElem? (i := 13) rfl))) (mvT hZ (hw _ (List.mem_of_getElem? (i := 14) rfl))) (notFace_of_selects (args := #[]) (mvT hZ (hw _ (List.mem_of_getElem? (i := 16) rfl)))) (mvT hZ (hw _ (List.mem_of_getElem? (i := 16) rfl))) (mvT hZ (hw _ (List.mem_of_getElem? (i := 15) rfl))) (by decide) (backOf (W := 0) (rm6 l Z a0 hw [] w0 w1 w2 w3 h0 n0 hWd O0) hZ (hw _ (List.mem_of_getElem? (i := 17) rfl)) (hw _ (List.mem_of_getElem? (i := 1) rfl)) (by decide) (by decide)) q23a q23c (g := (mkF m 73 #[.val (.int i0), .val (.int (1 : Int32)), .val (.ref w3), .val (.ref w3), .val (.ref w3)] [(.ref w3)])) rfl (by rw [hml]; rfl) (Steps.refl _) (argsL := []) (rest := []) (lenOf pd1 rfl) rfl (by show 2 * 0 + _ ≤ _; exact Nat.le_of_eq rfl) (hb hby at_73) (fun _ _ => ⟨rfl, e21, (by decide : 0 + 0 ≤ _), (by decide : 0 + 0 ≤ _)⟩)
    dsimp only [Pt.U, Pt.locs, Pt.cells, Pt.slots] at X23 l23 y23 z23 st23 hQ23
    subst l23 y23 z23
    obtain ⟨rfl, N23q, e23⟩ := hQ23
    have N23 := Fr.app N21 N23q
    obtain ⟨cq25, kq25, q25a, q25b, q25c⟩ := isOf hZ e23 (wE3.ext O0.2)
    obtain ⟨_, _, ⟨T25, L25, k25, n25⟩, -, X25, ⟨Lc25, hQ25, l25, y25, z25⟩, st25⟩ := X23.virtualBack hx (y := (⟨"com/example/palimpsest/palimpsest/engine/LockKind", "coversRow", "()Z"⟩ : MethodName)) (z := (⟨"com/example/palimpsest/palimpsest/engine/LockKind", "coversRow", "()Z"⟩ : MethodName)) hown (mvT hZ (hw _ (List.mem_of_getElem? (i := 20) rfl))) (mvT hZ (hw _ (List.mem_of_getElem? (i := 21) rfl))) (notFace_of_selects (args := #[]) (mvT hZ (hw _ (List.mem_of_getElem? (i := 23) rfl)))) (mvT hZ (hw _ (List.mem_of_getElem? (i := 23) rfl))) (mvT hZ (hw _ (List.mem_of_getElem? (i := 22) rfl))) (by decide) (backOf (W := 0) (rm7 l Z a0 hw [] w0 w1 w2 w3 h0 n0 hWd O0) hZ (hw _ (List.mem_of_getElem? (i := 24) rfl)) (hw _ (List.mem_of_getElem? (i := 1) rfl)) (by decide) (by decide)) q25a q25c (g := (mkF m 81 #[.val (.int i0), .val (.int (1 : Int32)), .val (.ref w3), .val (.ref w3), .val (.ref w3)] [(.ref w3)])) rfl (by rw [hml]; rfl) (Steps.refl _) (argsL := []) (rest := []) (lenOf pd1 rfl) rfl (by show 2 * 0 + _ ≤ _; exact Nat.le_of_eq rfl) (hb hby at_81) (fun _ _ => ⟨rfl, e23, (by decide : 0 + 0 ≤ _), (by decide : 0 + 0 ≤ _)⟩)
    dsimp only [Pt.U, Pt.locs, Pt.cells, Pt.slots] at X25 l25 y25 z25 st25 hQ25
    subst l25 y25 z25
    obtain ⟨rfl, N25q, e25⟩ := hQ25
    have N25 := Fr.app N23 N25q
    obtain ⟨cq26, kq26, q26a, q26b, q26c⟩ := isOf hZ e25 (wE3.ext O0.2)
    obtain ⟨_, _, ⟨T26, L26, k26, n26⟩, -, X26, ⟨Lc26, hQ26, l26, y26, z26⟩, st26⟩ := X25.virtualBack hx (y := (⟨"com/example/palimpsest/palimpsest/engine/LockKind", "coversRow", "()Z"⟩ : MethodName)) (z := (⟨"com/example/palimpsest/palimpsest/engine/LockKind", "coversRow", "()Z"⟩ : MethodName)) hown (mvT hZ (hw _ (List.mem_of_getElem? (i := 20) rfl))) (mvT hZ (hw _ (List.mem_of_getElem? (i := 21) rfl))) (notFace_of_selects (args := #[]) (mvT hZ (hw _ (List.mem_of_getElem? (i := 23) rfl)))) (mvT hZ (hw _ (List.mem_of_getElem? (i := 23) rfl))) (mvT hZ (hw _ (List.mem_of_getElem? (i := 22) rfl))) (by decide) (backOf (W := 1) (rm7 l Z a0 hw [] w0 w1 w2 w3 h0 n0 hWd O0) hZ (hw _ (List.mem_of_getElem? (i := 24) rfl)) (hw _ (List.mem_of_getElem? (i := 1) rfl)) (by decide) (by decide)) q26a q26c (g := (mkF m 85 #[.val (.int i0), .val (.int (1 : Int32)), .val (.ref w3), .val (.ref w3), .val (.ref w3)] [(.ref w3), (.int (0 : Int32))])) rfl (by rw [hml]; rfl) (Steps.refl _) (argsL := []) (rest := [(.int (0 : Int32))]) (lenOf pd1 rfl) rfl (by show 2 * 0 + _ ≤ _; exact Nat.le_of_eq rfl) (hb hby at_85) (fun _ _ => ⟨rfl, e25, (by decide : 0 + 0 ≤ _), (by decide : 0 + 0 ≤ _)⟩)
    dsimp only [Pt.U, Pt.locs, Pt.cells, Pt.slots] at X26 l26 y26 z26 st26 hQ26
    subst l26 y26 z26
    obtain ⟨rfl, N26q, e26⟩ := hQ26
    have N26 := Fr.app N25 N26q
    obtain ⟨fs, hr, hrun, hended, hWr, hsame⟩ := X26.leave (v := some (.int (1 : Int32))) (fun h => by rw [Bd.returns] at h; cases h)
    refine ⟨_, _, pre1 _ ?_, hrun, hended, _, _, rfl, ?_, ⟨_, rfl⟩, hWr, hsame.mono (Nat.le_of_ble_eq_true rfl) (Nat.le_of_ble_eq_true rfl)⟩
    · show Steps p.tables e below (s₁.setTop (mkF m 2 #[.val (.int i0), .unset, .unset, .unset, .unset] [(.int (3 : Int32)), (.int i0)])) _
      refine XS.iand X0.here hx rfl (hb hby at_2) rfl ?_
      show Steps p.tables e below (s₁.setTop (mkF m 3 #[.val (.int i0), .unset, .unset, .unset, .unset] [(.int (i0 &&& (3 : Int32)))])) _
      rw [hk3]
      show Steps p.tables e below (s₁.setTop (mkF m 3 #[.val (.int i0), .unset, .unset, .unset, .unset] [(.int (1 : Int32))])) _
      refine XS.istoreN X0.here hx rfl (hb hby at_3) rfl (l' := #[.val (.int i0), .val (.int (1 : Int32)), .unset, .unset, .unset]) rfl ?_
      show Steps p.tables e below (s₁.setTop (mkF m 4 #[.val (.int i0), .val (.int (1 : Int32)), .unset, .unset, .unset] [])) _
      refine XS.iloadN X0.here hx rfl (hb hby at_4) rfl ?_
      show Steps p.tables e below (s₁.setTop (mkF m 5 #[.val (.int i0), .val (.int (1 : Int32)), .unset, .unset, .unset] [(.int (1 : Int32))])) _
      refine XS.ifYes X0.here hx rfl (pc0 := 5) (pc' := 19) rfl (hb hby at_5) rfl (by decide) (by decide) (by decide) ?_
      show Steps p.tables e below (s₁.setTop (mkF m 19 #[.val (.int i0), .val (.int (1 : Int32)), .unset, .unset, .unset] [])) _
      refine XS.iloadN X0.here hx rfl (hb hby at_19) rfl ?_
      show Steps p.tables e below (s₁.setTop (mkF m 20 #[.val (.int i0), .val (.int (1 : Int32)), .unset, .unset, .unset] [(.int (1 : Int32))])) _
      refine XS.iconst X0.here hx rfl (hb hby at_20) ?_
      show Steps p.tables e below (s₁.setTop (mkF m 21 #[.val (.int i0), .val (.int (1 : Int32)), .unset, .unset, .unset] [(.int (1 : Int32)), (.int (1 : Int32))])) _
      refine XS.icmpNo X0.here hx rfl (hb hby at_21) rfl (by decide) ?_
      show Steps p.tables e below (s₁.setTop (mkF m 24 #[.val (.int i0), .val (.int (1 : Int32)), .unset, .unset, .unset] [])) _
      refine st17 _ ?_
      show Steps p.tables e below (T17.setTop (mkF m 27 #[.val (.int i0), .val (.int (1 : Int32)), .unset, .unset, .unset] [(.ref w3)])) _
      refine XS.astoreN X17.here hx rfl (hb hby at_27) rfl rfl (l' := #[.val (.int i0), .val (.int (1 : Int32)), .val (.ref w3), .unset, .unset]) rfl ?_
      show Steps p.tables e below (T17.setTop (mkF m 28 #[.val (.int i0), .val (.int (1 : Int32)), .val (.ref w3), .unset, .unset] [])) _
      refine st18 _ ?_
      show Steps p.tables e below (T18.setTop (mkF m 31 #[.val (.int i0), .val (.int (1 : Int32)), .val (.ref w3), .unset, .unset] [(.ref w3)])) _
      refine XS.astoreN X18.here hx rfl (hb hby at_31) rfl rfl (l' := #[.val (.int i0), .val (.int (1 : Int32)), .val (.ref w3), .val (.ref w3), .unset]) rfl ?_
      show Steps p.tables e below (T18.setTop (mkF m 32 #[.val (.int i0), .val (.int (1 : Int32)), .val (.ref w3), .val (.ref w3), .unset] [])) _
      refine XS.goto X18.here hx rfl (pc0 := 32) (pc' := 59) rfl (hb hby at_32) (by decide) (by decide) ?_
      show Steps p.tables e below (T18.setTop (mkF m 59 #[.val (.int i0), .val (.int (1 : Int32)), .val (.ref w3), .val (.ref w3), .unset] [])) _
      refine XS.aloadN X18.here hx rfl (hb hby at_59) rfl rfl ?_
      show Steps p.tables e below (T18.setTop (mkF m 60 #[.val (.int i0), .val (.int (1 : Int32)), .val (.ref w3), .val (.ref w3), .unset] [(.ref w3)])) _
      refine st21.trans ?_
      show Steps p.tables e below (T21.setTop (mkF m 63 #[.val (.int i0), .val (.int (1 : Int32)), .val (.ref w3), .val (.ref w3), .unset] [(.ref w3)])) _
      refine XS.astore X21.here hx rfl (hb hby at_63) rfl rfl (l' := #[.val (.int i0), .val (.int (1 : Int32)), .val (.ref w3), .val (.ref w3), .val (.ref w3)]) rfl ?_
      show Steps p.tables e below (T21.setTop (mkF m 65 #[.val (.int i0), .val (.int (1 : Int32)), .val (.ref w3), .val (.ref w3), .val (.ref w3)] [])) _
      refine XS.aload X21.here hx rfl (hb hby at_65) rfl rfl ?_
      show Steps p.tables e below (T21.setTop (mkF m 67 #[.val (.int i0), .val (.int (1 : Int32)), .val (.ref w3), .val (.ref w3), .val (.ref w3)] [(.ref w3)])) _
      refine XS.aloadN X21.here hx rfl (hb hby at_67) rfl rfl ?_
      show Steps p.tables e below (T21.setTop (mkF m 68 #[.val (.int i0), .val (.int (1 : Int32)), .val (.ref w3), .val (.ref w3), .val (.ref w3)] [(.ref w3), (.ref w3)])) _
      refine Jvm.RoadKit.acmp (g := (mkF m 68 #[.val (.int i0), .val (.int (1 : Int32)), .val (.ref w3), .val (.ref w3), .val (.ref w3)] [(.ref w3), (.ref w3)])) X21 hx rfl rfl rfl (pc0 := 68) (pc' := 71) (same := true) rfl (hb hby at_68) rfl (decide_eq_true rfl) (by decide) (by decide) ?_
      show Steps p.tables e below (T21.setTop (mkF m 71 #[.val (.int i0), .val (.int (1 : Int32)), .val (.ref w3), .val (.ref w3), .val (.ref w3)] [])) _
      refine XS.aload X21.here hx rfl (hb hby at_71) rfl rfl ?_
      show Steps p.tables e below (T21.setTop (mkF m 73 #[.val (.int i0), .val (.int (1 : Int32)), .val (.ref w3), .val (.ref w3), .val (.ref w3)] [(.ref w3)])) _
      refine st23.trans ?_
      show Steps p.tables e below (T23.setTop (mkF m 76 #[.val (.int i0), .val (.int (1 : Int32)), .val (.ref w3), .val (.ref w3), .val (.ref w3)] [(.int (1 : Int32))])) _
      refine XS.ifNo X23.here hx rfl (hb hby at_76) rfl (by decide) ?_
      show Steps p.tables e below (T23.setTop (mkF m 79 #[.val (.int i0), .val (.int (1 : Int32)), .val (.ref w3), .val (.ref w3), .val (.ref w3)] [])) _
      refine XS.aload X23.here hx rfl (hb hby at_79) rfl rfl ?_
      show Steps p.tables e below (T23.setTop (mkF m 81 #[.val (.int i0), .val (.int (1 : Int32)), .val (.ref w3), .val (.ref w3), .val (.ref w3)] [(.ref w3)])) _
      refine st25.trans ?_
      show Steps p.tables e below (T25.setTop (mkF m 84 #[.val (.int i0), .val (.int (1 : Int32)), .val (.ref w3), .val (.ref w3), .val (.ref w3)] [(.int (0 : Int32))])) _
      refine XS.aloadN X25.here hx rfl (hb hby at_84) rfl rfl ?_
      show Steps p.tables e below (T25.setTop (mkF m 85 #[.val (.int i0), .val (.int (1 : Int32)), .val (.ref w3), .val (.ref w3), .val (.ref w3)] [(.ref w3), (.int (0 : Int32))])) _
      refine st26.trans ?_
      show Steps p.tables e below (T26.setTop (mkF m 88 #[.val (.int i0), .val (.int (1 : Int32)), .val (.ref w3), .val (.ref w3), .val (.ref w3)] [(.int (0 : Int32)), (.int (0 : Int32))])) _
      refine XS.icmpNo X26.here hx rfl (hb hby at_88) rfl (by decide) ?_
      show Steps p.tables e below (T26.setTop (mkF m 91 #[.val (.int i0), .val (.int (1 : Int32)), .val (.ref w3), .val (.ref w3), .val (.ref w3)] [])) _
      refine XS.iconst X26.here hx rfl (hb hby at_91) ?_
      show Steps p.tables e below (T26.setTop (mkF m 92 #[.val (.int i0), .val (.int (1 : Int32)), .val (.ref w3), .val (.ref w3), .val (.ref w3)] [(.int (1 : Int32))])) _
      refine XS.goto X26.here hx rfl (pc0 := 92) (pc' := 96) rfl (hb hby at_92) (by decide) (by decide) ?_
      show Steps p.tables e below (T26.setTop (mkF m 96 #[.val (.int i0), .val (.int (1 : Int32)), .val (.ref w3), .val (.ref w3), .val (.ref w3)] [(.int (1 : Int32))])) _
      exact retN X26 hx (t := .boolean) Bd.returns (by simp) (hb hby at_96) hr
    · show Ql n0 _ T26.heap _
      exact ⟨rfl, N26⟩
  · obtain ⟨T27, X27, e27, st27⟩ := getS2 X0 hx hZ hown (host := "") (Or.inl (hw _ (List.mem_of_getElem? (i := 3) rfl))) Via.refl e0 (wS1.ext O0.2) (g := (mkF m 40 #[.val (.int i0), .val (.int (2 : Int32)), .unset, .unset, .unset] [])) rfl (hb hby at_40)
    obtain ⟨T28, X28, e28, st28⟩ := getS2 X27 hx hZ hown (host := "") (Or.inl (hw _ (List.mem_of_getElem? (i := 3) rfl))) Via.refl e27 (wS1.ext O0.2) (g := (mkF m 44 #[.val (.int i0), .val (.int (2 : Int32)), .val (.ref w1), .unset, .unset] [])) rfl (hb hby at_44)
    obtain ⟨cq31, kq31, q31a, q31b, q31c⟩ := isOf hZ e28 (wE1.ext O0.2)
    obtain ⟨_, _, ⟨T31, L31, k31, n31⟩, -, X31, ⟨Lc31, hQ31, l31, y31, z31⟩, st31⟩ := X28.virtualBack hx (y := (⟨"com/example/palimpsest/palimpsest/engine/LockKind", "withGap", "()Lcom/example/palimpsest/palimpsest/engine/LockKind;"⟩ : MethodName)) (z := (⟨"com/example/palimpsest/palimpsest/engine/LockKind", "withGap", "()Lcom/example/palimpsest/palimpsest/engine/LockKind;"⟩ : MethodName)) hown (mvT hZ (hw _ (List.mem_of_getElem? (i := 5) rfl))) (mvT hZ (hw _ (List.mem_of_getElem? (i := 6) rfl))) (notFace_of_selects (args := #[]) (mvT hZ (hw _ (List.mem_of_getElem? (i := 8) rfl)))) (mvT hZ (hw _ (List.mem_of_getElem? (i := 8) rfl))) (mvT hZ (hw _ (List.mem_of_getElem? (i := 7) rfl))) (by decide) (backOf (W := 0) (rm8 l Z a0 hw [] w0 w1 w2 w3 h0 n0 hWd O0) hZ (hw _ (List.mem_of_getElem? (i := 9) rfl)) (hw _ (List.mem_of_getElem? (i := 1) rfl)) (by decide) (by decide)) q31a q31c (g := (mkF m 60 #[.val (.int i0), .val (.int (2 : Int32)), .val (.ref w1), .val (.ref w1), .unset] [(.ref w1)])) rfl (by rw [hml]; rfl) (Steps.refl _) (argsL := []) (rest := []) (lenOf pd0 rfl) rfl (by show 2 * 0 + _ ≤ _; exact Nat.le_of_eq rfl) (hb hby at_60) (fun _ _ => ⟨rfl, e28, (by decide : 0 + 0 ≤ _), (by decide : 0 + 0 ≤ _)⟩)
    dsimp only [Pt.U, Pt.locs, Pt.cells, Pt.slots] at X31 l31 y31 z31 st31 hQ31
    subst l31 y31 z31
    obtain ⟨rfl, N31q, e31⟩ := hQ31
    have N31 := Fr.app N0 N31q
    obtain ⟨cq32, kq32, q32a, q32b, q32c⟩ := isOf hZ e31 (wE1.ext O0.2)
    obtain ⟨_, _, ⟨T32, L32, k32, n32⟩, -, X32, ⟨Lc32, hQ32, l32, y32, z32⟩, st32⟩ := X31.virtualBack hx (y := (⟨"com/example/palimpsest/palimpsest/engine/LockKind", "coversGap", "()Z"⟩ : MethodName)) (z := (⟨"com/example/palimpsest/palimpsest/engine/LockKind", "coversGap", "()Z"⟩ : MethodName)) hown (mvT hZ (hw _ (List.mem_of_getElem? (i := 13) rfl))) (mvT hZ (hw _ (List.mem_of_getElem? (i := 14) rfl))) (notFace_of_selects (args := #[]) (mvT hZ (hw _ (List.mem_of_getElem? (i := 16) rfl)))) (mvT hZ (hw _ (List.mem_of_getElem? (i := 16) rfl))) (mvT hZ (hw _ (List.mem_of_getElem? (i := 15) rfl))) (by decide) (backOf (W := 0) (rm2 l Z a0 hw [] w0 w1 w2 w3 h0 n0 hWd O0) hZ (hw _ (List.mem_of_getElem? (i := 17) rfl)) (hw _ (List.mem_of_getElem? (i := 1) rfl)) (by decide) (by decide)) q32a q32c (g := (mkF m 73 #[.val (.int i0), .val (.int (2 : Int32)), .val (.ref w1), .val (.ref w1), .val (.ref w1)] [(.ref w1)])) rfl (by rw [hml]; rfl) (Steps.refl _) (argsL := []) (rest := []) (lenOf pd1 rfl) rfl (by show 2 * 0 + _ ≤ _; exact Nat.le_of_eq rfl) (hb hby at_73) (fun _ _ => ⟨rfl, e31, (by decide : 0 + 0 ≤ _), (by decide : 0 + 0 ≤ _)⟩)
    dsimp only [Pt.U, Pt.locs, Pt.cells, Pt.slots] at X32 l32 y32 z32 st32 hQ32
    subst l32 y32 z32
    obtain ⟨rfl, N32q, e32⟩ := hQ32
    have N32 := Fr.app N31 N32q
    obtain ⟨cq33, kq33, q33a, q33b, q33c⟩ := isOf hZ e32 (wE1.ext O0.2)
    obtain ⟨_, _, ⟨T33, L33, k33, n33⟩, -, X33, ⟨Lc33, hQ33, l33, y33, z33⟩, st33⟩ := X32.virtualBack hx (y := (⟨"com/example/palimpsest/palimpsest/engine/LockKind", "coversRow", "()Z"⟩ : MethodName)) (z := (⟨"com/example/palimpsest/palimpsest/engine/LockKind", "coversRow", "()Z"⟩ : MethodName)) hown (mvT hZ (hw _ (List.mem_of_getElem? (i := 20) rfl))) (mvT hZ (hw _ (List.mem_of_getElem? (i := 21) rfl))) (notFace_of_selects (args := #[]) (mvT hZ (hw _ (List.mem_of_getElem? (i := 23) rfl)))) (mvT hZ (hw _ (List.mem_of_getElem? (i := 23) rfl))) (mvT hZ (hw _ (List.mem_of_getElem? (i := 22) rfl))) (by decide) (backOf (W := 0) (rm3 l Z a0 hw [] w0 w1 w2 w3 h0 n0 hWd O0) hZ (hw _ (List.mem_of_getElem? (i := 24) rfl)) (hw _ (List.mem_of_getElem? (i := 1) rfl)) (by decide) (by decide)) q33a q33c (g := (mkF m 81 #[.val (.int i0), .val (.int (2 : Int32)), .val (.ref w1), .val (.ref w1), .val (.ref w1)] [(.ref w1)])) rfl (by rw [hml]; rfl) (Steps.refl _) (argsL := []) (rest := []) (lenOf pd1 rfl) rfl (by show 2 * 0 + _ ≤ _; exact Nat.le_of_eq rfl) (hb hby at_81) (fun _ _ => ⟨rfl, e32, (by decide : 0 + 0 ≤ _), (by decide : 0 + 0 ≤ _)⟩)
    dsimp only [Pt.U, Pt.locs, Pt.cells, Pt.slots] at X33 l33 y33 z33 st33 hQ33
    subst l33 y33 z33
    obtain ⟨rfl, N33q, e33⟩ := hQ33
    have N33 := Fr.app N32 N33q
    obtain ⟨cq34, kq34, q34a, q34b, q34c⟩ := isOf hZ e33 (wE1.ext O0.2)
    obtain ⟨_, _, ⟨T34, L34, k34, n34⟩, -, X34, ⟨Lc34, hQ34, l34, y34, z34⟩, st34⟩ := X33.virtualBack hx (y := (⟨"com/example/palimpsest/palimpsest/engine/LockKind", "coversRow", "()Z"⟩ : MethodName)) (z := (⟨"com/example/palimpsest/palimpsest/engine/LockKind", "coversRow", "()Z"⟩ : MethodName)) hown (mvT hZ (hw _ (List.mem_of_getElem? (i := 20) rfl))) (mvT hZ (hw _ (List.mem_of_getElem? (i := 21) rfl))) (notFace_of_selects (args := #[]) (mvT hZ (hw _ (List.mem_of_getElem? (i := 23) rfl)))) (mvT hZ (hw _ (List.mem_of_getElem? (i := 23) rfl))) (mvT hZ (hw _ (List.mem_of_getElem? (i := 22) rfl))) (by decide) (backOf (W := 1) (rm3 l Z a0 hw [] w0 w1 w2 w3 h0 n0 hWd O0) hZ (hw _ (List.mem_of_getElem? (i := 24) rfl)) (hw _ (List.mem_of_getElem? (i := 1) rfl)) (by decide) (by decide)) q34a q34c (g := (mkF m 85 #[.val (.int i0), .val (.int (2 : Int32)), .val (.ref w1), .val (.ref w1), .val (.ref w1)] [(.ref w1), (.int (1 : Int32))])) rfl (by rw [hml]; rfl) (Steps.refl _) (argsL := []) (rest := [(.int (1 : Int32))]) (lenOf pd1 rfl) rfl (by show 2 * 0 + _ ≤ _; exact Nat.le_of_eq rfl) (hb hby at_85) (fun _ _ => ⟨rfl, e33, (by decide : 0 + 0 ≤ _), (by decide : 0 + 0 ≤ _)⟩)
    dsimp only [Pt.U, Pt.locs, Pt.cells, Pt.slots] at X34 l34 y34 z34 st34 hQ34
    subst l34 y34 z34
    obtain ⟨rfl, N34q, e34⟩ := hQ34
    have N34 := Fr.app N33 N34q
    obtain ⟨fs, hr, hrun, hended, hWr, hsame⟩ := X34.leave (v := some (.int (1 : Int32))) (fun h => by rw [Bd.returns] at h; cases h)
    refine ⟨_, _, pre1 _ ?_, hrun, hended, _, _, rfl, ?_, ⟨_, rfl⟩, hWr, hsame.mono (Nat.le_of_ble_eq_true rfl) (Nat.le_of_ble_eq_true rfl)⟩
    · show Steps p.tables e below (s₁.setTop (mkF m 2 #[.val (.int i0), .unset, .unset, .unset, .unset] [(.int (3 : Int32)), (.int i0)])) _
      refine XS.iand X0.here hx rfl (hb hby at_2) rfl ?_
      show Steps p.tables e below (s₁.setTop (mkF m 3 #[.val (.int i0), .unset, .unset, .unset, .unset] [(.int (i0 &&& (3 : Int32)))])) _
      rw [hk4]
      show Steps p.tables e below (s₁.setTop (mkF m 3 #[.val (.int i0), .unset, .unset, .unset, .unset] [(.int (2 : Int32))])) _
      refine XS.istoreN X0.here hx rfl (hb hby at_3) rfl (l' := #[.val (.int i0), .val (.int (2 : Int32)), .unset, .unset, .unset]) rfl ?_
      show Steps p.tables e below (s₁.setTop (mkF m 4 #[.val (.int i0), .val (.int (2 : Int32)), .unset, .unset, .unset] [])) _
      refine XS.iloadN X0.here hx rfl (hb hby at_4) rfl ?_
      show Steps p.tables e below (s₁.setTop (mkF m 5 #[.val (.int i0), .val (.int (2 : Int32)), .unset, .unset, .unset] [(.int (2 : Int32))])) _
      refine XS.ifYes X0.here hx rfl (pc0 := 5) (pc' := 19) rfl (hb hby at_5) rfl (by decide) (by decide) (by decide) ?_
      show Steps p.tables e below (s₁.setTop (mkF m 19 #[.val (.int i0), .val (.int (2 : Int32)), .unset, .unset, .unset] [])) _
      refine XS.iloadN X0.here hx rfl (hb hby at_19) rfl ?_
      show Steps p.tables e below (s₁.setTop (mkF m 20 #[.val (.int i0), .val (.int (2 : Int32)), .unset, .unset, .unset] [(.int (2 : Int32))])) _
      refine XS.iconst X0.here hx rfl (hb hby at_20) ?_
      show Steps p.tables e below (s₁.setTop (mkF m 21 #[.val (.int i0), .val (.int (2 : Int32)), .unset, .unset, .unset] [(.int (1 : Int32)), (.int (2 : Int32))])) _
      refine XS.icmpYes X0.here hx rfl (pc0 := 21) (pc' := 35) rfl (hb hby at_21) rfl (by decide) (by decide) (by decide) ?_
      show Steps p.tables e below (s₁.setTop (mkF m 35 #[.val (.int i0), .val (.int (2 : Int32)), .unset, .unset, .unset] [])) _
      refine XS.iloadN X0.here hx rfl (hb hby at_35) rfl ?_
      show Steps p.tables e below (s₁.setTop (mkF m 36 #[.val (.int i0), .val (.int (2 : Int32)), .unset, .unset, .unset] [(.int (2 : Int32))])) _
      refine XS.iconst X0.here hx rfl (hb hby at_36) ?_
      show Steps p.tables e below (s₁.setTop (mkF m 37 #[.val (.int i0), .val (.int (2 : Int32)), .unset, .unset, .unset] [(.int (2 : Int32)), (.int (2 : Int32))])) _
      refine XS.icmpNo X0.here hx rfl (hb hby at_37) rfl (by decide) ?_
      show Steps p.tables e below (s₁.setTop (mkF m 40 #[.val (.int i0), .val (.int (2 : Int32)), .unset, .unset, .unset] [])) _
      refine st27 _ ?_
      show Steps p.tables e below (T27.setTop (mkF m 43 #[.val (.int i0), .val (.int (2 : Int32)), .unset, .unset, .unset] [(.ref w1)])) _
      refine XS.astoreN X27.here hx rfl (hb hby at_43) rfl rfl (l' := #[.val (.int i0), .val (.int (2 : Int32)), .val (.ref w1), .unset, .unset]) rfl ?_
      show Steps p.tables e below (T27.setTop (mkF m 44 #[.val (.int i0), .val (.int (2 : Int32)), .val (.ref w1), .unset, .unset] [])) _
      refine st28 _ ?_
      show Steps p.tables e below (T28.setTop (mkF m 47 #[.val (.int i0), .val (.int (2 : Int32)), .val (.ref w1), .unset, .unset] [(.ref w1)])) _
      refine XS.astoreN X28.here hx rfl (hb hby at_47) rfl rfl (l' := #[.val (.int i0), .val (.int (2 : Int32)), .val (.ref w1), .val (.ref w1), .unset]) rfl ?_
      show Steps p.tables e below (T28.setTop (mkF m 48 #[.val (.int i0), .val (.int (2 : Int32)), .val (.ref w1), .val (.ref w1), .unset] [])) _
      refine XS.goto X28.here hx rfl (pc0 := 48) (pc' := 59) rfl (hb hby at_48) (by decide) (by decide) ?_
      show Steps p.tables e below (T28.setTop (mkF m 59 #[.val (.int i0), .val (.int (2 : Int32)), .val (.ref w1), .val (.ref w1), .unset] [])) _
      refine XS.aloadN X28.here hx rfl (hb hby at_59) rfl rfl ?_
      show Steps p.tables e below (T28.setTop (mkF m 60 #[.val (.int i0), .val (.int (2 : Int32)), .val (.ref w1), .val (.ref w1), .unset] [(.ref w1)])) _
      refine st31.trans ?_
      show Steps p.tables e below (T31.setTop (mkF m 63 #[.val (.int i0), .val (.int (2 : Int32)), .val (.ref w1), .val (.ref w1), .unset] [(.ref w1)])) _
      refine XS.astore X31.here hx rfl (hb hby at_63) rfl rfl (l' := #[.val (.int i0), .val (.int (2 : Int32)), .val (.ref w1), .val (.ref w1), .val (.ref w1)]) rfl ?_
      show Steps p.tables e below (T31.setTop (mkF m 65 #[.val (.int i0), .val (.int (2 : Int32)), .val (.ref w1), .val (.ref w1), .val (.ref w1)] [])) _
      refine XS.aload X31.here hx rfl (hb hby at_65) rfl rfl ?_
      show Steps p.tables e below (T31.setTop (mkF m 67 #[.val (.int i0), .val (.int (2 : Int32)), .val (.ref w1), .val (.ref w1), .val (.ref w1)] [(.ref w1)])) _
      refine XS.aloadN X31.here hx rfl (hb hby at_67) rfl rfl ?_
      show Steps p.tables e below (T31.setTop (mkF m 68 #[.val (.int i0), .val (.int (2 : Int32)), .val (.ref w1), .val (.ref w1), .val (.ref w1)] [(.ref w1), (.ref w1)])) _
      refine Jvm.RoadKit.acmp (g := (mkF m 68 #[.val (.int i0), .val (.int (2 : Int32)), .val (.ref w1), .val (.ref w1), .val (.ref w1)] [(.ref w1), (.ref w1)])) X31 hx rfl rfl rfl (pc0 := 68) (pc' := 71) (same := true) rfl (hb hby at_68) rfl (decide_eq_true rfl) (by decide) (by decide) ?_
      show Steps p.tables e below (T31.setTop (mkF m 71 #[.val (.int i0), .val (.int (2 : Int32)), .val (.ref w1), .val (.ref w1), .val (.ref w1)] [])) _
      refine XS.aload X31.here hx rfl (hb hby at_71) rfl rfl ?_
      show Steps p.tables e below (T31.setTop (mkF m 73 #[.val (.int i0), .val (.int (2 : Int32)), .val (.ref w1), .val (.ref w1), .val (.ref w1)] [(.ref w1)])) _
      refine st32.trans ?_
      show Steps p.tables e below (T32.setTop (mkF m 76 #[.val (.int i0), .val (.int (2 : Int32)), .val (.ref w1), .val (.ref w1), .val (.ref w1)] [(.int (1 : Int32))])) _
      refine XS.ifNo X32.here hx rfl (hb hby at_76) rfl (by decide) ?_
      show Steps p.tables e below (T32.setTop (mkF m 79 #[.val (.int i0), .val (.int (2 : Int32)), .val (.ref w1), .val (.ref w1), .val (.ref w1)] [])) _
      refine XS.aload X32.here hx rfl (hb hby at_79) rfl rfl ?_
      show Steps p.tables e below (T32.setTop (mkF m 81 #[.val (.int i0), .val (.int (2 : Int32)), .val (.ref w1), .val (.ref w1), .val (.ref w1)] [(.ref w1)])) _
      refine st33.trans ?_
      show Steps p.tables e below (T33.setTop (mkF m 84 #[.val (.int i0), .val (.int (2 : Int32)), .val (.ref w1), .val (.ref w1), .val (.ref w1)] [(.int (1 : Int32))])) _
      refine XS.aloadN X33.here hx rfl (hb hby at_84) rfl rfl ?_
      show Steps p.tables e below (T33.setTop (mkF m 85 #[.val (.int i0), .val (.int (2 : Int32)), .val (.ref w1), .val (.ref w1), .val (.ref w1)] [(.ref w1), (.int (1 : Int32))])) _
      refine st34.trans ?_
      show Steps p.tables e below (T34.setTop (mkF m 88 #[.val (.int i0), .val (.int (2 : Int32)), .val (.ref w1), .val (.ref w1), .val (.ref w1)] [(.int (1 : Int32)), (.int (1 : Int32))])) _
      refine XS.icmpNo X34.here hx rfl (hb hby at_88) rfl (by decide) ?_
      show Steps p.tables e below (T34.setTop (mkF m 91 #[.val (.int i0), .val (.int (2 : Int32)), .val (.ref w1), .val (.ref w1), .val (.ref w1)] [])) _
      refine XS.iconst X34.here hx rfl (hb hby at_91) ?_
      show Steps p.tables e below (T34.setTop (mkF m 92 #[.val (.int i0), .val (.int (2 : Int32)), .val (.ref w1), .val (.ref w1), .val (.ref w1)] [(.int (1 : Int32))])) _
      refine XS.goto X34.here hx rfl (pc0 := 92) (pc' := 96) rfl (hb hby at_92) (by decide) (by decide) ?_
      show Steps p.tables e below (T34.setTop (mkF m 96 #[.val (.int i0), .val (.int (2 : Int32)), .val (.ref w1), .val (.ref w1), .val (.ref w1)] [(.int (1 : Int32))])) _
      exact retN X34 hx (t := .boolean) Bd.returns (by simp) (hb hby at_96) hr
    · show Ql n0 _ T34.heap _
      exact ⟨rfl, N34⟩
  · obtain ⟨T35, X35, e35, st35⟩ := getS2 X0 hx hZ hown (host := "") (Or.inl (hw _ (List.mem_of_getElem? (i := 25) rfl))) Via.refl e0 (wS2.ext O0.2) (g := (mkF m 51 #[.val (.int i0), .val (.int (3 : Int32)), .unset, .unset, .unset] [])) rfl (hb hby at_51)
    obtain ⟨T36, X36, e36, st36⟩ := getS2 X35 hx hZ hown (host := "") (Or.inl (hw _ (List.mem_of_getElem? (i := 27) rfl))) Via.refl e35 (wS3.ext O0.2) (g := (mkF m 55 #[.val (.int i0), .val (.int (3 : Int32)), .val (.ref w2), .unset, .unset] [])) rfl (hb hby at_55)
    obtain ⟨cq39, kq39, q39a, q39b, q39c⟩ := isOf hZ e36 (wE2.ext O0.2)
    obtain ⟨_, _, ⟨T39, L39, k39, n39⟩, -, X39, ⟨Lc39, hQ39, l39, y39, z39⟩, st39⟩ := X36.virtualBack hx (y := (⟨"com/example/palimpsest/palimpsest/engine/LockKind", "withGap", "()Lcom/example/palimpsest/palimpsest/engine/LockKind;"⟩ : MethodName)) (z := (⟨"com/example/palimpsest/palimpsest/engine/LockKind", "withGap", "()Lcom/example/palimpsest/palimpsest/engine/LockKind;"⟩ : MethodName)) hown (mvT hZ (hw _ (List.mem_of_getElem? (i := 5) rfl))) (mvT hZ (hw _ (List.mem_of_getElem? (i := 6) rfl))) (notFace_of_selects (args := #[]) (mvT hZ (hw _ (List.mem_of_getElem? (i := 8) rfl)))) (mvT hZ (hw _ (List.mem_of_getElem? (i := 8) rfl))) (mvT hZ (hw _ (List.mem_of_getElem? (i := 7) rfl))) (by decide) (backOf (W := 0) (rm9 l Z a0 hw [] w0 w1 w2 w3 h0 n0 hWd O0) hZ (hw _ (List.mem_of_getElem? (i := 9) rfl)) (hw _ (List.mem_of_getElem? (i := 1) rfl)) (by decide) (by decide)) q39a q39c (g := (mkF m 60 #[.val (.int i0), .val (.int (3 : Int32)), .val (.ref w2), .val (.ref w3), .unset] [(.ref w2)])) rfl (by rw [hml]; rfl) (Steps.refl _) (argsL := []) (rest := []) (lenOf pd0 rfl) rfl (by show 2 * 0 + _ ≤ _; exact Nat.le_of_eq rfl) (hb hby at_60) (fun _ _ => ⟨rfl, e36, (by decide : 0 + 0 ≤ _), (by decide : 0 + 0 ≤ _)⟩)
    dsimp only [Pt.U, Pt.locs, Pt.cells, Pt.slots] at X39 l39 y39 z39 st39 hQ39
    subst l39 y39 z39
    obtain ⟨rfl, N39q, e39⟩ := hQ39
    have N39 := Fr.app N0 N39q
    obtain ⟨cq40, kq40, q40a, q40b, q40c⟩ := isOf hZ e39 (wE3.ext O0.2)
    obtain ⟨_, _, ⟨T40, L40, k40, n40⟩, -, X40, ⟨Lc40, hQ40, l40, y40, z40⟩, st40⟩ := X39.virtualBack hx (y := (⟨"com/example/palimpsest/palimpsest/engine/LockKind", "coversGap", "()Z"⟩ : MethodName)) (z := (⟨"com/example/palimpsest/palimpsest/engine/LockKind", "coversGap", "()Z"⟩ : MethodName)) hown (mvT hZ (hw _ (List.mem_of_getElem? (i := 13) rfl))) (mvT hZ (hw _ (List.mem_of_getElem? (i := 14) rfl))) (notFace_of_selects (args := #[]) (mvT hZ (hw _ (List.mem_of_getElem? (i := 16) rfl)))) (mvT hZ (hw _ (List.mem_of_getElem? (i := 16) rfl))) (mvT hZ (hw _ (List.mem_of_getElem? (i := 15) rfl))) (by decide) (backOf (W := 0) (rm6 l Z a0 hw [] w0 w1 w2 w3 h0 n0 hWd O0) hZ (hw _ (List.mem_of_getElem? (i := 17) rfl)) (hw _ (List.mem_of_getElem? (i := 1) rfl)) (by decide) (by decide)) q40a q40c (g := (mkF m 73 #[.val (.int i0), .val (.int (3 : Int32)), .val (.ref w2), .val (.ref w3), .val (.ref w3)] [(.ref w3)])) rfl (by rw [hml]; rfl) (Steps.refl _) (argsL := []) (rest := []) (lenOf pd1 rfl) rfl (by show 2 * 0 + _ ≤ _; exact Nat.le_of_eq rfl) (hb hby at_73) (fun _ _ => ⟨rfl, e39, (by decide : 0 + 0 ≤ _), (by decide : 0 + 0 ≤ _)⟩)
    dsimp only [Pt.U, Pt.locs, Pt.cells, Pt.slots] at X40 l40 y40 z40 st40 hQ40
    subst l40 y40 z40
    obtain ⟨rfl, N40q, e40⟩ := hQ40
    have N40 := Fr.app N39 N40q
    obtain ⟨cq41, kq41, q41a, q41b, q41c⟩ := isOf hZ e40 (wE3.ext O0.2)
    obtain ⟨_, _, ⟨T41, L41, k41, n41⟩, -, X41, ⟨Lc41, hQ41, l41, y41, z41⟩, st41⟩ := X40.virtualBack hx (y := (⟨"com/example/palimpsest/palimpsest/engine/LockKind", "coversRow", "()Z"⟩ : MethodName)) (z := (⟨"com/example/palimpsest/palimpsest/engine/LockKind", "coversRow", "()Z"⟩ : MethodName)) hown (mvT hZ (hw _ (List.mem_of_getElem? (i := 20) rfl))) (mvT hZ (hw _ (List.mem_of_getElem? (i := 21) rfl))) (notFace_of_selects (args := #[]) (mvT hZ (hw _ (List.mem_of_getElem? (i := 23) rfl)))) (mvT hZ (hw _ (List.mem_of_getElem? (i := 23) rfl))) (mvT hZ (hw _ (List.mem_of_getElem? (i := 22) rfl))) (by decide) (backOf (W := 0) (rm7 l Z a0 hw [] w0 w1 w2 w3 h0 n0 hWd O0) hZ (hw _ (List.mem_of_getElem? (i := 24) rfl)) (hw _ (List.mem_of_getElem? (i := 1) rfl)) (by decide) (by decide)) q41a q41c (g := (mkF m 81 #[.val (.int i0), .val (.int (3 : Int32)), .val (.ref w2), .val (.ref w3), .val (.ref w3)] [(.ref w3)])) rfl (by rw [hml]; rfl) (Steps.refl _) (argsL := []) (rest := []) (lenOf pd1 rfl) rfl (by show 2 * 0 + _ ≤ _; exact Nat.le_of_eq rfl) (hb hby at_81) (fun _ _ => ⟨rfl, e40, (by decide : 0 + 0 ≤ _), (by decide : 0 + 0 ≤ _)⟩)
    dsimp only [Pt.U, Pt.locs, Pt.cells, Pt.slots] at X41 l41 y41 z41 st41 hQ41
    subst l41 y41 z41
    obtain ⟨rfl, N41q, e41⟩ := hQ41
    have N41 := Fr.app N40 N41q
    obtain ⟨cq43, kq43, q43a, q43b, q43c⟩ := isOf hZ e41 (wE2.ext O0.2)
    obtain ⟨_, _, ⟨T43, L43, k43, n43⟩, -, X43, ⟨Lc43, hQ43, l43, y43, z43⟩, st43⟩ := X41.virtualBack hx (y := (⟨"com/example/palimpsest/palimpsest/engine/LockKind", "coversRow", "()Z"⟩ : MethodName)) (z := (⟨"com/example/palimpsest/palimpsest/engine/LockKind", "coversRow", "()Z"⟩ : MethodName)) hown (mvT hZ (hw _ (List.mem_of_getElem? (i := 20) rfl))) (mvT hZ (hw _ (List.mem_of_getElem? (i := 21) rfl))) (notFace_of_selects (args := #[]) (mvT hZ (hw _ (List.mem_of_getElem? (i := 23) rfl)))) (mvT hZ (hw _ (List.mem_of_getElem? (i := 23) rfl))) (mvT hZ (hw _ (List.mem_of_getElem? (i := 22) rfl))) (by decide) (backOf (W := 1) (rm10 l Z a0 hw [] w0 w1 w2 w3 h0 n0 hWd O0) hZ (hw _ (List.mem_of_getElem? (i := 24) rfl)) (hw _ (List.mem_of_getElem? (i := 1) rfl)) (by decide) (by decide)) q43a q43c (g := (mkF m 85 #[.val (.int i0), .val (.int (3 : Int32)), .val (.ref w2), .val (.ref w3), .val (.ref w3)] [(.ref w2), (.int (0 : Int32))])) rfl (by rw [hml]; rfl) (Steps.refl _) (argsL := []) (rest := [(.int (0 : Int32))]) (lenOf pd1 rfl) rfl (by show 2 * 0 + _ ≤ _; exact Nat.le_of_eq rfl) (hb hby at_85) (fun _ _ => ⟨rfl, e41, (by decide : 0 + 0 ≤ _), (by decide : 0 + 0 ≤ _)⟩)
    dsimp only [Pt.U, Pt.locs, Pt.cells, Pt.slots] at X43 l43 y43 z43 st43 hQ43
    subst l43 y43 z43
    obtain ⟨rfl, N43q, e43⟩ := hQ43
    have N43 := Fr.app N41 N43q
    obtain ⟨fs, hr, hrun, hended, hWr, hsame⟩ := X43.leave (v := some (.int (1 : Int32))) (fun h => by rw [Bd.returns] at h; cases h)
    refine ⟨_, _, pre1 _ ?_, hrun, hended, _, _, rfl, ?_, ⟨_, rfl⟩, hWr, hsame.mono (Nat.le_of_ble_eq_true rfl) (Nat.le_of_ble_eq_true rfl)⟩
    · show Steps p.tables e below (s₁.setTop (mkF m 2 #[.val (.int i0), .unset, .unset, .unset, .unset] [(.int (3 : Int32)), (.int i0)])) _
      refine XS.iand X0.here hx rfl (hb hby at_2) rfl ?_
      show Steps p.tables e below (s₁.setTop (mkF m 3 #[.val (.int i0), .unset, .unset, .unset, .unset] [(.int (i0 &&& (3 : Int32)))])) _
      rw [hk5]
      show Steps p.tables e below (s₁.setTop (mkF m 3 #[.val (.int i0), .unset, .unset, .unset, .unset] [(.int (3 : Int32))])) _
      refine XS.istoreN X0.here hx rfl (hb hby at_3) rfl (l' := #[.val (.int i0), .val (.int (3 : Int32)), .unset, .unset, .unset]) rfl ?_
      show Steps p.tables e below (s₁.setTop (mkF m 4 #[.val (.int i0), .val (.int (3 : Int32)), .unset, .unset, .unset] [])) _
      refine XS.iloadN X0.here hx rfl (hb hby at_4) rfl ?_
      show Steps p.tables e below (s₁.setTop (mkF m 5 #[.val (.int i0), .val (.int (3 : Int32)), .unset, .unset, .unset] [(.int (3 : Int32))])) _
      refine XS.ifYes X0.here hx rfl (pc0 := 5) (pc' := 19) rfl (hb hby at_5) rfl (by decide) (by decide) (by decide) ?_
      show Steps p.tables e below (s₁.setTop (mkF m 19 #[.val (.int i0), .val (.int (3 : Int32)), .unset, .unset, .unset] [])) _
      refine XS.iloadN X0.here hx rfl (hb hby at_19) rfl ?_
      show Steps p.tables e below (s₁.setTop (mkF m 20 #[.val (.int i0), .val (.int (3 : Int32)), .unset, .unset, .unset] [(.int (3 : Int32))])) _
      refine XS.iconst X0.here hx rfl (hb hby at_20) ?_
      show Steps p.tables e below (s₁.setTop (mkF m 21 #[.val (.int i0), .val (.int (3 : Int32)), .unset, .unset, .unset] [(.int (1 : Int32)), (.int (3 : Int32))])) _
      refine XS.icmpYes X0.here hx rfl (pc0 := 21) (pc' := 35) rfl (hb hby at_21) rfl (by decide) (by decide) (by decide) ?_
      show Steps p.tables e below (s₁.setTop (mkF m 35 #[.val (.int i0), .val (.int (3 : Int32)), .unset, .unset, .unset] [])) _
      refine XS.iloadN X0.here hx rfl (hb hby at_35) rfl ?_
      show Steps p.tables e below (s₁.setTop (mkF m 36 #[.val (.int i0), .val (.int (3 : Int32)), .unset, .unset, .unset] [(.int (3 : Int32))])) _
      refine XS.iconst X0.here hx rfl (hb hby at_36) ?_
      show Steps p.tables e below (s₁.setTop (mkF m 37 #[.val (.int i0), .val (.int (3 : Int32)), .unset, .unset, .unset] [(.int (2 : Int32)), (.int (3 : Int32))])) _
      refine XS.icmpYes X0.here hx rfl (pc0 := 37) (pc' := 51) rfl (hb hby at_37) rfl (by decide) (by decide) (by decide) ?_
      show Steps p.tables e below (s₁.setTop (mkF m 51 #[.val (.int i0), .val (.int (3 : Int32)), .unset, .unset, .unset] [])) _
      refine st35 _ ?_
      show Steps p.tables e below (T35.setTop (mkF m 54 #[.val (.int i0), .val (.int (3 : Int32)), .unset, .unset, .unset] [(.ref w2)])) _
      refine XS.astoreN X35.here hx rfl (hb hby at_54) rfl rfl (l' := #[.val (.int i0), .val (.int (3 : Int32)), .val (.ref w2), .unset, .unset]) rfl ?_
      show Steps p.tables e below (T35.setTop (mkF m 55 #[.val (.int i0), .val (.int (3 : Int32)), .val (.ref w2), .unset, .unset] [])) _
      refine st36 _ ?_
      show Steps p.tables e below (T36.setTop (mkF m 58 #[.val (.int i0), .val (.int (3 : Int32)), .val (.ref w2), .unset, .unset] [(.ref w3)])) _
      refine XS.astoreN X36.here hx rfl (hb hby at_58) rfl rfl (l' := #[.val (.int i0), .val (.int (3 : Int32)), .val (.ref w2), .val (.ref w3), .unset]) rfl ?_
      show Steps p.tables e below (T36.setTop (mkF m 59 #[.val (.int i0), .val (.int (3 : Int32)), .val (.ref w2), .val (.ref w3), .unset] [])) _
      refine XS.aloadN X36.here hx rfl (hb hby at_59) rfl rfl ?_
      show Steps p.tables e below (T36.setTop (mkF m 60 #[.val (.int i0), .val (.int (3 : Int32)), .val (.ref w2), .val (.ref w3), .unset] [(.ref w2)])) _
      refine st39.trans ?_
      show Steps p.tables e below (T39.setTop (mkF m 63 #[.val (.int i0), .val (.int (3 : Int32)), .val (.ref w2), .val (.ref w3), .unset] [(.ref w3)])) _
      refine XS.astore X39.here hx rfl (hb hby at_63) rfl rfl (l' := #[.val (.int i0), .val (.int (3 : Int32)), .val (.ref w2), .val (.ref w3), .val (.ref w3)]) rfl ?_
      show Steps p.tables e below (T39.setTop (mkF m 65 #[.val (.int i0), .val (.int (3 : Int32)), .val (.ref w2), .val (.ref w3), .val (.ref w3)] [])) _
      refine XS.aload X39.here hx rfl (hb hby at_65) rfl rfl ?_
      show Steps p.tables e below (T39.setTop (mkF m 67 #[.val (.int i0), .val (.int (3 : Int32)), .val (.ref w2), .val (.ref w3), .val (.ref w3)] [(.ref w3)])) _
      refine XS.aloadN X39.here hx rfl (hb hby at_67) rfl rfl ?_
      show Steps p.tables e below (T39.setTop (mkF m 68 #[.val (.int i0), .val (.int (3 : Int32)), .val (.ref w2), .val (.ref w3), .val (.ref w3)] [(.ref w3), (.ref w3)])) _
      refine Jvm.RoadKit.acmp (g := (mkF m 68 #[.val (.int i0), .val (.int (3 : Int32)), .val (.ref w2), .val (.ref w3), .val (.ref w3)] [(.ref w3), (.ref w3)])) X39 hx rfl rfl rfl (pc0 := 68) (pc' := 71) (same := true) rfl (hb hby at_68) rfl (decide_eq_true rfl) (by decide) (by decide) ?_
      show Steps p.tables e below (T39.setTop (mkF m 71 #[.val (.int i0), .val (.int (3 : Int32)), .val (.ref w2), .val (.ref w3), .val (.ref w3)] [])) _
      refine XS.aload X39.here hx rfl (hb hby at_71) rfl rfl ?_
      show Steps p.tables e below (T39.setTop (mkF m 73 #[.val (.int i0), .val (.int (3 : Int32)), .val (.ref w2), .val (.ref w3), .val (.ref w3)] [(.ref w3)])) _
      refine st40.trans ?_
      show Steps p.tables e below (T40.setTop (mkF m 76 #[.val (.int i0), .val (.int (3 : Int32)), .val (.ref w2), .val (.ref w3), .val (.ref w3)] [(.int (1 : Int32))])) _
      refine XS.ifNo X40.here hx rfl (hb hby at_76) rfl (by decide) ?_
      show Steps p.tables e below (T40.setTop (mkF m 79 #[.val (.int i0), .val (.int (3 : Int32)), .val (.ref w2), .val (.ref w3), .val (.ref w3)] [])) _
      refine XS.aload X40.here hx rfl (hb hby at_79) rfl rfl ?_
      show Steps p.tables e below (T40.setTop (mkF m 81 #[.val (.int i0), .val (.int (3 : Int32)), .val (.ref w2), .val (.ref w3), .val (.ref w3)] [(.ref w3)])) _
      refine st41.trans ?_
      show Steps p.tables e below (T41.setTop (mkF m 84 #[.val (.int i0), .val (.int (3 : Int32)), .val (.ref w2), .val (.ref w3), .val (.ref w3)] [(.int (0 : Int32))])) _
      refine XS.aloadN X41.here hx rfl (hb hby at_84) rfl rfl ?_
      show Steps p.tables e below (T41.setTop (mkF m 85 #[.val (.int i0), .val (.int (3 : Int32)), .val (.ref w2), .val (.ref w3), .val (.ref w3)] [(.ref w2), (.int (0 : Int32))])) _
      refine st43.trans ?_
      show Steps p.tables e below (T43.setTop (mkF m 88 #[.val (.int i0), .val (.int (3 : Int32)), .val (.ref w2), .val (.ref w3), .val (.ref w3)] [(.int (0 : Int32)), (.int (0 : Int32))])) _
      refine XS.icmpNo X43.here hx rfl (hb hby at_88) rfl (by decide) ?_
      show Steps p.tables e below (T43.setTop (mkF m 91 #[.val (.int i0), .val (.int (3 : Int32)), .val (.ref w2), .val (.ref w3), .val (.ref w3)] [])) _
      refine XS.iconst X43.here hx rfl (hb hby at_91) ?_
      show Steps p.tables e below (T43.setTop (mkF m 92 #[.val (.int i0), .val (.int (3 : Int32)), .val (.ref w2), .val (.ref w3), .val (.ref w3)] [(.int (1 : Int32))])) _
      refine XS.goto X43.here hx rfl (pc0 := 92) (pc' := 96) rfl (hb hby at_92) (by decide) (by decide) ?_
      show Steps p.tables e below (T43.setTop (mkF m 96 #[.val (.int i0), .val (.int (3 : Int32)), .val (.ref w2), .val (.ref w3), .val (.ref w3)] [(.int (1 : Int32))])) _
      exact retN X43 hx (t := .boolean) Bd.returns (by simp) (hb hby at_96) hr
    · show Ql n0 _ T43.heap _
      exact ⟨rfl, N43⟩
set_option maxRecDepth 65536 in
set_option maxHeartbeats 40000000 in
theorem comes_1 {Post : Tables → Env → Array Value → State → Outcome → State → Prop} (hpost : ∀ tb e args s v u, (limb_1_1.after args s (.returned v) u = true ∧ limb_1_2.after args s (.returned v) u = true ∧ True) → FrameEnd s (.returned v) u (Jvm.fieldLocs frame_1_writes args s ++ Jvm.arrayLocs frame_1_arrays args s ++ Jvm.staticLocs frame_1_statics s) 0 0 → Post tb e args s (.returned v) u) :
    ArmFor flags0 classFile x code maxLocals ret World_1 tables_1 room_1 Calls_1 rest_1 Pre_1 Post := by
  intro l hfl _ _ p e ha hc hk s m args below hf hA hF happ hP
  obtain ⟨hcalls, hrest, hpre⟩ := hP
  obtain ⟨-, -, -, hnamed, -, -, -, hat⟩ := (Spec.applies_iff hf).mp happ
  obtain ⟨hg, hn⟩ := and_e (Cond.before_iff.mp (show (Jvm.Cond.and given_1 narrow_1).before args s = true from hpre))
  obtain ⟨gc, g0⟩ := and_e hg
  obtain ⟨x0, rfl⟩ : ∃ x0 : Value, args = #[x0] := by
    have hs : args.size = 1 := by simpa [Cond.value, given_1] using gc
    obtain ⟨L⟩ := args
    match L, hs with
    | [x0], _ => exact ⟨x0, rfl⟩
  have hw := fun d (hd : d ∈ tables_1) => atoms_spec (ws := Jvm.Cond.code x code maxLocals ret :: tables_1) hat d (List.mem_cons_of_mem _ hd)
  have hfit : Fit s := fun {y c} hc i hi => by
    obtain ⟨ha, rfl⟩ := Array.getElem?_eq_some_iff.mp hc
    have q := List.all_eq_true.mp ((Array.all_eq_true_iff_forall_mem.mp hF) _ (Array.getElem_mem ha)) i (List.mem_range.mpr hi)
    simpa [Array.getElem?_eq_getElem hi] using q
  obtain ⟨i0, ei0⟩ := is_v g0
  obtain rfl : x0 = (.int i0) := Option.some.inj ei0
  obtain ⟨c0, r0⟩ := and_e hn
  obtain ⟨c1, r1⟩ := and_e r0
  obtain ⟨c2, r2⟩ := and_e r1
  obtain ⟨c3, r3⟩ := and_e r2
  obtain ⟨c4, r4⟩ := and_e r3
  obtain ⟨c5, r5⟩ := and_e r4
  obtain ⟨c6, r6⟩ := and_e r5
  obtain ⟨c7, r7⟩ := and_e r6
  obtain ⟨c8, r8⟩ := and_e r7
  obtain ⟨c9, r9⟩ := and_e r8
  obtain ⟨c10, r10⟩ := and_e r9
  obtain ⟨w0, ev0⟩ := exa_v c0
  have wE0 : Exa s s.heap w0 "com/example/palimpsest/palimpsest/engine/LockKind" := Exa.start ev0 c0
  have wS0 : Sta s s.heap "com/example/palimpsest/palimpsest/engine/LockKind" "ROW" "Lcom/example/palimpsest/palimpsest/engine/LockKind;" (.ref w0) := Sta.start ev0 (Or.inr ⟨(hw _ (List.mem_of_getElem? (i := 1) rfl)), (hw _ (List.mem_of_getElem? (i := 2) rfl))⟩)
  obtain ⟨w1, ev1⟩ := exa_v c1
  have wE1 : Exa s s.heap w1 "com/example/palimpsest/palimpsest/engine/LockKind" := Exa.start ev1 c1
  have wS1 : Sta s s.heap "com/example/palimpsest/palimpsest/engine/LockKind" "NEXT_KEY" "Lcom/example/palimpsest/palimpsest/engine/LockKind;" (.ref w1) := Sta.start ev1 (Or.inr ⟨(hw _ (List.mem_of_getElem? (i := 1) rfl)), (hw _ (List.mem_of_getElem? (i := 4) rfl))⟩)
  obtain ⟨w2, ev2⟩ := exa_v c5
  have wE2 : Exa s s.heap w2 "com/example/palimpsest/palimpsest/engine/LockKind" := Exa.start ev2 c5
  have wS2 : Sta s s.heap "com/example/palimpsest/palimpsest/engine/LockKind" "INSERT" "Lcom/example/palimpsest/palimpsest/engine/LockKind;" (.ref w2) := Sta.start ev2 (Or.inr ⟨(hw _ (List.mem_of_getElem? (i := 1) rfl)), (hw _ (List.mem_of_getElem? (i := 26) rfl))⟩)
  obtain ⟨w3, ev3⟩ := exa_v c6
  have wE3 : Exa s s.heap w3 "com/example/palimpsest/palimpsest/engine/LockKind" := Exa.start ev3 c6
  have wS3 : Sta s s.heap "com/example/palimpsest/palimpsest/engine/LockKind" "GAP" "Lcom/example/palimpsest/palimpsest/engine/LockKind;" (.ref w3) := Sta.start ev3 (Or.inr ⟨(hw _ (List.mem_of_getElem? (i := 1) rfl)), (hw _ (List.mem_of_getElem? (i := 28) rfl))⟩)
  have wF0_coversRow : Fld s s.heap w0 "com/example/palimpsest/palimpsest/engine/LockKind" "coversRow" "Z" (.int (1 : Int32)) := Fld.start ((fld_at ev0).symm.trans (eqv_i (Term.int_eval _) c2))
  have wF1_coversGap : Fld s s.heap w1 "com/example/palimpsest/palimpsest/engine/LockKind" "coversGap" "Z" (.int (1 : Int32)) := Fld.start ((fld_at ev1).symm.trans (eqv_i (Term.int_eval _) c3))
  have wF1_coversRow : Fld s s.heap w1 "com/example/palimpsest/palimpsest/engine/LockKind" "coversRow" "Z" (.int (1 : Int32)) := Fld.start ((fld_at ev1).symm.trans (eqv_i (Term.int_eval _) c4))
  have wF2_coversRow : Fld s s.heap w2 "com/example/palimpsest/palimpsest/engine/LockKind" "coversRow" "Z" (.int (0 : Int32)) := Fld.start ((fld_at ev2).symm.trans (eqv_i (Term.int_eval _) c7))
  have wF3_coversGap : Fld s s.heap w3 "com/example/palimpsest/palimpsest/engine/LockKind" "coversGap" "Z" (.int (1 : Int32)) := Fld.start ((fld_at ev3).symm.trans (eqv_i (Term.int_eval _) c8))
  have wF3_coversRow : Fld s s.heap w3 "com/example/palimpsest/palimpsest/engine/LockKind" "coversRow" "Z" (.int (0 : Int32)) := Fld.start ((fld_at ev3).symm.trans (eqv_i (Term.int_eval _) c9))
  have wF0_coversGap : Fld s s.heap w0 "com/example/palimpsest/palimpsest/engine/LockKind" "coversGap" "Z" (.int (0 : Int32)) := Fld.start ((fld_at ev0).symm.trans (eqv_i (Term.int_eval _) c10))
  have wF2_coversGap : Fld s s.heap w2 "com/example/palimpsest/palimpsest/engine/LockKind" "coversGap" "Z" (.int (0 : Int32)) := Fld.start ((fld_at ev2).symm.trans (eqv_i (Term.int_eval _) r10))
  have hWd : Wd s w0 w1 w2 w3 := ⟨wS0, wE0, wS1, wE1, wS2, wE2, wS3, wE3, wF0_coversRow, wF1_coversGap, wF1_coversRow, wF2_coversRow, wF3_coversGap, wF3_coversRow, wF0_coversGap, wF2_coversGap, trivial⟩
  obtain ⟨n, o, h1, h2, h3, _, L, rfl, ⟨rfl, N⟩, hq⟩ := rm0 l s _ hw tables_1 w0 w1 w2 w3 i0 s.heap s.heap.size hWd (Old.start s) p e ha hc hk s m _ below hf ((Spec.applies_iff_loose hf).mp happ).1 ⟨rfl, State.Warmed39.refl s, rfl⟩ trivial
  exact ⟨n, _, h1, h2, h3, hpost _ _ _ _ _ _ ⟨Cond.after_iff.mpr rfl, Cond.after_iff.mpr (eq_i res_at (Term.int_eval (1)) rfl), trivial⟩ ⟨hq.1, hq.2.1, (hq.2.2.sift fun y hy => Or.inr (N y hy)).mono (by decide) (by decide)⟩⟩
theorem main_1_1 : Claimed_1_1 := comes_1 fun _ _ _ _ _ _ h hF => ⟨h.1, hF⟩
theorem main_1_2 : Claimed_1_2 := comes_1 fun _ _ _ _ _ _ h hF => ⟨h.2.1, hF⟩
end Jvm.Pilot.@@N@@
namespace Jvm.Pilot.@@N@@
open Jvm Jvm.ClassFile Sem Op Lib Jvm.Free Jvm.Stand Jvm.Pilot.@@N@@.Jvm.D
/-! MADE BY PROGRAM (witnessworld.py) out of the Statement's table words and the real class files: 12 classes; the members and pool entries that the words name. The judged class is class 1, her method 1. -/
namespace start1
open Jvm.ClassFile
def u (s : String) : CpInfo := .utf8 (stringToUtf16 s)
/-- a pool by its gaps: so many unusable entries, then the entry; so many at the end -/
def gap : Nat → List CpInfo → List CpInfo
  | 0, r => r
  | n + 1, r => .unusable :: gap n r
def poolList (es : List (Nat × CpInfo)) (last : Nat) : List CpInfo := es.foldr (fun e r => gap e.1 (e.2 :: r)) (gap last [])
def pool (es : List (Nat × CpInfo)) (last : Nat) : Array CpInfo := ⟨poolList es last⟩
def fileOf (pool : Array CpInfo) (this : Nat) (attrs : Array Attribute := #[]) (ms : Array MethodInfo := #[]) (fl : Nat := 33) (sup : Nat := 0) (ifs : Array Nat := #[]) (fds : Array FieldInfo := #[]) : ClassFile where
  minorVersion := 0
  majorVersion := 65
  constantPool := pool
  accessFlags := fl
  thisClass := this
  superClass := sup
  interfaces := ifs
  fields := fds
  methods := ms
  attributes := attrs
def plain (name : String) (sup : Option ClassId) : Class where
  name := name
  kind := .ordinary
  loader := none
  accessFlags := 33
  super := sup
  interfaces := #[]
  cf := none
  fields := #[]
  methods := #[]
  instanceTypes := #[]
  staticTypes := #[]
  resolved := #[]
  callSites := []
  init := .initialized
  statics := none
  mirror := none

def pool0 : Array CpInfo := pool [(5, u "<init>"), (0, u "()V"), (1, .class_ 10), (1, u "java/lang/Object")] 113

def k0m0 : Method := { name := "<init>", desc := "()V", sig := { parameters := [], returnType := none }, accessFlags := 1, code := none }
/-- java/lang/Object -/
def k0 : Class := { plain "java/lang/Object" none with
  accessFlags := 33
  interfaces := #[]
  cf := some (fileOf pool0 8 #[] #[{ accessFlags := 1, nameIndex := 5, descriptorIndex := 6, attributes := #[] }] 33 0 #[] #[])
  fields := #[]
  methods := #[k0m0]
  instanceTypes := #[]
  staticTypes := #[]
  resolved := Array.replicate 124 none
  statics := none }

def pool1 : Array CpInfo := pool [(2, .class_ 4), (1, u "java/lang/Object"), (0, u "<init>"), (0, u "()V"), (0, .fieldref 8 9), (0, .class_ 10), (0, .nameAndType 11 12), (0, u "com/example/palimpsest/palimpsest/engine/LockKind"), (0, u "ROW"), (0, u "Lcom/example/palimpsest/palimpsest/engine/LockKind;"), (0, .fieldref 8 14), (0, .nameAndType 15 12), (0, u "NEXT_KEY"), (0, .fieldref 8 17), (0, .nameAndType 18 12), (0, u "GAP"), (0, .fieldref 8 20), (0, .nameAndType 21 12), (0, u "INSERT"), (0, .methodref 8 23), (0, .nameAndType 24 25), (0, u "withGap"), (0, u "()Lcom/example/palimpsest/palimpsest/engine/LockKind;"), (0, .methodref 8 27), (0, .nameAndType 28 29), (0, u "coversGap"), (0, u "()Z"), (0, .methodref 8 31), (0, .nameAndType 32 29), (0, u "coversRow"), (0, .class_ 34), (0, u "com/example/palimpsest/palimpsest/engine/LockKindWithGapPinLaw"), (2, u "law"), (0, u "(I)Z")] 3

def k1m0 : Method := { name := "<init>", desc := "()V", sig := { parameters := [], returnType := none }, accessFlags := 1, code := none }
def k1c1 : Code := { maxStack := 2, maxLocals := 5, code := code, exceptionTable := #[], attributes := #[] }
def k1m1 : Method := { name := "law", desc := "(I)Z", sig := { parameters := [.int], returnType := some .boolean }, accessFlags := 9, code := some k1c1 }
/-- com/example/palimpsest/palimpsest/engine/LockKindWithGapPinLaw -/
def k1 : Class := { plain "com/example/palimpsest/palimpsest/engine/LockKindWithGapPinLaw" (some 0) with
  accessFlags := 49
  interfaces := #[]
  cf := some (fileOf pool1 33 #[] #[{ accessFlags := 1, nameIndex := 5, descriptorIndex := 6, attributes := #[] }, { accessFlags := 9, nameIndex := 37, descriptorIndex := 38, attributes := #[] }] 49 2 #[] #[])
  fields := #[]
  methods := #[k1m0, k1m1]
  instanceTypes := #[]
  staticTypes := #[]
  resolved := Array.replicate 42 none
  statics := none }

def pool2 : Array CpInfo := pool [(1, .class_ 2), (0, u "java/lang/constant/Constable"), (0, .class_ 4), (0, u "java/lang/Object")] 6

/-- java/lang/constant/Constable -/
def k2 : Class := { plain "java/lang/constant/Constable" (some 0) with
  accessFlags := 1537
  interfaces := #[]
  cf := some (fileOf pool2 1 #[] #[] 1537 3 #[] #[])
  fields := #[]
  methods := #[]
  instanceTypes := #[]
  staticTypes := #[]
  resolved := Array.replicate 11 none
  statics := none }

def pool3 : Array CpInfo := pool [(1, .class_ 2), (0, u "java/lang/Comparable"), (0, .class_ 4), (0, u "java/lang/Object")] 7

/-- java/lang/Comparable -/
def k3 : Class := { plain "java/lang/Comparable" (some 0) with
  accessFlags := 1537
  interfaces := #[]
  cf := some (fileOf pool3 1 #[] #[] 1537 3 #[] #[])
  fields := #[]
  methods := #[]
  instanceTypes := #[]
  staticTypes := #[]
  resolved := Array.replicate 12 none
  statics := none }

def pool4 : Array CpInfo := pool [(1, .class_ 2), (0, u "java/io/Serializable"), (0, .class_ 4), (0, u "java/lang/Object")] 2

/-- java/io/Serializable -/
def k4 : Class := { plain "java/io/Serializable" (some 0) with
  accessFlags := 1537
  interfaces := #[]
  cf := some (fileOf pool4 1 #[] #[] 1537 3 #[] #[])
  fields := #[]
  methods := #[]
  instanceTypes := #[]
  staticTypes := #[]
  resolved := Array.replicate 7 none
  statics := none }

def pool5 : Array CpInfo := pool [(2, .class_ 4), (1, u "java/lang/Enum"), (0, u "name"), (0, u "Ljava/lang/String;"), (2, u "ordinal"), (0, u "I"), (1, .class_ 14), (1, u "java/lang/Object"), (4, u "hash"), (86, .class_ 108), (1, u "java/lang/Enum$EnumDesc"), (2, .class_ 112), (0, u "java/lang/constant/Constable"), (0, .class_ 114), (0, u "java/lang/Comparable"), (0, .class_ 116), (0, u "java/io/Serializable")] 87

/-- java/lang/Enum -/
def k5 : Class := { plain "java/lang/Enum" (some 0) with
  accessFlags := 1057
  interfaces := #[2, 3, 4]
  cf := some (fileOf pool5 2 #[.nestMembers #[106]] #[] 1057 12 #[111, 113, 115] #[{ accessFlags := 18, nameIndex := 5, descriptorIndex := 6, attributes := #[] }, { accessFlags := 18, nameIndex := 9, descriptorIndex := 10, attributes := #[] }, { accessFlags := 2, nameIndex := 19, descriptorIndex := 10, attributes := #[] }])
  fields := #[{ name := "name", type := (.object "java/lang/String"), accessFlags := 18, slot := 0, constantValue := 0 }, { name := "ordinal", type := .int, accessFlags := 18, slot := 1, constantValue := 0 }, { name := "hash", type := .int, accessFlags := 2, slot := 2, constantValue := 0 }]
  methods := #[]
  instanceTypes := #[(.object "java/lang/String"), .int, .int]
  staticTypes := #[]
  resolved := Array.replicate 204 none
  statics := none }

def pool6 : Array CpInfo := pool [(1, .class_ 2), (0, u "com/example/palimpsest/palimpsest/engine/LockKind"), (2, u "ROW"), (0, u "Lcom/example/palimpsest/palimpsest/engine/LockKind;"), (0, .fieldref 1 8), (0, .nameAndType 9 6), (0, u "GAP"), (0, .fieldref 1 11), (0, .nameAndType 12 6), (0, u "NEXT_KEY"), (2, u "INSERT"), (2, u "$VALUES"), (0, u "[Lcom/example/palimpsest/palimpsest/engine/LockKind;"), (6, .class_ 28), (1, u "java/lang/Enum"), (6, .fieldref 1 36), (0, .nameAndType 37 38), (0, u "coversRow"), (0, u "Z"), (0, .fieldref 1 40), (0, .nameAndType 41 38), (0, u "coversGap"), (18, u "()Z"), (0, u "withGap"), (0, u "()Lcom/example/palimpsest/palimpsest/engine/LockKind;")] 6

def k6c0 : Code := { maxStack := 1, maxLocals := 1, code := prog_9_method_4_code, exceptionTable := #[], attributes := #[] }
def k6m0 : Method := { name := "coversRow", desc := "()Z", sig := { parameters := [], returnType := some .boolean }, accessFlags := 0, code := some k6c0 }
def k6c1 : Code := { maxStack := 1, maxLocals := 1, code := prog_9_method_5_code, exceptionTable := #[], attributes := #[] }
def k6m1 : Method := { name := "coversGap", desc := "()Z", sig := { parameters := [], returnType := some .boolean }, accessFlags := 0, code := some k6c1 }
def k6c2 : Code := { maxStack := 1, maxLocals := 1, code := prog_9_method_6_code, exceptionTable := #[], attributes := #[] }
def k6m2 : Method := { name := "withGap", desc := "()Lcom/example/palimpsest/palimpsest/engine/LockKind;", sig := { parameters := [], returnType := some (.object "com/example/palimpsest/palimpsest/engine/LockKind") }, accessFlags := 0, code := some k6c2 }
/-- com/example/palimpsest/palimpsest/engine/LockKind -/
def k6 : Class := { plain "com/example/palimpsest/palimpsest/engine/LockKind" (some 5) with
  accessFlags := 16432
  interfaces := #[]
  cf := some (fileOf pool6 1 #[] #[{ accessFlags := 0, nameIndex := 37, descriptorIndex := 60, attributes := #[] }, { accessFlags := 0, nameIndex := 41, descriptorIndex := 60, attributes := #[] }, { accessFlags := 0, nameIndex := 61, descriptorIndex := 62, attributes := #[] }] 16432 26 #[] #[{ accessFlags := 16409, nameIndex := 5, descriptorIndex := 6, attributes := #[] }, { accessFlags := 16409, nameIndex := 9, descriptorIndex := 6, attributes := #[] }, { accessFlags := 16409, nameIndex := 12, descriptorIndex := 6, attributes := #[] }, { accessFlags := 16409, nameIndex := 15, descriptorIndex := 6, attributes := #[] }, { accessFlags := 18, nameIndex := 37, descriptorIndex := 38, attributes := #[] }, { accessFlags := 18, nameIndex := 41, descriptorIndex := 38, attributes := #[] }, { accessFlags := 4122, nameIndex := 18, descriptorIndex := 19, attributes := #[] }])
  fields := #[{ name := "ROW", type := (.object "com/example/palimpsest/palimpsest/engine/LockKind"), accessFlags := 16409, slot := 0, constantValue := 0 }, { name := "GAP", type := (.object "com/example/palimpsest/palimpsest/engine/LockKind"), accessFlags := 16409, slot := 1, constantValue := 0 }, { name := "NEXT_KEY", type := (.object "com/example/palimpsest/palimpsest/engine/LockKind"), accessFlags := 16409, slot := 2, constantValue := 0 }, { name := "INSERT", type := (.object "com/example/palimpsest/palimpsest/engine/LockKind"), accessFlags := 16409, slot := 3, constantValue := 0 }, { name := "coversRow", type := .boolean, accessFlags := 18, slot := 3, constantValue := 0 }, { name := "coversGap", type := .boolean, accessFlags := 18, slot := 4, constantValue := 0 }, { name := "$VALUES", type := (.array (.object "com/example/palimpsest/palimpsest/engine/LockKind")), accessFlags := 4122, slot := 4, constantValue := 0 }]
  methods := #[k6m0, k6m1, k6m2]
  instanceTypes := #[(.object "java/lang/String"), .int, .int, .boolean, .boolean]
  staticTypes := #[(.object "com/example/palimpsest/palimpsest/engine/LockKind"), (.object "com/example/palimpsest/palimpsest/engine/LockKind"), (.object "com/example/palimpsest/palimpsest/engine/LockKind"), (.object "com/example/palimpsest/palimpsest/engine/LockKind"), (.array (.object "com/example/palimpsest/palimpsest/engine/LockKind"))]
  resolved := Array.replicate 69 none
  statics := some 0 }

def pool7 : Array CpInfo := pool [(1, u "java/lang/Cloneable"), (0, .class_ 1), (0, u "java/lang/Object"), (0, .class_ 3)] 3

/-- java/lang/Cloneable -/
def k7 : Class := { plain "java/lang/Cloneable" (some 0) with
  accessFlags := 1537
  interfaces := #[]
  cf := some (fileOf pool7 2 #[] #[] 1537 4 #[] #[])
  fields := #[]
  methods := #[]
  instanceTypes := #[]
  staticTypes := #[]
  resolved := Array.replicate 8 none
  statics := none }

/-- the primitive byte -/
def k8 : Class := { plain "byte" none with kind := .primitive 'B', accessFlags := 0x411 }
/-- [B -/
def k9 : Class := { plain "[B" (some 0) with kind := .array 8 .byte, interfaces := #[7, 4], accessFlags := 1041 }

/-- the primitive int -/
def k10 : Class := { plain "int" none with kind := .primitive 'I', accessFlags := 0x411 }
/-- [I -/
def k11 : Class := { plain "[I" (some 0) with kind := .array 10 .int, interfaces := #[7, 4], accessFlags := 1041 }

def heap : Heap := #[{ cls := 6, slots := #[.ref 1, .ref 4, .ref 2, .ref 3, .null], vm := .statics 6 },
  { cls := 6, slots := #[.null, .int 0, .int 0, .int 1, .int 0], vm := .none },
  { cls := 6, slots := #[.null, .int 0, .int 0, .int 1, .int 1], vm := .none },
  { cls := 6, slots := #[.null, .int 0, .int 0, .int 0, .int 0], vm := .none },
  { cls := 6, slots := #[.null, .int 0, .int 0, .int 0, .int 1], vm := .none }]
def classes : Array Class := #[k0, k1, k2, k3, k4, k5, k6, k7, k8, k9, k10, k11]
def interned : List (Array UInt16 × Addr) := []
def slotsUsed : Nat := 25
def theMethod : MethodId := ⟨1, 1⟩
def args0 : Array Value := #[.int 5]
def aboutOver (below : List Frame) : State where
  vm := { classes := classes, interned := interned.toArray }
  heap := heap
  slotsUsed := slotsUsed
  threads := #[{ frames := .invoking theMethod args0 :: below }]
def below0 : List Frame := [.native { method := ⟨0, 0⟩, args := #[] }]
def about1 : State := aboutOver below0
def p0 : Program := .bare "" "" ""
def e0 : Env := launch0.env 0 0 0
theorem w_frames : about1.frames = Frame.invoking theMethod args0 :: below0 := rfl
set_option maxRecDepth 65536 in
theorem w_args : argsFit about1.vm theMethod args0 = true := by decide +kernel
set_option maxRecDepth 65536 in
theorem w_heap : heapFits about1 = true := by decide +kernel
set_option maxRecDepth 65536 in
theorem w_runnable : about1.curStatus? = some .runnable := by decide +kernel
set_option maxRecDepth 65536 in
theorem w_alone : about1.alone = true := by decide +kernel
set_option maxRecDepth 65536 in
theorem w_named : about1.methodNamed? x = some theMethod := by decide +kernel
set_option maxRecDepth 65536 in
theorem w_hears : about1.hears theMethod below0 = true := by decide +kernel
set_option maxRecDepth 65536 in
theorem w_ripe : about1.ripe theMethod args0 below0 = true := by decide +kernel
theorem w_running : about1.status = .running := rfl
set_option maxRecDepth 65536 in
theorem w_room : about1.hasRoom e0.platform room_1 = true :=
  launch0.hasRoom_least _ room_1 (by decide +kernel) (by decide +kernel) (by decide +kernel) (by decide +kernel) (by decide +kernel) (by decide +kernel)
theorem allAtoms_all (ts : List Jvm.Cond) (a : Array Jvm.Value) (st : Jvm.State) : (allAtoms ts).before a st = ts.all (fun c => c.before a st) := by
  induction ts with
  | nil => rfl
  | cons c t ih =>
    show (Jvm.Cond.and c (allAtoms t)).before a st = _
    rw [Jvm.Cond.before_and, ih, List.all_cons]
def words1 : List Jvm.Cond := Jvm.Cond.code x code maxLocals ret :: tables_1
/-- a 'code' word, met by the world's own term for the bytes: nothing is compared byte by byte -/
theorem code_word {y : MethodName} {bytes : ByteArray} {mx : Nat} {rt : Option FieldType} {a : Array Value} {s : State} {m : MethodId} {meth : Method} {c : Code} (h1 : s.methodNamed? y = some m) (h2 : s.vm.method? m = some meth) (h3 : meth.code = some c) (h4 : c.code = bytes)
    (h5 : (c.maxLocals == mx && c.exceptionTable.isEmpty && decide (c.maxStack ≤ mostOperands) && decide (meth.sig.returnType = rt) && !meth.locks && decide (parseMethodDescriptor y.desc = some meth.sig)) = true) : (Jvm.Cond.code y bytes mx rt).before a s = true := by
  simp only [Bool.and_eq_true, beq_iff_eq, Bool.not_eq_true', decide_eq_true_eq] at h5
  obtain ⟨⟨⟨⟨⟨g1, g2⟩, g3⟩, g4⟩, g5⟩, g6⟩ := h5
  simp [Cond.before, Cond.holds, Cond.value, h1, h2, h3, h4, g1, g2, g3, g4, g5, g6]
def isCode : Jvm.Cond → Bool
  | .code _ _ _ _ => true
  | _ => false
theorem all_split {L : List Jvm.Cond} {P : Jvm.Cond → Bool} (h1 : L.all (fun c => isCode c || P c) = true) (h2 : ∀ c ∈ L.filter isCode, P c = true) : L.all P = true := by
  refine List.all_eq_true.mpr fun c hc => ?_
  have h := List.all_eq_true.mp h1 c hc
  rcases Bool.eq_false_or_eq_true (isCode c) with hi | hi
  · exact h2 c (List.mem_filter.mpr ⟨hc, hi⟩)
  · simpa [hi] using h
set_option maxRecDepth 65536 in
theorem w_c0 : (Jvm.Cond.code x code maxLocals ret).before args0 about1 = true := code_word (m := ⟨1, 1⟩) (meth := k1m1) (c := k1c1) (by decide +kernel) rfl rfl rfl (by decide +kernel)
set_option maxRecDepth 65536 in
theorem w_c1 : (Jvm.Cond.code ({ cls := "com/example/palimpsest/palimpsest/engine/LockKind", name := "withGap", desc := "()Lcom/example/palimpsest/palimpsest/engine/LockKind;" } : Jvm.MethodName) prog_9_method_6_code (1 : Nat) (Option.some (Jvm.ClassFile.FieldType.object "com/example/palimpsest/palimpsest/engine/LockKind"))).before args0 about1 = true := code_word (m := ⟨6, 2⟩) (meth := k6m2) (c := k6c2) (by decide +kernel) rfl rfl rfl (by decide +kernel)
set_option maxRecDepth 65536 in
theorem w_c2 : (Jvm.Cond.code ({ cls := "com/example/palimpsest/palimpsest/engine/LockKind", name := "coversGap", desc := "()Z" } : Jvm.MethodName) prog_9_method_5_code (1 : Nat) (Option.some Jvm.ClassFile.FieldType.boolean)).before args0 about1 = true := code_word (m := ⟨6, 1⟩) (meth := k6m1) (c := k6c1) (by decide +kernel) rfl rfl rfl (by decide +kernel)
set_option maxRecDepth 65536 in
theorem w_c3 : (Jvm.Cond.code ({ cls := "com/example/palimpsest/palimpsest/engine/LockKind", name := "coversRow", desc := "()Z" } : Jvm.MethodName) prog_9_method_4_code (1 : Nat) (Option.some Jvm.ClassFile.FieldType.boolean)).before args0 about1 = true := code_word (m := ⟨6, 0⟩) (meth := k6m0) (c := k6c0) (by decide +kernel) rfl rfl rfl (by decide +kernel)
def codes1 : List Jvm.Cond := [Jvm.Cond.code x code maxLocals ret, Jvm.Cond.code ({ cls := "com/example/palimpsest/palimpsest/engine/LockKind", name := "withGap", desc := "()Lcom/example/palimpsest/palimpsest/engine/LockKind;" } : Jvm.MethodName) prog_9_method_6_code (1 : Nat) (Option.some (Jvm.ClassFile.FieldType.object "com/example/palimpsest/palimpsest/engine/LockKind")), Jvm.Cond.code ({ cls := "com/example/palimpsest/palimpsest/engine/LockKind", name := "coversGap", desc := "()Z" } : Jvm.MethodName) prog_9_method_5_code (1 : Nat) (Option.some Jvm.ClassFile.FieldType.boolean), Jvm.Cond.code ({ cls := "com/example/palimpsest/palimpsest/engine/LockKind", name := "coversRow", desc := "()Z" } : Jvm.MethodName) prog_9_method_4_code (1 : Nat) (Option.some Jvm.ClassFile.FieldType.boolean)]
set_option maxRecDepth 65536 in
theorem codes_eq : words1.filter isCode = codes1 := rfl
theorem w_codes : ∀ c ∈ words1.filter isCode, c.before args0 about1 = true := by
  rw [codes_eq]
  intro c hc
  simp only [codes1, List.mem_cons, List.not_mem_nil, or_false] at hc
  rcases hc with rfl | rfl | rfl | rfl
  · exact w_c0
  · exact w_c1
  · exact w_c2
  · exact w_c3
set_option maxRecDepth 65536 in
theorem w_t1 : (words1.take 24).all (fun c => isCode c || c.before args0 about1) = true := by decide +kernel
set_option maxRecDepth 65536 in
theorem w_t2 : (words1.drop 24).all (fun c => isCode c || c.before args0 about1) = true := by decide +kernel
theorem w_tables : (allAtoms (Jvm.Cond.code x code maxLocals ret :: tables_1)).before args0 about1 = true := by
  rw [allAtoms_all]
  show words1.all (fun c => c.before args0 about1) = true
  refine all_split ?_ w_codes
  rw [← List.take_append_drop 24 words1, List.all_append, w_t1, w_t2]
  rfl
set_option maxRecDepth 65536 in
theorem w_case : (Jvm.Cond.and given_1 narrow_1).before args0 about1 = true := by decide +kernel
theorem w_applies : (headSpec (Jvm.Cond.code x code maxLocals ret :: tables_1) room_1).applies x e0.platform about1 = true :=
  (Spec.applies_iff w_frames).mpr ⟨w_running, w_runnable, w_alone, w_named, w_hears, w_ripe, w_room, w_tables⟩
theorem atStart : AtStart classFile x code maxLocals ret World_1 tables_1 room_1 Calls_1 rest_1 Pre_1 launch0 p0 e0 about1 theMethod args0 below0 :=
  ⟨lists_1, trivial, launch0.admits_env _ _ _, launch0.least_env, fairChoices_fair.cas, fairChoices_fair.clock, w_frames, w_args, w_heap, w_applies, trivial, trivial, w_case⟩
end start1
theorem witness_1 : WitnessClaimed_1 := ⟨start1.p0, start1.e0, start1.about1, start1.theMethod, start1.args0, start1.below0, start1.atStart⟩
end Jvm.Pilot.@@N@@
