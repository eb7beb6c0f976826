import JvmDerived
import JvmDerived.Pilot.@@N@@Statement
import JvmDerived.Pilot.@@N@@Code
set_option linter.unusedVariables false
set_option linter.unusedSimpArgs false
namespace Jvm.Pilot.@@N@@
open Jvm Jvm.ClassFile Sem Op Lib Jvm.Free Jvm.Stand Jvm.LawKit Jvm.RoadKit Bundle Jvm.Pilot.@@N@@.Jvm.D
theorem own_ofNat {y : Int32} {n : Nat} (h : y.toBitVec.toNat = n) : y = Int32.ofNat n := by
  subst h
  apply Int32.toBitVec_inj.mp
  apply BitVec.eq_of_toNat_eq
  simp
theorem own_and_le (x m : Int32) : (x &&& m).toBitVec.toNat ≤ m.toBitVec.toNat := by
  rw [Int32.toBitVec_and, BitVec.toNat_and]; exact Nat.and_le_right
theorem own_and_3 (x : Int32) : (x &&& (3 : Int32)) = (0 : Int32) ∨ (x &&& (3 : Int32)) = (1 : Int32) ∨ (x &&& (3 : Int32)) = (2 : Int32) ∨ (x &&& (3 : Int32)) = (3 : Int32) := by
  have h := own_and_le x (3 : Int32)
  have e : (3 : Int32).toBitVec.toNat = 3 := by decide
  rw [e] at h
  generalize x &&& (3 : Int32) = y at h ⊢
  have q : y.toBitVec.toNat = 0 ∨ y.toBitVec.toNat = 1 ∨ y.toBitVec.toNat = 2 ∨ y.toBitVec.toNat = 3 := by omega
  rcases q with q | q | q | q <;> simp [own_ofNat q]
def OwnCls (Z : State) (K : String) : Prop := ∃ t k, Z.vm.findClass K = some t ∧ Z.vm.classes[t]? = some k ∧ k.kind = .ordinary ∧ k.isInterface = false
theorem own_cls_inst {Z : State} {a0 : Array Value} {K : String} {n : Nat} (w : (Cond.instantiable K n).before a0 Z = true) : OwnCls Z K := by
  obtain ⟨c, k, h1, h2, h3, h4, -⟩ := Cond.instantiable_spec w
  exact ⟨c, k, h1, h2, h3, by simp only [Bool.or_eq_false_iff] at h4; exact h4.1⟩
theorem own_cls_sup {Z : State} {a0 : Array Value} {K S : String} (w : (Cond.superclass K S).before a0 Z = true) : OwnCls Z K := by
  obtain ⟨c, h0⟩ := found_sup w
  obtain ⟨p, k, kp, h1, h2, h3, h4, h5, -, h7⟩ := Cond.superclass_spec h0 w
  exact ⟨c, k, h0, h2, h5, h7⟩
theorem own_ns_root {Z : State} {a0 : Array Value} {O K : String} (w : (Cond.noSuperclass O).before a0 Z = true) (wk : OwnCls Z K) (hn : O ≠ K) : NS Z O K := by
  obtain ⟨c, k, h1, h2, h3, -, -⟩ := Cond.noSuperclass_spec w
  obtain ⟨t, k2, g1, -⟩ := wk
  have ne := ids_ne h1 g1 hn
  refine ⟨c, t, h1, g1, fun fuel => ?_⟩
  match fuel with
  | 0 => rfl
  | f + 1 => simp [Vm.isSubclassAux, ne, h2, h3]
theorem own_ns_no {Z : State} {a0 : Array Value} {C S K : String} (w : (Cond.superclass C S).before a0 Z = true) (wk : OwnCls Z K) (n : NS Z C K) (hn : C ≠ K) : ∃ c t, Z.vm.findClass C = some c ∧ Z.vm.findClass K = some t ∧ Z.vm.assignable c t = false := by
  obtain ⟨c, t, h0, g0, n3⟩ := n
  obtain ⟨p, k, kp, h1, h2, h3, h4, h5, -, h7⟩ := Cond.superclass_spec h0 w
  obtain ⟨t', k', g1, g2, g5, g7⟩ := wk
  cases g0.symm.trans g1
  have ne := ids_ne h0 g0 hn
  refine ⟨c, t, h0, g0, ?_⟩
  show Z.vm.assignableAux (255 + 1) c t = false
  simp [Vm.assignableAux, ne, h2, g2, h5, g5, g7, Vm.isSubclass, n3]
theorem own_cache {p : Int32} (h1 : ¬ (p < (-128 : Int32))) (h2 : ¬ ((127 : Int32) < p)) : ¬ ((p + (128 : Int32)) < 0) ∧ (p + (128 : Int32)) < (256 : Int32) := by
  have a1 : (-128 : Int32).toInt = -128 := by decide
  have a2 : (127 : Int32).toInt = 127 := by decide
  have a3 : (128 : Int32).toInt = 128 := by decide
  have a4 : (256 : Int32).toInt = 256 := by decide
  have a0 : (0 : Int32).toInt = 0 := by decide
  simp only [Int32.lt_iff_toInt_lt, a1, a2] at h1 h2
  have e : (p + (128 : Int32)).toInt = p.toInt + 128 := by rw [Int32.toInt_add, a3, Int.bmod_eq_of_le (by omega) (by omega)]
  simp only [Int32.lt_iff_toInt_lt, a0, a4, e]
  omega
theorem own_len {s : State} {args : Array Value} {t : Term} {a : Addr} {cl : Cell} {n : Int32} (ev : t.eval args s none [] s = some (.ref a)) (hf : s.arrayAt? a = some cl) (h : (Term.length t).eval args s none [] s = some (.int n)) : cl.slots.size < 2 ^ 31 ∧ cl.slots.size.toInt32 = n := by
  simp only [Term.eval, ev, Option.bind_eq_bind, Option.bind_some, hf] at h
  split at h
  · rename_i q; exact ⟨q, Value.int.inj (Option.some.inj h)⟩
  · cases h
theorem own_sub {s : State} {args : Array Value} {t : Term} {idx : List Nat} {j : Int32} (h : t.eval args s none idx s = some (.int j)) : (Term.sub t (Term.int (128 : Int32))).eval args s none idx s = some (.int (j - 128)) := by
  simp [Term.eval, h]
def Wd (Z : State) (wc : Addr) : Prop := (Sta Z Z.heap "java/lang/Integer$IntegerCache" "high" "I" (.int (127 : Int32))) ∧ (Sta Z Z.heap "java/lang/Integer$IntegerCache" "cache" "[Ljava/lang/Integer;" (.ref wc)) ∧ (∃ cl, Bxs Z wc cl "java/lang/Integer" "I" (256 : Int32) (fun j => .int (j - 128))) ∧ True
def Qp (r : Option Value) (h0 : Heap) (n0 : Nat) (v : Option Value) (h : Heap) (L : List Loc) : Prop := v = r ∧ Fr n0 L ∧ h = h0
def Ql (n0 : Nat) (v : Option Value) (h : Heap) (L : List Loc) : Prop := v = some (.int (1 : Int32)) ∧ Fr n0 L
theorem d_prog_90_method_1_code_0 : decode prog_90_method_1_code 0 = .ok (.aload_n 0, 1) := by decide +kernel
theorem d_prog_90_method_1_code_1 : decode prog_90_method_1_code 1 = .ok (.invokespecial 1, 3) := by decide +kernel
theorem d_jdk_30_method_1_code_0 : decode jdk_30_method_1_code 0 = .ok (.aload_n 0, 1) := by decide +kernel
theorem d_jdk_30_method_1_code_1 : decode jdk_30_method_1_code 1 = .ok (.invokespecial 1, 3) := by decide +kernel
theorem d_jdk_30_method_1_code_4 : decode jdk_30_method_1_code 4 = .ok (.return_, 1) := by decide +kernel
theorem pn0 : plainName "java/lang/Record" = true := by first | (simp [plainName, overriddenIn]; done) | decide +kernel
theorem ef0 (m : MethodId)   (a1 : Addr) : entryFrame m #[(.ref a1)] 1 = mkF m 0 #[.val (.ref a1)] [] := by first | (simp [entryFrame, mkF, argsToLocals, Value.category]; done) | rfl
set_option maxRecDepth 65536 in
set_option maxHeartbeats 40000000 in
theorem rm2 (l : Launch) (Z : State) (a0 : Array Value) (hw : ∀ d ∈ tables_1, d.before a0 Z = true) (ws : List Jvm.Cond) (wc : Addr) (a1 : Addr) (h0 : Heap) (n0 : Nat) (hWd : Wd Z wc) (O0 : Old Z n0 h0) (E_a1 : Exa Z h0 a1 "com/example/vestwright/vestwright/model/VestingPeriod$Days") (F_a1_length : Fld Z h0 a1 "com/example/vestwright/vestwright/model/VestingPeriod$Days" "length" "I" (.int (0 : Int32))) (g_a1 : n0 ≤ a1) :
    MetFree l (⟨"java/lang/Record", "<init>", "()V"⟩ : MethodName) (head1 (Jvm.Cond.code (⟨"java/lang/Record", "<init>", "()V"⟩ : MethodName) jdk_30_method_1_code 1 none :: ws) ({ frames := 1, cells := 0, slots := 0, locals := 12 } : Room)) (fun a U => a = #[(.ref a1)] ∧ Z.Warmed39 U.vm ∧ U.heap = h0) (fun _ _ _ _ _ => True) (fun _ U o U' => ∃ v L, o = .returned v ∧ Qp (none) h0 n0 v U'.heap L ∧ FrameEnd U o U' L ({ frames := 1, cells := 0, slots := 0, locals := 12 } : Room).cells ({ frames := 1, cells := 0, slots := 0, locals := 12 } : Room).slots) := by
  refine MetFree.of_bodySF (plainFor_of_name pn0) hisR ?_
  intro p e s m args below meth c s₁ Bd hml0 hP hK
  obtain ⟨rfl, hZ, hh⟩ := hP
  have hx := Bd.exec
  have hby := Bd.bytes
  have hml : c.maxLocals = 1 := hml0
  have hown : s.vm.findClass "java/lang/Record" = some m.cls := findClass_of_methodNamed Bd.named
  have hnm := (name_of_methodNamed Bd.named Bd.method).1
  have X0 : Stand p l e ({ frames := 1, cells := 0, slots := 0, locals := 12 } : Room) s m #[(.ref a1)] below meth c s₁ [] 0 0 := Stand.of_body Bd
  have e0 : s₁.heap = h0 := by rw [← hh, Bd.state]; rfl
  have N0 := Fr.nil n0
  have hlk := Bd.notSynchronized
  obtain ⟨wSh, wSc, wB, -⟩ := id hWd
  have pre0 : ∀ t, Steps p.tables e below (s₁.setTop (mkF m 0 #[.val (.ref a1)] [])) t → Steps p.tables e below (s₁.setTop (entryFrame m #[(.ref a1)] 1)) t := fun t k => castTop (ef0 m a1) k
  obtain ⟨T2, X2, e2, st2⟩ := initO X0 hx hZ hown (hw _ (List.mem_of_getElem? (i := 11) rfl)) (hw _ (List.mem_of_getElem? (i := 12) rfl)) (hw _ (List.mem_of_getElem? (i := 13) rfl)) e0 (g := (mkF m 1 #[.val (.ref a1)] [(.ref a1)])) rfl (by rw [hml]; rfl) rfl (hb hby d_jdk_30_method_1_code_1) (by decide) (W := 0) (by show 2 * 0 + _ ≤ _; exact Nat.le_of_eq rfl) (by decide)
  obtain ⟨fs, hr, hrun, hended, hWr, hsame⟩ := X2.leave (v := none) (fun _ => rfl) hlk
  refine ⟨_, _, pre0 _ ?_, hrun, hended, _, _, rfl, ?_, ⟨_, rfl⟩, hWr, hsame.mono (Nat.le_of_ble_eq_true rfl) (Nat.le_of_ble_eq_true rfl)⟩
  · show Steps p.tables e below (s₁.setTop (mkF m 0 #[.val (.ref a1)] [])) _
    refine XS.aloadN X0.here hx rfl (hb hby d_jdk_30_method_1_code_0) rfl rfl ?_
    show Steps p.tables e below (s₁.setTop (mkF m 1 #[.val (.ref a1)] [(.ref a1)])) _
    refine st2 _ ?_
    show Steps p.tables e below (T2.setTop (mkF m 4 #[.val (.ref a1)] [])) _
    exact X2.returnOut hx Bd.returns (hb hby d_jdk_30_method_1_code_4) hr
  · show Qp (none) h0 n0 _ T2.heap _
    rw [e2]
    exact ⟨rfl, N0, rfl⟩
theorem pd0 : parseMethodDescriptor "()V" = some ⟨[], none⟩ := by decide +kernel
theorem d_prog_90_method_1_code_4 : decode prog_90_method_1_code 4 = .ok (.aload_n 0, 1) := by decide +kernel
theorem d_prog_90_method_1_code_5 : decode prog_90_method_1_code 5 = .ok (.iload_n 1, 1) := by decide +kernel
theorem d_prog_90_method_1_code_6 : decode prog_90_method_1_code 6 = .ok (.putfield 7, 3) := by decide +kernel
theorem d_prog_90_method_1_code_9 : decode prog_90_method_1_code 9 = .ok (.return_, 1) := by decide +kernel
theorem pn1 : plainName "com/example/vestwright/vestwright/model/VestingPeriod$Days" = true := by first | (simp [plainName, overriddenIn]; done) | decide +kernel
theorem ef1 (m : MethodId) (p1 : Int32)  (a1 : Addr) : entryFrame m #[(.ref a1), (.int p1)] 2 = mkF m 0 #[.val (.ref a1), .val (.int p1)] [] := by first | (simp [entryFrame, mkF, argsToLocals, Value.category]; done) | rfl
def Qerm1 (Z : State) (wc : Addr) (p1 : Int32) (a1 : Addr) (h0 : Heap) (n0 : Nat) (v : Option Value) (h : Heap) (L : List Loc) : Prop := v = none ∧ Fr n0 L ∧ Keep h0 h [a1] ∧ Old Z n0 h ∧ Exa Z h a1 "com/example/vestwright/vestwright/model/VestingPeriod$Days" ∧ Fld Z h a1 "com/example/vestwright/vestwright/model/VestingPeriod$Days" "length" "I" (.int p1)
set_option maxRecDepth 65536 in
set_option maxHeartbeats 40000000 in
theorem rm1 (l : Launch) (Z : State) (a0 : Array Value) (hw : ∀ d ∈ tables_1, d.before a0 Z = true) (ws : List Jvm.Cond) (wc : Addr) (p1 : Int32) (a1 : Addr) (h0 : Heap) (n0 : Nat) (hWd : Wd Z wc) (O0 : Old Z n0 h0) (E_a1 : Exa Z h0 a1 "com/example/vestwright/vestwright/model/VestingPeriod$Days") (F_a1_length : Fld Z h0 a1 "com/example/vestwright/vestwright/model/VestingPeriod$Days" "length" "I" (.int (0 : Int32))) (g_a1 : n0 ≤ a1) :
    MetFree l (⟨"com/example/vestwright/vestwright/model/VestingPeriod$Days", "<init>", "(I)V"⟩ : MethodName) (head1 (Jvm.Cond.code (⟨"com/example/vestwright/vestwright/model/VestingPeriod$Days", "<init>", "(I)V"⟩ : MethodName) prog_90_method_1_code 2 none :: ws) ({ frames := 2, cells := 0, slots := 0, locals := 24 } : Room)) (fun a U => a = #[(.ref a1), (.int p1)] ∧ Z.Warmed39 U.vm ∧ U.heap = h0) (fun _ _ _ _ _ => True) (fun _ U o U' => ∃ v L, o = .returned v ∧ Qerm1 Z wc p1 a1 h0 n0 v U'.heap L ∧ FrameEnd U o U' L ({ frames := 2, cells := 0, slots := 0, locals := 24 } : Room).cells ({ frames := 2, cells := 0, slots := 0, locals := 24 } : Room).slots) := by
  refine MetFree.of_bodySF (plainFor_of_name pn1) hisR ?_
  intro p e s m args below meth c s₁ Bd hml0 hP hK
  obtain ⟨rfl, hZ, hh⟩ := hP
  have hx := Bd.exec
  have hby := Bd.bytes
  have hml : c.maxLocals = 2 := hml0
  have hown : s.vm.findClass "com/example/vestwright/vestwright/model/VestingPeriod$Days" = some m.cls := findClass_of_methodNamed Bd.named
  have hnm := (name_of_methodNamed Bd.named Bd.method).1
  have X0 : Stand p l e ({ frames := 2, cells := 0, slots := 0, locals := 24 } : Room) s m #[(.ref a1), (.int p1)] below meth c s₁ [] 0 0 := Stand.of_body Bd
  have e0 : s₁.heap = h0 := by rw [← hh, Bd.state]; rfl
  have N0 := Fr.nil n0
  have hlk := Bd.notSynchronized
  obtain ⟨wSh, wSc, wB, -⟩ := id hWd
  have pre0 : ∀ t, Steps p.tables e below (s₁.setTop (mkF m 0 #[.val (.ref a1), .val (.int p1)] [])) t → Steps p.tables e below (s₁.setTop (entryFrame m #[(.ref a1), (.int p1)] 2)) t := fun t k => castTop (ef1 m p1 a1) k
  obtain ⟨_, _, ⟨T3, L3, k3, n3⟩, -, X3, ⟨Lc3, hQ3, l3, y3, z3⟩, st3⟩ := X0.specialBack hx (y := (⟨"java/lang/Record", "<init>", "()V"⟩ : MethodName)) rfl hown (mvT hZ (hw _ (List.mem_of_getElem? (i := 6) rfl))) (mvT hZ (hw _ (List.mem_of_getElem? (i := 7) rfl))) (mvT hZ (hw _ (List.mem_of_getElem? (i := 10) rfl))) (by decide) (backOf (W := 0) (rm2 l Z a0 hw [] wc a1 h0 n0 hWd O0 E_a1 F_a1_length g_a1) hZ (hw _ (List.mem_of_getElem? (i := 10) rfl)) (hw _ (List.mem_of_getElem? (i := 9) rfl)) (by decide) (by decide)) (g := (mkF m 1 #[.val (.ref a1), .val (.int p1)] [(.ref a1)])) rfl (by rw [hml]; rfl) (Steps.refl _) (a := a1) (argsL := []) (rest := []) (lenOf pd0 rfl) rfl (by show 2 * 0 + _ ≤ _; exact Nat.le_of_eq rfl) (hb hby d_prog_90_method_1_code_1) (fun _ _ => ⟨rfl, e0, (by decide : 0 + 0 ≤ _), (by decide : 0 + 0 ≤ _)⟩)
  dsimp only [Pt.U, Pt.locs, Pt.cells, Pt.slots] at X3 l3 y3 z3 st3 hQ3
  subst l3 y3 z3
  obtain ⟨rfl, N3q, e3⟩ := hQ3
  have N3 := Fr.app N0 N3q
  obtain ⟨T4, h4, X4, e4, W4, st4⟩ := putF X3 hx hZ hown (host := "") (Or.inl (hw _ (List.mem_of_getElem? (i := 14) rfl))) Via.refl e3 F_a1_length E_a1 (Or.inr ⟨(hw _ (List.mem_of_getElem? (i := 15) rfl)), rfl, hnm⟩) (hw _ (List.mem_of_getElem? (i := 1) rfl)) (ty := .int) (by decide) rfl rfl (g := (mkF m 6 #[.val (.ref a1), .val (.int p1)] [(.int p1), (.ref a1)])) rfl rfl (hb hby d_prog_90_method_1_code_6)
  have E_a1_4 : Exa Z h4 a1 "com/example/vestwright/vestwright/model/VestingPeriod$Days" := E_a1.wr W4
  have F_a1_length_4 : Fld Z h4 a1 "com/example/vestwright/vestwright/model/VestingPeriod$Days" "length" "I" (.int p1) := F_a1_length.same W4
  have Kp4 : Keep h0 h4 [a1] := (Keep.refl h0 [a1]).wr W4 (Or.inl (List.mem_of_getElem? (i := 0) rfl))
  have N4 := Fr.snoc X4 N3 g_a1
  have O_4 : Old Z n0 h4 := O0.wr W4 g_a1
  obtain ⟨fs, hr, hrun, hended, hWr, hsame⟩ := X4.leave (v := none) (fun _ => rfl) hlk
  refine ⟨_, _, pre0 _ ?_, hrun, hended, _, _, rfl, ?_, ⟨_, rfl⟩, hWr, hsame.mono (Nat.le_of_ble_eq_true rfl) (Nat.le_of_ble_eq_true rfl)⟩
  · show Steps p.tables e below (s₁.setTop (mkF m 0 #[.val (.ref a1), .val (.int p1)] [])) _
    refine XS.aloadN X0.here hx rfl (hb hby d_prog_90_method_1_code_0) rfl rfl ?_
    show Steps p.tables e below (s₁.setTop (mkF m 1 #[.val (.ref a1), .val (.int p1)] [(.ref a1)])) _
    refine st3.trans ?_
    show Steps p.tables e below (T3.setTop (mkF m 4 #[.val (.ref a1), .val (.int p1)] [])) _
    refine XS.aloadN X3.here hx rfl (hb hby d_prog_90_method_1_code_4) rfl rfl ?_
    show Steps p.tables e below (T3.setTop (mkF m 5 #[.val (.ref a1), .val (.int p1)] [(.ref a1)])) _
    refine XS.iloadN X3.here hx rfl (hb hby d_prog_90_method_1_code_5) rfl ?_
    show Steps p.tables e below (T3.setTop (mkF m 6 #[.val (.ref a1), .val (.int p1)] [(.int p1), (.ref a1)])) _
    refine st4 _ ?_
    show Steps p.tables e below (T4.setTop (mkF m 9 #[.val (.ref a1), .val (.int p1)] [])) _
    exact X4.returnOut hx Bd.returns (hb hby d_prog_90_method_1_code_9) hr
  · show Qerm1 Z wc p1 a1 h0 n0 _ T4.heap _
    rw [e4]
    exact ⟨rfl, N4, Kp4, O_4, E_a1_4, F_a1_length_4⟩
theorem pd1 : parseMethodDescriptor "(I)V" = some ⟨[.int], none⟩ := by decide +kernel
theorem d_prog_90_method_5_code_0 : decode prog_90_method_5_code 0 = .ok (.aload_n 1, 1) := by decide +kernel
theorem d_prog_90_method_5_code_1 : decode prog_90_method_5_code 1 = .ok (.instanceof 8, 3) := by decide +kernel
theorem d_prog_90_method_5_code_4 : decode prog_90_method_5_code 4 = .ok (.ifCond .eq 23, 3) := by decide +kernel
theorem d_prog_90_method_5_code_7 : decode prog_90_method_5_code 7 = .ok (.aload_n 1, 1) := by decide +kernel
theorem d_prog_90_method_5_code_8 : decode prog_90_method_5_code 8 = .ok (.checkcast 8, 3) := by decide +kernel
theorem d_prog_90_method_5_code_11 : decode prog_90_method_5_code 11 = .ok (.astore_n 2, 1) := by decide +kernel
theorem d_prog_90_method_5_code_12 : decode prog_90_method_5_code 12 = .ok (.aload_n 2, 1) := by decide +kernel
theorem d_prog_90_method_5_code_13 : decode prog_90_method_5_code 13 = .ok (.getfield 7, 3) := by decide +kernel
theorem d_prog_90_method_5_code_16 : decode prog_90_method_5_code 16 = .ok (.aload_n 0, 1) := by decide +kernel
theorem d_prog_90_method_5_code_17 : decode prog_90_method_5_code 17 = .ok (.getfield 7, 3) := by decide +kernel
theorem d_prog_90_method_5_code_20 : decode prog_90_method_5_code 20 = .ok (.if_icmp .ne 7, 3) := by decide +kernel
theorem d_prog_90_method_5_code_23 : decode prog_90_method_5_code 23 = .ok (.iconst 1, 1) := by decide +kernel
theorem d_prog_90_method_5_code_24 : decode prog_90_method_5_code 24 = .ok (.goto 4, 3) := by decide +kernel
theorem d_prog_90_method_5_code_28 : decode prog_90_method_5_code 28 = .ok (.ireturn, 1) := by decide +kernel
theorem ef2 (m : MethodId)   (a1 : Addr) (a2 : Addr) : entryFrame m #[(.ref a1), (.ref a2)] 3 = mkF m 0 #[.val (.ref a1), .val (.ref a2), .unset] [] := by first | (simp [entryFrame, mkF, argsToLocals, Value.category]; done) | rfl
set_option maxRecDepth 65536 in
set_option maxHeartbeats 40000000 in
theorem rm3 (l : Launch) (Z : State) (a0 : Array Value) (hw : ∀ d ∈ tables_1, d.before a0 Z = true) (ws : List Jvm.Cond) (wc : Addr) (p1 p2 : Int32) (a1 a2 : Addr) (h0 : Heap) (n0 : Nat) (hWd : Wd Z wc) (O0 : Old Z n0 h0) (rl0 : p1 = p2) (E_a1 : Exa Z h0 a1 "com/example/vestwright/vestwright/model/VestingPeriod$Days") (F_a1_length : Fld Z h0 a1 "com/example/vestwright/vestwright/model/VestingPeriod$Days" "length" "I" (.int p1)) (g_a1 : n0 ≤ a1) (E_a2 : Exa Z h0 a2 "com/example/vestwright/vestwright/model/VestingPeriod$Days") (F_a2_length : Fld Z h0 a2 "com/example/vestwright/vestwright/model/VestingPeriod$Days" "length" "I" (.int p2)) (g_a2 : n0 ≤ a2) :
    MetFree l (⟨"com/example/vestwright/vestwright/model/VestingPeriod$Days", "equals", "(Ljava/lang/Object;)Z"⟩ : MethodName) (head1 (Jvm.Cond.code (⟨"com/example/vestwright/vestwright/model/VestingPeriod$Days", "equals", "(Ljava/lang/Object;)Z"⟩ : MethodName) prog_90_method_5_code 3 (some .boolean) :: ws) ({ frames := 0, cells := 0, slots := 0, locals := 0 } : Room)) (fun a U => a = #[(.ref a1), (.ref a2)] ∧ Z.Warmed39 U.vm ∧ U.heap = h0) (fun _ _ _ _ _ => True) (fun _ U o U' => ∃ v L, o = .returned v ∧ Qp (some (.int (1 : Int32))) h0 n0 v U'.heap L ∧ FrameEnd U o U' L ({ frames := 0, cells := 0, slots := 0, locals := 0 } : Room).cells ({ frames := 0, cells := 0, slots := 0, locals := 0 } : Room).slots) := by
  refine MetFree.of_bodySF (plainFor_of_name pn1) hisR ?_
  intro p e s m args below meth c s₁ Bd hml0 hP hK
  obtain ⟨rfl, hZ, hh⟩ := hP
  have hx := Bd.exec
  have hby := Bd.bytes
  have hml : c.maxLocals = 3 := hml0
  have hown : s.vm.findClass "com/example/vestwright/vestwright/model/VestingPeriod$Days" = some m.cls := findClass_of_methodNamed Bd.named
  have hnm := (name_of_methodNamed Bd.named Bd.method).1
  have X0 : Stand p l e ({ frames := 0, cells := 0, slots := 0, locals := 0 } : Room) s m #[(.ref a1), (.ref a2)] below meth c s₁ [] 0 0 := Stand.of_body Bd
  have e0 : s₁.heap = h0 := by rw [← hh, Bd.state]; rfl
  have N0 := Fr.nil n0
  have hlk := Bd.notSynchronized
  obtain ⟨wSh, wSc, wB, -⟩ := id hWd
  have pre0 : ∀ t, Steps p.tables e below (s₁.setTop (mkF m 0 #[.val (.ref a1), .val (.ref a2), .unset] [])) t → Steps p.tables e below (s₁.setTop (entryFrame m #[(.ref a1), (.ref a2)] 3)) t := fun t k => castTop (ef2 m a1 a2) k
  obtain ⟨T16, X16, e16, st16⟩ := instY X0 hx hZ hown (hw _ (List.mem_of_getElem? (i := 28) rfl)) e0 (Ins.self E_a2) (g := (mkF m 1 #[.val (.ref a1), .val (.ref a2), .unset] [(.ref a2)])) rfl rfl (hb hby d_prog_90_method_5_code_1)
  obtain ⟨T17, X17, e17, st17⟩ := castY X16 hx hZ hown (hw _ (List.mem_of_getElem? (i := 28) rfl)) e16 (Ins.self E_a2) (g := (mkF m 8 #[.val (.ref a1), .val (.ref a2), .unset] [(.ref a2)])) rfl rfl (hb hby d_prog_90_method_5_code_8)
  obtain ⟨T18, X18, e18, st18⟩ := getF X17 hx hZ hown (host := "") (Or.inl (hw _ (List.mem_of_getElem? (i := 14) rfl))) Via.refl e17 F_a2_length (g := (mkF m 13 #[.val (.ref a1), .val (.ref a2), .val (.ref a2)] [(.ref a2)])) rfl rfl (hb hby d_prog_90_method_5_code_13)
  obtain ⟨T19, X19, e19, st19⟩ := getF X18 hx hZ hown (host := "") (Or.inl (hw _ (List.mem_of_getElem? (i := 14) rfl))) Via.refl e18 F_a1_length (g := (mkF m 17 #[.val (.ref a1), .val (.ref a2), .val (.ref a2)] [(.ref a1), (.int p2)])) rfl rfl (hb hby d_prog_90_method_5_code_17)
  obtain ⟨fs, hr, hrun, hended, hWr, hsame⟩ := X19.leave (v := some (.int (1 : Int32))) (fun h => by rw [Bd.returns] at h; cases h) hlk
  refine ⟨_, _, pre0 _ ?_, hrun, hended, _, _, rfl, ?_, ⟨_, rfl⟩, hWr, hsame.mono (Nat.le_of_ble_eq_true rfl) (Nat.le_of_ble_eq_true rfl)⟩
  · show Steps p.tables e below (s₁.setTop (mkF m 0 #[.val (.ref a1), .val (.ref a2), .unset] [])) _
    refine XS.aloadN X0.here hx rfl (hb hby d_prog_90_method_5_code_0) rfl rfl ?_
    show Steps p.tables e below (s₁.setTop (mkF m 1 #[.val (.ref a1), .val (.ref a2), .unset] [(.ref a2)])) _
    refine st16 _ ?_
    show Steps p.tables e below (T16.setTop (mkF m 4 #[.val (.ref a1), .val (.ref a2), .unset] [(.int (1 : Int32))])) _
    refine XS.ifNo X16.here hx rfl (hb hby d_prog_90_method_5_code_4) rfl (by decide) ?_
    show Steps p.tables e below (T16.setTop (mkF m 7 #[.val (.ref a1), .val (.ref a2), .unset] [])) _
    refine XS.aloadN X16.here hx rfl (hb hby d_prog_90_method_5_code_7) rfl rfl ?_
    show Steps p.tables e below (T16.setTop (mkF m 8 #[.val (.ref a1), .val (.ref a2), .unset] [(.ref a2)])) _
    refine st17 _ ?_
    show Steps p.tables e below (T17.setTop (mkF m 11 #[.val (.ref a1), .val (.ref a2), .unset] [(.ref a2)])) _
    refine XS.astoreN X17.here hx rfl (hb hby d_prog_90_method_5_code_11) rfl rfl (l' := #[.val (.ref a1), .val (.ref a2), .val (.ref a2)]) rfl ?_
    show Steps p.tables e below (T17.setTop (mkF m 12 #[.val (.ref a1), .val (.ref a2), .val (.ref a2)] [])) _
    refine XS.aloadN X17.here hx rfl (hb hby d_prog_90_method_5_code_12) rfl rfl ?_
    show Steps p.tables e below (T17.setTop (mkF m 13 #[.val (.ref a1), .val (.ref a2), .val (.ref a2)] [(.ref a2)])) _
    refine st18 _ ?_
    show Steps p.tables e below (T18.setTop (mkF m 16 #[.val (.ref a1), .val (.ref a2), .val (.ref a2)] [(.int p2)])) _
    refine XS.aloadN X18.here hx rfl (hb hby d_prog_90_method_5_code_16) rfl rfl ?_
    show Steps p.tables e below (T18.setTop (mkF m 17 #[.val (.ref a1), .val (.ref a2), .val (.ref a2)] [(.ref a1), (.int p2)])) _
    refine st19 _ ?_
    show Steps p.tables e below (T19.setTop (mkF m 20 #[.val (.ref a1), .val (.ref a2), .val (.ref a2)] [(.int p1), (.int p2)])) _
    refine XS.icmpNo X19.here hx rfl (hb hby d_prog_90_method_5_code_20) rfl (teq (Eq.symm rl0)).2 ?_
    show Steps p.tables e below (T19.setTop (mkF m 23 #[.val (.ref a1), .val (.ref a2), .val (.ref a2)] [])) _
    refine XS.iconst X19.here hx rfl (hb hby d_prog_90_method_5_code_23) ?_
    show Steps p.tables e below (T19.setTop (mkF m 24 #[.val (.ref a1), .val (.ref a2), .val (.ref a2)] [(.int (1 : Int32))])) _
    refine XS.goto X19.here hx rfl (pc0 := 24) (pc' := 28) rfl (hb hby d_prog_90_method_5_code_24) (by decide) (by decide) ?_
    show Steps p.tables e below (T19.setTop (mkF m 28 #[.val (.ref a1), .val (.ref a2), .val (.ref a2)] [(.int (1 : Int32))])) _
    exact retN X19 hx (t := .boolean) Bd.returns (by simp) (hb hby d_prog_90_method_5_code_28) hr
  · show Qp (some (.int (1 : Int32))) h0 n0 _ T19.heap _
    rw [e19]
    exact ⟨rfl, N0, rfl⟩
theorem pd2 : parseMethodDescriptor "(Ljava/lang/Object;)Z" = some ⟨[(.object "java/lang/Object")], some .boolean⟩ := by decide +kernel
set_option maxRecDepth 65536 in
set_option maxHeartbeats 40000000 in
theorem rm4 (l : Launch) (Z : State) (a0 : Array Value) (hw : ∀ d ∈ tables_1, d.before a0 Z = true) (ws : List Jvm.Cond) (wc : Addr) (p1 p2 : Int32) (a1 a2 : Addr) (h0 : Heap) (n0 : Nat) (hWd : Wd Z wc) (O0 : Old Z n0 h0) (rl0 : p2 = p1) (E_a1 : Exa Z h0 a1 "com/example/vestwright/vestwright/model/VestingPeriod$Days") (F_a1_length : Fld Z h0 a1 "com/example/vestwright/vestwright/model/VestingPeriod$Days" "length" "I" (.int p1)) (g_a1 : n0 ≤ a1) (E_a2 : Exa Z h0 a2 "com/example/vestwright/vestwright/model/VestingPeriod$Days") (F_a2_length : Fld Z h0 a2 "com/example/vestwright/vestwright/model/VestingPeriod$Days" "length" "I" (.int p2)) (g_a2 : n0 ≤ a2) :
    MetFree l (⟨"com/example/vestwright/vestwright/model/VestingPeriod$Days", "equals", "(Ljava/lang/Object;)Z"⟩ : MethodName) (head1 (Jvm.Cond.code (⟨"com/example/vestwright/vestwright/model/VestingPeriod$Days", "equals", "(Ljava/lang/Object;)Z"⟩ : MethodName) prog_90_method_5_code 3 (some .boolean) :: ws) ({ frames := 0, cells := 0, slots := 0, locals := 0 } : Room)) (fun a U => a = #[(.ref a1), (.ref a2)] ∧ Z.Warmed39 U.vm ∧ U.heap = h0) (fun _ _ _ _ _ => True) (fun _ U o U' => ∃ v L, o = .returned v ∧ Qp (some (.int (1 : Int32))) h0 n0 v U'.heap L ∧ FrameEnd U o U' L ({ frames := 0, cells := 0, slots := 0, locals := 0 } : Room).cells ({ frames := 0, cells := 0, slots := 0, locals := 0 } : Room).slots) := by
  refine MetFree.of_bodySF (plainFor_of_name pn1) hisR ?_
  intro p e s m args below meth c s₁ Bd hml0 hP hK
  obtain ⟨rfl, hZ, hh⟩ := hP
  have hx := Bd.exec
  have hby := Bd.bytes
  have hml : c.maxLocals = 3 := hml0
  have hown : s.vm.findClass "com/example/vestwright/vestwright/model/VestingPeriod$Days" = some m.cls := findClass_of_methodNamed Bd.named
  have hnm := (name_of_methodNamed Bd.named Bd.method).1
  have X0 : Stand p l e ({ frames := 0, cells := 0, slots := 0, locals := 0 } : Room) s m #[(.ref a1), (.ref a2)] below meth c s₁ [] 0 0 := Stand.of_body Bd
  have e0 : s₁.heap = h0 := by rw [← hh, Bd.state]; rfl
  have N0 := Fr.nil n0
  have hlk := Bd.notSynchronized
  obtain ⟨wSh, wSc, wB, -⟩ := id hWd
  have pre0 : ∀ t, Steps p.tables e below (s₁.setTop (mkF m 0 #[.val (.ref a1), .val (.ref a2), .unset] [])) t → Steps p.tables e below (s₁.setTop (entryFrame m #[(.ref a1), (.ref a2)] 3)) t := fun t k => castTop (ef2 m a1 a2) k
  obtain ⟨T21, X21, e21, st21⟩ := instY X0 hx hZ hown (hw _ (List.mem_of_getElem? (i := 28) rfl)) e0 (Ins.self E_a2) (g := (mkF m 1 #[.val (.ref a1), .val (.ref a2), .unset] [(.ref a2)])) rfl rfl (hb hby d_prog_90_method_5_code_1)
  obtain ⟨T22, X22, e22, st22⟩ := castY X21 hx hZ hown (hw _ (List.mem_of_getElem? (i := 28) rfl)) e21 (Ins.self E_a2) (g := (mkF m 8 #[.val (.ref a1), .val (.ref a2), .unset] [(.ref a2)])) rfl rfl (hb hby d_prog_90_method_5_code_8)
  obtain ⟨T23, X23, e23, st23⟩ := getF X22 hx hZ hown (host := "") (Or.inl (hw _ (List.mem_of_getElem? (i := 14) rfl))) Via.refl e22 F_a2_length (g := (mkF m 13 #[.val (.ref a1), .val (.ref a2), .val (.ref a2)] [(.ref a2)])) rfl rfl (hb hby d_prog_90_method_5_code_13)
  obtain ⟨T24, X24, e24, st24⟩ := getF X23 hx hZ hown (host := "") (Or.inl (hw _ (List.mem_of_getElem? (i := 14) rfl))) Via.refl e23 F_a1_length (g := (mkF m 17 #[.val (.ref a1), .val (.ref a2), .val (.ref a2)] [(.ref a1), (.int p2)])) rfl rfl (hb hby d_prog_90_method_5_code_17)
  obtain ⟨fs, hr, hrun, hended, hWr, hsame⟩ := X24.leave (v := some (.int (1 : Int32))) (fun h => by rw [Bd.returns] at h; cases h) hlk
  refine ⟨_, _, pre0 _ ?_, hrun, hended, _, _, rfl, ?_, ⟨_, rfl⟩, hWr, hsame.mono (Nat.le_of_ble_eq_true rfl) (Nat.le_of_ble_eq_true rfl)⟩
  · show Steps p.tables e below (s₁.setTop (mkF m 0 #[.val (.ref a1), .val (.ref a2), .unset] [])) _
    refine XS.aloadN X0.here hx rfl (hb hby d_prog_90_method_5_code_0) rfl rfl ?_
    show Steps p.tables e below (s₁.setTop (mkF m 1 #[.val (.ref a1), .val (.ref a2), .unset] [(.ref a2)])) _
    refine st21 _ ?_
    show Steps p.tables e below (T21.setTop (mkF m 4 #[.val (.ref a1), .val (.ref a2), .unset] [(.int (1 : Int32))])) _
    refine XS.ifNo X21.here hx rfl (hb hby d_prog_90_method_5_code_4) rfl (by decide) ?_
    show Steps p.tables e below (T21.setTop (mkF m 7 #[.val (.ref a1), .val (.ref a2), .unset] [])) _
    refine XS.aloadN X21.here hx rfl (hb hby d_prog_90_method_5_code_7) rfl rfl ?_
    show Steps p.tables e below (T21.setTop (mkF m 8 #[.val (.ref a1), .val (.ref a2), .unset] [(.ref a2)])) _
    refine st22 _ ?_
    show Steps p.tables e below (T22.setTop (mkF m 11 #[.val (.ref a1), .val (.ref a2), .unset] [(.ref a2)])) _
    refine XS.astoreN X22.here hx rfl (hb hby d_prog_90_method_5_code_11) rfl rfl (l' := #[.val (.ref a1), .val (.ref a2), .val (.ref a2)]) rfl ?_
    show Steps p.tables e below (T22.setTop (mkF m 12 #[.val (.ref a1), .val (.ref a2), .val (.ref a2)] [])) _
    refine XS.aloadN X22.here hx rfl (hb hby d_prog_90_method_5_code_12) rfl rfl ?_
    show Steps p.tables e below (T22.setTop (mkF m 13 #[.val (.ref a1), .val (.ref a2), .val (.ref a2)] [(.ref a2)])) _
    refine st23 _ ?_
    show Steps p.tables e below (T23.setTop (mkF m 16 #[.val (.ref a1), .val (.ref a2), .val (.ref a2)] [(.int p2)])) _
    refine XS.aloadN X23.here hx rfl (hb hby d_prog_90_method_5_code_16) rfl rfl ?_
    show Steps p.tables e below (T23.setTop (mkF m 17 #[.val (.ref a1), .val (.ref a2), .val (.ref a2)] [(.ref a1), (.int p2)])) _
    refine st24 _ ?_
    show Steps p.tables e below (T24.setTop (mkF m 20 #[.val (.ref a1), .val (.ref a2), .val (.ref a2)] [(.int p1), (.int p2)])) _
    refine XS.icmpNo X24.here hx rfl (hb hby d_prog_90_method_5_code_20) rfl (teq rl0).2 ?_
    show Steps p.tables e below (T24.setTop (mkF m 23 #[.val (.ref a1), .val (.ref a2), .val (.ref a2)] [])) _
    refine XS.iconst X24.here hx rfl (hb hby d_prog_90_method_5_code_23) ?_
    show Steps p.tables e below (T24.setTop (mkF m 24 #[.val (.ref a1), .val (.ref a2), .val (.ref a2)] [(.int (1 : Int32))])) _
    refine XS.goto X24.here hx rfl (pc0 := 24) (pc' := 28) rfl (hb hby d_prog_90_method_5_code_24) (by decide) (by decide) ?_
    show Steps p.tables e below (T24.setTop (mkF m 28 #[.val (.ref a1), .val (.ref a2), .val (.ref a2)] [(.int (1 : Int32))])) _
    exact retN X24 hx (t := .boolean) Bd.returns (by simp) (hb hby d_prog_90_method_5_code_28) hr
  · show Qp (some (.int (1 : Int32))) h0 n0 _ T24.heap _
    rw [e24]
    exact ⟨rfl, N0, rfl⟩
theorem ef3 (m : MethodId)   (a1 : Addr) : entryFrame m #[(.ref a1), (.ref a1)] 3 = mkF m 0 #[.val (.ref a1), .val (.ref a1), .unset] [] := by first | (simp [entryFrame, mkF, argsToLocals, Value.category]; done) | rfl
set_option maxRecDepth 65536 in
set_option maxHeartbeats 40000000 in
theorem rm5 (l : Launch) (Z : State) (a0 : Array Value) (hw : ∀ d ∈ tables_1, d.before a0 Z = true) (ws : List Jvm.Cond) (wc : Addr) (p1 : Int32) (a1 : Addr) (h0 : Heap) (n0 : Nat) (hWd : Wd Z wc) (O0 : Old Z n0 h0) (E_a1 : Exa Z h0 a1 "com/example/vestwright/vestwright/model/VestingPeriod$Days") (F_a1_length : Fld Z h0 a1 "com/example/vestwright/vestwright/model/VestingPeriod$Days" "length" "I" (.int p1)) (g_a1 : n0 ≤ a1) :
    MetFree l (⟨"com/example/vestwright/vestwright/model/VestingPeriod$Days", "equals", "(Ljava/lang/Object;)Z"⟩ : MethodName) (head1 (Jvm.Cond.code (⟨"com/example/vestwright/vestwright/model/VestingPeriod$Days", "equals", "(Ljava/lang/Object;)Z"⟩ : MethodName) prog_90_method_5_code 3 (some .boolean) :: ws) ({ frames := 0, cells := 0, slots := 0, locals := 0 } : Room)) (fun a U => a = #[(.ref a1), (.ref a1)] ∧ Z.Warmed39 U.vm ∧ U.heap = h0) (fun _ _ _ _ _ => True) (fun _ U o U' => ∃ v L, o = .returned v ∧ Qp (some (.int (1 : Int32))) h0 n0 v U'.heap L ∧ FrameEnd U o U' L ({ frames := 0, cells := 0, slots := 0, locals := 0 } : Room).cells ({ frames := 0, cells := 0, slots := 0, locals := 0 } : Room).slots) := by
  refine MetFree.of_bodySF (plainFor_of_name pn1) hisR ?_
  intro p e s m args below meth c s₁ Bd hml0 hP hK
  obtain ⟨rfl, hZ, hh⟩ := hP
  have hx := Bd.exec
  have hby := Bd.bytes
  have hml : c.maxLocals = 3 := hml0
  have hown : s.vm.findClass "com/example/vestwright/vestwright/model/VestingPeriod$Days" = some m.cls := findClass_of_methodNamed Bd.named
  have hnm := (name_of_methodNamed Bd.named Bd.method).1
  have X0 : Stand p l e ({ frames := 0, cells := 0, slots := 0, locals := 0 } : Room) s m #[(.ref a1), (.ref a1)] below meth c s₁ [] 0 0 := Stand.of_body Bd
  have e0 : s₁.heap = h0 := by rw [← hh, Bd.state]; rfl
  have N0 := Fr.nil n0
  have hlk := Bd.notSynchronized
  obtain ⟨wSh, wSc, wB, -⟩ := id hWd
  have pre0 : ∀ t, Steps p.tables e below (s₁.setTop (mkF m 0 #[.val (.ref a1), .val (.ref a1), .unset] [])) t → Steps p.tables e below (s₁.setTop (entryFrame m #[(.ref a1), (.ref a1)] 3)) t := fun t k => castTop (ef3 m a1) k
  obtain ⟨T26, X26, e26, st26⟩ := instY X0 hx hZ hown (hw _ (List.mem_of_getElem? (i := 28) rfl)) e0 (Ins.self E_a1) (g := (mkF m 1 #[.val (.ref a1), .val (.ref a1), .unset] [(.ref a1)])) rfl rfl (hb hby d_prog_90_method_5_code_1)
  obtain ⟨T27, X27, e27, st27⟩ := castY X26 hx hZ hown (hw _ (List.mem_of_getElem? (i := 28) rfl)) e26 (Ins.self E_a1) (g := (mkF m 8 #[.val (.ref a1), .val (.ref a1), .unset] [(.ref a1)])) rfl rfl (hb hby d_prog_90_method_5_code_8)
  obtain ⟨T28, X28, e28, st28⟩ := getF X27 hx hZ hown (host := "") (Or.inl (hw _ (List.mem_of_getElem? (i := 14) rfl))) Via.refl e27 F_a1_length (g := (mkF m 13 #[.val (.ref a1), .val (.ref a1), .val (.ref a1)] [(.ref a1)])) rfl rfl (hb hby d_prog_90_method_5_code_13)
  obtain ⟨T29, X29, e29, st29⟩ := getF X28 hx hZ hown (host := "") (Or.inl (hw _ (List.mem_of_getElem? (i := 14) rfl))) Via.refl e28 F_a1_length (g := (mkF m 17 #[.val (.ref a1), .val (.ref a1), .val (.ref a1)] [(.ref a1), (.int p1)])) rfl rfl (hb hby d_prog_90_method_5_code_17)
  obtain ⟨fs, hr, hrun, hended, hWr, hsame⟩ := X29.leave (v := some (.int (1 : Int32))) (fun h => by rw [Bd.returns] at h; cases h) hlk
  refine ⟨_, _, pre0 _ ?_, hrun, hended, _, _, rfl, ?_, ⟨_, rfl⟩, hWr, hsame.mono (Nat.le_of_ble_eq_true rfl) (Nat.le_of_ble_eq_true rfl)⟩
  · show Steps p.tables e below (s₁.setTop (mkF m 0 #[.val (.ref a1), .val (.ref a1), .unset] [])) _
    refine XS.aloadN X0.here hx rfl (hb hby d_prog_90_method_5_code_0) rfl rfl ?_
    show Steps p.tables e below (s₁.setTop (mkF m 1 #[.val (.ref a1), .val (.ref a1), .unset] [(.ref a1)])) _
    refine st26 _ ?_
    show Steps p.tables e below (T26.setTop (mkF m 4 #[.val (.ref a1), .val (.ref a1), .unset] [(.int (1 : Int32))])) _
    refine XS.ifNo X26.here hx rfl (hb hby d_prog_90_method_5_code_4) rfl (by decide) ?_
    show Steps p.tables e below (T26.setTop (mkF m 7 #[.val (.ref a1), .val (.ref a1), .unset] [])) _
    refine XS.aloadN X26.here hx rfl (hb hby d_prog_90_method_5_code_7) rfl rfl ?_
    show Steps p.tables e below (T26.setTop (mkF m 8 #[.val (.ref a1), .val (.ref a1), .unset] [(.ref a1)])) _
    refine st27 _ ?_
    show Steps p.tables e below (T27.setTop (mkF m 11 #[.val (.ref a1), .val (.ref a1), .unset] [(.ref a1)])) _
    refine XS.astoreN X27.here hx rfl (hb hby d_prog_90_method_5_code_11) rfl rfl (l' := #[.val (.ref a1), .val (.ref a1), .val (.ref a1)]) rfl ?_
    show Steps p.tables e below (T27.setTop (mkF m 12 #[.val (.ref a1), .val (.ref a1), .val (.ref a1)] [])) _
    refine XS.aloadN X27.here hx rfl (hb hby d_prog_90_method_5_code_12) rfl rfl ?_
    show Steps p.tables e below (T27.setTop (mkF m 13 #[.val (.ref a1), .val (.ref a1), .val (.ref a1)] [(.ref a1)])) _
    refine st28 _ ?_
    show Steps p.tables e below (T28.setTop (mkF m 16 #[.val (.ref a1), .val (.ref a1), .val (.ref a1)] [(.int p1)])) _
    refine XS.aloadN X28.here hx rfl (hb hby d_prog_90_method_5_code_16) rfl rfl ?_
    show Steps p.tables e below (T28.setTop (mkF m 17 #[.val (.ref a1), .val (.ref a1), .val (.ref a1)] [(.ref a1), (.int p1)])) _
    refine st29 _ ?_
    show Steps p.tables e below (T29.setTop (mkF m 20 #[.val (.ref a1), .val (.ref a1), .val (.ref a1)] [(.int p1), (.int p1)])) _
    refine XS.icmpNo X29.here hx rfl (hb hby d_prog_90_method_5_code_20) rfl (teq (rfl : p1 = p1)).2 ?_
    show Steps p.tables e below (T29.setTop (mkF m 23 #[.val (.ref a1), .val (.ref a1), .val (.ref a1)] [])) _
    refine XS.iconst X29.here hx rfl (hb hby d_prog_90_method_5_code_23) ?_
    show Steps p.tables e below (T29.setTop (mkF m 24 #[.val (.ref a1), .val (.ref a1), .val (.ref a1)] [(.int (1 : Int32))])) _
    refine XS.goto X29.here hx rfl (pc0 := 24) (pc' := 28) rfl (hb hby d_prog_90_method_5_code_24) (by decide) (by decide) ?_
    show Steps p.tables e below (T29.setTop (mkF m 28 #[.val (.ref a1), .val (.ref a1), .val (.ref a1)] [(.int (1 : Int32))])) _
    exact retN X29 hx (t := .boolean) Bd.returns (by simp) (hb hby d_prog_90_method_5_code_28) hr
  · show Qp (some (.int (1 : Int32))) h0 n0 _ T29.heap _
    rw [e29]
    exact ⟨rfl, N0, rfl⟩
theorem d_prog_90_method_5_code_27 : decode prog_90_method_5_code 27 = .ok (.iconst 0, 1) := by decide +kernel
set_option maxRecDepth 65536 in
set_option maxHeartbeats 40000000 in
theorem rm6 (l : Launch) (Z : State) (a0 : Array Value) (hw : ∀ d ∈ tables_1, d.before a0 Z = true) (ws : List Jvm.Cond) (wc : Addr) (p1 p2 : Int32) (a1 a2 : Addr) (h0 : Heap) (n0 : Nat) (hWd : Wd Z wc) (O0 : Old Z n0 h0) (rl0 : ¬ (p1 = p2)) (E_a1 : Exa Z h0 a1 "com/example/vestwright/vestwright/model/VestingPeriod$Days") (F_a1_length : Fld Z h0 a1 "com/example/vestwright/vestwright/model/VestingPeriod$Days" "length" "I" (.int p1)) (g_a1 : n0 ≤ a1) (E_a2 : Exa Z h0 a2 "com/example/vestwright/vestwright/model/VestingPeriod$Days") (F_a2_length : Fld Z h0 a2 "com/example/vestwright/vestwright/model/VestingPeriod$Days" "length" "I" (.int p2)) (g_a2 : n0 ≤ a2) :
    MetFree l (⟨"com/example/vestwright/vestwright/model/VestingPeriod$Days", "equals", "(Ljava/lang/Object;)Z"⟩ : MethodName) (head1 (Jvm.Cond.code (⟨"com/example/vestwright/vestwright/model/VestingPeriod$Days", "equals", "(Ljava/lang/Object;)Z"⟩ : MethodName) prog_90_method_5_code 3 (some .boolean) :: ws) ({ frames := 0, cells := 0, slots := 0, locals := 0 } : Room)) (fun a U => a = #[(.ref a1), (.ref a2)] ∧ Z.Warmed39 U.vm ∧ U.heap = h0) (fun _ _ _ _ _ => True) (fun _ U o U' => ∃ v L, o = .returned v ∧ Qp (some (.int (0 : Int32))) h0 n0 v U'.heap L ∧ FrameEnd U o U' L ({ frames := 0, cells := 0, slots := 0, locals := 0 } : Room).cells ({ frames := 0, cells := 0, slots := 0, locals := 0 } : Room).slots) := by
  refine MetFree.of_bodySF (plainFor_of_name pn1) hisR ?_
  intro p e s m args below meth c s₁ Bd hml0 hP hK
  obtain ⟨rfl, hZ, hh⟩ := hP
  have hx := Bd.exec
  have hby := Bd.bytes
  have hml : c.maxLocals = 3 := hml0
  have hown : s.vm.findClass "com/example/vestwright/vestwright/model/VestingPeriod$Days" = some m.cls := findClass_of_methodNamed Bd.named
  have hnm := (name_of_methodNamed Bd.named Bd.method).1
  have X0 : Stand p l e ({ frames := 0, cells := 0, slots := 0, locals := 0 } : Room) s m #[(.ref a1), (.ref a2)] below meth c s₁ [] 0 0 := Stand.of_body Bd
  have e0 : s₁.heap = h0 := by rw [← hh, Bd.state]; rfl
  have N0 := Fr.nil n0
  have hlk := Bd.notSynchronized
  obtain ⟨wSh, wSc, wB, -⟩ := id hWd
  have pre0 : ∀ t, Steps p.tables e below (s₁.setTop (mkF m 0 #[.val (.ref a1), .val (.ref a2), .unset] [])) t → Steps p.tables e below (s₁.setTop (entryFrame m #[(.ref a1), (.ref a2)] 3)) t := fun t k => castTop (ef2 m a1 a2) k
  obtain ⟨T31, X31, e31, st31⟩ := instY X0 hx hZ hown (hw _ (List.mem_of_getElem? (i := 28) rfl)) e0 (Ins.self E_a2) (g := (mkF m 1 #[.val (.ref a1), .val (.ref a2), .unset] [(.ref a2)])) rfl rfl (hb hby d_prog_90_method_5_code_1)
  obtain ⟨T32, X32, e32, st32⟩ := castY X31 hx hZ hown (hw _ (List.mem_of_getElem? (i := 28) rfl)) e31 (Ins.self E_a2) (g := (mkF m 8 #[.val (.ref a1), .val (.ref a2), .unset] [(.ref a2)])) rfl rfl (hb hby d_prog_90_method_5_code_8)
  obtain ⟨T33, X33, e33, st33⟩ := getF X32 hx hZ hown (host := "") (Or.inl (hw _ (List.mem_of_getElem? (i := 14) rfl))) Via.refl e32 F_a2_length (g := (mkF m 13 #[.val (.ref a1), .val (.ref a2), .val (.ref a2)] [(.ref a2)])) rfl rfl (hb hby d_prog_90_method_5_code_13)
  obtain ⟨T34, X34, e34, st34⟩ := getF X33 hx hZ hown (host := "") (Or.inl (hw _ (List.mem_of_getElem? (i := 14) rfl))) Via.refl e33 F_a1_length (g := (mkF m 17 #[.val (.ref a1), .val (.ref a2), .val (.ref a2)] [(.ref a1), (.int p2)])) rfl rfl (hb hby d_prog_90_method_5_code_17)
  obtain ⟨fs, hr, hrun, hended, hWr, hsame⟩ := X34.leave (v := some (.int (0 : Int32))) (fun h => by rw [Bd.returns] at h; cases h) hlk
  refine ⟨_, _, pre0 _ ?_, hrun, hended, _, _, rfl, ?_, ⟨_, rfl⟩, hWr, hsame.mono (Nat.le_of_ble_eq_true rfl) (Nat.le_of_ble_eq_true rfl)⟩
  · show Steps p.tables e below (s₁.setTop (mkF m 0 #[.val (.ref a1), .val (.ref a2), .unset] [])) _
    refine XS.aloadN X0.here hx rfl (hb hby d_prog_90_method_5_code_0) rfl rfl ?_
    show Steps p.tables e below (s₁.setTop (mkF m 1 #[.val (.ref a1), .val (.ref a2), .unset] [(.ref a2)])) _
    refine st31 _ ?_
    show Steps p.tables e below (T31.setTop (mkF m 4 #[.val (.ref a1), .val (.ref a2), .unset] [(.int (1 : Int32))])) _
    refine XS.ifNo X31.here hx rfl (hb hby d_prog_90_method_5_code_4) rfl (by decide) ?_
    show Steps p.tables e below (T31.setTop (mkF m 7 #[.val (.ref a1), .val (.ref a2), .unset] [])) _
    refine XS.aloadN X31.here hx rfl (hb hby d_prog_90_method_5_code_7) rfl rfl ?_
    show Steps p.tables e below (T31.setTop (mkF m 8 #[.val (.ref a1), .val (.ref a2), .unset] [(.ref a2)])) _
    refine st32 _ ?_
    show Steps p.tables e below (T32.setTop (mkF m 11 #[.val (.ref a1), .val (.ref a2), .unset] [(.ref a2)])) _
    refine XS.astoreN X32.here hx rfl (hb hby d_prog_90_method_5_code_11) rfl rfl (l' := #[.val (.ref a1), .val (.ref a2), .val (.ref a2)]) rfl ?_
    show Steps p.tables e below (T32.setTop (mkF m 12 #[.val (.ref a1), .val (.ref a2), .val (.ref a2)] [])) _
    refine XS.aloadN X32.here hx rfl (hb hby d_prog_90_method_5_code_12) rfl rfl ?_
    show Steps p.tables e below (T32.setTop (mkF m 13 #[.val (.ref a1), .val (.ref a2), .val (.ref a2)] [(.ref a2)])) _
    refine st33 _ ?_
    show Steps p.tables e below (T33.setTop (mkF m 16 #[.val (.ref a1), .val (.ref a2), .val (.ref a2)] [(.int p2)])) _
    refine XS.aloadN X33.here hx rfl (hb hby d_prog_90_method_5_code_16) rfl rfl ?_
    show Steps p.tables e below (T33.setTop (mkF m 17 #[.val (.ref a1), .val (.ref a2), .val (.ref a2)] [(.ref a1), (.int p2)])) _
    refine st34 _ ?_
    show Steps p.tables e below (T34.setTop (mkF m 20 #[.val (.ref a1), .val (.ref a2), .val (.ref a2)] [(.int p1), (.int p2)])) _
    refine XS.icmpYes X34.here hx rfl (pc0 := 20) (pc' := 27) rfl (hb hby d_prog_90_method_5_code_20) rfl (feq (fun q => rl0 (Eq.symm q))).2 (by decide) (by decide) ?_
    show Steps p.tables e below (T34.setTop (mkF m 27 #[.val (.ref a1), .val (.ref a2), .val (.ref a2)] [])) _
    refine XS.iconst X34.here hx rfl (hb hby d_prog_90_method_5_code_27) ?_
    show Steps p.tables e below (T34.setTop (mkF m 28 #[.val (.ref a1), .val (.ref a2), .val (.ref a2)] [(.int (0 : Int32))])) _
    exact retN X34 hx (t := .boolean) Bd.returns (by simp) (hb hby d_prog_90_method_5_code_28) hr
  · show Qp (some (.int (0 : Int32))) h0 n0 _ T34.heap _
    rw [e34]
    exact ⟨rfl, N0, rfl⟩
set_option maxRecDepth 65536 in
set_option maxHeartbeats 40000000 in
theorem rm7 (l : Launch) (Z : State) (a0 : Array Value) (hw : ∀ d ∈ tables_1, d.before a0 Z = true) (ws : List Jvm.Cond) (wc : Addr) (p1 p2 : Int32) (a1 a2 : Addr) (h0 : Heap) (n0 : Nat) (hWd : Wd Z wc) (O0 : Old Z n0 h0) (rl0 : ¬ (p2 = p1)) (E_a1 : Exa Z h0 a1 "com/example/vestwright/vestwright/model/VestingPeriod$Days") (F_a1_length : Fld Z h0 a1 "com/example/vestwright/vestwright/model/VestingPeriod$Days" "length" "I" (.int p1)) (g_a1 : n0 ≤ a1) (E_a2 : Exa Z h0 a2 "com/example/vestwright/vestwright/model/VestingPeriod$Days") (F_a2_length : Fld Z h0 a2 "com/example/vestwright/vestwright/model/VestingPeriod$Days" "length" "I" (.int p2)) (g_a2 : n0 ≤ a2) :
    MetFree l (⟨"com/example/vestwright/vestwright/model/VestingPeriod$Days", "equals", "(Ljava/lang/Object;)Z"⟩ : MethodName) (head1 (Jvm.Cond.code (⟨"com/example/vestwright/vestwright/model/VestingPeriod$Days", "equals", "(Ljava/lang/Object;)Z"⟩ : MethodName) prog_90_method_5_code 3 (some .boolean) :: ws) ({ frames := 0, cells := 0, slots := 0, locals := 0 } : Room)) (fun a U => a = #[(.ref a1), (.ref a2)] ∧ Z.Warmed39 U.vm ∧ U.heap = h0) (fun _ _ _ _ _ => True) (fun _ U o U' => ∃ v L, o = .returned v ∧ Qp (some (.int (0 : Int32))) h0 n0 v U'.heap L ∧ FrameEnd U o U' L ({ frames := 0, cells := 0, slots := 0, locals := 0 } : Room).cells ({ frames := 0, cells := 0, slots := 0, locals := 0 } : Room).slots) := by
  refine MetFree.of_bodySF (plainFor_of_name pn1) hisR ?_
  intro p e s m args below meth c s₁ Bd hml0 hP hK
  obtain ⟨rfl, hZ, hh⟩ := hP
  have hx := Bd.exec
  have hby := Bd.bytes
  have hml : c.maxLocals = 3 := hml0
  have hown : s.vm.findClass "com/example/vestwright/vestwright/model/VestingPeriod$Days" = some m.cls := findClass_of_methodNamed Bd.named
  have hnm := (name_of_methodNamed Bd.named Bd.method).1
  have X0 : Stand p l e ({ frames := 0, cells := 0, slots := 0, locals := 0 } : Room) s m #[(.ref a1), (.ref a2)] below meth c s₁ [] 0 0 := Stand.of_body Bd
  have e0 : s₁.heap = h0 := by rw [← hh, Bd.state]; rfl
  have N0 := Fr.nil n0
  have hlk := Bd.notSynchronized
  obtain ⟨wSh, wSc, wB, -⟩ := id hWd
  have pre0 : ∀ t, Steps p.tables e below (s₁.setTop (mkF m 0 #[.val (.ref a1), .val (.ref a2), .unset] [])) t → Steps p.tables e below (s₁.setTop (entryFrame m #[(.ref a1), (.ref a2)] 3)) t := fun t k => castTop (ef2 m a1 a2) k
  obtain ⟨T36, X36, e36, st36⟩ := instY X0 hx hZ hown (hw _ (List.mem_of_getElem? (i := 28) rfl)) e0 (Ins.self E_a2) (g := (mkF m 1 #[.val (.ref a1), .val (.ref a2), .unset] [(.ref a2)])) rfl rfl (hb hby d_prog_90_method_5_code_1)
  obtain ⟨T37, X37, e37, st37⟩ := castY X36 hx hZ hown (hw _ (List.mem_of_getElem? (i := 28) rfl)) e36 (Ins.self E_a2) (g := (mkF m 8 #[.val (.ref a1), .val (.ref a2), .unset] [(.ref a2)])) rfl rfl (hb hby d_prog_90_method_5_code_8)
  obtain ⟨T38, X38, e38, st38⟩ := getF X37 hx hZ hown (host := "") (Or.inl (hw _ (List.mem_of_getElem? (i := 14) rfl))) Via.refl e37 F_a2_length (g := (mkF m 13 #[.val (.ref a1), .val (.ref a2), .val (.ref a2)] [(.ref a2)])) rfl rfl (hb hby d_prog_90_method_5_code_13)
  obtain ⟨T39, X39, e39, st39⟩ := getF X38 hx hZ hown (host := "") (Or.inl (hw _ (List.mem_of_getElem? (i := 14) rfl))) Via.refl e38 F_a1_length (g := (mkF m 17 #[.val (.ref a1), .val (.ref a2), .val (.ref a2)] [(.ref a1), (.int p2)])) rfl rfl (hb hby d_prog_90_method_5_code_17)
  obtain ⟨fs, hr, hrun, hended, hWr, hsame⟩ := X39.leave (v := some (.int (0 : Int32))) (fun h => by rw [Bd.returns] at h; cases h) hlk
  refine ⟨_, _, pre0 _ ?_, hrun, hended, _, _, rfl, ?_, ⟨_, rfl⟩, hWr, hsame.mono (Nat.le_of_ble_eq_true rfl) (Nat.le_of_ble_eq_true rfl)⟩
  · show Steps p.tables e below (s₁.setTop (mkF m 0 #[.val (.ref a1), .val (.ref a2), .unset] [])) _
    refine XS.aloadN X0.here hx rfl (hb hby d_prog_90_method_5_code_0) rfl rfl ?_
    show Steps p.tables e below (s₁.setTop (mkF m 1 #[.val (.ref a1), .val (.ref a2), .unset] [(.ref a2)])) _
    refine st36 _ ?_
    show Steps p.tables e below (T36.setTop (mkF m 4 #[.val (.ref a1), .val (.ref a2), .unset] [(.int (1 : Int32))])) _
    refine XS.ifNo X36.here hx rfl (hb hby d_prog_90_method_5_code_4) rfl (by decide) ?_
    show Steps p.tables e below (T36.setTop (mkF m 7 #[.val (.ref a1), .val (.ref a2), .unset] [])) _
    refine XS.aloadN X36.here hx rfl (hb hby d_prog_90_method_5_code_7) rfl rfl ?_
    show Steps p.tables e below (T36.setTop (mkF m 8 #[.val (.ref a1), .val (.ref a2), .unset] [(.ref a2)])) _
    refine st37 _ ?_
    show Steps p.tables e below (T37.setTop (mkF m 11 #[.val (.ref a1), .val (.ref a2), .unset] [(.ref a2)])) _
    refine XS.astoreN X37.here hx rfl (hb hby d_prog_90_method_5_code_11) rfl rfl (l' := #[.val (.ref a1), .val (.ref a2), .val (.ref a2)]) rfl ?_
    show Steps p.tables e below (T37.setTop (mkF m 12 #[.val (.ref a1), .val (.ref a2), .val (.ref a2)] [])) _
    refine XS.aloadN X37.here hx rfl (hb hby d_prog_90_method_5_code_12) rfl rfl ?_
    show Steps p.tables e below (T37.setTop (mkF m 13 #[.val (.ref a1), .val (.ref a2), .val (.ref a2)] [(.ref a2)])) _
    refine st38 _ ?_
    show Steps p.tables e below (T38.setTop (mkF m 16 #[.val (.ref a1), .val (.ref a2), .val (.ref a2)] [(.int p2)])) _
    refine XS.aloadN X38.here hx rfl (hb hby d_prog_90_method_5_code_16) rfl rfl ?_
    show Steps p.tables e below (T38.setTop (mkF m 17 #[.val (.ref a1), .val (.ref a2), .val (.ref a2)] [(.ref a1), (.int p2)])) _
    refine st39 _ ?_
    show Steps p.tables e below (T39.setTop (mkF m 20 #[.val (.ref a1), .val (.ref a2), .val (.ref a2)] [(.int p1), (.int p2)])) _
    refine XS.icmpYes X39.here hx rfl (pc0 := 20) (pc' := 27) rfl (hb hby d_prog_90_method_5_code_20) rfl (feq rl0).2 (by decide) (by decide) ?_
    show Steps p.tables e below (T39.setTop (mkF m 27 #[.val (.ref a1), .val (.ref a2), .val (.ref a2)] [])) _
    refine XS.iconst X39.here hx rfl (hb hby d_prog_90_method_5_code_27) ?_
    show Steps p.tables e below (T39.setTop (mkF m 28 #[.val (.ref a1), .val (.ref a2), .val (.ref a2)] [(.int (0 : Int32))])) _
    exact retN X39 hx (t := .boolean) Bd.returns (by simp) (hb hby d_prog_90_method_5_code_28) hr
  · show Qp (some (.int (0 : Int32))) h0 n0 _ T39.heap _
    rw [e39]
    exact ⟨rfl, N0, rfl⟩
set_option maxRecDepth 65536 in
set_option maxHeartbeats 40000000 in
theorem rm8 (l : Launch) (Z : State) (a0 : Array Value) (hw : ∀ d ∈ tables_1, d.before a0 Z = true) (ws : List Jvm.Cond) (wc : Addr) (p1 : Int32) (a1 a2 : Addr) (h0 : Heap) (n0 : Nat) (hWd : Wd Z wc) (O0 : Old Z n0 h0) (E_a1 : Exa Z h0 a1 "com/example/vestwright/vestwright/model/VestingPeriod$Days") (F_a1_length : Fld Z h0 a1 "com/example/vestwright/vestwright/model/VestingPeriod$Days" "length" "I" (.int p1)) (g_a1 : n0 ≤ a1) (E_a2 : Exa Z h0 a2 "com/example/vestwright/vestwright/model/VestingPeriod$Days") (F_a2_length : Fld Z h0 a2 "com/example/vestwright/vestwright/model/VestingPeriod$Days" "length" "I" (.int p1)) (g_a2 : n0 ≤ a2) :
    MetFree l (⟨"com/example/vestwright/vestwright/model/VestingPeriod$Days", "equals", "(Ljava/lang/Object;)Z"⟩ : MethodName) (head1 (Jvm.Cond.code (⟨"com/example/vestwright/vestwright/model/VestingPeriod$Days", "equals", "(Ljava/lang/Object;)Z"⟩ : MethodName) prog_90_method_5_code 3 (some .boolean) :: ws) ({ frames := 0, cells := 0, slots := 0, locals := 0 } : Room)) (fun a U => a = #[(.ref a1), (.ref a2)] ∧ Z.Warmed39 U.vm ∧ U.heap = h0) (fun _ _ _ _ _ => True) (fun _ U o U' => ∃ v L, o = .returned v ∧ Qp (some (.int (1 : Int32))) h0 n0 v U'.heap L ∧ FrameEnd U o U' L ({ frames := 0, cells := 0, slots := 0, locals := 0 } : Room).cells ({ frames := 0, cells := 0, slots := 0, locals := 0 } : Room).slots) := by
  refine MetFree.of_bodySF (plainFor_of_name pn1) hisR ?_
  intro p e s m args below meth c s₁ Bd hml0 hP hK
  obtain ⟨rfl, hZ, hh⟩ := hP
  have hx := Bd.exec
  have hby := Bd.bytes
  have hml : c.maxLocals = 3 := hml0
  have hown : s.vm.findClass "com/example/vestwright/vestwright/model/VestingPeriod$Days" = some m.cls := findClass_of_methodNamed Bd.named
  have hnm := (name_of_methodNamed Bd.named Bd.method).1
  have X0 : Stand p l e ({ frames := 0, cells := 0, slots := 0, locals := 0 } : Room) s m #[(.ref a1), (.ref a2)] below meth c s₁ [] 0 0 := Stand.of_body Bd
  have e0 : s₁.heap = h0 := by rw [← hh, Bd.state]; rfl
  have N0 := Fr.nil n0
  have hlk := Bd.notSynchronized
  obtain ⟨wSh, wSc, wB, -⟩ := id hWd
  have pre0 : ∀ t, Steps p.tables e below (s₁.setTop (mkF m 0 #[.val (.ref a1), .val (.ref a2), .unset] [])) t → Steps p.tables e below (s₁.setTop (entryFrame m #[(.ref a1), (.ref a2)] 3)) t := fun t k => castTop (ef2 m a1 a2) k
  obtain ⟨T44, X44, e44, st44⟩ := instY X0 hx hZ hown (hw _ (List.mem_of_getElem? (i := 28) rfl)) e0 (Ins.self E_a2) (g := (mkF m 1 #[.val (.ref a1), .val (.ref a2), .unset] [(.ref a2)])) rfl rfl (hb hby d_prog_90_method_5_code_1)
  obtain ⟨T45, X45, e45, st45⟩ := castY X44 hx hZ hown (hw _ (List.mem_of_getElem? (i := 28) rfl)) e44 (Ins.self E_a2) (g := (mkF m 8 #[.val (.ref a1), .val (.ref a2), .unset] [(.ref a2)])) rfl rfl (hb hby d_prog_90_method_5_code_8)
  obtain ⟨T46, X46, e46, st46⟩ := getF X45 hx hZ hown (host := "") (Or.inl (hw _ (List.mem_of_getElem? (i := 14) rfl))) Via.refl e45 F_a2_length (g := (mkF m 13 #[.val (.ref a1), .val (.ref a2), .val (.ref a2)] [(.ref a2)])) rfl rfl (hb hby d_prog_90_method_5_code_13)
  obtain ⟨T47, X47, e47, st47⟩ := getF X46 hx hZ hown (host := "") (Or.inl (hw _ (List.mem_of_getElem? (i := 14) rfl))) Via.refl e46 F_a1_length (g := (mkF m 17 #[.val (.ref a1), .val (.ref a2), .val (.ref a2)] [(.ref a1), (.int p1)])) rfl rfl (hb hby d_prog_90_method_5_code_17)
  obtain ⟨fs, hr, hrun, hended, hWr, hsame⟩ := X47.leave (v := some (.int (1 : Int32))) (fun h => by rw [Bd.returns] at h; cases h) hlk
  refine ⟨_, _, pre0 _ ?_, hrun, hended, _, _, rfl, ?_, ⟨_, rfl⟩, hWr, hsame.mono (Nat.le_of_ble_eq_true rfl) (Nat.le_of_ble_eq_true rfl)⟩
  · show Steps p.tables e below (s₁.setTop (mkF m 0 #[.val (.ref a1), .val (.ref a2), .unset] [])) _
    refine XS.aloadN X0.here hx rfl (hb hby d_prog_90_method_5_code_0) rfl rfl ?_
    show Steps p.tables e below (s₁.setTop (mkF m 1 #[.val (.ref a1), .val (.ref a2), .unset] [(.ref a2)])) _
    refine st44 _ ?_
    show Steps p.tables e below (T44.setTop (mkF m 4 #[.val (.ref a1), .val (.ref a2), .unset] [(.int (1 : Int32))])) _
    refine XS.ifNo X44.here hx rfl (hb hby d_prog_90_method_5_code_4) rfl (by decide) ?_
    show Steps p.tables e below (T44.setTop (mkF m 7 #[.val (.ref a1), .val (.ref a2), .unset] [])) _
    refine XS.aloadN X44.here hx rfl (hb hby d_prog_90_method_5_code_7) rfl rfl ?_
    show Steps p.tables e below (T44.setTop (mkF m 8 #[.val (.ref a1), .val (.ref a2), .unset] [(.ref a2)])) _
    refine st45 _ ?_
    show Steps p.tables e below (T45.setTop (mkF m 11 #[.val (.ref a1), .val (.ref a2), .unset] [(.ref a2)])) _
    refine XS.astoreN X45.here hx rfl (hb hby d_prog_90_method_5_code_11) rfl rfl (l' := #[.val (.ref a1), .val (.ref a2), .val (.ref a2)]) rfl ?_
    show Steps p.tables e below (T45.setTop (mkF m 12 #[.val (.ref a1), .val (.ref a2), .val (.ref a2)] [])) _
    refine XS.aloadN X45.here hx rfl (hb hby d_prog_90_method_5_code_12) rfl rfl ?_
    show Steps p.tables e below (T45.setTop (mkF m 13 #[.val (.ref a1), .val (.ref a2), .val (.ref a2)] [(.ref a2)])) _
    refine st46 _ ?_
    show Steps p.tables e below (T46.setTop (mkF m 16 #[.val (.ref a1), .val (.ref a2), .val (.ref a2)] [(.int p1)])) _
    refine XS.aloadN X46.here hx rfl (hb hby d_prog_90_method_5_code_16) rfl rfl ?_
    show Steps p.tables e below (T46.setTop (mkF m 17 #[.val (.ref a1), .val (.ref a2), .val (.ref a2)] [(.ref a1), (.int p1)])) _
    refine st47 _ ?_
    show Steps p.tables e below (T47.setTop (mkF m 20 #[.val (.ref a1), .val (.ref a2), .val (.ref a2)] [(.int p1), (.int p1)])) _
    refine XS.icmpNo X47.here hx rfl (hb hby d_prog_90_method_5_code_20) rfl (teq (rfl : p1 = p1)).2 ?_
    show Steps p.tables e below (T47.setTop (mkF m 23 #[.val (.ref a1), .val (.ref a2), .val (.ref a2)] [])) _
    refine XS.iconst X47.here hx rfl (hb hby d_prog_90_method_5_code_23) ?_
    show Steps p.tables e below (T47.setTop (mkF m 24 #[.val (.ref a1), .val (.ref a2), .val (.ref a2)] [(.int (1 : Int32))])) _
    refine XS.goto X47.here hx rfl (pc0 := 24) (pc' := 28) rfl (hb hby d_prog_90_method_5_code_24) (by decide) (by decide) ?_
    show Steps p.tables e below (T47.setTop (mkF m 28 #[.val (.ref a1), .val (.ref a2), .val (.ref a2)] [(.int (1 : Int32))])) _
    exact retN X47 hx (t := .boolean) Bd.returns (by simp) (hb hby d_prog_90_method_5_code_28) hr
  · show Qp (some (.int (1 : Int32))) h0 n0 _ T47.heap _
    rw [e47]
    exact ⟨rfl, N0, rfl⟩
theorem ef4 (m : MethodId)   (a1 : Addr) : entryFrame m #[(.ref a1), .null] 3 = mkF m 0 #[.val (.ref a1), .val .null, .unset] [] := by first | (simp [entryFrame, mkF, argsToLocals, Value.category]; done) | rfl
set_option maxRecDepth 65536 in
set_option maxHeartbeats 40000000 in
theorem rm9 (l : Launch) (Z : State) (a0 : Array Value) (hw : ∀ d ∈ tables_1, d.before a0 Z = true) (ws : List Jvm.Cond) (wc : Addr) (p1 : Int32) (a1 : Addr) (h0 : Heap) (n0 : Nat) (hWd : Wd Z wc) (O0 : Old Z n0 h0) (E_a1 : Exa Z h0 a1 "com/example/vestwright/vestwright/model/VestingPeriod$Days") (F_a1_length : Fld Z h0 a1 "com/example/vestwright/vestwright/model/VestingPeriod$Days" "length" "I" (.int p1)) (g_a1 : n0 ≤ a1) :
    MetFree l (⟨"com/example/vestwright/vestwright/model/VestingPeriod$Days", "equals", "(Ljava/lang/Object;)Z"⟩ : MethodName) (head1 (Jvm.Cond.code (⟨"com/example/vestwright/vestwright/model/VestingPeriod$Days", "equals", "(Ljava/lang/Object;)Z"⟩ : MethodName) prog_90_method_5_code 3 (some .boolean) :: ws) ({ frames := 0, cells := 0, slots := 0, locals := 0 } : Room)) (fun a U => a = #[(.ref a1), .null] ∧ Z.Warmed39 U.vm ∧ U.heap = h0) (fun _ _ _ _ _ => True) (fun _ U o U' => ∃ v L, o = .returned v ∧ Qp (some (.int (0 : Int32))) h0 n0 v U'.heap L ∧ FrameEnd U o U' L ({ frames := 0, cells := 0, slots := 0, locals := 0 } : Room).cells ({ frames := 0, cells := 0, slots := 0, locals := 0 } : Room).slots) := by
  refine MetFree.of_bodySF (plainFor_of_name pn1) hisR ?_
  intro p e s m args below meth c s₁ Bd hml0 hP hK
  obtain ⟨rfl, hZ, hh⟩ := hP
  have hx := Bd.exec
  have hby := Bd.bytes
  have hml : c.maxLocals = 3 := hml0
  have hown : s.vm.findClass "com/example/vestwright/vestwright/model/VestingPeriod$Days" = some m.cls := findClass_of_methodNamed Bd.named
  have hnm := (name_of_methodNamed Bd.named Bd.method).1
  have X0 : Stand p l e ({ frames := 0, cells := 0, slots := 0, locals := 0 } : Room) s m #[(.ref a1), .null] below meth c s₁ [] 0 0 := Stand.of_body Bd
  have e0 : s₁.heap = h0 := by rw [← hh, Bd.state]; rfl
  have N0 := Fr.nil n0
  have hlk := Bd.notSynchronized
  obtain ⟨wSh, wSc, wB, -⟩ := id hWd
  have pre0 : ∀ t, Steps p.tables e below (s₁.setTop (mkF m 0 #[.val (.ref a1), .val .null, .unset] [])) t → Steps p.tables e below (s₁.setTop (entryFrame m #[(.ref a1), .null] 3)) t := fun t k => castTop (ef4 m a1) k
  obtain ⟨fs, hr, hrun, hended, hWr, hsame⟩ := X0.leave (v := some (.int (0 : Int32))) (fun h => by rw [Bd.returns] at h; cases h) hlk
  refine ⟨_, _, pre0 _ ?_, hrun, hended, _, _, rfl, ?_, ⟨_, rfl⟩, hWr, hsame.mono (Nat.le_of_ble_eq_true rfl) (Nat.le_of_ble_eq_true rfl)⟩
  · show Steps p.tables e below (s₁.setTop (mkF m 0 #[.val (.ref a1), .val .null, .unset] [])) _
    refine XS.aloadN X0.here hx rfl (hb hby d_prog_90_method_5_code_0) rfl rfl ?_
    show Steps p.tables e below (s₁.setTop (mkF m 1 #[.val (.ref a1), .val .null, .unset] [.null])) _
    refine X0.instanceofNull hx (g := (mkF m 1 #[.val (.ref a1), .val .null, .unset] [.null])) rfl rfl (hb hby d_prog_90_method_5_code_1) _ ?_
    show Steps p.tables e below (s₁.setTop (mkF m 4 #[.val (.ref a1), .val .null, .unset] [(.int (0 : Int32))])) _
    refine XS.ifYes X0.here hx rfl (pc0 := 4) (pc' := 27) rfl (hb hby d_prog_90_method_5_code_4) rfl (by decide) (by decide) (by decide) ?_
    show Steps p.tables e below (s₁.setTop (mkF m 27 #[.val (.ref a1), .val .null, .unset] [])) _
    refine XS.iconst X0.here hx rfl (hb hby d_prog_90_method_5_code_27) ?_
    show Steps p.tables e below (s₁.setTop (mkF m 28 #[.val (.ref a1), .val .null, .unset] [(.int (0 : Int32))])) _
    exact retN X0 hx (t := .boolean) Bd.returns (by simp) (hb hby d_prog_90_method_5_code_28) hr
  · show Qp (some (.int (0 : Int32))) h0 n0 _ s₁.heap _
    rw [e0]
    exact ⟨rfl, N0, rfl⟩
theorem d_jdk_33_method_22_code_0 : decode jdk_33_method_22_code 0 = .ok (.iload_n 0, 1) := by decide +kernel
theorem d_jdk_33_method_22_code_1 : decode jdk_33_method_22_code 1 = .ok (.bipush (-128), 2) := by decide +kernel
theorem d_jdk_33_method_22_code_3 : decode jdk_33_method_22_code 3 = .ok (.if_icmp .lt 20, 3) := by decide +kernel
theorem d_jdk_33_method_22_code_23 : decode jdk_33_method_22_code 23 = .ok (.new 1, 3) := by decide +kernel
theorem d_jdk_33_method_22_code_26 : decode jdk_33_method_22_code 26 = .ok (.dup, 1) := by decide +kernel
theorem d_jdk_33_method_22_code_27 : decode jdk_33_method_22_code 27 = .ok (.iload_n 0, 1) := by decide +kernel
theorem d_jdk_33_method_22_code_28 : decode jdk_33_method_22_code 28 = .ok (.invokespecial 199, 3) := by decide +kernel
theorem d_jdk_33_method_23_code_0 : decode jdk_33_method_23_code 0 = .ok (.aload_n 0, 1) := by decide +kernel
theorem d_jdk_33_method_23_code_1 : decode jdk_33_method_23_code 1 = .ok (.invokespecial 202, 3) := by decide +kernel
theorem d_jdk_18_method_1_code_0 : decode jdk_18_method_1_code 0 = .ok (.aload_n 0, 1) := by decide +kernel
theorem d_jdk_18_method_1_code_1 : decode jdk_18_method_1_code 1 = .ok (.invokespecial 1, 3) := by decide +kernel
theorem d_jdk_18_method_1_code_4 : decode jdk_18_method_1_code 4 = .ok (.return_, 1) := by decide +kernel
theorem pn2 : plainName "java/lang/Number" = true := by first | (simp [plainName, overriddenIn]; done) | decide +kernel
set_option maxRecDepth 65536 in
set_option maxHeartbeats 40000000 in
theorem rm12 (l : Launch) (Z : State) (a0 : Array Value) (hw : ∀ d ∈ tables_1, d.before a0 Z = true) (ws : List Jvm.Cond) (wc : Addr) (a1 : Addr) (h0 : Heap) (n0 : Nat) (hWd : Wd Z wc) (O0 : Old Z n0 h0) (E_a1 : Exa Z h0 a1 "java/lang/Integer") (F_a1_value : Fld Z h0 a1 "java/lang/Integer" "value" "I" (.int (0 : Int32))) (g_a1 : n0 ≤ a1) :
    MetFree l (⟨"java/lang/Number", "<init>", "()V"⟩ : MethodName) (head1 (Jvm.Cond.code (⟨"java/lang/Number", "<init>", "()V"⟩ : MethodName) jdk_18_method_1_code 1 none :: ws) ({ frames := 1, cells := 0, slots := 0, locals := 12 } : Room)) (fun a U => a = #[(.ref a1)] ∧ Z.Warmed39 U.vm ∧ U.heap = h0) (fun _ _ _ _ _ => True) (fun _ U o U' => ∃ v L, o = .returned v ∧ Qp (none) h0 n0 v U'.heap L ∧ FrameEnd U o U' L ({ frames := 1, cells := 0, slots := 0, locals := 12 } : Room).cells ({ frames := 1, cells := 0, slots := 0, locals := 12 } : Room).slots) := by
  refine MetFree.of_bodySF (plainFor_of_name pn2) hisR ?_
  intro p e s m args below meth c s₁ Bd hml0 hP hK
  obtain ⟨rfl, hZ, hh⟩ := hP
  have hx := Bd.exec
  have hby := Bd.bytes
  have hml : c.maxLocals = 1 := hml0
  have hown : s.vm.findClass "java/lang/Number" = some m.cls := findClass_of_methodNamed Bd.named
  have hnm := (name_of_methodNamed Bd.named Bd.method).1
  have X0 : Stand p l e ({ frames := 1, cells := 0, slots := 0, locals := 12 } : Room) s m #[(.ref a1)] below meth c s₁ [] 0 0 := Stand.of_body Bd
  have e0 : s₁.heap = h0 := by rw [← hh, Bd.state]; rfl
  have N0 := Fr.nil n0
  have hlk := Bd.notSynchronized
  obtain ⟨wSh, wSc, wB, -⟩ := id hWd
  have pre0 : ∀ t, Steps p.tables e below (s₁.setTop (mkF m 0 #[.val (.ref a1)] [])) t → Steps p.tables e below (s₁.setTop (entryFrame m #[(.ref a1)] 1)) t := fun t k => castTop (ef0 m a1) k
  obtain ⟨T55, X55, e55, st55⟩ := initO X0 hx hZ hown (hw _ (List.mem_of_getElem? (i := 44) rfl)) (hw _ (List.mem_of_getElem? (i := 12) rfl)) (hw _ (List.mem_of_getElem? (i := 13) rfl)) e0 (g := (mkF m 1 #[.val (.ref a1)] [(.ref a1)])) rfl (by rw [hml]; rfl) rfl (hb hby d_jdk_18_method_1_code_1) (by decide) (W := 0) (by show 2 * 0 + _ ≤ _; exact Nat.le_of_eq rfl) (by decide)
  obtain ⟨fs, hr, hrun, hended, hWr, hsame⟩ := X55.leave (v := none) (fun _ => rfl) hlk
  refine ⟨_, _, pre0 _ ?_, hrun, hended, _, _, rfl, ?_, ⟨_, rfl⟩, hWr, hsame.mono (Nat.le_of_ble_eq_true rfl) (Nat.le_of_ble_eq_true rfl)⟩
  · show Steps p.tables e below (s₁.setTop (mkF m 0 #[.val (.ref a1)] [])) _
    refine XS.aloadN X0.here hx rfl (hb hby d_jdk_18_method_1_code_0) rfl rfl ?_
    show Steps p.tables e below (s₁.setTop (mkF m 1 #[.val (.ref a1)] [(.ref a1)])) _
    refine st55 _ ?_
    show Steps p.tables e below (T55.setTop (mkF m 4 #[.val (.ref a1)] [])) _
    exact X55.returnOut hx Bd.returns (hb hby d_jdk_18_method_1_code_4) hr
  · show Qp (none) h0 n0 _ T55.heap _
    rw [e55]
    exact ⟨rfl, N0, rfl⟩
theorem d_jdk_33_method_23_code_4 : decode jdk_33_method_23_code 4 = .ok (.aload_n 0, 1) := by decide +kernel
theorem d_jdk_33_method_23_code_5 : decode jdk_33_method_23_code 5 = .ok (.iload_n 1, 1) := by decide +kernel
theorem d_jdk_33_method_23_code_6 : decode jdk_33_method_23_code 6 = .ok (.putfield 205, 3) := by decide +kernel
theorem d_jdk_33_method_23_code_9 : decode jdk_33_method_23_code 9 = .ok (.return_, 1) := by decide +kernel
theorem pn3 : plainName "java/lang/Integer" = true := by first | (simp [plainName, overriddenIn]; done) | decide +kernel
def Qerm11 (Z : State) (wc : Addr) (p1 : Int32) (a1 : Addr) (h0 : Heap) (n0 : Nat) (v : Option Value) (h : Heap) (L : List Loc) : Prop := v = none ∧ Fr n0 L ∧ Keep h0 h [a1] ∧ Old Z n0 h ∧ Exa Z h a1 "java/lang/Integer" ∧ Fld Z h a1 "java/lang/Integer" "value" "I" (.int p1)
set_option maxRecDepth 65536 in
set_option maxHeartbeats 40000000 in
theorem rm11 (l : Launch) (Z : State) (a0 : Array Value) (hw : ∀ d ∈ tables_1, d.before a0 Z = true) (ws : List Jvm.Cond) (wc : Addr) (p1 : Int32) (a1 : Addr) (h0 : Heap) (n0 : Nat) (hWd : Wd Z wc) (O0 : Old Z n0 h0) (rl0 : p1 < (-128 : Int32)) (E_a1 : Exa Z h0 a1 "java/lang/Integer") (F_a1_value : Fld Z h0 a1 "java/lang/Integer" "value" "I" (.int (0 : Int32))) (g_a1 : n0 ≤ a1) :
    MetFree l (⟨"java/lang/Integer", "<init>", "(I)V"⟩ : MethodName) (head1 (Jvm.Cond.code (⟨"java/lang/Integer", "<init>", "(I)V"⟩ : MethodName) jdk_33_method_23_code 2 none :: ws) ({ frames := 2, cells := 0, slots := 0, locals := 24 } : Room)) (fun a U => a = #[(.ref a1), (.int p1)] ∧ Z.Warmed39 U.vm ∧ U.heap = h0) (fun _ _ _ _ _ => True) (fun _ U o U' => ∃ v L, o = .returned v ∧ Qerm11 Z wc p1 a1 h0 n0 v U'.heap L ∧ FrameEnd U o U' L ({ frames := 2, cells := 0, slots := 0, locals := 24 } : Room).cells ({ frames := 2, cells := 0, slots := 0, locals := 24 } : Room).slots) := by
  refine MetFree.of_bodySF (plainFor_of_name pn3) hisR ?_
  intro p e s m args below meth c s₁ Bd hml0 hP hK
  obtain ⟨rfl, hZ, hh⟩ := hP
  have hx := Bd.exec
  have hby := Bd.bytes
  have hml : c.maxLocals = 2 := hml0
  have hown : s.vm.findClass "java/lang/Integer" = some m.cls := findClass_of_methodNamed Bd.named
  have hnm := (name_of_methodNamed Bd.named Bd.method).1
  have X0 : Stand p l e ({ frames := 2, cells := 0, slots := 0, locals := 24 } : Room) s m #[(.ref a1), (.int p1)] below meth c s₁ [] 0 0 := Stand.of_body Bd
  have e0 : s₁.heap = h0 := by rw [← hh, Bd.state]; rfl
  have N0 := Fr.nil n0
  have hlk := Bd.notSynchronized
  obtain ⟨wSh, wSc, wB, -⟩ := id hWd
  have pre0 : ∀ t, Steps p.tables e below (s₁.setTop (mkF m 0 #[.val (.ref a1), .val (.int p1)] [])) t → Steps p.tables e below (s₁.setTop (entryFrame m #[(.ref a1), (.int p1)] 2)) t := fun t k => castTop (ef1 m p1 a1) k
  obtain ⟨_, _, ⟨T56, L56, k56, n56⟩, -, X56, ⟨Lc56, hQ56, l56, y56, z56⟩, st56⟩ := X0.specialBack hx (y := (⟨"java/lang/Number", "<init>", "()V"⟩ : MethodName)) rfl hown (mvT hZ (hw _ (List.mem_of_getElem? (i := 38) rfl))) (mvT hZ (hw _ (List.mem_of_getElem? (i := 39) rfl))) (mvT hZ (hw _ (List.mem_of_getElem? (i := 43) rfl))) (by decide) (backOf (W := 0) (rm12 l Z a0 hw [] wc a1 h0 n0 hWd O0 E_a1 F_a1_value g_a1) hZ (hw _ (List.mem_of_getElem? (i := 43) rfl)) (hw _ (List.mem_of_getElem? (i := 42) rfl)) (by decide) (by decide)) (g := (mkF m 1 #[.val (.ref a1), .val (.int p1)] [(.ref a1)])) rfl (by rw [hml]; rfl) (Steps.refl _) (a := a1) (argsL := []) (rest := []) (lenOf pd0 rfl) rfl (by show 2 * 0 + _ ≤ _; exact Nat.le_of_eq rfl) (hb hby d_jdk_33_method_23_code_1) (fun _ _ => ⟨rfl, e0, (by decide : 0 + 0 ≤ _), (by decide : 0 + 0 ≤ _)⟩)
  dsimp only [Pt.U, Pt.locs, Pt.cells, Pt.slots] at X56 l56 y56 z56 st56 hQ56
  subst l56 y56 z56
  obtain ⟨rfl, N56q, e56⟩ := hQ56
  have N56 := Fr.app N0 N56q
  obtain ⟨T57, h57, X57, e57, W57, st57⟩ := putF X56 hx hZ hown (host := "") (Or.inl (hw _ (List.mem_of_getElem? (i := 45) rfl))) Via.refl e56 F_a1_value E_a1 (Or.inr ⟨(hw _ (List.mem_of_getElem? (i := 46) rfl)), rfl, hnm⟩) (hw _ (List.mem_of_getElem? (i := 33) rfl)) (ty := .int) (by decide) rfl rfl (g := (mkF m 6 #[.val (.ref a1), .val (.int p1)] [(.int p1), (.ref a1)])) rfl rfl (hb hby d_jdk_33_method_23_code_6)
  have E_a1_57 : Exa Z h57 a1 "java/lang/Integer" := E_a1.wr W57
  have F_a1_value_57 : Fld Z h57 a1 "java/lang/Integer" "value" "I" (.int p1) := F_a1_value.same W57
  have Kp57 : Keep h0 h57 [a1] := (Keep.refl h0 [a1]).wr W57 (Or.inl (List.mem_of_getElem? (i := 0) rfl))
  have N57 := Fr.snoc X57 N56 g_a1
  have O_57 : Old Z n0 h57 := O0.wr W57 g_a1
  obtain ⟨fs, hr, hrun, hended, hWr, hsame⟩ := X57.leave (v := none) (fun _ => rfl) hlk
  refine ⟨_, _, pre0 _ ?_, hrun, hended, _, _, rfl, ?_, ⟨_, rfl⟩, hWr, hsame.mono (Nat.le_of_ble_eq_true rfl) (Nat.le_of_ble_eq_true rfl)⟩
  · show Steps p.tables e below (s₁.setTop (mkF m 0 #[.val (.ref a1), .val (.int p1)] [])) _
    refine XS.aloadN X0.here hx rfl (hb hby d_jdk_33_method_23_code_0) rfl rfl ?_
    show Steps p.tables e below (s₁.setTop (mkF m 1 #[.val (.ref a1), .val (.int p1)] [(.ref a1)])) _
    refine st56.trans ?_
    show Steps p.tables e below (T56.setTop (mkF m 4 #[.val (.ref a1), .val (.int p1)] [])) _
    refine XS.aloadN X56.here hx rfl (hb hby d_jdk_33_method_23_code_4) rfl rfl ?_
    show Steps p.tables e below (T56.setTop (mkF m 5 #[.val (.ref a1), .val (.int p1)] [(.ref a1)])) _
    refine XS.iloadN X56.here hx rfl (hb hby d_jdk_33_method_23_code_5) rfl ?_
    show Steps p.tables e below (T56.setTop (mkF m 6 #[.val (.ref a1), .val (.int p1)] [(.int p1), (.ref a1)])) _
    refine st57 _ ?_
    show Steps p.tables e below (T57.setTop (mkF m 9 #[.val (.ref a1), .val (.int p1)] [])) _
    exact X57.returnOut hx Bd.returns (hb hby d_jdk_33_method_23_code_9) hr
  · show Qerm11 Z wc p1 a1 h0 n0 _ T57.heap _
    rw [e57]
    exact ⟨rfl, N57, Kp57, O_57, E_a1_57, F_a1_value_57⟩
theorem d_jdk_33_method_22_code_31 : decode jdk_33_method_22_code 31 = .ok (.areturn, 1) := by decide +kernel
theorem ef5 (m : MethodId) (p1 : Int32)   : entryFrame m #[(.int p1)] 1 = mkF m 0 #[.val (.int p1)] [] := by first | (simp [entryFrame, mkF, argsToLocals, Value.category]; done) | rfl
def Qerm10 (Z : State) (wc : Addr) (p1 : Int32) (h0 : Heap) (n0 : Nat) (v : Option Value) (h : Heap) (L : List Loc) : Prop := ∃ r : Addr, v = some (.ref r) ∧ Fr n0 L ∧ Keep h0 h [] ∧ Old Z n0 h ∧ Exa Z h r "java/lang/Integer" ∧ Fld Z h r "java/lang/Integer" "value" "I" (.int p1) ∧ n0 ≤ r
set_option maxRecDepth 65536 in
set_option maxHeartbeats 40000000 in
theorem rm10 (l : Launch) (Z : State) (a0 : Array Value) (hw : ∀ d ∈ tables_1, d.before a0 Z = true) (ws : List Jvm.Cond) (wc : Addr) (p1 : Int32) (h0 : Heap) (n0 : Nat) (hWd : Wd Z wc) (O0 : Old Z n0 h0) (rl0 : p1 < (-128 : Int32)) :
    MetFree l (⟨"java/lang/Integer", "valueOf", "(I)Ljava/lang/Integer;"⟩ : MethodName) (head1 (Jvm.Cond.code (⟨"java/lang/Integer", "valueOf", "(I)Ljava/lang/Integer;"⟩ : MethodName) jdk_33_method_22_code 1 (some (.object "java/lang/Integer")) :: ws) ({ frames := 3, cells := 1, slots := 1, locals := 38 } : Room)) (fun a U => a = #[(.int p1)] ∧ Z.Warmed39 U.vm ∧ U.heap = h0) (fun _ _ _ _ _ => True) (fun _ U o U' => ∃ v L, o = .returned v ∧ Qerm10 Z wc p1 h0 n0 v U'.heap L ∧ FrameEnd U o U' L ({ frames := 3, cells := 1, slots := 1, locals := 38 } : Room).cells ({ frames := 3, cells := 1, slots := 1, locals := 38 } : Room).slots) := by
  refine MetFree.of_bodySF (plainFor_of_name pn3) hisR ?_
  intro p e s m args below meth c s₁ Bd hml0 hP hK
  obtain ⟨rfl, hZ, hh⟩ := hP
  have hx := Bd.exec
  have hby := Bd.bytes
  have hml : c.maxLocals = 1 := hml0
  have hown : s.vm.findClass "java/lang/Integer" = some m.cls := findClass_of_methodNamed Bd.named
  have hnm := (name_of_methodNamed Bd.named Bd.method).1
  have X0 : Stand p l e ({ frames := 3, cells := 1, slots := 1, locals := 38 } : Room) s m #[(.int p1)] below meth c s₁ [] 0 0 := Stand.of_body Bd
  have e0 : s₁.heap = h0 := by rw [← hh, Bd.state]; rfl
  have N0 := Fr.nil n0
  have hlk := Bd.notSynchronized
  obtain ⟨wSh, wSc, wB, -⟩ := id hWd
  have pre0 : ∀ t, Steps p.tables e below (s₁.setTop (mkF m 0 #[.val (.int p1)] [])) t → Steps p.tables e below (s₁.setTop (entryFrame m #[(.int p1)] 1)) t := fun t k => castTop (ef5 m p1) k
  obtain ⟨T54, h54, X54, e54, E54, A54, D54, -, st54⟩ := newO X0 hx hZ hown (hw _ (List.mem_of_getElem? (i := 32) rfl)) (hw _ (List.mem_of_getElem? (i := 33) rfl)) (hw _ (List.mem_of_getElem? (i := 23) rfl)) e0 (g := (mkF m 23 #[.val (.int p1)] [])) rfl (hb hby d_jdk_33_method_22_code_23) (by decide) (by decide)
  obtain ⟨b54, g54⟩ : ∃ z, z = h0.size := ⟨_, rfl⟩
  rw [← g54] at A54 D54 st54
  have g_b54 : n0 ≤ b54 := Nat.le_trans (Nat.le_trans (Nat.le_of_eq O0.1.symm) O0.2.1) (Nat.le_of_eq g54.symm)
  have sz_b54 : h0.size ≤ b54 := Nat.le_trans (Keep.refl h0 []).1 (Nat.le_of_eq g54.symm)
  have Kp54 : Keep h0 h54 [] := (Keep.refl h0 []).ext E54
  have O_54 : Old Z n0 h54 := O0.ext E54
  have F_b54_value : Fld Z h54 b54 "java/lang/Integer" "value" "I" (.int (0 : Int32)) := D54 (Or.inr (hw _ (List.mem_of_getElem? (i := 46) rfl))) (ty := .int) (by decide)
  obtain ⟨_, _, ⟨T58, L58, k58, n58⟩, -, X58, ⟨Lc58, hQ58, l58, y58, z58⟩, st58⟩ := X54.specialBack hx (y := (⟨"java/lang/Integer", "<init>", "(I)V"⟩ : MethodName)) rfl hown (mvT hZ (hw _ (List.mem_of_getElem? (i := 34) rfl))) (mvT hZ (hw _ (List.mem_of_getElem? (i := 35) rfl))) (mvT hZ (hw _ (List.mem_of_getElem? (i := 37) rfl))) (by decide) (backOf (W := 1) (rm11 l Z a0 hw [] wc p1 b54 h54 n0 hWd O_54 rl0 A54 F_b54_value g_b54) hZ (hw _ (List.mem_of_getElem? (i := 37) rfl)) (hw _ (List.mem_of_getElem? (i := 23) rfl)) (by decide) (by decide)) (g := (mkF m 28 #[.val (.int p1)] [(.int p1), (.ref b54), (.ref b54)])) rfl (by rw [hml]; rfl) (Steps.refl _) (a := b54) (argsL := [(.int p1)]) (rest := [(.ref b54)]) (lenOf pd1 rfl) rfl (by show 2 * 0 + _ ≤ _; exact Nat.le_of_eq rfl) (hb hby d_jdk_33_method_22_code_28) (fun _ _ => ⟨rfl, e54, (by decide : 1 + 0 ≤ _), (by decide : 1 + 0 ≤ _)⟩)
  dsimp only [Pt.U, Pt.locs, Pt.cells, Pt.slots] at X58 l58 y58 z58 st58 hQ58
  subst l58 y58 z58
  obtain ⟨rfl, N58q, K58, O_58, E_b54_58, F_b54_value_58⟩ := hQ58
  have N58 := Fr.app N0 N58q
  have Kp58 : Keep h0 T58.heap [] := Kp54.trans K58 (allS (Or.inr sz_b54) all0)
  obtain ⟨fs, hr, hrun, hended, hWr, hsame⟩ := X58.leave (v := some (.ref b54)) (fun h => by rw [Bd.returns] at h; cases h) hlk
  refine ⟨_, _, pre0 _ ?_, hrun, hended, _, _, rfl, ?_, ⟨_, rfl⟩, hWr, hsame.mono (Nat.le_of_ble_eq_true rfl) (Nat.le_of_ble_eq_true rfl)⟩
  · show Steps p.tables e below (s₁.setTop (mkF m 0 #[.val (.int p1)] [])) _
    refine XS.iloadN X0.here hx rfl (hb hby d_jdk_33_method_22_code_0) rfl ?_
    show Steps p.tables e below (s₁.setTop (mkF m 1 #[.val (.int p1)] [(.int p1)])) _
    refine XS.bipush X0.here hx rfl (hb hby d_jdk_33_method_22_code_1) ?_
    show Steps p.tables e below (s₁.setTop (mkF m 3 #[.val (.int p1)] [(.int (-128 : Int32)), (.int p1)])) _
    refine XS.icmpYes X0.here hx rfl (pc0 := 3) (pc' := 23) rfl (hb hby d_jdk_33_method_22_code_3) rfl (tlt rl0).1 (by decide) (by decide) ?_
    show Steps p.tables e below (s₁.setTop (mkF m 23 #[.val (.int p1)] [])) _
    refine st54 _ ?_
    show Steps p.tables e below (T54.setTop (mkF m 26 #[.val (.int p1)] [(.ref b54)])) _
    refine XS.dup X54.here hx rfl (hb hby d_jdk_33_method_22_code_26) rfl rfl ?_
    show Steps p.tables e below (T54.setTop (mkF m 27 #[.val (.int p1)] [(.ref b54), (.ref b54)])) _
    refine XS.iloadN X54.here hx rfl (hb hby d_jdk_33_method_22_code_27) rfl ?_
    show Steps p.tables e below (T54.setTop (mkF m 28 #[.val (.int p1)] [(.int p1), (.ref b54), (.ref b54)])) _
    refine st58.trans ?_
    show Steps p.tables e below (T58.setTop (mkF m 31 #[.val (.int p1)] [(.ref b54)])) _
    exact retOut X58 hx (t := (.object "java/lang/Integer")) (i := .areturn) Bd.returns rfl (Or.inr (Or.inr (Or.inr (Or.inr ⟨rfl, rfl, rfl⟩)))) (hb hby d_jdk_33_method_22_code_31) hr
  · show Qerm10 Z wc p1 h0 n0 _ T58.heap _
    exact ⟨b54, rfl, N58, Kp58, O_58, E_b54_58, F_b54_value_58, g_b54⟩
theorem pd3 : parseMethodDescriptor "(I)Ljava/lang/Integer;" = some ⟨[.int], some (.object "java/lang/Integer")⟩ := by decide +kernel
set_option maxRecDepth 65536 in
set_option maxHeartbeats 40000000 in
theorem rm13 (l : Launch) (Z : State) (a0 : Array Value) (hw : ∀ d ∈ tables_1, d.before a0 Z = true) (ws : List Jvm.Cond) (wc : Addr) (p1 : Int32) (a1 a2 : Addr) (h0 : Heap) (n0 : Nat) (hWd : Wd Z wc) (O0 : Old Z n0 h0) (rl0 : p1 < (-128 : Int32)) (E_a1 : Exa Z h0 a1 "com/example/vestwright/vestwright/model/VestingPeriod$Days") (F_a1_length : Fld Z h0 a1 "com/example/vestwright/vestwright/model/VestingPeriod$Days" "length" "I" (.int p1)) (g_a1 : n0 ≤ a1) (E_a2 : Exa Z h0 a2 "java/lang/Integer") (F_a2_value : Fld Z h0 a2 "java/lang/Integer" "value" "I" (.int p1)) (g_a2 : n0 ≤ a2) :
    MetFree l (⟨"com/example/vestwright/vestwright/model/VestingPeriod$Days", "equals", "(Ljava/lang/Object;)Z"⟩ : MethodName) (head1 (Jvm.Cond.code (⟨"com/example/vestwright/vestwright/model/VestingPeriod$Days", "equals", "(Ljava/lang/Object;)Z"⟩ : MethodName) prog_90_method_5_code 3 (some .boolean) :: ws) ({ frames := 0, cells := 0, slots := 0, locals := 0 } : Room)) (fun a U => a = #[(.ref a1), (.ref a2)] ∧ Z.Warmed39 U.vm ∧ U.heap = h0) (fun _ _ _ _ _ => True) (fun _ U o U' => ∃ v L, o = .returned v ∧ Qp (some (.int (0 : Int32))) h0 n0 v U'.heap L ∧ FrameEnd U o U' L ({ frames := 0, cells := 0, slots := 0, locals := 0 } : Room).cells ({ frames := 0, cells := 0, slots := 0, locals := 0 } : Room).slots) := by
  refine MetFree.of_bodySF (plainFor_of_name pn1) hisR ?_
  intro p e s m args below meth c s₁ Bd hml0 hP hK
  obtain ⟨rfl, hZ, hh⟩ := hP
  have hx := Bd.exec
  have hby := Bd.bytes
  have hml : c.maxLocals = 3 := hml0
  have hown : s.vm.findClass "com/example/vestwright/vestwright/model/VestingPeriod$Days" = some m.cls := findClass_of_methodNamed Bd.named
  have hnm := (name_of_methodNamed Bd.named Bd.method).1
  have X0 : Stand p l e ({ frames := 0, cells := 0, slots := 0, locals := 0 } : Room) s m #[(.ref a1), (.ref a2)] below meth c s₁ [] 0 0 := Stand.of_body Bd
  have e0 : s₁.heap = h0 := by rw [← hh, Bd.state]; rfl
  have N0 := Fr.nil n0
  have hlk := Bd.notSynchronized
  obtain ⟨wSh, wSc, wB, -⟩ := id hWd
  have pre0 : ∀ t, Steps p.tables e below (s₁.setTop (mkF m 0 #[.val (.ref a1), .val (.ref a2), .unset] [])) t → Steps p.tables e below (s₁.setTop (entryFrame m #[(.ref a1), (.ref a2)] 3)) t := fun t k => castTop (ef2 m a1 a2) k
  obtain ⟨T60, X60, e60, st60⟩ := instNo X0 hx hZ hown (hw _ (List.mem_of_getElem? (i := 28) rfl)) e0 E_a2 (own_ns_no (hw _ (List.mem_of_getElem? (i := 29) rfl)) (own_cls_inst (hw _ (List.mem_of_getElem? (i := 1) rfl))) (NS.step (hw _ (List.mem_of_getElem? (i := 29) rfl)) (NS.step (hw _ (List.mem_of_getElem? (i := 30) rfl)) (own_ns_root (hw _ (List.mem_of_getElem? (i := 31) rfl)) (own_cls_inst (hw _ (List.mem_of_getElem? (i := 1) rfl))) (by decide)) (by decide)) (by decide)) (by decide)) (g := (mkF m 1 #[.val (.ref a1), .val (.ref a2), .unset] [(.ref a2)])) rfl rfl (hb hby d_prog_90_method_5_code_1)
  obtain ⟨fs, hr, hrun, hended, hWr, hsame⟩ := X60.leave (v := some (.int (0 : Int32))) (fun h => by rw [Bd.returns] at h; cases h) hlk
  refine ⟨_, _, pre0 _ ?_, hrun, hended, _, _, rfl, ?_, ⟨_, rfl⟩, hWr, hsame.mono (Nat.le_of_ble_eq_true rfl) (Nat.le_of_ble_eq_true rfl)⟩
  · show Steps p.tables e below (s₁.setTop (mkF m 0 #[.val (.ref a1), .val (.ref a2), .unset] [])) _
    refine XS.aloadN X0.here hx rfl (hb hby d_prog_90_method_5_code_0) rfl rfl ?_
    show Steps p.tables e below (s₁.setTop (mkF m 1 #[.val (.ref a1), .val (.ref a2), .unset] [(.ref a2)])) _
    refine st60 _ ?_
    show Steps p.tables e below (T60.setTop (mkF m 4 #[.val (.ref a1), .val (.ref a2), .unset] [(.int (0 : Int32))])) _
    refine XS.ifYes X60.here hx rfl (pc0 := 4) (pc' := 27) rfl (hb hby d_prog_90_method_5_code_4) rfl (by decide) (by decide) (by decide) ?_
    show Steps p.tables e below (T60.setTop (mkF m 27 #[.val (.ref a1), .val (.ref a2), .unset] [])) _
    refine XS.iconst X60.here hx rfl (hb hby d_prog_90_method_5_code_27) ?_
    show Steps p.tables e below (T60.setTop (mkF m 28 #[.val (.ref a1), .val (.ref a2), .unset] [(.int (0 : Int32))])) _
    exact retN X60 hx (t := .boolean) Bd.returns (by simp) (hb hby d_prog_90_method_5_code_28) hr
  · show Qp (some (.int (0 : Int32))) h0 n0 _ T60.heap _
    rw [e60]
    exact ⟨rfl, N0, rfl⟩
theorem d_jdk_33_method_22_code_6 : decode jdk_33_method_22_code 6 = .ok (.iload_n 0, 1) := by decide +kernel
theorem d_jdk_33_method_22_code_7 : decode jdk_33_method_22_code 7 = .ok (.getstatic 191, 3) := by decide +kernel
theorem d_jdk_33_method_22_code_10 : decode jdk_33_method_22_code 10 = .ok (.if_icmp .gt 13, 3) := by decide +kernel
def Qerm15 (Z : State) (wc : Addr) (p1 : Int32) (a1 : Addr) (h0 : Heap) (n0 : Nat) (v : Option Value) (h : Heap) (L : List Loc) : Prop := v = none ∧ Fr n0 L ∧ Keep h0 h [a1] ∧ Old Z n0 h ∧ Exa Z h a1 "java/lang/Integer" ∧ Fld Z h a1 "java/lang/Integer" "value" "I" (.int p1)
set_option maxRecDepth 65536 in
set_option maxHeartbeats 40000000 in
theorem rm15 (l : Launch) (Z : State) (a0 : Array Value) (hw : ∀ d ∈ tables_1, d.before a0 Z = true) (ws : List Jvm.Cond) (wc : Addr) (p1 : Int32) (a1 : Addr) (h0 : Heap) (n0 : Nat) (hWd : Wd Z wc) (O0 : Old Z n0 h0) (rl0 : ¬ (p1 < (-128 : Int32))) (rl1 : (127 : Int32) < p1) (E_a1 : Exa Z h0 a1 "java/lang/Integer") (F_a1_value : Fld Z h0 a1 "java/lang/Integer" "value" "I" (.int (0 : Int32))) (g_a1 : n0 ≤ a1) :
    MetFree l (⟨"java/lang/Integer", "<init>", "(I)V"⟩ : MethodName) (head1 (Jvm.Cond.code (⟨"java/lang/Integer", "<init>", "(I)V"⟩ : MethodName) jdk_33_method_23_code 2 none :: ws) ({ frames := 2, cells := 0, slots := 0, locals := 24 } : Room)) (fun a U => a = #[(.ref a1), (.int p1)] ∧ Z.Warmed39 U.vm ∧ U.heap = h0) (fun _ _ _ _ _ => True) (fun _ U o U' => ∃ v L, o = .returned v ∧ Qerm15 Z wc p1 a1 h0 n0 v U'.heap L ∧ FrameEnd U o U' L ({ frames := 2, cells := 0, slots := 0, locals := 24 } : Room).cells ({ frames := 2, cells := 0, slots := 0, locals := 24 } : Room).slots) := by
  refine MetFree.of_bodySF (plainFor_of_name pn3) hisR ?_
  intro p e s m args below meth c s₁ Bd hml0 hP hK
  obtain ⟨rfl, hZ, hh⟩ := hP
  have hx := Bd.exec
  have hby := Bd.bytes
  have hml : c.maxLocals = 2 := hml0
  have hown : s.vm.findClass "java/lang/Integer" = some m.cls := findClass_of_methodNamed Bd.named
  have hnm := (name_of_methodNamed Bd.named Bd.method).1
  have X0 : Stand p l e ({ frames := 2, cells := 0, slots := 0, locals := 24 } : Room) s m #[(.ref a1), (.int p1)] below meth c s₁ [] 0 0 := Stand.of_body Bd
  have e0 : s₁.heap = h0 := by rw [← hh, Bd.state]; rfl
  have N0 := Fr.nil n0
  have hlk := Bd.notSynchronized
  obtain ⟨wSh, wSc, wB, -⟩ := id hWd
  have pre0 : ∀ t, Steps p.tables e below (s₁.setTop (mkF m 0 #[.val (.ref a1), .val (.int p1)] [])) t → Steps p.tables e below (s₁.setTop (entryFrame m #[(.ref a1), (.int p1)] 2)) t := fun t k => castTop (ef1 m p1 a1) k
  obtain ⟨_, _, ⟨T66, L66, k66, n66⟩, -, X66, ⟨Lc66, hQ66, l66, y66, z66⟩, st66⟩ := X0.specialBack hx (y := (⟨"java/lang/Number", "<init>", "()V"⟩ : MethodName)) rfl hown (mvT hZ (hw _ (List.mem_of_getElem? (i := 38) rfl))) (mvT hZ (hw _ (List.mem_of_getElem? (i := 39) rfl))) (mvT hZ (hw _ (List.mem_of_getElem? (i := 43) rfl))) (by decide) (backOf (W := 0) (rm12 l Z a0 hw [] wc a1 h0 n0 hWd O0 E_a1 F_a1_value g_a1) hZ (hw _ (List.mem_of_getElem? (i := 43) rfl)) (hw _ (List.mem_of_getElem? (i := 42) rfl)) (by decide) (by decide)) (g := (mkF m 1 #[.val (.ref a1), .val (.int p1)] [(.ref a1)])) rfl (by rw [hml]; rfl) (Steps.refl _) (a := a1) (argsL := []) (rest := []) (lenOf pd0 rfl) rfl (by show 2 * 0 + _ ≤ _; exact Nat.le_of_eq rfl) (hb hby d_jdk_33_method_23_code_1) (fun _ _ => ⟨rfl, e0, (by decide : 0 + 0 ≤ _), (by decide : 0 + 0 ≤ _)⟩)
  dsimp only [Pt.U, Pt.locs, Pt.cells, Pt.slots] at X66 l66 y66 z66 st66 hQ66
  subst l66 y66 z66
  obtain ⟨rfl, N66q, e66⟩ := hQ66
  have N66 := Fr.app N0 N66q
  obtain ⟨T67, h67, X67, e67, W67, st67⟩ := putF X66 hx hZ hown (host := "") (Or.inl (hw _ (List.mem_of_getElem? (i := 45) rfl))) Via.refl e66 F_a1_value E_a1 (Or.inr ⟨(hw _ (List.mem_of_getElem? (i := 46) rfl)), rfl, hnm⟩) (hw _ (List.mem_of_getElem? (i := 33) rfl)) (ty := .int) (by decide) rfl rfl (g := (mkF m 6 #[.val (.ref a1), .val (.int p1)] [(.int p1), (.ref a1)])) rfl rfl (hb hby d_jdk_33_method_23_code_6)
  have E_a1_67 : Exa Z h67 a1 "java/lang/Integer" := E_a1.wr W67
  have F_a1_value_67 : Fld Z h67 a1 "java/lang/Integer" "value" "I" (.int p1) := F_a1_value.same W67
  have Kp67 : Keep h0 h67 [a1] := (Keep.refl h0 [a1]).wr W67 (Or.inl (List.mem_of_getElem? (i := 0) rfl))
  have N67 := Fr.snoc X67 N66 g_a1
  have O_67 : Old Z n0 h67 := O0.wr W67 g_a1
  obtain ⟨fs, hr, hrun, hended, hWr, hsame⟩ := X67.leave (v := none) (fun _ => rfl) hlk
  refine ⟨_, _, pre0 _ ?_, hrun, hended, _, _, rfl, ?_, ⟨_, rfl⟩, hWr, hsame.mono (Nat.le_of_ble_eq_true rfl) (Nat.le_of_ble_eq_true rfl)⟩
  · show Steps p.tables e below (s₁.setTop (mkF m 0 #[.val (.ref a1), .val (.int p1)] [])) _
    refine XS.aloadN X0.here hx rfl (hb hby d_jdk_33_method_23_code_0) rfl rfl ?_
    show Steps p.tables e below (s₁.setTop (mkF m 1 #[.val (.ref a1), .val (.int p1)] [(.ref a1)])) _
    refine st66.trans ?_
    show Steps p.tables e below (T66.setTop (mkF m 4 #[.val (.ref a1), .val (.int p1)] [])) _
    refine XS.aloadN X66.here hx rfl (hb hby d_jdk_33_method_23_code_4) rfl rfl ?_
    show Steps p.tables e below (T66.setTop (mkF m 5 #[.val (.ref a1), .val (.int p1)] [(.ref a1)])) _
    refine XS.iloadN X66.here hx rfl (hb hby d_jdk_33_method_23_code_5) rfl ?_
    show Steps p.tables e below (T66.setTop (mkF m 6 #[.val (.ref a1), .val (.int p1)] [(.int p1), (.ref a1)])) _
    refine st67 _ ?_
    show Steps p.tables e below (T67.setTop (mkF m 9 #[.val (.ref a1), .val (.int p1)] [])) _
    exact X67.returnOut hx Bd.returns (hb hby d_jdk_33_method_23_code_9) hr
  · show Qerm15 Z wc p1 a1 h0 n0 _ T67.heap _
    rw [e67]
    exact ⟨rfl, N67, Kp67, O_67, E_a1_67, F_a1_value_67⟩
def Qerm14 (Z : State) (wc : Addr) (p1 : Int32) (h0 : Heap) (n0 : Nat) (v : Option Value) (h : Heap) (L : List Loc) : Prop := ∃ r : Addr, v = some (.ref r) ∧ Fr n0 L ∧ Keep h0 h [] ∧ Old Z n0 h ∧ Exa Z h r "java/lang/Integer" ∧ Fld Z h r "java/lang/Integer" "value" "I" (.int p1) ∧ n0 ≤ r
set_option maxRecDepth 65536 in
set_option maxHeartbeats 40000000 in
theorem rm14 (l : Launch) (Z : State) (a0 : Array Value) (hw : ∀ d ∈ tables_1, d.before a0 Z = true) (ws : List Jvm.Cond) (wc : Addr) (p1 : Int32) (h0 : Heap) (n0 : Nat) (hWd : Wd Z wc) (O0 : Old Z n0 h0) (rl0 : ¬ (p1 < (-128 : Int32))) (rl1 : (127 : Int32) < p1) :
    MetFree l (⟨"java/lang/Integer", "valueOf", "(I)Ljava/lang/Integer;"⟩ : MethodName) (head1 (Jvm.Cond.code (⟨"java/lang/Integer", "valueOf", "(I)Ljava/lang/Integer;"⟩ : MethodName) jdk_33_method_22_code 1 (some (.object "java/lang/Integer")) :: ws) ({ frames := 3, cells := 1, slots := 1, locals := 38 } : Room)) (fun a U => a = #[(.int p1)] ∧ Z.Warmed39 U.vm ∧ U.heap = h0) (fun _ _ _ _ _ => True) (fun _ U o U' => ∃ v L, o = .returned v ∧ Qerm14 Z wc p1 h0 n0 v U'.heap L ∧ FrameEnd U o U' L ({ frames := 3, cells := 1, slots := 1, locals := 38 } : Room).cells ({ frames := 3, cells := 1, slots := 1, locals := 38 } : Room).slots) := by
  refine MetFree.of_bodySF (plainFor_of_name pn3) hisR ?_
  intro p e s m args below meth c s₁ Bd hml0 hP hK
  obtain ⟨rfl, hZ, hh⟩ := hP
  have hx := Bd.exec
  have hby := Bd.bytes
  have hml : c.maxLocals = 1 := hml0
  have hown : s.vm.findClass "java/lang/Integer" = some m.cls := findClass_of_methodNamed Bd.named
  have hnm := (name_of_methodNamed Bd.named Bd.method).1
  have X0 : Stand p l e ({ frames := 3, cells := 1, slots := 1, locals := 38 } : Room) s m #[(.int p1)] below meth c s₁ [] 0 0 := Stand.of_body Bd
  have e0 : s₁.heap = h0 := by rw [← hh, Bd.state]; rfl
  have N0 := Fr.nil n0
  have hlk := Bd.notSynchronized
  obtain ⟨wSh, wSc, wB, -⟩ := id hWd
  have pre0 : ∀ t, Steps p.tables e below (s₁.setTop (mkF m 0 #[.val (.int p1)] [])) t → Steps p.tables e below (s₁.setTop (entryFrame m #[(.int p1)] 1)) t := fun t k => castTop (ef5 m p1) k
  obtain ⟨T64, X64, e64, st64⟩ := getS2 X0 hx hZ hown (host := "") (Or.inl (hw _ (List.mem_of_getElem? (i := 25) rfl))) Via.refl e0 (wSh.ext O0.2) (g := (mkF m 7 #[.val (.int p1)] [(.int p1)])) rfl (hb hby d_jdk_33_method_22_code_7)
  obtain ⟨T65, h65, X65, e65, E65, A65, D65, -, st65⟩ := newO X64 hx hZ hown (hw _ (List.mem_of_getElem? (i := 32) rfl)) (hw _ (List.mem_of_getElem? (i := 33) rfl)) (hw _ (List.mem_of_getElem? (i := 23) rfl)) e64 (g := (mkF m 23 #[.val (.int p1)] [])) rfl (hb hby d_jdk_33_method_22_code_23) (by decide) (by decide)
  obtain ⟨b65, g65⟩ : ∃ z, z = h0.size := ⟨_, rfl⟩
  rw [← g65] at A65 D65 st65
  have g_b65 : n0 ≤ b65 := Nat.le_trans (Nat.le_trans (Nat.le_of_eq O0.1.symm) O0.2.1) (Nat.le_of_eq g65.symm)
  have sz_b65 : h0.size ≤ b65 := Nat.le_trans (Keep.refl h0 []).1 (Nat.le_of_eq g65.symm)
  have Kp65 : Keep h0 h65 [] := (Keep.refl h0 []).ext E65
  have O_65 : Old Z n0 h65 := O0.ext E65
  have F_b65_value : Fld Z h65 b65 "java/lang/Integer" "value" "I" (.int (0 : Int32)) := D65 (Or.inr (hw _ (List.mem_of_getElem? (i := 46) rfl))) (ty := .int) (by decide)
  obtain ⟨_, _, ⟨T68, L68, k68, n68⟩, -, X68, ⟨Lc68, hQ68, l68, y68, z68⟩, st68⟩ := X65.specialBack hx (y := (⟨"java/lang/Integer", "<init>", "(I)V"⟩ : MethodName)) rfl hown (mvT hZ (hw _ (List.mem_of_getElem? (i := 34) rfl))) (mvT hZ (hw _ (List.mem_of_getElem? (i := 35) rfl))) (mvT hZ (hw _ (List.mem_of_getElem? (i := 37) rfl))) (by decide) (backOf (W := 1) (rm15 l Z a0 hw [] wc p1 b65 h65 n0 hWd O_65 rl0 rl1 A65 F_b65_value g_b65) hZ (hw _ (List.mem_of_getElem? (i := 37) rfl)) (hw _ (List.mem_of_getElem? (i := 23) rfl)) (by decide) (by decide)) (g := (mkF m 28 #[.val (.int p1)] [(.int p1), (.ref b65), (.ref b65)])) rfl (by rw [hml]; rfl) (Steps.refl _) (a := b65) (argsL := [(.int p1)]) (rest := [(.ref b65)]) (lenOf pd1 rfl) rfl (by show 2 * 0 + _ ≤ _; exact Nat.le_of_eq rfl) (hb hby d_jdk_33_method_22_code_28) (fun _ _ => ⟨rfl, e65, (by decide : 1 + 0 ≤ _), (by decide : 1 + 0 ≤ _)⟩)
  dsimp only [Pt.U, Pt.locs, Pt.cells, Pt.slots] at X68 l68 y68 z68 st68 hQ68
  subst l68 y68 z68
  obtain ⟨rfl, N68q, K68, O_68, E_b65_68, F_b65_value_68⟩ := hQ68
  have N68 := Fr.app N0 N68q
  have Kp68 : Keep h0 T68.heap [] := Kp65.trans K68 (allS (Or.inr sz_b65) all0)
  obtain ⟨fs, hr, hrun, hended, hWr, hsame⟩ := X68.leave (v := some (.ref b65)) (fun h => by rw [Bd.returns] at h; cases h) hlk
  refine ⟨_, _, pre0 _ ?_, hrun, hended, _, _, rfl, ?_, ⟨_, rfl⟩, hWr, hsame.mono (Nat.le_of_ble_eq_true rfl) (Nat.le_of_ble_eq_true rfl)⟩
  · show Steps p.tables e below (s₁.setTop (mkF m 0 #[.val (.int p1)] [])) _
    refine XS.iloadN X0.here hx rfl (hb hby d_jdk_33_method_22_code_0) rfl ?_
    show Steps p.tables e below (s₁.setTop (mkF m 1 #[.val (.int p1)] [(.int p1)])) _
    refine XS.bipush X0.here hx rfl (hb hby d_jdk_33_method_22_code_1) ?_
    show Steps p.tables e below (s₁.setTop (mkF m 3 #[.val (.int p1)] [(.int (-128 : Int32)), (.int p1)])) _
    refine XS.icmpNo X0.here hx rfl (hb hby d_jdk_33_method_22_code_3) rfl (flt rl0).1 ?_
    show Steps p.tables e below (s₁.setTop (mkF m 6 #[.val (.int p1)] [])) _
    refine XS.iloadN X0.here hx rfl (hb hby d_jdk_33_method_22_code_6) rfl ?_
    show Steps p.tables e below (s₁.setTop (mkF m 7 #[.val (.int p1)] [(.int p1)])) _
    refine st64 _ ?_
    show Steps p.tables e below (T64.setTop (mkF m 10 #[.val (.int p1)] [(.int (127 : Int32)), (.int p1)])) _
    refine XS.icmpYes X64.here hx rfl (pc0 := 10) (pc' := 23) rfl (hb hby d_jdk_33_method_22_code_10) rfl (tlt rl1).2.2.1 (by decide) (by decide) ?_
    show Steps p.tables e below (T64.setTop (mkF m 23 #[.val (.int p1)] [])) _
    refine st65 _ ?_
    show Steps p.tables e below (T65.setTop (mkF m 26 #[.val (.int p1)] [(.ref b65)])) _
    refine XS.dup X65.here hx rfl (hb hby d_jdk_33_method_22_code_26) rfl rfl ?_
    show Steps p.tables e below (T65.setTop (mkF m 27 #[.val (.int p1)] [(.ref b65), (.ref b65)])) _
    refine XS.iloadN X65.here hx rfl (hb hby d_jdk_33_method_22_code_27) rfl ?_
    show Steps p.tables e below (T65.setTop (mkF m 28 #[.val (.int p1)] [(.int p1), (.ref b65), (.ref b65)])) _
    refine st68.trans ?_
    show Steps p.tables e below (T68.setTop (mkF m 31 #[.val (.int p1)] [(.ref b65)])) _
    exact retOut X68 hx (t := (.object "java/lang/Integer")) (i := .areturn) Bd.returns rfl (Or.inr (Or.inr (Or.inr (Or.inr ⟨rfl, rfl, rfl⟩)))) (hb hby d_jdk_33_method_22_code_31) hr
  · show Qerm14 Z wc p1 h0 n0 _ T68.heap _
    exact ⟨b65, rfl, N68, Kp68, O_68, E_b65_68, F_b65_value_68, g_b65⟩
set_option maxRecDepth 65536 in
set_option maxHeartbeats 40000000 in
theorem rm16 (l : Launch) (Z : State) (a0 : Array Value) (hw : ∀ d ∈ tables_1, d.before a0 Z = true) (ws : List Jvm.Cond) (wc : Addr) (p1 : Int32) (a1 a2 : Addr) (h0 : Heap) (n0 : Nat) (hWd : Wd Z wc) (O0 : Old Z n0 h0) (rl0 : ¬ (p1 < (-128 : Int32))) (rl1 : (127 : Int32) < p1) (E_a1 : Exa Z h0 a1 "com/example/vestwright/vestwright/model/VestingPeriod$Days") (F_a1_length : Fld Z h0 a1 "com/example/vestwright/vestwright/model/VestingPeriod$Days" "length" "I" (.int p1)) (g_a1 : n0 ≤ a1) (E_a2 : Exa Z h0 a2 "java/lang/Integer") (F_a2_value : Fld Z h0 a2 "java/lang/Integer" "value" "I" (.int p1)) (g_a2 : n0 ≤ a2) :
    MetFree l (⟨"com/example/vestwright/vestwright/model/VestingPeriod$Days", "equals", "(Ljava/lang/Object;)Z"⟩ : MethodName) (head1 (Jvm.Cond.code (⟨"com/example/vestwright/vestwright/model/VestingPeriod$Days", "equals", "(Ljava/lang/Object;)Z"⟩ : MethodName) prog_90_method_5_code 3 (some .boolean) :: ws) ({ frames := 0, cells := 0, slots := 0, locals := 0 } : Room)) (fun a U => a = #[(.ref a1), (.ref a2)] ∧ Z.Warmed39 U.vm ∧ U.heap = h0) (fun _ _ _ _ _ => True) (fun _ U o U' => ∃ v L, o = .returned v ∧ Qp (some (.int (0 : Int32))) h0 n0 v U'.heap L ∧ FrameEnd U o U' L ({ frames := 0, cells := 0, slots := 0, locals := 0 } : Room).cells ({ frames := 0, cells := 0, slots := 0, locals := 0 } : Room).slots) := by
  refine MetFree.of_bodySF (plainFor_of_name pn1) hisR ?_
  intro p e s m args below meth c s₁ Bd hml0 hP hK
  obtain ⟨rfl, hZ, hh⟩ := hP
  have hx := Bd.exec
  have hby := Bd.bytes
  have hml : c.maxLocals = 3 := hml0
  have hown : s.vm.findClass "com/example/vestwright/vestwright/model/VestingPeriod$Days" = some m.cls := findClass_of_methodNamed Bd.named
  have hnm := (name_of_methodNamed Bd.named Bd.method).1
  have X0 : Stand p l e ({ frames := 0, cells := 0, slots := 0, locals := 0 } : Room) s m #[(.ref a1), (.ref a2)] below meth c s₁ [] 0 0 := Stand.of_body Bd
  have e0 : s₁.heap = h0 := by rw [← hh, Bd.state]; rfl
  have N0 := Fr.nil n0
  have hlk := Bd.notSynchronized
  obtain ⟨wSh, wSc, wB, -⟩ := id hWd
  have pre0 : ∀ t, Steps p.tables e below (s₁.setTop (mkF m 0 #[.val (.ref a1), .val (.ref a2), .unset] [])) t → Steps p.tables e below (s₁.setTop (entryFrame m #[(.ref a1), (.ref a2)] 3)) t := fun t k => castTop (ef2 m a1 a2) k
  obtain ⟨T70, X70, e70, st70⟩ := instNo X0 hx hZ hown (hw _ (List.mem_of_getElem? (i := 28) rfl)) e0 E_a2 (own_ns_no (hw _ (List.mem_of_getElem? (i := 29) rfl)) (own_cls_inst (hw _ (List.mem_of_getElem? (i := 1) rfl))) (NS.step (hw _ (List.mem_of_getElem? (i := 29) rfl)) (NS.step (hw _ (List.mem_of_getElem? (i := 30) rfl)) (own_ns_root (hw _ (List.mem_of_getElem? (i := 31) rfl)) (own_cls_inst (hw _ (List.mem_of_getElem? (i := 1) rfl))) (by decide)) (by decide)) (by decide)) (by decide)) (g := (mkF m 1 #[.val (.ref a1), .val (.ref a2), .unset] [(.ref a2)])) rfl rfl (hb hby d_prog_90_method_5_code_1)
  obtain ⟨fs, hr, hrun, hended, hWr, hsame⟩ := X70.leave (v := some (.int (0 : Int32))) (fun h => by rw [Bd.returns] at h; cases h) hlk
  refine ⟨_, _, pre0 _ ?_, hrun, hended, _, _, rfl, ?_, ⟨_, rfl⟩, hWr, hsame.mono (Nat.le_of_ble_eq_true rfl) (Nat.le_of_ble_eq_true rfl)⟩
  · show Steps p.tables e below (s₁.setTop (mkF m 0 #[.val (.ref a1), .val (.ref a2), .unset] [])) _
    refine XS.aloadN X0.here hx rfl (hb hby d_prog_90_method_5_code_0) rfl rfl ?_
    show Steps p.tables e below (s₁.setTop (mkF m 1 #[.val (.ref a1), .val (.ref a2), .unset] [(.ref a2)])) _
    refine st70 _ ?_
    show Steps p.tables e below (T70.setTop (mkF m 4 #[.val (.ref a1), .val (.ref a2), .unset] [(.int (0 : Int32))])) _
    refine XS.ifYes X70.here hx rfl (pc0 := 4) (pc' := 27) rfl (hb hby d_prog_90_method_5_code_4) rfl (by decide) (by decide) (by decide) ?_
    show Steps p.tables e below (T70.setTop (mkF m 27 #[.val (.ref a1), .val (.ref a2), .unset] [])) _
    refine XS.iconst X70.here hx rfl (hb hby d_prog_90_method_5_code_27) ?_
    show Steps p.tables e below (T70.setTop (mkF m 28 #[.val (.ref a1), .val (.ref a2), .unset] [(.int (0 : Int32))])) _
    exact retN X70 hx (t := .boolean) Bd.returns (by simp) (hb hby d_prog_90_method_5_code_28) hr
  · show Qp (some (.int (0 : Int32))) h0 n0 _ T70.heap _
    rw [e70]
    exact ⟨rfl, N0, rfl⟩
theorem d_jdk_33_method_22_code_13 : decode jdk_33_method_22_code 13 = .ok (.getstatic 195, 3) := by decide +kernel
theorem d_jdk_33_method_22_code_16 : decode jdk_33_method_22_code 16 = .ok (.iload_n 0, 1) := by decide +kernel
theorem d_jdk_33_method_22_code_17 : decode jdk_33_method_22_code 17 = .ok (.sipush 128, 3) := by decide +kernel
theorem d_jdk_33_method_22_code_20 : decode jdk_33_method_22_code 20 = .ok (.iadd, 1) := by decide +kernel
theorem d_jdk_33_method_22_code_21 : decode jdk_33_method_22_code 21 = .ok (.aaload, 1) := by decide +kernel
theorem d_jdk_33_method_22_code_22 : decode jdk_33_method_22_code 22 = .ok (.areturn, 1) := by decide +kernel
def Qerm17 (Z : State) (wc : Addr) (p1 : Int32) (h0 : Heap) (n0 : Nat) (v : Option Value) (h : Heap) (L : List Loc) : Prop := ∃ r : Addr, v = some (.ref r) ∧ Fr n0 L ∧ Keep h0 h [] ∧ Old Z n0 h ∧ Exa Z h r "java/lang/Integer"
set_option maxRecDepth 65536 in
set_option maxHeartbeats 40000000 in
theorem rm17 (l : Launch) (Z : State) (a0 : Array Value) (hw : ∀ d ∈ tables_1, d.before a0 Z = true) (ws : List Jvm.Cond) (wc : Addr) (p1 : Int32) (h0 : Heap) (n0 : Nat) (hWd : Wd Z wc) (O0 : Old Z n0 h0) (rl0 : ¬ (p1 < (-128 : Int32))) (rl1 : ¬ ((127 : Int32) < p1)) :
    MetFree l (⟨"java/lang/Integer", "valueOf", "(I)Ljava/lang/Integer;"⟩ : MethodName) (head1 (Jvm.Cond.code (⟨"java/lang/Integer", "valueOf", "(I)Ljava/lang/Integer;"⟩ : MethodName) jdk_33_method_22_code 1 (some (.object "java/lang/Integer")) :: ws) ({ frames := 0, cells := 0, slots := 0, locals := 0 } : Room)) (fun a U => a = #[(.int p1)] ∧ Z.Warmed39 U.vm ∧ U.heap = h0) (fun _ _ _ _ _ => True) (fun _ U o U' => ∃ v L, o = .returned v ∧ Qerm17 Z wc p1 h0 n0 v U'.heap L ∧ FrameEnd U o U' L ({ frames := 0, cells := 0, slots := 0, locals := 0 } : Room).cells ({ frames := 0, cells := 0, slots := 0, locals := 0 } : Room).slots) := by
  refine MetFree.of_bodySF (plainFor_of_name pn3) hisR ?_
  intro p e s m args below meth c s₁ Bd hml0 hP hK
  obtain ⟨rfl, hZ, hh⟩ := hP
  have hx := Bd.exec
  have hby := Bd.bytes
  have hml : c.maxLocals = 1 := hml0
  have hown : s.vm.findClass "java/lang/Integer" = some m.cls := findClass_of_methodNamed Bd.named
  have hnm := (name_of_methodNamed Bd.named Bd.method).1
  have X0 : Stand p l e ({ frames := 0, cells := 0, slots := 0, locals := 0 } : Room) s m #[(.int p1)] below meth c s₁ [] 0 0 := Stand.of_body Bd
  have e0 : s₁.heap = h0 := by rw [← hh, Bd.state]; rfl
  have N0 := Fr.nil n0
  have hlk := Bd.notSynchronized
  obtain ⟨wSh, wSc, wB, -⟩ := id hWd
  have pre0 : ∀ t, Steps p.tables e below (s₁.setTop (mkF m 0 #[.val (.int p1)] [])) t → Steps p.tables e below (s₁.setTop (entryFrame m #[(.int p1)] 1)) t := fun t k => castTop (ef5 m p1) k
  obtain ⟨T72, X72, e72, st72⟩ := getS2 X0 hx hZ hown (host := "") (Or.inl (hw _ (List.mem_of_getElem? (i := 25) rfl))) Via.refl e0 (wSh.ext O0.2) (g := (mkF m 7 #[.val (.int p1)] [(.int p1)])) rfl (hb hby d_jdk_33_method_22_code_7)
  obtain ⟨T73, X73, e73, st73⟩ := getS2 X72 hx hZ hown (host := "") (Or.inl (hw _ (List.mem_of_getElem? (i := 27) rfl))) Via.refl e72 (wSc.ext O0.2) (g := (mkF m 13 #[.val (.int p1)] [])) rfl (hb hby d_jdk_33_method_22_code_13)
  obtain ⟨cl74, hB74⟩ := wB
  have hin74 : ¬ ((p1 + (128 : Int32)) < 0 ∨ cl74.slots.size ≤ ((p1 + (128 : Int32))).toNatClampNeg) := inb_of hB74.2.1 (own_cache rl0 rl1)
  obtain ⟨bx74, hat74, Eb74, Fb74⟩ := hB74.2.2.2 _ hin74
  obtain ⟨fs, hr, hrun, hended, hWr, hsame⟩ := X73.leave (v := some (.ref bx74)) (fun h => by rw [Bd.returns] at h; cases h) hlk
  refine ⟨_, _, pre0 _ ?_, hrun, hended, _, _, rfl, ?_, ⟨_, rfl⟩, hWr, hsame.mono (Nat.le_of_ble_eq_true rfl) (Nat.le_of_ble_eq_true rfl)⟩
  · show Steps p.tables e below (s₁.setTop (mkF m 0 #[.val (.int p1)] [])) _
    refine XS.iloadN X0.here hx rfl (hb hby d_jdk_33_method_22_code_0) rfl ?_
    show Steps p.tables e below (s₁.setTop (mkF m 1 #[.val (.int p1)] [(.int p1)])) _
    refine XS.bipush X0.here hx rfl (hb hby d_jdk_33_method_22_code_1) ?_
    show Steps p.tables e below (s₁.setTop (mkF m 3 #[.val (.int p1)] [(.int (-128 : Int32)), (.int p1)])) _
    refine XS.icmpNo X0.here hx rfl (hb hby d_jdk_33_method_22_code_3) rfl (flt rl0).1 ?_
    show Steps p.tables e below (s₁.setTop (mkF m 6 #[.val (.int p1)] [])) _
    refine XS.iloadN X0.here hx rfl (hb hby d_jdk_33_method_22_code_6) rfl ?_
    show Steps p.tables e below (s₁.setTop (mkF m 7 #[.val (.int p1)] [(.int p1)])) _
    refine st72 _ ?_
    show Steps p.tables e below (T72.setTop (mkF m 10 #[.val (.int p1)] [(.int (127 : Int32)), (.int p1)])) _
    refine XS.icmpNo X72.here hx rfl (hb hby d_jdk_33_method_22_code_10) rfl (flt rl1).2.2.1 ?_
    show Steps p.tables e below (T72.setTop (mkF m 13 #[.val (.int p1)] [])) _
    refine st73 _ ?_
    show Steps p.tables e below (T73.setTop (mkF m 16 #[.val (.int p1)] [(.ref wc)])) _
    refine XS.iloadN X73.here hx rfl (hb hby d_jdk_33_method_22_code_16) rfl ?_
    show Steps p.tables e below (T73.setTop (mkF m 17 #[.val (.int p1)] [(.int p1), (.ref wc)])) _
    refine XS.sipush X73.here hx rfl (hb hby d_jdk_33_method_22_code_17) ?_
    show Steps p.tables e below (T73.setTop (mkF m 20 #[.val (.int p1)] [(.int (128 : Int32)), (.int p1), (.ref wc)])) _
    refine XS.iadd X73.here hx rfl (hb hby d_jdk_33_method_22_code_20) rfl ?_
    show Steps p.tables e below (T73.setTop (mkF m 21 #[.val (.int p1)] [(.int (p1 + (128 : Int32))), (.ref wc)])) _
    refine X73.aaload hx (j := (p1 + (128 : Int32))) (v := (.ref bx74)) (by rw [e73]; exact (hB74.1.ext O0.2).1) (State.isArrayOf_alike hZ.alike hB74.1.2.1) rfl hB74.1.2.2 hin74 hat74 (g := (mkF m 21 #[.val (.int p1)] [(.int (p1 + (128 : Int32))), (.ref wc)])) rfl rfl (hb hby d_jdk_33_method_22_code_21) _ ?_
    show Steps p.tables e below (T73.setTop (mkF m 22 #[.val (.int p1)] [(.ref bx74)])) _
    exact retOut X73 hx (t := (.object "java/lang/Integer")) (i := .areturn) Bd.returns rfl (Or.inr (Or.inr (Or.inr (Or.inr ⟨rfl, rfl, rfl⟩)))) (hb hby d_jdk_33_method_22_code_22) hr
  · show Qerm17 Z wc p1 h0 n0 _ T73.heap _
    rw [e73]
    exact ⟨bx74, rfl, N0, (Keep.refl h0 []), O0, (Eb74.ext O0.2)⟩
set_option maxRecDepth 65536 in
set_option maxHeartbeats 40000000 in
theorem rm18 (l : Launch) (Z : State) (a0 : Array Value) (hw : ∀ d ∈ tables_1, d.before a0 Z = true) (ws : List Jvm.Cond) (wc : Addr) (p1 : Int32) (a1 a2 : Addr) (h0 : Heap) (n0 : Nat) (hWd : Wd Z wc) (O0 : Old Z n0 h0) (rl0 : ¬ (p1 < (-128 : Int32))) (rl1 : ¬ ((127 : Int32) < p1)) (E_a1 : Exa Z h0 a1 "com/example/vestwright/vestwright/model/VestingPeriod$Days") (F_a1_length : Fld Z h0 a1 "com/example/vestwright/vestwright/model/VestingPeriod$Days" "length" "I" (.int p1)) (g_a1 : n0 ≤ a1) (E_a2 : Exa Z h0 a2 "java/lang/Integer") :
    MetFree l (⟨"com/example/vestwright/vestwright/model/VestingPeriod$Days", "equals", "(Ljava/lang/Object;)Z"⟩ : MethodName) (head1 (Jvm.Cond.code (⟨"com/example/vestwright/vestwright/model/VestingPeriod$Days", "equals", "(Ljava/lang/Object;)Z"⟩ : MethodName) prog_90_method_5_code 3 (some .boolean) :: ws) ({ frames := 0, cells := 0, slots := 0, locals := 0 } : Room)) (fun a U => a = #[(.ref a1), (.ref a2)] ∧ Z.Warmed39 U.vm ∧ U.heap = h0) (fun _ _ _ _ _ => True) (fun _ U o U' => ∃ v L, o = .returned v ∧ Qp (some (.int (0 : Int32))) h0 n0 v U'.heap L ∧ FrameEnd U o U' L ({ frames := 0, cells := 0, slots := 0, locals := 0 } : Room).cells ({ frames := 0, cells := 0, slots := 0, locals := 0 } : Room).slots) := by
  refine MetFree.of_bodySF (plainFor_of_name pn1) hisR ?_
  intro p e s m args below meth c s₁ Bd hml0 hP hK
  obtain ⟨rfl, hZ, hh⟩ := hP
  have hx := Bd.exec
  have hby := Bd.bytes
  have hml : c.maxLocals = 3 := hml0
  have hown : s.vm.findClass "com/example/vestwright/vestwright/model/VestingPeriod$Days" = some m.cls := findClass_of_methodNamed Bd.named
  have hnm := (name_of_methodNamed Bd.named Bd.method).1
  have X0 : Stand p l e ({ frames := 0, cells := 0, slots := 0, locals := 0 } : Room) s m #[(.ref a1), (.ref a2)] below meth c s₁ [] 0 0 := Stand.of_body Bd
  have e0 : s₁.heap = h0 := by rw [← hh, Bd.state]; rfl
  have N0 := Fr.nil n0
  have hlk := Bd.notSynchronized
  obtain ⟨wSh, wSc, wB, -⟩ := id hWd
  have pre0 : ∀ t, Steps p.tables e below (s₁.setTop (mkF m 0 #[.val (.ref a1), .val (.ref a2), .unset] [])) t → Steps p.tables e below (s₁.setTop (entryFrame m #[(.ref a1), (.ref a2)] 3)) t := fun t k => castTop (ef2 m a1 a2) k
  obtain ⟨T76, X76, e76, st76⟩ := instNo X0 hx hZ hown (hw _ (List.mem_of_getElem? (i := 28) rfl)) e0 E_a2 (own_ns_no (hw _ (List.mem_of_getElem? (i := 29) rfl)) (own_cls_inst (hw _ (List.mem_of_getElem? (i := 1) rfl))) (NS.step (hw _ (List.mem_of_getElem? (i := 29) rfl)) (NS.step (hw _ (List.mem_of_getElem? (i := 30) rfl)) (own_ns_root (hw _ (List.mem_of_getElem? (i := 31) rfl)) (own_cls_inst (hw _ (List.mem_of_getElem? (i := 1) rfl))) (by decide)) (by decide)) (by decide)) (by decide)) (g := (mkF m 1 #[.val (.ref a1), .val (.ref a2), .unset] [(.ref a2)])) rfl rfl (hb hby d_prog_90_method_5_code_1)
  obtain ⟨fs, hr, hrun, hended, hWr, hsame⟩ := X76.leave (v := some (.int (0 : Int32))) (fun h => by rw [Bd.returns] at h; cases h) hlk
  refine ⟨_, _, pre0 _ ?_, hrun, hended, _, _, rfl, ?_, ⟨_, rfl⟩, hWr, hsame.mono (Nat.le_of_ble_eq_true rfl) (Nat.le_of_ble_eq_true rfl)⟩
  · show Steps p.tables e below (s₁.setTop (mkF m 0 #[.val (.ref a1), .val (.ref a2), .unset] [])) _
    refine XS.aloadN X0.here hx rfl (hb hby d_prog_90_method_5_code_0) rfl rfl ?_
    show Steps p.tables e below (s₁.setTop (mkF m 1 #[.val (.ref a1), .val (.ref a2), .unset] [(.ref a2)])) _
    refine st76 _ ?_
    show Steps p.tables e below (T76.setTop (mkF m 4 #[.val (.ref a1), .val (.ref a2), .unset] [(.int (0 : Int32))])) _
    refine XS.ifYes X76.here hx rfl (pc0 := 4) (pc' := 27) rfl (hb hby d_prog_90_method_5_code_4) rfl (by decide) (by decide) (by decide) ?_
    show Steps p.tables e below (T76.setTop (mkF m 27 #[.val (.ref a1), .val (.ref a2), .unset] [])) _
    refine XS.iconst X76.here hx rfl (hb hby d_prog_90_method_5_code_27) ?_
    show Steps p.tables e below (T76.setTop (mkF m 28 #[.val (.ref a1), .val (.ref a2), .unset] [(.int (0 : Int32))])) _
    exact retN X76 hx (t := .boolean) Bd.returns (by simp) (hb hby d_prog_90_method_5_code_28) hr
  · show Qp (some (.int (0 : Int32))) h0 n0 _ T76.heap _
    rw [e76]
    exact ⟨rfl, N0, rfl⟩
theorem pn4 : plainName "com/example/vestwright/vestwright/model/DaysEqualsPinLaw" = true := by first | (simp [plainName, overriddenIn]; done) | decide +kernel
theorem ef6 (m : MethodId) (i0 : Int32) (i1 : Int32) (i2 : Int32)   : entryFrame m #[(.int i0), (.int i1), (.int i2)] maxLocals = mkF m 0 #[.val (.int i0), .val (.int i1), .val (.int i2), .unset, .unset, .unset, .unset] [] := by first | (simp [entryFrame, mkF, argsToLocals, Value.category, maxLocals]; done) | rfl
set_option maxRecDepth 65536 in
set_option maxHeartbeats 40000000 in
theorem rm0 (l : Launch) (Z : State) (a0 : Array Value) (hw : ∀ d ∈ tables_1, d.before a0 Z = true) (ws : List Jvm.Cond) (wc : Addr) (i0 i1 i2 : Int32) (h0 : Heap) (n0 : Nat) (hWd : Wd Z wc) (O0 : Old Z n0 h0) :
    MetFree l x (head1 (Jvm.Cond.code x code maxLocals ret :: ws) room_1) (fun a U => a = #[(.int i0), (.int i1), (.int i2)] ∧ Z.Warmed39 U.vm ∧ U.heap = h0) (fun _ _ _ _ _ => True) (fun _ U o U' => ∃ v L, o = .returned v ∧ Ql n0 v U'.heap L ∧ FrameEnd U o U' L room_1.cells room_1.slots) := by
  refine MetFree.of_bodySF (plainFor_of_name pn4) hisR ?_
  intro p e s m args below meth c s₁ Bd hml0 hP hK
  obtain ⟨rfl, hZ, hh⟩ := hP
  have hx := Bd.exec
  have hby := Bd.bytes
  have hml : c.maxLocals = 7 := hml0
  have hown : s.vm.findClass "com/example/vestwright/vestwright/model/DaysEqualsPinLaw" = some m.cls := findClass_of_methodNamed Bd.named
  have hnm := (name_of_methodNamed Bd.named Bd.method).1
  have X0 : Stand p l e room_1 s m #[(.int i0), (.int i1), (.int i2)] below meth c s₁ [] 0 0 := Stand.of_body Bd
  have e0 : s₁.heap = h0 := by rw [← hh, Bd.state]; rfl
  have N0 := Fr.nil n0
  have hlk := Bd.notSynchronized
  obtain ⟨wSh, wSc, wB, -⟩ := id hWd
  have pre0 : ∀ t, Steps p.tables e below (s₁.setTop (mkF m 0 #[.val (.int i0), .val (.int i1), .val (.int i2), .unset, .unset, .unset, .unset] [])) t → Steps p.tables e below (s₁.setTop (entryFrame m #[(.int i0), (.int i1), (.int i2)] maxLocals)) t := fun t k => castTop (ef6 m i0 i1 i2) k
  obtain ⟨T1, h1, X1, e1, E1, A1, D1, -, st1⟩ := newO X0 hx hZ hown (hw _ (List.mem_of_getElem? (i := 0) rfl)) (hw _ (List.mem_of_getElem? (i := 1) rfl)) (hw _ (List.mem_of_getElem? (i := 2) rfl)) e0 (g := (mkF m 0 #[.val (.int i0), .val (.int i1), .val (.int i2), .unset, .unset, .unset, .unset] [])) rfl (hb hby at_0) (by decide) (by decide)
  obtain ⟨b1, g1⟩ : ∃ z, z = h0.size := ⟨_, rfl⟩
  rw [← g1] at A1 D1 st1
  have g_b1 : n0 ≤ b1 := Nat.le_trans (Nat.le_trans (Nat.le_of_eq O0.1.symm) O0.2.1) (Nat.le_of_eq g1.symm)
  have O_1 : Old Z n0 h1 := O0.ext E1
  have F_b1_length : Fld Z h1 b1 "com/example/vestwright/vestwright/model/VestingPeriod$Days" "length" "I" (.int (0 : Int32)) := D1 (Or.inr (hw _ (List.mem_of_getElem? (i := 15) rfl))) (ty := .int) (by decide)
  obtain ⟨_, _, ⟨T5, L5, k5, n5⟩, -, X5, ⟨Lc5, hQ5, l5, y5, z5⟩, st5⟩ := X1.specialBack hx (y := (⟨"com/example/vestwright/vestwright/model/VestingPeriod$Days", "<init>", "(I)V"⟩ : MethodName)) rfl hown (mvT hZ (hw _ (List.mem_of_getElem? (i := 3) rfl))) (mvT hZ (hw _ (List.mem_of_getElem? (i := 4) rfl))) (mvT hZ (hw _ (List.mem_of_getElem? (i := 5) rfl))) (by decide) (backOf (W := 1) (rm1 l Z a0 hw [] wc i0 b1 h1 n0 hWd O_1 A1 F_b1_length g_b1) hZ (hw _ (List.mem_of_getElem? (i := 5) rfl)) (hw _ (List.mem_of_getElem? (i := 2) rfl)) (by decide) (by decide)) (g := (mkF m 5 #[.val (.int i0), .val (.int i1), .val (.int i2), .unset, .unset, .unset, .unset] [(.int i0), (.ref b1), (.ref b1)])) rfl (by rw [hml]; rfl) (Steps.refl _) (a := b1) (argsL := [(.int i0)]) (rest := [(.ref b1)]) (lenOf pd1 rfl) rfl (by show 2 * 0 + _ ≤ _; exact Nat.le_of_eq rfl) (hb hby at_5) (fun _ _ => ⟨rfl, e1, (by decide : 1 + 0 ≤ _), (by decide : 1 + 0 ≤ _)⟩)
  dsimp only [Pt.U, Pt.locs, Pt.cells, Pt.slots] at X5 l5 y5 z5 st5 hQ5
  subst l5 y5 z5
  obtain ⟨rfl, N5q, K5, O_5, E_b1_5, F_b1_length_5⟩ := hQ5
  have N5 := Fr.app N0 N5q
  have pre6 : ∀ t, Steps p.tables e below (T5.setTop (mkF m 11 #[.val (.int i0), .val (.int i1), .val (.int i2), .val (.ref b1), .unset, .unset, .unset] [(.int (3 : Int32)), (.int i2)])) t → Steps p.tables e below (s₁.setTop (entryFrame m #[(.int i0), (.int i1), (.int i2)] maxLocals)) t := by
    intro t k
    refine pre0 _ ?_
    show Steps p.tables e below (s₁.setTop (mkF m 0 #[.val (.int i0), .val (.int i1), .val (.int i2), .unset, .unset, .unset, .unset] [])) _
    refine st1 _ ?_
    show Steps p.tables e below (T1.setTop (mkF m 3 #[.val (.int i0), .val (.int i1), .val (.int i2), .unset, .unset, .unset, .unset] [(.ref b1)])) _
    refine XS.dup X1.here hx rfl (hb hby at_3) rfl rfl ?_
    show Steps p.tables e below (T1.setTop (mkF m 4 #[.val (.int i0), .val (.int i1), .val (.int i2), .unset, .unset, .unset, .unset] [(.ref b1), (.ref b1)])) _
    refine XS.iloadN X1.here hx rfl (hb hby at_4) rfl ?_
    show Steps p.tables e below (T1.setTop (mkF m 5 #[.val (.int i0), .val (.int i1), .val (.int i2), .unset, .unset, .unset, .unset] [(.int i0), (.ref b1), (.ref b1)])) _
    refine st5.trans ?_
    show Steps p.tables e below (T5.setTop (mkF m 8 #[.val (.int i0), .val (.int i1), .val (.int i2), .unset, .unset, .unset, .unset] [(.ref b1)])) _
    refine XS.astoreN X5.here hx rfl (hb hby at_8) rfl rfl (l' := #[.val (.int i0), .val (.int i1), .val (.int i2), .val (.ref b1), .unset, .unset, .unset]) rfl ?_
    show Steps p.tables e below (T5.setTop (mkF m 9 #[.val (.int i0), .val (.int i1), .val (.int i2), .val (.ref b1), .unset, .unset, .unset] [])) _
    refine XS.iloadN X5.here hx rfl (hb hby at_9) rfl ?_
    show Steps p.tables e below (T5.setTop (mkF m 10 #[.val (.int i0), .val (.int i1), .val (.int i2), .val (.ref b1), .unset, .unset, .unset] [(.int i2)])) _
    refine XS.iconst X5.here hx rfl (hb hby at_10) ?_
    show Steps p.tables e below (T5.setTop (mkF m 11 #[.val (.int i0), .val (.int i1), .val (.int i2), .val (.ref b1), .unset, .unset, .unset] [(.int (3 : Int32)), (.int i2)])) _
    exact k
  rcases own_and_3 i2 with hk7 | hk8 | hk9 | hk10
  · obtain ⟨T11, h11, X11, e11, E11, A11, D11, -, st11⟩ := newO X5 hx hZ hown (hw _ (List.mem_of_getElem? (i := 0) rfl)) (hw _ (List.mem_of_getElem? (i := 1) rfl)) (hw _ (List.mem_of_getElem? (i := 2) rfl)) rfl (g := (mkF m 19 #[.val (.int i0), .val (.int i1), .val (.int i2), .val (.ref b1), .val (.int (0 : Int32)), .unset, .unset] [])) rfl (hb hby at_19) (by decide) (by decide)
    obtain ⟨b11, g11⟩ : ∃ z, z = T5.heap.size := ⟨_, rfl⟩
    rw [← g11] at A11 D11 st11
    have ne_b1_b11 : b1 ≠ b11 := Nat.ne_of_lt (Nat.lt_of_lt_of_le E_b1_5.lt (Nat.le_of_eq g11.symm))
    have g_b11 : n0 ≤ b11 := Nat.le_trans (Nat.le_trans (Nat.le_of_eq O_5.1.symm) O_5.2.1) (Nat.le_of_eq g11.symm)
    have E_b1_11 : Exa Z h11 b1 "com/example/vestwright/vestwright/model/VestingPeriod$Days" := E_b1_5.ext E11
    have F_b1_length_11 : Fld Z h11 b1 "com/example/vestwright/vestwright/model/VestingPeriod$Days" "length" "I" (.int i0) := F_b1_length_5.ext E11
    have O_11 : Old Z n0 h11 := O_5.ext E11
    have F_b11_length : Fld Z h11 b11 "com/example/vestwright/vestwright/model/VestingPeriod$Days" "length" "I" (.int (0 : Int32)) := D11 (Or.inr (hw _ (List.mem_of_getElem? (i := 15) rfl))) (ty := .int) (by decide)
    obtain ⟨_, _, ⟨T12, L12, k12, n12⟩, -, X12, ⟨Lc12, hQ12, l12, y12, z12⟩, st12⟩ := X11.specialBack hx (y := (⟨"com/example/vestwright/vestwright/model/VestingPeriod$Days", "<init>", "(I)V"⟩ : MethodName)) rfl hown (mvT hZ (hw _ (List.mem_of_getElem? (i := 3) rfl))) (mvT hZ (hw _ (List.mem_of_getElem? (i := 4) rfl))) (mvT hZ (hw _ (List.mem_of_getElem? (i := 5) rfl))) (by decide) (backOf (W := 1) (rm1 l Z a0 hw [] wc i1 b11 h11 n0 hWd O_11 A11 F_b11_length g_b11) hZ (hw _ (List.mem_of_getElem? (i := 5) rfl)) (hw _ (List.mem_of_getElem? (i := 2) rfl)) (by decide) (by decide)) (g := (mkF m 24 #[.val (.int i0), .val (.int i1), .val (.int i2), .val (.ref b1), .val (.int (0 : Int32)), .unset, .unset] [(.int i1), (.ref b11), (.ref b11)])) rfl (by rw [hml]; rfl) (Steps.refl _) (a := b11) (argsL := [(.int i1)]) (rest := [(.ref b11)]) (lenOf pd1 rfl) rfl (by show 2 * 0 + _ ≤ _; exact Nat.le_of_eq rfl) (hb hby at_24) (fun _ _ => ⟨rfl, e11, (by decide : 2 + 0 ≤ _), (by decide : 2 + 0 ≤ _)⟩)
    dsimp only [Pt.U, Pt.locs, Pt.cells, Pt.slots] at X12 l12 y12 z12 st12 hQ12
    subst l12 y12 z12
    obtain ⟨rfl, N12q, K12, O_12, E_b11_12, F_b11_length_12⟩ := hQ12
    have N12 := Fr.app N5 N12q
    have E_b1_12 : Exa Z T12.heap b1 "com/example/vestwright/vestwright/model/VestingPeriod$Days" := E_b1_11.keep K12
    have F_b1_length_12 : Fld Z T12.heap b1 "com/example/vestwright/vestwright/model/VestingPeriod$Days" "length" "I" (.int i0) := F_b1_length_11.keep K12 (ninS ne_b1_b11 nin0)
    have pre13 : ∀ t, Steps p.tables e below (T12.setTop (mkF m 31 #[.val (.int i0), .val (.int i1), .val (.int i2), .val (.ref b1), .val (.int (0 : Int32)), .val (.ref b11), .unset] [(.int i1), (.int i0)])) t → Steps p.tables e below (s₁.setTop (entryFrame m #[(.int i0), (.int i1), (.int i2)] maxLocals)) t := by
      intro t k
      refine pre6 _ ?_
      show Steps p.tables e below (T5.setTop (mkF m 11 #[.val (.int i0), .val (.int i1), .val (.int i2), .val (.ref b1), .unset, .unset, .unset] [(.int (3 : Int32)), (.int i2)])) _
      refine XS.iand X5.here hx rfl (hb hby at_11) rfl ?_
      show Steps p.tables e below (T5.setTop (mkF m 12 #[.val (.int i0), .val (.int i1), .val (.int i2), .val (.ref b1), .unset, .unset, .unset] [(.int (i2 &&& (3 : Int32)))])) _
      rw [hk7]
      show Steps p.tables e below (T5.setTop (mkF m 12 #[.val (.int i0), .val (.int i1), .val (.int i2), .val (.ref b1), .unset, .unset, .unset] [(.int (0 : Int32))])) _
      refine XS.istore X5.here hx rfl (hb hby at_12) rfl (l' := #[.val (.int i0), .val (.int i1), .val (.int i2), .val (.ref b1), .val (.int (0 : Int32)), .unset, .unset]) rfl ?_
      show Steps p.tables e below (T5.setTop (mkF m 14 #[.val (.int i0), .val (.int i1), .val (.int i2), .val (.ref b1), .val (.int (0 : Int32)), .unset, .unset] [])) _
      refine XS.iload X5.here hx rfl (hb hby at_14) rfl ?_
      show Steps p.tables e below (T5.setTop (mkF m 16 #[.val (.int i0), .val (.int i1), .val (.int i2), .val (.ref b1), .val (.int (0 : Int32)), .unset, .unset] [(.int (0 : Int32))])) _
      refine XS.ifNo X5.here hx rfl (hb hby at_16) rfl (by decide) ?_
      show Steps p.tables e below (T5.setTop (mkF m 19 #[.val (.int i0), .val (.int i1), .val (.int i2), .val (.ref b1), .val (.int (0 : Int32)), .unset, .unset] [])) _
      refine st11 _ ?_
      show Steps p.tables e below (T11.setTop (mkF m 22 #[.val (.int i0), .val (.int i1), .val (.int i2), .val (.ref b1), .val (.int (0 : Int32)), .unset, .unset] [(.ref b11)])) _
      refine XS.dup X11.here hx rfl (hb hby at_22) rfl rfl ?_
      show Steps p.tables e below (T11.setTop (mkF m 23 #[.val (.int i0), .val (.int i1), .val (.int i2), .val (.ref b1), .val (.int (0 : Int32)), .unset, .unset] [(.ref b11), (.ref b11)])) _
      refine XS.iloadN X11.here hx rfl (hb hby at_23) rfl ?_
      show Steps p.tables e below (T11.setTop (mkF m 24 #[.val (.int i0), .val (.int i1), .val (.int i2), .val (.ref b1), .val (.int (0 : Int32)), .unset, .unset] [(.int i1), (.ref b11), (.ref b11)])) _
      refine st12.trans ?_
      show Steps p.tables e below (T12.setTop (mkF m 27 #[.val (.int i0), .val (.int i1), .val (.int i2), .val (.ref b1), .val (.int (0 : Int32)), .unset, .unset] [(.ref b11)])) _
      refine XS.astore X12.here hx rfl (hb hby at_27) rfl rfl (l' := #[.val (.int i0), .val (.int i1), .val (.int i2), .val (.ref b1), .val (.int (0 : Int32)), .val (.ref b11), .unset]) rfl ?_
      show Steps p.tables e below (T12.setTop (mkF m 29 #[.val (.int i0), .val (.int i1), .val (.int i2), .val (.ref b1), .val (.int (0 : Int32)), .val (.ref b11), .unset] [])) _
      refine XS.iloadN X12.here hx rfl (hb hby at_29) rfl ?_
      show Steps p.tables e below (T12.setTop (mkF m 30 #[.val (.int i0), .val (.int i1), .val (.int i2), .val (.ref b1), .val (.int (0 : Int32)), .val (.ref b11), .unset] [(.int i0)])) _
      refine XS.iloadN X12.here hx rfl (hb hby at_30) rfl ?_
      show Steps p.tables e below (T12.setTop (mkF m 31 #[.val (.int i0), .val (.int i1), .val (.int i2), .val (.ref b1), .val (.int (0 : Int32)), .val (.ref b11), .unset] [(.int i1), (.int i0)])) _
      exact k
    rcases Classical.em (i0 = i1) with hd14 | hd15
    · obtain ⟨cq20, kq20, q20a, q20b, q20c⟩ := isOf hZ rfl E_b1_12
      obtain ⟨_, _, ⟨T20, L20, k20, n20⟩, -, X20, ⟨Lc20, hQ20, l20, y20, z20⟩, st20⟩ := X12.virtualBack hx (y := (⟨"com/example/vestwright/vestwright/model/VestingPeriod$Days", "equals", "(Ljava/lang/Object;)Z"⟩ : MethodName)) (z := (⟨"com/example/vestwright/vestwright/model/VestingPeriod$Days", "equals", "(Ljava/lang/Object;)Z"⟩ : MethodName)) hown (mvT hZ (hw _ (List.mem_of_getElem? (i := 16) rfl))) (mvT hZ (hw _ (List.mem_of_getElem? (i := 17) rfl))) (notFace_of_selects (args := #[]) (mvT hZ (hw _ (List.mem_of_getElem? (i := 19) rfl)))) (mvT hZ (hw _ (List.mem_of_getElem? (i := 19) rfl))) (mvT hZ (hw _ (List.mem_of_getElem? (i := 18) rfl))) (by decide) (backOf (W := 0) (rm3 l Z a0 hw [] wc i0 i1 b1 b11 T12.heap n0 hWd O_12 hd14 E_b1_12 F_b1_length_12 g_b1 E_b11_12 F_b11_length_12 g_b11) hZ (hw _ (List.mem_of_getElem? (i := 20) rfl)) (hw _ (List.mem_of_getElem? (i := 2) rfl)) (by decide) (by decide)) q20a q20c (g := (mkF m 44 #[.val (.int i0), .val (.int i1), .val (.int i2), .val (.ref b1), .val (.int (0 : Int32)), .val (.ref b11), .val (.int (1 : Int32))] [(.ref b11), (.ref b1)])) rfl (by rw [hml]; rfl) (Steps.refl _) (argsL := [(.ref b11)]) (rest := []) (lenOf pd2 rfl) rfl (by show 2 * 0 + _ ≤ _; exact Nat.le_of_eq rfl) (hb hby at_44) (fun _ _ => ⟨rfl, rfl, (by decide : 2 + 0 ≤ _), (by decide : 2 + 0 ≤ _)⟩)
      dsimp only [Pt.U, Pt.locs, Pt.cells, Pt.slots] at X20 l20 y20 z20 st20 hQ20
      subst l20 y20 z20
      obtain ⟨rfl, N20q, e20⟩ := hQ20
      have N20 := Fr.app N12 N20q
      obtain ⟨cq25, kq25, q25a, q25b, q25c⟩ := isOf hZ e20 E_b11_12
      obtain ⟨_, _, ⟨T25, L25, k25, n25⟩, -, X25, ⟨Lc25, hQ25, l25, y25, z25⟩, st25⟩ := X20.virtualBack hx (y := (⟨"com/example/vestwright/vestwright/model/VestingPeriod$Days", "equals", "(Ljava/lang/Object;)Z"⟩ : MethodName)) (z := (⟨"com/example/vestwright/vestwright/model/VestingPeriod$Days", "equals", "(Ljava/lang/Object;)Z"⟩ : MethodName)) hown (mvT hZ (hw _ (List.mem_of_getElem? (i := 16) rfl))) (mvT hZ (hw _ (List.mem_of_getElem? (i := 17) rfl))) (notFace_of_selects (args := #[]) (mvT hZ (hw _ (List.mem_of_getElem? (i := 19) rfl)))) (mvT hZ (hw _ (List.mem_of_getElem? (i := 19) rfl))) (mvT hZ (hw _ (List.mem_of_getElem? (i := 18) rfl))) (by decide) (backOf (W := 0) (rm4 l Z a0 hw [] wc i1 i0 b11 b1 T12.heap n0 hWd O_12 hd14 E_b11_12 F_b11_length_12 g_b11 E_b1_12 F_b1_length_12 g_b1) hZ (hw _ (List.mem_of_getElem? (i := 20) rfl)) (hw _ (List.mem_of_getElem? (i := 2) rfl)) (by decide) (by decide)) q25a q25c (g := (mkF m 55 #[.val (.int i0), .val (.int i1), .val (.int i2), .val (.ref b1), .val (.int (0 : Int32)), .val (.ref b11), .val (.int (1 : Int32))] [(.ref b1), (.ref b11)])) rfl (by rw [hml]; rfl) (Steps.refl _) (argsL := [(.ref b1)]) (rest := []) (lenOf pd2 rfl) rfl (by show 2 * 0 + _ ≤ _; exact Nat.le_of_eq rfl) (hb hby at_55) (fun _ _ => ⟨rfl, e20, (by decide : 2 + 0 ≤ _), (by decide : 2 + 0 ≤ _)⟩)
      dsimp only [Pt.U, Pt.locs, Pt.cells, Pt.slots] at X25 l25 y25 z25 st25 hQ25
      subst l25 y25 z25
      obtain ⟨rfl, N25q, e25⟩ := hQ25
      have N25 := Fr.app N20 N25q
      obtain ⟨cq30, kq30, q30a, q30b, q30c⟩ := isOf hZ e25 E_b1_12
      obtain ⟨_, _, ⟨T30, L30, k30, n30⟩, -, X30, ⟨Lc30, hQ30, l30, y30, z30⟩, st30⟩ := X25.virtualBack hx (y := (⟨"com/example/vestwright/vestwright/model/VestingPeriod$Days", "equals", "(Ljava/lang/Object;)Z"⟩ : MethodName)) (z := (⟨"com/example/vestwright/vestwright/model/VestingPeriod$Days", "equals", "(Ljava/lang/Object;)Z"⟩ : MethodName)) hown (mvT hZ (hw _ (List.mem_of_getElem? (i := 16) rfl))) (mvT hZ (hw _ (List.mem_of_getElem? (i := 17) rfl))) (notFace_of_selects (args := #[]) (mvT hZ (hw _ (List.mem_of_getElem? (i := 19) rfl)))) (mvT hZ (hw _ (List.mem_of_getElem? (i := 19) rfl))) (mvT hZ (hw _ (List.mem_of_getElem? (i := 18) rfl))) (by decide) (backOf (W := 0) (rm5 l Z a0 hw [] wc i0 b1 T12.heap n0 hWd O_12 E_b1_12 F_b1_length_12 g_b1) hZ (hw _ (List.mem_of_getElem? (i := 20) rfl)) (hw _ (List.mem_of_getElem? (i := 2) rfl)) (by decide) (by decide)) q30a q30c (g := (mkF m 65 #[.val (.int i0), .val (.int i1), .val (.int i2), .val (.ref b1), .val (.int (0 : Int32)), .val (.ref b11), .val (.int (1 : Int32))] [(.ref b1), (.ref b1)])) rfl (by rw [hml]; rfl) (Steps.refl _) (argsL := [(.ref b1)]) (rest := []) (lenOf pd2 rfl) rfl (by show 2 * 0 + _ ≤ _; exact Nat.le_of_eq rfl) (hb hby at_65) (fun _ _ => ⟨rfl, e25, (by decide : 2 + 0 ≤ _), (by decide : 2 + 0 ≤ _)⟩)
      dsimp only [Pt.U, Pt.locs, Pt.cells, Pt.slots] at X30 l30 y30 z30 st30 hQ30
      subst l30 y30 z30
      obtain ⟨rfl, N30q, e30⟩ := hQ30
      have N30 := Fr.app N25 N30q
      obtain ⟨fs, hr, hrun, hended, hWr, hsame⟩ := X30.leave (v := some (.int (1 : Int32))) (fun h => by rw [Bd.returns] at h; cases h) hlk
      refine ⟨_, _, pre13 _ ?_, hrun, hended, _, _, rfl, ?_, ⟨_, rfl⟩, hWr, hsame.mono (Nat.le_of_ble_eq_true rfl) (Nat.le_of_ble_eq_true rfl)⟩
      · show Steps p.tables e below (T12.setTop (mkF m 31 #[.val (.int i0), .val (.int i1), .val (.int i2), .val (.ref b1), .val (.int (0 : Int32)), .val (.ref b11), .unset] [(.int i1), (.int i0)])) _
        refine XS.icmpNo X12.here hx rfl (hb hby at_31) rfl (teq hd14).2 ?_
        show Steps p.tables e below (T12.setTop (mkF m 34 #[.val (.int i0), .val (.int i1), .val (.int i2), .val (.ref b1), .val (.int (0 : Int32)), .val (.ref b11), .unset] [])) _
        refine XS.iconst X12.here hx rfl (hb hby at_34) ?_
        show Steps p.tables e below (T12.setTop (mkF m 35 #[.val (.int i0), .val (.int i1), .val (.int i2), .val (.ref b1), .val (.int (0 : Int32)), .val (.ref b11), .unset] [(.int (1 : Int32))])) _
        refine XS.goto X12.here hx rfl (pc0 := 35) (pc' := 39) rfl (hb hby at_35) (by decide) (by decide) ?_
        show Steps p.tables e below (T12.setTop (mkF m 39 #[.val (.int i0), .val (.int i1), .val (.int i2), .val (.ref b1), .val (.int (0 : Int32)), .val (.ref b11), .unset] [(.int (1 : Int32))])) _
        refine XS.istore X12.here hx rfl (hb hby at_39) rfl (l' := #[.val (.int i0), .val (.int i1), .val (.int i2), .val (.ref b1), .val (.int (0 : Int32)), .val (.ref b11), .val (.int (1 : Int32))]) rfl ?_
        show Steps p.tables e below (T12.setTop (mkF m 41 #[.val (.int i0), .val (.int i1), .val (.int i2), .val (.ref b1), .val (.int (0 : Int32)), .val (.ref b11), .val (.int (1 : Int32))] [])) _
        refine XS.aloadN X12.here hx rfl (hb hby at_41) rfl rfl ?_
        show Steps p.tables e below (T12.setTop (mkF m 42 #[.val (.int i0), .val (.int i1), .val (.int i2), .val (.ref b1), .val (.int (0 : Int32)), .val (.ref b11), .val (.int (1 : Int32))] [(.ref b1)])) _
        refine XS.aload X12.here hx rfl (hb hby at_42) rfl rfl ?_
        show Steps p.tables e below (T12.setTop (mkF m 44 #[.val (.int i0), .val (.int i1), .val (.int i2), .val (.ref b1), .val (.int (0 : Int32)), .val (.ref b11), .val (.int (1 : Int32))] [(.ref b11), (.ref b1)])) _
        refine st20.trans ?_
        show Steps p.tables e below (T20.setTop (mkF m 47 #[.val (.int i0), .val (.int i1), .val (.int i2), .val (.ref b1), .val (.int (0 : Int32)), .val (.ref b11), .val (.int (1 : Int32))] [(.int (1 : Int32))])) _
        refine XS.iload X20.here hx rfl (hb hby at_47) rfl ?_
        show Steps p.tables e below (T20.setTop (mkF m 49 #[.val (.int i0), .val (.int i1), .val (.int i2), .val (.ref b1), .val (.int (0 : Int32)), .val (.ref b11), .val (.int (1 : Int32))] [(.int (1 : Int32)), (.int (1 : Int32))])) _
        refine XS.icmpNo X20.here hx rfl (hb hby at_49) rfl (by decide) ?_
        show Steps p.tables e below (T20.setTop (mkF m 52 #[.val (.int i0), .val (.int i1), .val (.int i2), .val (.ref b1), .val (.int (0 : Int32)), .val (.ref b11), .val (.int (1 : Int32))] [])) _
        refine XS.aload X20.here hx rfl (hb hby at_52) rfl rfl ?_
        show Steps p.tables e below (T20.setTop (mkF m 54 #[.val (.int i0), .val (.int i1), .val (.int i2), .val (.ref b1), .val (.int (0 : Int32)), .val (.ref b11), .val (.int (1 : Int32))] [(.ref b11)])) _
        refine XS.aloadN X20.here hx rfl (hb hby at_54) rfl rfl ?_
        show Steps p.tables e below (T20.setTop (mkF m 55 #[.val (.int i0), .val (.int i1), .val (.int i2), .val (.ref b1), .val (.int (0 : Int32)), .val (.ref b11), .val (.int (1 : Int32))] [(.ref b1), (.ref b11)])) _
        refine st25.trans ?_
        show Steps p.tables e below (T25.setTop (mkF m 58 #[.val (.int i0), .val (.int i1), .val (.int i2), .val (.ref b1), .val (.int (0 : Int32)), .val (.ref b11), .val (.int (1 : Int32))] [(.int (1 : Int32))])) _
        refine XS.iload X25.here hx rfl (hb hby at_58) rfl ?_
        show Steps p.tables e below (T25.setTop (mkF m 60 #[.val (.int i0), .val (.int i1), .val (.int i2), .val (.ref b1), .val (.int (0 : Int32)), .val (.ref b11), .val (.int (1 : Int32))] [(.int (1 : Int32)), (.int (1 : Int32))])) _
        refine XS.icmpNo X25.here hx rfl (hb hby at_60) rfl (by decide) ?_
        show Steps p.tables e below (T25.setTop (mkF m 63 #[.val (.int i0), .val (.int i1), .val (.int i2), .val (.ref b1), .val (.int (0 : Int32)), .val (.ref b11), .val (.int (1 : Int32))] [])) _
        refine XS.aloadN X25.here hx rfl (hb hby at_63) rfl rfl ?_
        show Steps p.tables e below (T25.setTop (mkF m 64 #[.val (.int i0), .val (.int i1), .val (.int i2), .val (.ref b1), .val (.int (0 : Int32)), .val (.ref b11), .val (.int (1 : Int32))] [(.ref b1)])) _
        refine XS.aloadN X25.here hx rfl (hb hby at_64) rfl rfl ?_
        show Steps p.tables e below (T25.setTop (mkF m 65 #[.val (.int i0), .val (.int i1), .val (.int i2), .val (.ref b1), .val (.int (0 : Int32)), .val (.ref b11), .val (.int (1 : Int32))] [(.ref b1), (.ref b1)])) _
        refine st30.trans ?_
        show Steps p.tables e below (T30.setTop (mkF m 68 #[.val (.int i0), .val (.int i1), .val (.int i2), .val (.ref b1), .val (.int (0 : Int32)), .val (.ref b11), .val (.int (1 : Int32))] [(.int (1 : Int32))])) _
        refine XS.ifNo X30.here hx rfl (hb hby at_68) rfl (by decide) ?_
        show Steps p.tables e below (T30.setTop (mkF m 71 #[.val (.int i0), .val (.int i1), .val (.int i2), .val (.ref b1), .val (.int (0 : Int32)), .val (.ref b11), .val (.int (1 : Int32))] [])) _
        refine XS.iconst X30.here hx rfl (hb hby at_71) ?_
        show Steps p.tables e below (T30.setTop (mkF m 72 #[.val (.int i0), .val (.int i1), .val (.int i2), .val (.ref b1), .val (.int (0 : Int32)), .val (.ref b11), .val (.int (1 : Int32))] [(.int (1 : Int32))])) _
        refine XS.goto X30.here hx rfl (pc0 := 72) (pc' := 76) rfl (hb hby at_72) (by decide) (by decide) ?_
        show Steps p.tables e below (T30.setTop (mkF m 76 #[.val (.int i0), .val (.int i1), .val (.int i2), .val (.ref b1), .val (.int (0 : Int32)), .val (.ref b11), .val (.int (1 : Int32))] [(.int (1 : Int32))])) _
        exact retN X30 hx (t := .boolean) Bd.returns (by simp) (hb hby at_76) hr
      · show Ql n0 _ T30.heap _
        exact ⟨rfl, N30⟩
    · obtain ⟨cq35, kq35, q35a, q35b, q35c⟩ := isOf hZ rfl E_b1_12
      obtain ⟨_, _, ⟨T35, L35, k35, n35⟩, -, X35, ⟨Lc35, hQ35, l35, y35, z35⟩, st35⟩ := X12.virtualBack hx (y := (⟨"com/example/vestwright/vestwright/model/VestingPeriod$Days", "equals", "(Ljava/lang/Object;)Z"⟩ : MethodName)) (z := (⟨"com/example/vestwright/vestwright/model/VestingPeriod$Days", "equals", "(Ljava/lang/Object;)Z"⟩ : MethodName)) hown (mvT hZ (hw _ (List.mem_of_getElem? (i := 16) rfl))) (mvT hZ (hw _ (List.mem_of_getElem? (i := 17) rfl))) (notFace_of_selects (args := #[]) (mvT hZ (hw _ (List.mem_of_getElem? (i := 19) rfl)))) (mvT hZ (hw _ (List.mem_of_getElem? (i := 19) rfl))) (mvT hZ (hw _ (List.mem_of_getElem? (i := 18) rfl))) (by decide) (backOf (W := 0) (rm6 l Z a0 hw [] wc i0 i1 b1 b11 T12.heap n0 hWd O_12 hd15 E_b1_12 F_b1_length_12 g_b1 E_b11_12 F_b11_length_12 g_b11) hZ (hw _ (List.mem_of_getElem? (i := 20) rfl)) (hw _ (List.mem_of_getElem? (i := 2) rfl)) (by decide) (by decide)) q35a q35c (g := (mkF m 44 #[.val (.int i0), .val (.int i1), .val (.int i2), .val (.ref b1), .val (.int (0 : Int32)), .val (.ref b11), .val (.int (0 : Int32))] [(.ref b11), (.ref b1)])) rfl (by rw [hml]; rfl) (Steps.refl _) (argsL := [(.ref b11)]) (rest := []) (lenOf pd2 rfl) rfl (by show 2 * 0 + _ ≤ _; exact Nat.le_of_eq rfl) (hb hby at_44) (fun _ _ => ⟨rfl, rfl, (by decide : 2 + 0 ≤ _), (by decide : 2 + 0 ≤ _)⟩)
      dsimp only [Pt.U, Pt.locs, Pt.cells, Pt.slots] at X35 l35 y35 z35 st35 hQ35
      subst l35 y35 z35
      obtain ⟨rfl, N35q, e35⟩ := hQ35
      have N35 := Fr.app N12 N35q
      obtain ⟨cq40, kq40, q40a, q40b, q40c⟩ := isOf hZ e35 E_b11_12
      obtain ⟨_, _, ⟨T40, L40, k40, n40⟩, -, X40, ⟨Lc40, hQ40, l40, y40, z40⟩, st40⟩ := X35.virtualBack hx (y := (⟨"com/example/vestwright/vestwright/model/VestingPeriod$Days", "equals", "(Ljava/lang/Object;)Z"⟩ : MethodName)) (z := (⟨"com/example/vestwright/vestwright/model/VestingPeriod$Days", "equals", "(Ljava/lang/Object;)Z"⟩ : MethodName)) hown (mvT hZ (hw _ (List.mem_of_getElem? (i := 16) rfl))) (mvT hZ (hw _ (List.mem_of_getElem? (i := 17) rfl))) (notFace_of_selects (args := #[]) (mvT hZ (hw _ (List.mem_of_getElem? (i := 19) rfl)))) (mvT hZ (hw _ (List.mem_of_getElem? (i := 19) rfl))) (mvT hZ (hw _ (List.mem_of_getElem? (i := 18) rfl))) (by decide) (backOf (W := 0) (rm7 l Z a0 hw [] wc i1 i0 b11 b1 T12.heap n0 hWd O_12 hd15 E_b11_12 F_b11_length_12 g_b11 E_b1_12 F_b1_length_12 g_b1) hZ (hw _ (List.mem_of_getElem? (i := 20) rfl)) (hw _ (List.mem_of_getElem? (i := 2) rfl)) (by decide) (by decide)) q40a q40c (g := (mkF m 55 #[.val (.int i0), .val (.int i1), .val (.int i2), .val (.ref b1), .val (.int (0 : Int32)), .val (.ref b11), .val (.int (0 : Int32))] [(.ref b1), (.ref b11)])) rfl (by rw [hml]; rfl) (Steps.refl _) (argsL := [(.ref b1)]) (rest := []) (lenOf pd2 rfl) rfl (by show 2 * 0 + _ ≤ _; exact Nat.le_of_eq rfl) (hb hby at_55) (fun _ _ => ⟨rfl, e35, (by decide : 2 + 0 ≤ _), (by decide : 2 + 0 ≤ _)⟩)
      dsimp only [Pt.U, Pt.locs, Pt.cells, Pt.slots] at X40 l40 y40 z40 st40 hQ40
      subst l40 y40 z40
      obtain ⟨rfl, N40q, e40⟩ := hQ40
      have N40 := Fr.app N35 N40q
      obtain ⟨cq41, kq41, q41a, q41b, q41c⟩ := isOf hZ e40 E_b1_12
      obtain ⟨_, _, ⟨T41, L41, k41, n41⟩, -, X41, ⟨Lc41, hQ41, l41, y41, z41⟩, st41⟩ := X40.virtualBack hx (y := (⟨"com/example/vestwright/vestwright/model/VestingPeriod$Days", "equals", "(Ljava/lang/Object;)Z"⟩ : MethodName)) (z := (⟨"com/example/vestwright/vestwright/model/VestingPeriod$Days", "equals", "(Ljava/lang/Object;)Z"⟩ : MethodName)) hown (mvT hZ (hw _ (List.mem_of_getElem? (i := 16) rfl))) (mvT hZ (hw _ (List.mem_of_getElem? (i := 17) rfl))) (notFace_of_selects (args := #[]) (mvT hZ (hw _ (List.mem_of_getElem? (i := 19) rfl)))) (mvT hZ (hw _ (List.mem_of_getElem? (i := 19) rfl))) (mvT hZ (hw _ (List.mem_of_getElem? (i := 18) rfl))) (by decide) (backOf (W := 0) (rm5 l Z a0 hw [] wc i0 b1 T12.heap n0 hWd O_12 E_b1_12 F_b1_length_12 g_b1) hZ (hw _ (List.mem_of_getElem? (i := 20) rfl)) (hw _ (List.mem_of_getElem? (i := 2) rfl)) (by decide) (by decide)) q41a q41c (g := (mkF m 65 #[.val (.int i0), .val (.int i1), .val (.int i2), .val (.ref b1), .val (.int (0 : Int32)), .val (.ref b11), .val (.int (0 : Int32))] [(.ref b1), (.ref b1)])) rfl (by rw [hml]; rfl) (Steps.refl _) (argsL := [(.ref b1)]) (rest := []) (lenOf pd2 rfl) rfl (by show 2 * 0 + _ ≤ _; exact Nat.le_of_eq rfl) (hb hby at_65) (fun _ _ => ⟨rfl, e40, (by decide : 2 + 0 ≤ _), (by decide : 2 + 0 ≤ _)⟩)
      dsimp only [Pt.U, Pt.locs, Pt.cells, Pt.slots] at X41 l41 y41 z41 st41 hQ41
      subst l41 y41 z41
      obtain ⟨rfl, N41q, e41⟩ := hQ41
      have N41 := Fr.app N40 N41q
      obtain ⟨fs, hr, hrun, hended, hWr, hsame⟩ := X41.leave (v := some (.int (1 : Int32))) (fun h => by rw [Bd.returns] at h; cases h) hlk
      refine ⟨_, _, pre13 _ ?_, hrun, hended, _, _, rfl, ?_, ⟨_, rfl⟩, hWr, hsame.mono (Nat.le_of_ble_eq_true rfl) (Nat.le_of_ble_eq_true rfl)⟩
      · show Steps p.tables e below (T12.setTop (mkF m 31 #[.val (.int i0), .val (.int i1), .val (.int i2), .val (.ref b1), .val (.int (0 : Int32)), .val (.ref b11), .unset] [(.int i1), (.int i0)])) _
        refine XS.icmpYes X12.here hx rfl (pc0 := 31) (pc' := 38) rfl (hb hby at_31) rfl (feq hd15).2 (by decide) (by decide) ?_
        show Steps p.tables e below (T12.setTop (mkF m 38 #[.val (.int i0), .val (.int i1), .val (.int i2), .val (.ref b1), .val (.int (0 : Int32)), .val (.ref b11), .unset] [])) _
        refine XS.iconst X12.here hx rfl (hb hby at_38) ?_
        show Steps p.tables e below (T12.setTop (mkF m 39 #[.val (.int i0), .val (.int i1), .val (.int i2), .val (.ref b1), .val (.int (0 : Int32)), .val (.ref b11), .unset] [(.int (0 : Int32))])) _
        refine XS.istore X12.here hx rfl (hb hby at_39) rfl (l' := #[.val (.int i0), .val (.int i1), .val (.int i2), .val (.ref b1), .val (.int (0 : Int32)), .val (.ref b11), .val (.int (0 : Int32))]) rfl ?_
        show Steps p.tables e below (T12.setTop (mkF m 41 #[.val (.int i0), .val (.int i1), .val (.int i2), .val (.ref b1), .val (.int (0 : Int32)), .val (.ref b11), .val (.int (0 : Int32))] [])) _
        refine XS.aloadN X12.here hx rfl (hb hby at_41) rfl rfl ?_
        show Steps p.tables e below (T12.setTop (mkF m 42 #[.val (.int i0), .val (.int i1), .val (.int i2), .val (.ref b1), .val (.int (0 : Int32)), .val (.ref b11), .val (.int (0 : Int32))] [(.ref b1)])) _
        refine XS.aload X12.here hx rfl (hb hby at_42) rfl rfl ?_
        show Steps p.tables e below (T12.setTop (mkF m 44 #[.val (.int i0), .val (.int i1), .val (.int i2), .val (.ref b1), .val (.int (0 : Int32)), .val (.ref b11), .val (.int (0 : Int32))] [(.ref b11), (.ref b1)])) _
        refine st35.trans ?_
        show Steps p.tables e below (T35.setTop (mkF m 47 #[.val (.int i0), .val (.int i1), .val (.int i2), .val (.ref b1), .val (.int (0 : Int32)), .val (.ref b11), .val (.int (0 : Int32))] [(.int (0 : Int32))])) _
        refine XS.iload X35.here hx rfl (hb hby at_47) rfl ?_
        show Steps p.tables e below (T35.setTop (mkF m 49 #[.val (.int i0), .val (.int i1), .val (.int i2), .val (.ref b1), .val (.int (0 : Int32)), .val (.ref b11), .val (.int (0 : Int32))] [(.int (0 : Int32)), (.int (0 : Int32))])) _
        refine XS.icmpNo X35.here hx rfl (hb hby at_49) rfl (by decide) ?_
        show Steps p.tables e below (T35.setTop (mkF m 52 #[.val (.int i0), .val (.int i1), .val (.int i2), .val (.ref b1), .val (.int (0 : Int32)), .val (.ref b11), .val (.int (0 : Int32))] [])) _
        refine XS.aload X35.here hx rfl (hb hby at_52) rfl rfl ?_
        show Steps p.tables e below (T35.setTop (mkF m 54 #[.val (.int i0), .val (.int i1), .val (.int i2), .val (.ref b1), .val (.int (0 : Int32)), .val (.ref b11), .val (.int (0 : Int32))] [(.ref b11)])) _
        refine XS.aloadN X35.here hx rfl (hb hby at_54) rfl rfl ?_
        show Steps p.tables e below (T35.setTop (mkF m 55 #[.val (.int i0), .val (.int i1), .val (.int i2), .val (.ref b1), .val (.int (0 : Int32)), .val (.ref b11), .val (.int (0 : Int32))] [(.ref b1), (.ref b11)])) _
        refine st40.trans ?_
        show Steps p.tables e below (T40.setTop (mkF m 58 #[.val (.int i0), .val (.int i1), .val (.int i2), .val (.ref b1), .val (.int (0 : Int32)), .val (.ref b11), .val (.int (0 : Int32))] [(.int (0 : Int32))])) _
        refine XS.iload X40.here hx rfl (hb hby at_58) rfl ?_
        show Steps p.tables e below (T40.setTop (mkF m 60 #[.val (.int i0), .val (.int i1), .val (.int i2), .val (.ref b1), .val (.int (0 : Int32)), .val (.ref b11), .val (.int (0 : Int32))] [(.int (0 : Int32)), (.int (0 : Int32))])) _
        refine XS.icmpNo X40.here hx rfl (hb hby at_60) rfl (by decide) ?_
        show Steps p.tables e below (T40.setTop (mkF m 63 #[.val (.int i0), .val (.int i1), .val (.int i2), .val (.ref b1), .val (.int (0 : Int32)), .val (.ref b11), .val (.int (0 : Int32))] [])) _
        refine XS.aloadN X40.here hx rfl (hb hby at_63) rfl rfl ?_
        show Steps p.tables e below (T40.setTop (mkF m 64 #[.val (.int i0), .val (.int i1), .val (.int i2), .val (.ref b1), .val (.int (0 : Int32)), .val (.ref b11), .val (.int (0 : Int32))] [(.ref b1)])) _
        refine XS.aloadN X40.here hx rfl (hb hby at_64) rfl rfl ?_
        show Steps p.tables e below (T40.setTop (mkF m 65 #[.val (.int i0), .val (.int i1), .val (.int i2), .val (.ref b1), .val (.int (0 : Int32)), .val (.ref b11), .val (.int (0 : Int32))] [(.ref b1), (.ref b1)])) _
        refine st41.trans ?_
        show Steps p.tables e below (T41.setTop (mkF m 68 #[.val (.int i0), .val (.int i1), .val (.int i2), .val (.ref b1), .val (.int (0 : Int32)), .val (.ref b11), .val (.int (0 : Int32))] [(.int (1 : Int32))])) _
        refine XS.ifNo X41.here hx rfl (hb hby at_68) rfl (by decide) ?_
        show Steps p.tables e below (T41.setTop (mkF m 71 #[.val (.int i0), .val (.int i1), .val (.int i2), .val (.ref b1), .val (.int (0 : Int32)), .val (.ref b11), .val (.int (0 : Int32))] [])) _
        refine XS.iconst X41.here hx rfl (hb hby at_71) ?_
        show Steps p.tables e below (T41.setTop (mkF m 72 #[.val (.int i0), .val (.int i1), .val (.int i2), .val (.ref b1), .val (.int (0 : Int32)), .val (.ref b11), .val (.int (0 : Int32))] [(.int (1 : Int32))])) _
        refine XS.goto X41.here hx rfl (pc0 := 72) (pc' := 76) rfl (hb hby at_72) (by decide) (by decide) ?_
        show Steps p.tables e below (T41.setTop (mkF m 76 #[.val (.int i0), .val (.int i1), .val (.int i2), .val (.ref b1), .val (.int (0 : Int32)), .val (.ref b11), .val (.int (0 : Int32))] [(.int (1 : Int32))])) _
        exact retN X41 hx (t := .boolean) Bd.returns (by simp) (hb hby at_76) hr
      · show Ql n0 _ T41.heap _
        exact ⟨rfl, N41⟩
  · obtain ⟨T42, h42, X42, e42, E42, A42, D42, -, st42⟩ := newO X5 hx hZ hown (hw _ (List.mem_of_getElem? (i := 0) rfl)) (hw _ (List.mem_of_getElem? (i := 1) rfl)) (hw _ (List.mem_of_getElem? (i := 2) rfl)) rfl (g := (mkF m 83 #[.val (.int i0), .val (.int i1), .val (.int i2), .val (.ref b1), .val (.int (1 : Int32)), .unset, .unset] [])) rfl (hb hby at_83) (by decide) (by decide)
    obtain ⟨b42, g42⟩ : ∃ z, z = T5.heap.size := ⟨_, rfl⟩
    rw [← g42] at A42 D42 st42
    have ne_b1_b42 : b1 ≠ b42 := Nat.ne_of_lt (Nat.lt_of_lt_of_le E_b1_5.lt (Nat.le_of_eq g42.symm))
    have g_b42 : n0 ≤ b42 := Nat.le_trans (Nat.le_trans (Nat.le_of_eq O_5.1.symm) O_5.2.1) (Nat.le_of_eq g42.symm)
    have E_b1_42 : Exa Z h42 b1 "com/example/vestwright/vestwright/model/VestingPeriod$Days" := E_b1_5.ext E42
    have F_b1_length_42 : Fld Z h42 b1 "com/example/vestwright/vestwright/model/VestingPeriod$Days" "length" "I" (.int i0) := F_b1_length_5.ext E42
    have O_42 : Old Z n0 h42 := O_5.ext E42
    have F_b42_length : Fld Z h42 b42 "com/example/vestwright/vestwright/model/VestingPeriod$Days" "length" "I" (.int (0 : Int32)) := D42 (Or.inr (hw _ (List.mem_of_getElem? (i := 15) rfl))) (ty := .int) (by decide)
    obtain ⟨_, _, ⟨T43, L43, k43, n43⟩, -, X43, ⟨Lc43, hQ43, l43, y43, z43⟩, st43⟩ := X42.specialBack hx (y := (⟨"com/example/vestwright/vestwright/model/VestingPeriod$Days", "<init>", "(I)V"⟩ : MethodName)) rfl hown (mvT hZ (hw _ (List.mem_of_getElem? (i := 3) rfl))) (mvT hZ (hw _ (List.mem_of_getElem? (i := 4) rfl))) (mvT hZ (hw _ (List.mem_of_getElem? (i := 5) rfl))) (by decide) (backOf (W := 1) (rm1 l Z a0 hw [] wc i0 b42 h42 n0 hWd O_42 A42 F_b42_length g_b42) hZ (hw _ (List.mem_of_getElem? (i := 5) rfl)) (hw _ (List.mem_of_getElem? (i := 2) rfl)) (by decide) (by decide)) (g := (mkF m 88 #[.val (.int i0), .val (.int i1), .val (.int i2), .val (.ref b1), .val (.int (1 : Int32)), .unset, .unset] [(.int i0), (.ref b42), (.ref b42)])) rfl (by rw [hml]; rfl) (Steps.refl _) (a := b42) (argsL := [(.int i0)]) (rest := [(.ref b42)]) (lenOf pd1 rfl) rfl (by show 2 * 0 + _ ≤ _; exact Nat.le_of_eq rfl) (hb hby at_88) (fun _ _ => ⟨rfl, e42, (by decide : 2 + 0 ≤ _), (by decide : 2 + 0 ≤ _)⟩)
    dsimp only [Pt.U, Pt.locs, Pt.cells, Pt.slots] at X43 l43 y43 z43 st43 hQ43
    subst l43 y43 z43
    obtain ⟨rfl, N43q, K43, O_43, E_b42_43, F_b42_length_43⟩ := hQ43
    have N43 := Fr.app N5 N43q
    have E_b1_43 : Exa Z T43.heap b1 "com/example/vestwright/vestwright/model/VestingPeriod$Days" := E_b1_42.keep K43
    have F_b1_length_43 : Fld Z T43.heap b1 "com/example/vestwright/vestwright/model/VestingPeriod$Days" "length" "I" (.int i0) := F_b1_length_42.keep K43 (ninS ne_b1_b42 nin0)
    obtain ⟨cq48, kq48, q48a, q48b, q48c⟩ := isOf hZ rfl E_b1_43
    obtain ⟨_, _, ⟨T48, L48, k48, n48⟩, -, X48, ⟨Lc48, hQ48, l48, y48, z48⟩, st48⟩ := X43.virtualBack hx (y := (⟨"com/example/vestwright/vestwright/model/VestingPeriod$Days", "equals", "(Ljava/lang/Object;)Z"⟩ : MethodName)) (z := (⟨"com/example/vestwright/vestwright/model/VestingPeriod$Days", "equals", "(Ljava/lang/Object;)Z"⟩ : MethodName)) hown (mvT hZ (hw _ (List.mem_of_getElem? (i := 16) rfl))) (mvT hZ (hw _ (List.mem_of_getElem? (i := 17) rfl))) (notFace_of_selects (args := #[]) (mvT hZ (hw _ (List.mem_of_getElem? (i := 19) rfl)))) (mvT hZ (hw _ (List.mem_of_getElem? (i := 19) rfl))) (mvT hZ (hw _ (List.mem_of_getElem? (i := 18) rfl))) (by decide) (backOf (W := 0) (rm8 l Z a0 hw [] wc i0 b1 b42 T43.heap n0 hWd O_43 E_b1_43 F_b1_length_43 g_b1 E_b42_43 F_b42_length_43 g_b42) hZ (hw _ (List.mem_of_getElem? (i := 20) rfl)) (hw _ (List.mem_of_getElem? (i := 2) rfl)) (by decide) (by decide)) q48a q48c (g := (mkF m 96 #[.val (.int i0), .val (.int i1), .val (.int i2), .val (.ref b1), .val (.int (1 : Int32)), .val (.ref b42), .unset] [(.ref b42), (.ref b1)])) rfl (by rw [hml]; rfl) (Steps.refl _) (argsL := [(.ref b42)]) (rest := []) (lenOf pd2 rfl) rfl (by show 2 * 0 + _ ≤ _; exact Nat.le_of_eq rfl) (hb hby at_96) (fun _ _ => ⟨rfl, rfl, (by decide : 2 + 0 ≤ _), (by decide : 2 + 0 ≤ _)⟩)
    dsimp only [Pt.U, Pt.locs, Pt.cells, Pt.slots] at X48 l48 y48 z48 st48 hQ48
    subst l48 y48 z48
    obtain ⟨rfl, N48q, e48⟩ := hQ48
    have N48 := Fr.app N43 N48q
    obtain ⟨cq49, kq49, q49a, q49b, q49c⟩ := isOf hZ e48 E_b42_43
    obtain ⟨_, _, ⟨T49, L49, k49, n49⟩, -, X49, ⟨Lc49, hQ49, l49, y49, z49⟩, st49⟩ := X48.virtualBack hx (y := (⟨"com/example/vestwright/vestwright/model/VestingPeriod$Days", "equals", "(Ljava/lang/Object;)Z"⟩ : MethodName)) (z := (⟨"com/example/vestwright/vestwright/model/VestingPeriod$Days", "equals", "(Ljava/lang/Object;)Z"⟩ : MethodName)) hown (mvT hZ (hw _ (List.mem_of_getElem? (i := 16) rfl))) (mvT hZ (hw _ (List.mem_of_getElem? (i := 17) rfl))) (notFace_of_selects (args := #[]) (mvT hZ (hw _ (List.mem_of_getElem? (i := 19) rfl)))) (mvT hZ (hw _ (List.mem_of_getElem? (i := 19) rfl))) (mvT hZ (hw _ (List.mem_of_getElem? (i := 18) rfl))) (by decide) (backOf (W := 0) (rm8 l Z a0 hw [] wc i0 b42 b1 T43.heap n0 hWd O_43 E_b42_43 F_b42_length_43 g_b42 E_b1_43 F_b1_length_43 g_b1) hZ (hw _ (List.mem_of_getElem? (i := 20) rfl)) (hw _ (List.mem_of_getElem? (i := 2) rfl)) (by decide) (by decide)) q49a q49c (g := (mkF m 105 #[.val (.int i0), .val (.int i1), .val (.int i2), .val (.ref b1), .val (.int (1 : Int32)), .val (.ref b42), .unset] [(.ref b1), (.ref b42)])) rfl (by rw [hml]; rfl) (Steps.refl _) (argsL := [(.ref b1)]) (rest := []) (lenOf pd2 rfl) rfl (by show 2 * 0 + _ ≤ _; exact Nat.le_of_eq rfl) (hb hby at_105) (fun _ _ => ⟨rfl, e48, (by decide : 2 + 0 ≤ _), (by decide : 2 + 0 ≤ _)⟩)
    dsimp only [Pt.U, Pt.locs, Pt.cells, Pt.slots] at X49 l49 y49 z49 st49 hQ49
    subst l49 y49 z49
    obtain ⟨rfl, N49q, e49⟩ := hQ49
    have N49 := Fr.app N48 N49q
    obtain ⟨fs, hr, hrun, hended, hWr, hsame⟩ := X49.leave (v := some (.int (1 : Int32))) (fun h => by rw [Bd.returns] at h; cases h) hlk
    refine ⟨_, _, pre6 _ ?_, hrun, hended, _, _, rfl, ?_, ⟨_, rfl⟩, hWr, hsame.mono (Nat.le_of_ble_eq_true rfl) (Nat.le_of_ble_eq_true rfl)⟩
    · show Steps p.tables e below (T5.setTop (mkF m 11 #[.val (.int i0), .val (.int i1), .val (.int i2), .val (.ref b1), .unset, .unset, .unset] [(.int (3 : Int32)), (.int i2)])) _
      refine XS.iand X5.here hx rfl (hb hby at_11) rfl ?_
      show Steps p.tables e below (T5.setTop (mkF m 12 #[.val (.int i0), .val (.int i1), .val (.int i2), .val (.ref b1), .unset, .unset, .unset] [(.int (i2 &&& (3 : Int32)))])) _
      rw [hk8]
      show Steps p.tables e below (T5.setTop (mkF m 12 #[.val (.int i0), .val (.int i1), .val (.int i2), .val (.ref b1), .unset, .unset, .unset] [(.int (1 : Int32))])) _
      refine XS.istore X5.here hx rfl (hb hby at_12) rfl (l' := #[.val (.int i0), .val (.int i1), .val (.int i2), .val (.ref b1), .val (.int (1 : Int32)), .unset, .unset]) rfl ?_
      show Steps p.tables e below (T5.setTop (mkF m 14 #[.val (.int i0), .val (.int i1), .val (.int i2), .val (.ref b1), .val (.int (1 : Int32)), .unset, .unset] [])) _
      refine XS.iload X5.here hx rfl (hb hby at_14) rfl ?_
      show Steps p.tables e below (T5.setTop (mkF m 16 #[.val (.int i0), .val (.int i1), .val (.int i2), .val (.ref b1), .val (.int (1 : Int32)), .unset, .unset] [(.int (1 : Int32))])) _
      refine XS.ifYes X5.here hx rfl (pc0 := 16) (pc' := 77) rfl (hb hby at_16) rfl (by decide) (by decide) (by decide) ?_
      show Steps p.tables e below (T5.setTop (mkF m 77 #[.val (.int i0), .val (.int i1), .val (.int i2), .val (.ref b1), .val (.int (1 : Int32)), .unset, .unset] [])) _
      refine XS.iload X5.here hx rfl (hb hby at_77) rfl ?_
      show Steps p.tables e below (T5.setTop (mkF m 79 #[.val (.int i0), .val (.int i1), .val (.int i2), .val (.ref b1), .val (.int (1 : Int32)), .unset, .unset] [(.int (1 : Int32))])) _
      refine XS.iconst X5.here hx rfl (hb hby at_79) ?_
      show Steps p.tables e below (T5.setTop (mkF m 80 #[.val (.int i0), .val (.int i1), .val (.int i2), .val (.ref b1), .val (.int (1 : Int32)), .unset, .unset] [(.int (1 : Int32)), (.int (1 : Int32))])) _
      refine XS.icmpNo X5.here hx rfl (hb hby at_80) rfl (by decide) ?_
      show Steps p.tables e below (T5.setTop (mkF m 83 #[.val (.int i0), .val (.int i1), .val (.int i2), .val (.ref b1), .val (.int (1 : Int32)), .unset, .unset] [])) _
      refine st42 _ ?_
      show Steps p.tables e below (T42.setTop (mkF m 86 #[.val (.int i0), .val (.int i1), .val (.int i2), .val (.ref b1), .val (.int (1 : Int32)), .unset, .unset] [(.ref b42)])) _
      refine XS.dup X42.here hx rfl (hb hby at_86) rfl rfl ?_
      show Steps p.tables e below (T42.setTop (mkF m 87 #[.val (.int i0), .val (.int i1), .val (.int i2), .val (.ref b1), .val (.int (1 : Int32)), .unset, .unset] [(.ref b42), (.ref b42)])) _
      refine XS.iloadN X42.here hx rfl (hb hby at_87) rfl ?_
      show Steps p.tables e below (T42.setTop (mkF m 88 #[.val (.int i0), .val (.int i1), .val (.int i2), .val (.ref b1), .val (.int (1 : Int32)), .unset, .unset] [(.int i0), (.ref b42), (.ref b42)])) _
      refine st43.trans ?_
      show Steps p.tables e below (T43.setTop (mkF m 91 #[.val (.int i0), .val (.int i1), .val (.int i2), .val (.ref b1), .val (.int (1 : Int32)), .unset, .unset] [(.ref b42)])) _
      refine XS.astore X43.here hx rfl (hb hby at_91) rfl rfl (l' := #[.val (.int i0), .val (.int i1), .val (.int i2), .val (.ref b1), .val (.int (1 : Int32)), .val (.ref b42), .unset]) rfl ?_
      show Steps p.tables e below (T43.setTop (mkF m 93 #[.val (.int i0), .val (.int i1), .val (.int i2), .val (.ref b1), .val (.int (1 : Int32)), .val (.ref b42), .unset] [])) _
      refine XS.aloadN X43.here hx rfl (hb hby at_93) rfl rfl ?_
      show Steps p.tables e below (T43.setTop (mkF m 94 #[.val (.int i0), .val (.int i1), .val (.int i2), .val (.ref b1), .val (.int (1 : Int32)), .val (.ref b42), .unset] [(.ref b1)])) _
      refine XS.aload X43.here hx rfl (hb hby at_94) rfl rfl ?_
      show Steps p.tables e below (T43.setTop (mkF m 96 #[.val (.int i0), .val (.int i1), .val (.int i2), .val (.ref b1), .val (.int (1 : Int32)), .val (.ref b42), .unset] [(.ref b42), (.ref b1)])) _
      refine st48.trans ?_
      show Steps p.tables e below (T48.setTop (mkF m 99 #[.val (.int i0), .val (.int i1), .val (.int i2), .val (.ref b1), .val (.int (1 : Int32)), .val (.ref b42), .unset] [(.int (1 : Int32))])) _
      refine XS.ifNo X48.here hx rfl (hb hby at_99) rfl (by decide) ?_
      show Steps p.tables e below (T48.setTop (mkF m 102 #[.val (.int i0), .val (.int i1), .val (.int i2), .val (.ref b1), .val (.int (1 : Int32)), .val (.ref b42), .unset] [])) _
      refine XS.aload X48.here hx rfl (hb hby at_102) rfl rfl ?_
      show Steps p.tables e below (T48.setTop (mkF m 104 #[.val (.int i0), .val (.int i1), .val (.int i2), .val (.ref b1), .val (.int (1 : Int32)), .val (.ref b42), .unset] [(.ref b42)])) _
      refine XS.aloadN X48.here hx rfl (hb hby at_104) rfl rfl ?_
      show Steps p.tables e below (T48.setTop (mkF m 105 #[.val (.int i0), .val (.int i1), .val (.int i2), .val (.ref b1), .val (.int (1 : Int32)), .val (.ref b42), .unset] [(.ref b1), (.ref b42)])) _
      refine st49.trans ?_
      show Steps p.tables e below (T49.setTop (mkF m 108 #[.val (.int i0), .val (.int i1), .val (.int i2), .val (.ref b1), .val (.int (1 : Int32)), .val (.ref b42), .unset] [(.int (1 : Int32))])) _
      refine XS.ifNo X49.here hx rfl (hb hby at_108) rfl (by decide) ?_
      show Steps p.tables e below (T49.setTop (mkF m 111 #[.val (.int i0), .val (.int i1), .val (.int i2), .val (.ref b1), .val (.int (1 : Int32)), .val (.ref b42), .unset] [])) _
      refine XS.iconst X49.here hx rfl (hb hby at_111) ?_
      show Steps p.tables e below (T49.setTop (mkF m 112 #[.val (.int i0), .val (.int i1), .val (.int i2), .val (.ref b1), .val (.int (1 : Int32)), .val (.ref b42), .unset] [(.int (1 : Int32))])) _
      refine XS.goto X49.here hx rfl (pc0 := 112) (pc' := 116) rfl (hb hby at_112) (by decide) (by decide) ?_
      show Steps p.tables e below (T49.setTop (mkF m 116 #[.val (.int i0), .val (.int i1), .val (.int i2), .val (.ref b1), .val (.int (1 : Int32)), .val (.ref b42), .unset] [(.int (1 : Int32))])) _
      exact retN X49 hx (t := .boolean) Bd.returns (by simp) (hb hby at_116) hr
    · show Ql n0 _ T49.heap _
      exact ⟨rfl, N49⟩
  · obtain ⟨cq50, kq50, q50a, q50b, q50c⟩ := isOf hZ rfl E_b1_5
    obtain ⟨_, _, ⟨T50, L50, k50, n50⟩, -, X50, ⟨Lc50, hQ50, l50, y50, z50⟩, st50⟩ := X5.virtualBack hx (y := (⟨"com/example/vestwright/vestwright/model/VestingPeriod$Days", "equals", "(Ljava/lang/Object;)Z"⟩ : MethodName)) (z := (⟨"com/example/vestwright/vestwright/model/VestingPeriod$Days", "equals", "(Ljava/lang/Object;)Z"⟩ : MethodName)) hown (mvT hZ (hw _ (List.mem_of_getElem? (i := 16) rfl))) (mvT hZ (hw _ (List.mem_of_getElem? (i := 17) rfl))) (notFace_of_selects (args := #[]) (mvT hZ (hw _ (List.mem_of_getElem? (i := 19) rfl)))) (mvT hZ (hw _ (List.mem_of_getElem? (i := 19) rfl))) (mvT hZ (hw _ (List.mem_of_getElem? (i := 18) rfl))) (by decide) (backOf (W := 0) (rm9 l Z a0 hw [] wc i0 b1 T5.heap n0 hWd O_5 E_b1_5 F_b1_length_5 g_b1) hZ (hw _ (List.mem_of_getElem? (i := 20) rfl)) (hw _ (List.mem_of_getElem? (i := 2) rfl)) (by decide) (by decide)) q50a q50c (g := (mkF m 125 #[.val (.int i0), .val (.int i1), .val (.int i2), .val (.ref b1), .val (.int (2 : Int32)), .unset, .unset] [.null, (.ref b1)])) rfl (by rw [hml]; rfl) (Steps.refl _) (argsL := [.null]) (rest := []) (lenOf pd2 rfl) rfl (by show 2 * 0 + _ ≤ _; exact Nat.le_of_eq rfl) (hb hby at_125) (fun _ _ => ⟨rfl, rfl, (by decide : 1 + 0 ≤ _), (by decide : 1 + 0 ≤ _)⟩)
    dsimp only [Pt.U, Pt.locs, Pt.cells, Pt.slots] at X50 l50 y50 z50 st50 hQ50
    subst l50 y50 z50
    obtain ⟨rfl, N50q, e50⟩ := hQ50
    have N50 := Fr.app N5 N50q
    obtain ⟨fs, hr, hrun, hended, hWr, hsame⟩ := X50.leave (v := some (.int (1 : Int32))) (fun h => by rw [Bd.returns] at h; cases h) hlk
    refine ⟨_, _, pre6 _ ?_, hrun, hended, _, _, rfl, ?_, ⟨_, rfl⟩, hWr, hsame.mono (Nat.le_of_ble_eq_true rfl) (Nat.le_of_ble_eq_true rfl)⟩
    · show Steps p.tables e below (T5.setTop (mkF m 11 #[.val (.int i0), .val (.int i1), .val (.int i2), .val (.ref b1), .unset, .unset, .unset] [(.int (3 : Int32)), (.int i2)])) _
      refine XS.iand X5.here hx rfl (hb hby at_11) rfl ?_
      show Steps p.tables e below (T5.setTop (mkF m 12 #[.val (.int i0), .val (.int i1), .val (.int i2), .val (.ref b1), .unset, .unset, .unset] [(.int (i2 &&& (3 : Int32)))])) _
      rw [hk9]
      show Steps p.tables e below (T5.setTop (mkF m 12 #[.val (.int i0), .val (.int i1), .val (.int i2), .val (.ref b1), .unset, .unset, .unset] [(.int (2 : Int32))])) _
      refine XS.istore X5.here hx rfl (hb hby at_12) rfl (l' := #[.val (.int i0), .val (.int i1), .val (.int i2), .val (.ref b1), .val (.int (2 : Int32)), .unset, .unset]) rfl ?_
      show Steps p.tables e below (T5.setTop (mkF m 14 #[.val (.int i0), .val (.int i1), .val (.int i2), .val (.ref b1), .val (.int (2 : Int32)), .unset, .unset] [])) _
      refine XS.iload X5.here hx rfl (hb hby at_14) rfl ?_
      show Steps p.tables e below (T5.setTop (mkF m 16 #[.val (.int i0), .val (.int i1), .val (.int i2), .val (.ref b1), .val (.int (2 : Int32)), .unset, .unset] [(.int (2 : Int32))])) _
      refine XS.ifYes X5.here hx rfl (pc0 := 16) (pc' := 77) rfl (hb hby at_16) rfl (by decide) (by decide) (by decide) ?_
      show Steps p.tables e below (T5.setTop (mkF m 77 #[.val (.int i0), .val (.int i1), .val (.int i2), .val (.ref b1), .val (.int (2 : Int32)), .unset, .unset] [])) _
      refine XS.iload X5.here hx rfl (hb hby at_77) rfl ?_
      show Steps p.tables e below (T5.setTop (mkF m 79 #[.val (.int i0), .val (.int i1), .val (.int i2), .val (.ref b1), .val (.int (2 : Int32)), .unset, .unset] [(.int (2 : Int32))])) _
      refine XS.iconst X5.here hx rfl (hb hby at_79) ?_
      show Steps p.tables e below (T5.setTop (mkF m 80 #[.val (.int i0), .val (.int i1), .val (.int i2), .val (.ref b1), .val (.int (2 : Int32)), .unset, .unset] [(.int (1 : Int32)), (.int (2 : Int32))])) _
      refine XS.icmpYes X5.here hx rfl (pc0 := 80) (pc' := 117) rfl (hb hby at_80) rfl (by decide) (by decide) (by decide) ?_
      show Steps p.tables e below (T5.setTop (mkF m 117 #[.val (.int i0), .val (.int i1), .val (.int i2), .val (.ref b1), .val (.int (2 : Int32)), .unset, .unset] [])) _
      refine XS.iload X5.here hx rfl (hb hby at_117) rfl ?_
      show Steps p.tables e below (T5.setTop (mkF m 119 #[.val (.int i0), .val (.int i1), .val (.int i2), .val (.ref b1), .val (.int (2 : Int32)), .unset, .unset] [(.int (2 : Int32))])) _
      refine XS.iconst X5.here hx rfl (hb hby at_119) ?_
      show Steps p.tables e below (T5.setTop (mkF m 120 #[.val (.int i0), .val (.int i1), .val (.int i2), .val (.ref b1), .val (.int (2 : Int32)), .unset, .unset] [(.int (2 : Int32)), (.int (2 : Int32))])) _
      refine XS.icmpNo X5.here hx rfl (hb hby at_120) rfl (by decide) ?_
      show Steps p.tables e below (T5.setTop (mkF m 123 #[.val (.int i0), .val (.int i1), .val (.int i2), .val (.ref b1), .val (.int (2 : Int32)), .unset, .unset] [])) _
      refine XS.aloadN X5.here hx rfl (hb hby at_123) rfl rfl ?_
      show Steps p.tables e below (T5.setTop (mkF m 124 #[.val (.int i0), .val (.int i1), .val (.int i2), .val (.ref b1), .val (.int (2 : Int32)), .unset, .unset] [(.ref b1)])) _
      refine XS.aconstNull X5.here hx rfl (hb hby at_124) ?_
      show Steps p.tables e below (T5.setTop (mkF m 125 #[.val (.int i0), .val (.int i1), .val (.int i2), .val (.ref b1), .val (.int (2 : Int32)), .unset, .unset] [.null, (.ref b1)])) _
      refine st50.trans ?_
      show Steps p.tables e below (T50.setTop (mkF m 128 #[.val (.int i0), .val (.int i1), .val (.int i2), .val (.ref b1), .val (.int (2 : Int32)), .unset, .unset] [(.int (0 : Int32))])) _
      refine XS.ifNo X50.here hx rfl (hb hby at_128) rfl (by decide) ?_
      show Steps p.tables e below (T50.setTop (mkF m 131 #[.val (.int i0), .val (.int i1), .val (.int i2), .val (.ref b1), .val (.int (2 : Int32)), .unset, .unset] [])) _
      refine XS.iconst X50.here hx rfl (hb hby at_131) ?_
      show Steps p.tables e below (T50.setTop (mkF m 132 #[.val (.int i0), .val (.int i1), .val (.int i2), .val (.ref b1), .val (.int (2 : Int32)), .unset, .unset] [(.int (1 : Int32))])) _
      refine XS.goto X50.here hx rfl (pc0 := 132) (pc' := 136) rfl (hb hby at_132) (by decide) (by decide) ?_
      show Steps p.tables e below (T50.setTop (mkF m 136 #[.val (.int i0), .val (.int i1), .val (.int i2), .val (.ref b1), .val (.int (2 : Int32)), .unset, .unset] [(.int (1 : Int32))])) _
      exact retN X50 hx (t := .boolean) Bd.returns (by simp) (hb hby at_136) hr
    · show Ql n0 _ T50.heap _
      exact ⟨rfl, N50⟩
  · have pre51 : ∀ t, Steps p.tables e below (T5.setTop (mkF m 139 #[.val (.int i0), .val (.int i1), .val (.int i2), .val (.ref b1), .val (.int (3 : Int32)), .unset, .unset] [(.int i0), (.ref b1)])) t → Steps p.tables e below (s₁.setTop (entryFrame m #[(.int i0), (.int i1), (.int i2)] maxLocals)) t := by
      intro t k
      refine pre6 _ ?_
      show Steps p.tables e below (T5.setTop (mkF m 11 #[.val (.int i0), .val (.int i1), .val (.int i2), .val (.ref b1), .unset, .unset, .unset] [(.int (3 : Int32)), (.int i2)])) _
      refine XS.iand X5.here hx rfl (hb hby at_11) rfl ?_
      show Steps p.tables e below (T5.setTop (mkF m 12 #[.val (.int i0), .val (.int i1), .val (.int i2), .val (.ref b1), .unset, .unset, .unset] [(.int (i2 &&& (3 : Int32)))])) _
      rw [hk10]
      show Steps p.tables e below (T5.setTop (mkF m 12 #[.val (.int i0), .val (.int i1), .val (.int i2), .val (.ref b1), .unset, .unset, .unset] [(.int (3 : Int32))])) _
      refine XS.istore X5.here hx rfl (hb hby at_12) rfl (l' := #[.val (.int i0), .val (.int i1), .val (.int i2), .val (.ref b1), .val (.int (3 : Int32)), .unset, .unset]) rfl ?_
      show Steps p.tables e below (T5.setTop (mkF m 14 #[.val (.int i0), .val (.int i1), .val (.int i2), .val (.ref b1), .val (.int (3 : Int32)), .unset, .unset] [])) _
      refine XS.iload X5.here hx rfl (hb hby at_14) rfl ?_
      show Steps p.tables e below (T5.setTop (mkF m 16 #[.val (.int i0), .val (.int i1), .val (.int i2), .val (.ref b1), .val (.int (3 : Int32)), .unset, .unset] [(.int (3 : Int32))])) _
      refine XS.ifYes X5.here hx rfl (pc0 := 16) (pc' := 77) rfl (hb hby at_16) rfl (by decide) (by decide) (by decide) ?_
      show Steps p.tables e below (T5.setTop (mkF m 77 #[.val (.int i0), .val (.int i1), .val (.int i2), .val (.ref b1), .val (.int (3 : Int32)), .unset, .unset] [])) _
      refine XS.iload X5.here hx rfl (hb hby at_77) rfl ?_
      show Steps p.tables e below (T5.setTop (mkF m 79 #[.val (.int i0), .val (.int i1), .val (.int i2), .val (.ref b1), .val (.int (3 : Int32)), .unset, .unset] [(.int (3 : Int32))])) _
      refine XS.iconst X5.here hx rfl (hb hby at_79) ?_
      show Steps p.tables e below (T5.setTop (mkF m 80 #[.val (.int i0), .val (.int i1), .val (.int i2), .val (.ref b1), .val (.int (3 : Int32)), .unset, .unset] [(.int (1 : Int32)), (.int (3 : Int32))])) _
      refine XS.icmpYes X5.here hx rfl (pc0 := 80) (pc' := 117) rfl (hb hby at_80) rfl (by decide) (by decide) (by decide) ?_
      show Steps p.tables e below (T5.setTop (mkF m 117 #[.val (.int i0), .val (.int i1), .val (.int i2), .val (.ref b1), .val (.int (3 : Int32)), .unset, .unset] [])) _
      refine XS.iload X5.here hx rfl (hb hby at_117) rfl ?_
      show Steps p.tables e below (T5.setTop (mkF m 119 #[.val (.int i0), .val (.int i1), .val (.int i2), .val (.ref b1), .val (.int (3 : Int32)), .unset, .unset] [(.int (3 : Int32))])) _
      refine XS.iconst X5.here hx rfl (hb hby at_119) ?_
      show Steps p.tables e below (T5.setTop (mkF m 120 #[.val (.int i0), .val (.int i1), .val (.int i2), .val (.ref b1), .val (.int (3 : Int32)), .unset, .unset] [(.int (2 : Int32)), (.int (3 : Int32))])) _
      refine XS.icmpYes X5.here hx rfl (pc0 := 120) (pc' := 137) rfl (hb hby at_120) rfl (by decide) (by decide) (by decide) ?_
      show Steps p.tables e below (T5.setTop (mkF m 137 #[.val (.int i0), .val (.int i1), .val (.int i2), .val (.ref b1), .val (.int (3 : Int32)), .unset, .unset] [])) _
      refine XS.aloadN X5.here hx rfl (hb hby at_137) rfl rfl ?_
      show Steps p.tables e below (T5.setTop (mkF m 138 #[.val (.int i0), .val (.int i1), .val (.int i2), .val (.ref b1), .val (.int (3 : Int32)), .unset, .unset] [(.ref b1)])) _
      refine XS.iloadN X5.here hx rfl (hb hby at_138) rfl ?_
      show Steps p.tables e below (T5.setTop (mkF m 139 #[.val (.int i0), .val (.int i1), .val (.int i2), .val (.ref b1), .val (.int (3 : Int32)), .unset, .unset] [(.int i0), (.ref b1)])) _
      exact k
    rcases Classical.em (i0 < (-128 : Int32)) with hd52 | hd53
    · obtain ⟨_, _, ⟨T59, L59, k59, n59⟩, -, X59, ⟨Lc59, hQ59, l59, y59, z59⟩, st59⟩ := Jvm.LawKit.callS X5 hx (y := (⟨"java/lang/Integer", "valueOf", "(I)Ljava/lang/Integer;"⟩ : MethodName)) hown (mvT hZ (hw _ (List.mem_of_getElem? (i := 21) rfl))) (mvT hZ (hw _ (List.mem_of_getElem? (i := 22) rfl))) (mvT hZ (hw _ (List.mem_of_getElem? (i := 23) rfl))) (mvT hZ (hw _ (List.mem_of_getElem? (i := 24) rfl))) (by decide) (backOf (W := 1) (rm10 l Z a0 hw [] wc i0 T5.heap n0 hWd O_5 hd52) hZ (hw _ (List.mem_of_getElem? (i := 24) rfl)) (hw _ (List.mem_of_getElem? (i := 23) rfl)) (by decide) (by decide)) (g := (mkF m 139 #[.val (.int i0), .val (.int i1), .val (.int i2), .val (.ref b1), .val (.int (3 : Int32)), .unset, .unset] [(.int i0), (.ref b1)])) rfl (by rw [hml]; rfl) (argsL := [(.int i0)]) (rest := [(.ref b1)]) (lenOf pd3 rfl) rfl (by show 2 * 0 + _ ≤ _; exact Nat.le_of_eq rfl) (hb hby at_139) (fun _ _ => ⟨rfl, rfl, (by decide : 1 + 1 ≤ _), (by decide : 1 + 1 ≤ _)⟩)
      dsimp only [Pt.U, Pt.locs, Pt.cells, Pt.slots] at X59 l59 y59 z59 st59 hQ59
      subst l59 y59 z59
      obtain ⟨r59, rfl, N59q, K59, O_59, E_r59_59, F_r59_value_59, g_r59⟩ := hQ59
      have N59 := Fr.app N5 N59q
      have E_b1_59 : Exa Z T59.heap b1 "com/example/vestwright/vestwright/model/VestingPeriod$Days" := E_b1_5.keep K59
      have F_b1_length_59 : Fld Z T59.heap b1 "com/example/vestwright/vestwright/model/VestingPeriod$Days" "length" "I" (.int i0) := F_b1_length_5.keep K59 nin0
      obtain ⟨cq61, kq61, q61a, q61b, q61c⟩ := isOf hZ rfl E_b1_59
      obtain ⟨_, _, ⟨T61, L61, k61, n61⟩, -, X61, ⟨Lc61, hQ61, l61, y61, z61⟩, st61⟩ := X59.virtualBack hx (y := (⟨"com/example/vestwright/vestwright/model/VestingPeriod$Days", "equals", "(Ljava/lang/Object;)Z"⟩ : MethodName)) (z := (⟨"com/example/vestwright/vestwright/model/VestingPeriod$Days", "equals", "(Ljava/lang/Object;)Z"⟩ : MethodName)) hown (mvT hZ (hw _ (List.mem_of_getElem? (i := 16) rfl))) (mvT hZ (hw _ (List.mem_of_getElem? (i := 17) rfl))) (notFace_of_selects (args := #[]) (mvT hZ (hw _ (List.mem_of_getElem? (i := 19) rfl)))) (mvT hZ (hw _ (List.mem_of_getElem? (i := 19) rfl))) (mvT hZ (hw _ (List.mem_of_getElem? (i := 18) rfl))) (by decide) (backOf (W := 0) (rm13 l Z a0 hw [] wc i0 b1 r59 T59.heap n0 hWd O_59 hd52 E_b1_59 F_b1_length_59 g_b1 E_r59_59 F_r59_value_59 g_r59) hZ (hw _ (List.mem_of_getElem? (i := 20) rfl)) (hw _ (List.mem_of_getElem? (i := 2) rfl)) (by decide) (by decide)) q61a q61c (g := (mkF m 142 #[.val (.int i0), .val (.int i1), .val (.int i2), .val (.ref b1), .val (.int (3 : Int32)), .unset, .unset] [(.ref r59), (.ref b1)])) rfl (by rw [hml]; rfl) (Steps.refl _) (argsL := [(.ref r59)]) (rest := []) (lenOf pd2 rfl) rfl (by show 2 * 0 + _ ≤ _; exact Nat.le_of_eq rfl) (hb hby at_142) (fun _ _ => ⟨rfl, rfl, (by decide : 2 + 0 ≤ _), (by decide : 2 + 0 ≤ _)⟩)
      dsimp only [Pt.U, Pt.locs, Pt.cells, Pt.slots] at X61 l61 y61 z61 st61 hQ61
      subst l61 y61 z61
      obtain ⟨rfl, N61q, e61⟩ := hQ61
      have N61 := Fr.app N59 N61q
      obtain ⟨fs, hr, hrun, hended, hWr, hsame⟩ := X61.leave (v := some (.int (1 : Int32))) (fun h => by rw [Bd.returns] at h; cases h) hlk
      refine ⟨_, _, pre51 _ ?_, hrun, hended, _, _, rfl, ?_, ⟨_, rfl⟩, hWr, hsame.mono (Nat.le_of_ble_eq_true rfl) (Nat.le_of_ble_eq_true rfl)⟩
      · show Steps p.tables e below (T5.setTop (mkF m 139 #[.val (.int i0), .val (.int i1), .val (.int i2), .val (.ref b1), .val (.int (3 : Int32)), .unset, .unset] [(.int i0), (.ref b1)])) _
        refine st59 _ ?_
        show Steps p.tables e below (T59.setTop (mkF m 142 #[.val (.int i0), .val (.int i1), .val (.int i2), .val (.ref b1), .val (.int (3 : Int32)), .unset, .unset] [(.ref r59), (.ref b1)])) _
        refine st61.trans ?_
        show Steps p.tables e below (T61.setTop (mkF m 145 #[.val (.int i0), .val (.int i1), .val (.int i2), .val (.ref b1), .val (.int (3 : Int32)), .unset, .unset] [(.int (0 : Int32))])) _
        refine XS.ifNo X61.here hx rfl (hb hby at_145) rfl (by decide) ?_
        show Steps p.tables e below (T61.setTop (mkF m 148 #[.val (.int i0), .val (.int i1), .val (.int i2), .val (.ref b1), .val (.int (3 : Int32)), .unset, .unset] [])) _
        refine XS.iconst X61.here hx rfl (hb hby at_148) ?_
        show Steps p.tables e below (T61.setTop (mkF m 149 #[.val (.int i0), .val (.int i1), .val (.int i2), .val (.ref b1), .val (.int (3 : Int32)), .unset, .unset] [(.int (1 : Int32))])) _
        refine XS.goto X61.here hx rfl (pc0 := 149) (pc' := 153) rfl (hb hby at_149) (by decide) (by decide) ?_
        show Steps p.tables e below (T61.setTop (mkF m 153 #[.val (.int i0), .val (.int i1), .val (.int i2), .val (.ref b1), .val (.int (3 : Int32)), .unset, .unset] [(.int (1 : Int32))])) _
        exact retN X61 hx (t := .boolean) Bd.returns (by simp) (hb hby at_153) hr
      · show Ql n0 _ T61.heap _
        exact ⟨rfl, N61⟩
    · rcases Classical.em ((127 : Int32) < i0) with hd62 | hd63
      · obtain ⟨_, _, ⟨T69, L69, k69, n69⟩, -, X69, ⟨Lc69, hQ69, l69, y69, z69⟩, st69⟩ := Jvm.LawKit.callS X5 hx (y := (⟨"java/lang/Integer", "valueOf", "(I)Ljava/lang/Integer;"⟩ : MethodName)) hown (mvT hZ (hw _ (List.mem_of_getElem? (i := 21) rfl))) (mvT hZ (hw _ (List.mem_of_getElem? (i := 22) rfl))) (mvT hZ (hw _ (List.mem_of_getElem? (i := 23) rfl))) (mvT hZ (hw _ (List.mem_of_getElem? (i := 24) rfl))) (by decide) (backOf (W := 1) (rm14 l Z a0 hw [] wc i0 T5.heap n0 hWd O_5 hd53 hd62) hZ (hw _ (List.mem_of_getElem? (i := 24) rfl)) (hw _ (List.mem_of_getElem? (i := 23) rfl)) (by decide) (by decide)) (g := (mkF m 139 #[.val (.int i0), .val (.int i1), .val (.int i2), .val (.ref b1), .val (.int (3 : Int32)), .unset, .unset] [(.int i0), (.ref b1)])) rfl (by rw [hml]; rfl) (argsL := [(.int i0)]) (rest := [(.ref b1)]) (lenOf pd3 rfl) rfl (by show 2 * 0 + _ ≤ _; exact Nat.le_of_eq rfl) (hb hby at_139) (fun _ _ => ⟨rfl, rfl, (by decide : 1 + 1 ≤ _), (by decide : 1 + 1 ≤ _)⟩)
        dsimp only [Pt.U, Pt.locs, Pt.cells, Pt.slots] at X69 l69 y69 z69 st69 hQ69
        subst l69 y69 z69
        obtain ⟨r69, rfl, N69q, K69, O_69, E_r69_69, F_r69_value_69, g_r69⟩ := hQ69
        have N69 := Fr.app N5 N69q
        have E_b1_69 : Exa Z T69.heap b1 "com/example/vestwright/vestwright/model/VestingPeriod$Days" := E_b1_5.keep K69
        have F_b1_length_69 : Fld Z T69.heap b1 "com/example/vestwright/vestwright/model/VestingPeriod$Days" "length" "I" (.int i0) := F_b1_length_5.keep K69 nin0
        obtain ⟨cq71, kq71, q71a, q71b, q71c⟩ := isOf hZ rfl E_b1_69
        obtain ⟨_, _, ⟨T71, L71, k71, n71⟩, -, X71, ⟨Lc71, hQ71, l71, y71, z71⟩, st71⟩ := X69.virtualBack hx (y := (⟨"com/example/vestwright/vestwright/model/VestingPeriod$Days", "equals", "(Ljava/lang/Object;)Z"⟩ : MethodName)) (z := (⟨"com/example/vestwright/vestwright/model/VestingPeriod$Days", "equals", "(Ljava/lang/Object;)Z"⟩ : MethodName)) hown (mvT hZ (hw _ (List.mem_of_getElem? (i := 16) rfl))) (mvT hZ (hw _ (List.mem_of_getElem? (i := 17) rfl))) (notFace_of_selects (args := #[]) (mvT hZ (hw _ (List.mem_of_getElem? (i := 19) rfl)))) (mvT hZ (hw _ (List.mem_of_getElem? (i := 19) rfl))) (mvT hZ (hw _ (List.mem_of_getElem? (i := 18) rfl))) (by decide) (backOf (W := 0) (rm16 l Z a0 hw [] wc i0 b1 r69 T69.heap n0 hWd O_69 hd53 hd62 E_b1_69 F_b1_length_69 g_b1 E_r69_69 F_r69_value_69 g_r69) hZ (hw _ (List.mem_of_getElem? (i := 20) rfl)) (hw _ (List.mem_of_getElem? (i := 2) rfl)) (by decide) (by decide)) q71a q71c (g := (mkF m 142 #[.val (.int i0), .val (.int i1), .val (.int i2), .val (.ref b1), .val (.int (3 : Int32)), .unset, .unset] [(.ref r69), (.ref b1)])) rfl (by rw [hml]; rfl) (Steps.refl _) (argsL := [(.ref r69)]) (rest := []) (lenOf pd2 rfl) rfl (by show 2 * 0 + _ ≤ _; exact Nat.le_of_eq rfl) (hb hby at_142) (fun _ _ => ⟨rfl, rfl, (by decide : 2 + 0 ≤ _), (by decide : 2 + 0 ≤ _)⟩)
        dsimp only [Pt.U, Pt.locs, Pt.cells, Pt.slots] at X71 l71 y71 z71 st71 hQ71
        subst l71 y71 z71
        obtain ⟨rfl, N71q, e71⟩ := hQ71
        have N71 := Fr.app N69 N71q
        obtain ⟨fs, hr, hrun, hended, hWr, hsame⟩ := X71.leave (v := some (.int (1 : Int32))) (fun h => by rw [Bd.returns] at h; cases h) hlk
        refine ⟨_, _, pre51 _ ?_, hrun, hended, _, _, rfl, ?_, ⟨_, rfl⟩, hWr, hsame.mono (Nat.le_of_ble_eq_true rfl) (Nat.le_of_ble_eq_true rfl)⟩
        · show Steps p.tables e below (T5.setTop (mkF m 139 #[.val (.int i0), .val (.int i1), .val (.int i2), .val (.ref b1), .val (.int (3 : Int32)), .unset, .unset] [(.int i0), (.ref b1)])) _
          refine st69 _ ?_
          show Steps p.tables e below (T69.setTop (mkF m 142 #[.val (.int i0), .val (.int i1), .val (.int i2), .val (.ref b1), .val (.int (3 : Int32)), .unset, .unset] [(.ref r69), (.ref b1)])) _
          refine st71.trans ?_
          show Steps p.tables e below (T71.setTop (mkF m 145 #[.val (.int i0), .val (.int i1), .val (.int i2), .val (.ref b1), .val (.int (3 : Int32)), .unset, .unset] [(.int (0 : Int32))])) _
          refine XS.ifNo X71.here hx rfl (hb hby at_145) rfl (by decide) ?_
          show Steps p.tables e below (T71.setTop (mkF m 148 #[.val (.int i0), .val (.int i1), .val (.int i2), .val (.ref b1), .val (.int (3 : Int32)), .unset, .unset] [])) _
          refine XS.iconst X71.here hx rfl (hb hby at_148) ?_
          show Steps p.tables e below (T71.setTop (mkF m 149 #[.val (.int i0), .val (.int i1), .val (.int i2), .val (.ref b1), .val (.int (3 : Int32)), .unset, .unset] [(.int (1 : Int32))])) _
          refine XS.goto X71.here hx rfl (pc0 := 149) (pc' := 153) rfl (hb hby at_149) (by decide) (by decide) ?_
          show Steps p.tables e below (T71.setTop (mkF m 153 #[.val (.int i0), .val (.int i1), .val (.int i2), .val (.ref b1), .val (.int (3 : Int32)), .unset, .unset] [(.int (1 : Int32))])) _
          exact retN X71 hx (t := .boolean) Bd.returns (by simp) (hb hby at_153) hr
        · show Ql n0 _ T71.heap _
          exact ⟨rfl, N71⟩
      · obtain ⟨_, _, ⟨T75, L75, k75, n75⟩, -, X75, ⟨Lc75, hQ75, l75, y75, z75⟩, st75⟩ := Jvm.LawKit.callS X5 hx (y := (⟨"java/lang/Integer", "valueOf", "(I)Ljava/lang/Integer;"⟩ : MethodName)) hown (mvT hZ (hw _ (List.mem_of_getElem? (i := 21) rfl))) (mvT hZ (hw _ (List.mem_of_getElem? (i := 22) rfl))) (mvT hZ (hw _ (List.mem_of_getElem? (i := 23) rfl))) (mvT hZ (hw _ (List.mem_of_getElem? (i := 24) rfl))) (by decide) (backOf (W := 1) (rm17 l Z a0 hw [] wc i0 T5.heap n0 hWd O_5 hd53 hd63) hZ (hw _ (List.mem_of_getElem? (i := 24) rfl)) (hw _ (List.mem_of_getElem? (i := 23) rfl)) (by decide) (by decide)) (g := (mkF m 139 #[.val (.int i0), .val (.int i1), .val (.int i2), .val (.ref b1), .val (.int (3 : Int32)), .unset, .unset] [(.int i0), (.ref b1)])) rfl (by rw [hml]; rfl) (argsL := [(.int i0)]) (rest := [(.ref b1)]) (lenOf pd3 rfl) rfl (by show 2 * 0 + _ ≤ _; exact Nat.le_of_eq rfl) (hb hby at_139) (fun _ _ => ⟨rfl, rfl, (by decide : 1 + 0 ≤ _), (by decide : 1 + 0 ≤ _)⟩)
        dsimp only [Pt.U, Pt.locs, Pt.cells, Pt.slots] at X75 l75 y75 z75 st75 hQ75
        subst l75 y75 z75
        obtain ⟨r75, rfl, N75q, K75, O_75, E_r75_75⟩ := hQ75
        have N75 := Fr.app N5 N75q
        have E_b1_75 : Exa Z T75.heap b1 "com/example/vestwright/vestwright/model/VestingPeriod$Days" := E_b1_5.keep K75
        have F_b1_length_75 : Fld Z T75.heap b1 "com/example/vestwright/vestwright/model/VestingPeriod$Days" "length" "I" (.int i0) := F_b1_length_5.keep K75 nin0
        obtain ⟨cq77, kq77, q77a, q77b, q77c⟩ := isOf hZ rfl E_b1_75
        obtain ⟨_, _, ⟨T77, L77, k77, n77⟩, -, X77, ⟨Lc77, hQ77, l77, y77, z77⟩, st77⟩ := X75.virtualBack hx (y := (⟨"com/example/vestwright/vestwright/model/VestingPeriod$Days", "equals", "(Ljava/lang/Object;)Z"⟩ : MethodName)) (z := (⟨"com/example/vestwright/vestwright/model/VestingPeriod$Days", "equals", "(Ljava/lang/Object;)Z"⟩ : MethodName)) hown (mvT hZ (hw _ (List.mem_of_getElem? (i := 16) rfl))) (mvT hZ (hw _ (List.mem_of_getElem? (i := 17) rfl))) (notFace_of_selects (args := #[]) (mvT hZ (hw _ (List.mem_of_getElem? (i := 19) rfl)))) (mvT hZ (hw _ (List.mem_of_getElem? (i := 19) rfl))) (mvT hZ (hw _ (List.mem_of_getElem? (i := 18) rfl))) (by decide) (backOf (W := 0) (rm18 l Z a0 hw [] wc i0 b1 r75 T75.heap n0 hWd O_75 hd53 hd63 E_b1_75 F_b1_length_75 g_b1 E_r75_75) hZ (hw _ (List.mem_of_getElem? (i := 20) rfl)) (hw _ (List.mem_of_getElem? (i := 2) rfl)) (by decide) (by decide)) q77a q77c (g := (mkF m 142 #[.val (.int i0), .val (.int i1), .val (.int i2), .val (.ref b1), .val (.int (3 : Int32)), .unset, .unset] [(.ref r75), (.ref b1)])) rfl (by rw [hml]; rfl) (Steps.refl _) (argsL := [(.ref r75)]) (rest := []) (lenOf pd2 rfl) rfl (by show 2 * 0 + _ ≤ _; exact Nat.le_of_eq rfl) (hb hby at_142) (fun _ _ => ⟨rfl, rfl, (by decide : 1 + 0 ≤ _), (by decide : 1 + 0 ≤ _)⟩)
        dsimp only [Pt.U, Pt.locs, Pt.cells, Pt.slots] at X77 l77 y77 z77 st77 hQ77
        subst l77 y77 z77
        obtain ⟨rfl, N77q, e77⟩ := hQ77
        have N77 := Fr.app N75 N77q
        obtain ⟨fs, hr, hrun, hended, hWr, hsame⟩ := X77.leave (v := some (.int (1 : Int32))) (fun h => by rw [Bd.returns] at h; cases h) hlk
        refine ⟨_, _, pre51 _ ?_, hrun, hended, _, _, rfl, ?_, ⟨_, rfl⟩, hWr, hsame.mono (Nat.le_of_ble_eq_true rfl) (Nat.le_of_ble_eq_true rfl)⟩
        · show Steps p.tables e below (T5.setTop (mkF m 139 #[.val (.int i0), .val (.int i1), .val (.int i2), .val (.ref b1), .val (.int (3 : Int32)), .unset, .unset] [(.int i0), (.ref b1)])) _
          refine st75 _ ?_
          show Steps p.tables e below (T75.setTop (mkF m 142 #[.val (.int i0), .val (.int i1), .val (.int i2), .val (.ref b1), .val (.int (3 : Int32)), .unset, .unset] [(.ref r75), (.ref b1)])) _
          refine st77.trans ?_
          show Steps p.tables e below (T77.setTop (mkF m 145 #[.val (.int i0), .val (.int i1), .val (.int i2), .val (.ref b1), .val (.int (3 : Int32)), .unset, .unset] [(.int (0 : Int32))])) _
          refine XS.ifNo X77.here hx rfl (hb hby at_145) rfl (by decide) ?_
          show Steps p.tables e below (T77.setTop (mkF m 148 #[.val (.int i0), .val (.int i1), .val (.int i2), .val (.ref b1), .val (.int (3 : Int32)), .unset, .unset] [])) _
          refine XS.iconst X77.here hx rfl (hb hby at_148) ?_
          show Steps p.tables e below (T77.setTop (mkF m 149 #[.val (.int i0), .val (.int i1), .val (.int i2), .val (.ref b1), .val (.int (3 : Int32)), .unset, .unset] [(.int (1 : Int32))])) _
          refine XS.goto X77.here hx rfl (pc0 := 149) (pc' := 153) rfl (hb hby at_149) (by decide) (by decide) ?_
          show Steps p.tables e below (T77.setTop (mkF m 153 #[.val (.int i0), .val (.int i1), .val (.int i2), .val (.ref b1), .val (.int (3 : Int32)), .unset, .unset] [(.int (1 : Int32))])) _
          exact retN X77 hx (t := .boolean) Bd.returns (by simp) (hb hby at_153) hr
        · show Ql n0 _ T77.heap _
          exact ⟨rfl, N77⟩
set_option maxRecDepth 65536 in
set_option maxHeartbeats 40000000 in
theorem comes_1 {Post : Tables → Env → Array Value → State → Outcome → State → Prop} (hpost : ∀ tb e args s v u, (limb_1_1.after args s (.returned v) u = true ∧ limb_1_2.after args s (.returned v) u = true ∧ True) → FrameEnd s (.returned v) u (Jvm.fieldLocs frame_1_writes args s ++ Jvm.arrayLocs frame_1_arrays args s ++ Jvm.staticLocs frame_1_statics s) 16 128 → Post tb e args s (.returned v) u) :
    ArmFor flags0 classFile x code maxLocals ret World_1 tables_1 room_1 Calls_1 rest_1 Pre_1 Post := by
  intro l hfl _ _ p e ha hc hk s m args below hf hA hF happ hP
  obtain ⟨hcalls, hrest, hpre⟩ := hP
  obtain ⟨-, -, -, hnamed, -, -, -, hat⟩ := (Spec.applies_iff hf).mp happ
  obtain ⟨hg, hn⟩ := and_e (Cond.before_iff.mp (show (Jvm.Cond.and given_1 narrow_1).before args s = true from hpre))
  obtain ⟨gc, g0⟩ := and_e hg
  obtain ⟨ga0, g1⟩ := and_e g0
  obtain ⟨ga1, g2⟩ := and_e g1
  obtain ⟨x0, x1, x2, rfl⟩ : ∃ x0 x1 x2 : Value, args = #[x0, x1, x2] := by
    have hs : args.size = 3 := by simpa [Cond.value, given_1] using gc
    obtain ⟨L⟩ := args
    match L, hs with
    | [x0, x1, x2], _ => exact ⟨x0, x1, x2, rfl⟩
  have hw := fun d (hd : d ∈ tables_1) => atoms_spec (ws := Jvm.Cond.code x code maxLocals ret :: tables_1) hat d (List.mem_cons_of_mem _ hd)
  have hfit : Fit s := fun {y c} hc i hi => by
    obtain ⟨ha, rfl⟩ := Array.getElem?_eq_some_iff.mp hc
    have q := List.all_eq_true.mp ((Array.all_eq_true_iff_forall_mem.mp hF) _ (Array.getElem_mem ha)) i (List.mem_range.mpr hi)
    simpa [Array.getElem?_eq_getElem hi] using q
  obtain ⟨hsets, hown0⟩ := atoms_of _ (rest_1_c_eq ▸ (show rest_1_c.before _ s = true from hrest))
  obtain ⟨i0, ei0⟩ := is_v ga0
  obtain rfl : x0 = (.int i0) := Option.some.inj ei0
  obtain ⟨i1, ei1⟩ := is_v ga1
  obtain rfl : x1 = (.int i1) := Option.some.inj ei1
  obtain ⟨i2, ei2⟩ := is_v g2
  obtain rfl : x2 = (.int i2) := Option.some.inj ei2
  have wSh : Sta s s.heap "java/lang/Integer$IntegerCache" "high" "I" (.int (127 : Int32)) := Sta.start (eqv_i (Term.int_eval _) (Cond.before_iff.mp (hsets _ (List.mem_of_getElem? (i := 3) rfl)))) (Or.inl (hsets _ (List.mem_of_getElem? (i := 1) rfl)))
  obtain ⟨wc, evc⟩ := exa_v (Cond.before_iff.mp (hsets _ (List.mem_of_getElem? (i := 5) rfl)))
  have wSc : Sta s s.heap "java/lang/Integer$IntegerCache" "cache" "[Ljava/lang/Integer;" (.ref wc) := Sta.start evc (Or.inr ⟨(hw _ (List.mem_of_getElem? (i := 26) rfl)), (hsets _ (List.mem_of_getElem? (i := 2) rfl))⟩)
  obtain ⟨cl, hA⟩ := Arr.start evc (Cond.before_iff.mp (hsets _ (List.mem_of_getElem? (i := 4) rfl)))
  have hlen := eqv_i (Term.int_eval _) (Cond.before_iff.mp (hsets _ (List.mem_of_getElem? (i := 6) rfl)))
  have hfin := hA.fin (Vm.Alike.refl _)
  obtain ⟨hsz, hzz⟩ : cl.slots.size < 2 ^ 31 ∧ cl.slots.size.toInt32 = (256 : Int32) := own_len evc hfin hlen
  have wB : ∃ cl, Bxs s wc cl "java/lang/Integer" "I" (256 : Int32) (fun j => .int (j - 128)) := ⟨cl, Bxs.start (fun idx => (Term.eval_closed none idx _ s rfl).trans evc) hA hsz hzz (by decide) (Cond.before_iff.mp (hsets _ (List.mem_of_getElem? (i := 7) rfl))) (fun X j hj hX => eqv_i (own_sub (idx_at hj)) hX)⟩
  have hWd : Wd s wc := ⟨wSh, wSc, wB, trivial⟩
  obtain ⟨n, o, h1, h2, h3, _, L, rfl, ⟨rfl, N⟩, hq⟩ := rm0 l s _ hw tables_1 wc i0 i1 i2 s.heap s.heap.size hWd (Old.start s) p e ha hc hk s m _ below hf ((Spec.applies_iff_loose hf).mp happ).1 ⟨rfl, State.Warmed39.refl s, rfl⟩ trivial
  exact ⟨n, _, h1, h2, h3, hpost _ _ _ _ _ _ ⟨Cond.after_iff.mpr rfl, Cond.after_iff.mpr (eq_i res_at (Term.int_eval (1)) rfl), trivial⟩ ⟨hq.1, hq.2.1, (hq.2.2.sift fun y hy => Or.inr (N y hy)).mono (by decide) (by decide)⟩⟩
theorem main_1_1 : Claimed_1_1 := comes_1 fun _ _ _ _ _ _ h hF => ⟨h.1, hF⟩
theorem main_1_2 : Claimed_1_2 := comes_1 fun _ _ _ _ _ _ h hF => ⟨h.2.1, hF⟩
end Jvm.Pilot.@@N@@
namespace Jvm.Pilot.@@N@@
open Jvm Jvm.ClassFile Sem Op Lib Jvm.Free Jvm.Stand Jvm.Pilot.@@N@@.Jvm.D
/-! MADE BY PROGRAM (witnessworld.py) out of the Statement's table words and the real class files: 18 classes; the members and pool entries that the words name. The judged class is class 1, her method 1. -/
namespace start1
open Jvm.ClassFile
def u (s : String) : CpInfo := .utf8 (stringToUtf16 s)
/-- a pool by its gaps: so many unusable entries, then the entry; so many at the end -/
def gap : Nat → List CpInfo → List CpInfo
  | 0, r => r
  | n + 1, r => .unusable :: gap n r
def poolList (es : List (Nat × CpInfo)) (last : Nat) : List CpInfo := es.foldr (fun e r => gap e.1 (e.2 :: r)) (gap last [])
def pool (es : List (Nat × CpInfo)) (last : Nat) : Array CpInfo := ⟨poolList es last⟩
def fileOf (pool : Array CpInfo) (this : Nat) (attrs : Array Attribute := #[]) (ms : Array MethodInfo := #[]) (fl : Nat := 33) (sup : Nat := 0) (ifs : Array Nat := #[]) (fds : Array FieldInfo := #[]) : ClassFile where
  minorVersion := 0
  majorVersion := 65
  constantPool := pool
  accessFlags := fl
  thisClass := this
  superClass := sup
  interfaces := ifs
  fields := fds
  methods := ms
  attributes := attrs
def plain (name : String) (sup : Option ClassId) : Class where
  name := name
  kind := .ordinary
  loader := none
  accessFlags := 33
  super := sup
  interfaces := #[]
  cf := none
  fields := #[]
  methods := #[]
  instanceTypes := #[]
  staticTypes := #[]
  resolved := #[]
  callSites := []
  init := .initialized
  statics := none
  mirror := none

def pool0 : Array CpInfo := pool [(5, u "<init>"), (0, u "()V"), (1, .class_ 10), (1, u "java/lang/Object")] 113

def k0c0 : Code := { maxStack := 0, maxLocals := 1, code := object_method_1_code, exceptionTable := #[], attributes := #[] }
def k0m0 : Method := { name := "<init>", desc := "()V", sig := { parameters := [], returnType := none }, accessFlags := 1, code := some k0c0 }
/-- java/lang/Object -/
def k0 : Class := { plain "java/lang/Object" none with
  accessFlags := 33
  interfaces := #[]
  cf := some (fileOf pool0 8 #[] #[{ accessFlags := 1, nameIndex := 5, descriptorIndex := 6, attributes := #[] }] 33 0 #[] #[])
  fields := #[]
  methods := #[k0m0]
  instanceTypes := #[]
  staticTypes := #[]
  resolved := Array.replicate 124 none
  statics := none }

def pool1 : Array CpInfo := pool [(2, .class_ 4), (1, u "java/lang/Object"), (0, u "<init>"), (0, u "()V"), (0, .class_ 8), (0, u "com/example/vestwright/vestwright/model/VestingPeriod$Days"), (0, .methodref 7 10), (0, .nameAndType 5 11), (0, u "(I)V"), (0, .methodref 7 13), (0, .nameAndType 14 15), (0, u "equals"), (0, u "(Ljava/lang/Object;)Z"), (0, .methodref 17 18), (0, .class_ 19), (0, .nameAndType 20 21), (0, u "java/lang/Integer"), (0, u "valueOf"), (0, u "(I)Ljava/lang/Integer;"), (0, .class_ 23), (0, u "com/example/vestwright/vestwright/model/DaysEqualsPinLaw"), (2, u "law"), (0, u "(III)Z")] 7

def k1m0 : Method := { name := "<init>", desc := "()V", sig := { parameters := [], returnType := none }, accessFlags := 1, code := none }
def k1c1 : Code := { maxStack := 3, maxLocals := 7, code := code, exceptionTable := #[], attributes := #[] }
def k1m1 : Method := { name := "law", desc := "(III)Z", sig := { parameters := [.int, .int, .int], returnType := some .boolean }, accessFlags := 9, code := some k1c1 }
/-- com/example/vestwright/vestwright/model/DaysEqualsPinLaw -/
def k1 : Class := { plain "com/example/vestwright/vestwright/model/DaysEqualsPinLaw" (some 0) with
  accessFlags := 49
  interfaces := #[]
  cf := some (fileOf pool1 22 #[] #[{ accessFlags := 1, nameIndex := 5, descriptorIndex := 6, attributes := #[] }, { accessFlags := 9, nameIndex := 26, descriptorIndex := 27, attributes := #[] }] 49 2 #[] #[])
  fields := #[]
  methods := #[k1m0, k1m1]
  instanceTypes := #[]
  staticTypes := #[]
  resolved := Array.replicate 35 none
  statics := none }

def pool2 : Array CpInfo := pool [(1, .methodref 2 3), (0, .class_ 4), (0, .nameAndType 5 6), (0, u "java/lang/Object"), (0, u "<init>"), (0, u "()V"), (0, .class_ 8), (0, u "java/lang/Record")] 13

def k2c0 : Code := { maxStack := 1, maxLocals := 1, code := jdk_30_method_1_code, exceptionTable := #[], attributes := #[] }
def k2m0 : Method := { name := "<init>", desc := "()V", sig := { parameters := [], returnType := none }, accessFlags := 4, code := some k2c0 }
/-- java/lang/Record -/
def k2 : Class := { plain "java/lang/Record" (some 0) with
  accessFlags := 1057
  interfaces := #[]
  cf := some (fileOf pool2 7 #[] #[{ accessFlags := 4, nameIndex := 5, descriptorIndex := 6, attributes := #[] }] 1057 2 #[] #[])
  fields := #[]
  methods := #[k2m0]
  instanceTypes := #[]
  staticTypes := #[]
  resolved := Array.replicate 22 none
  statics := none }

def pool3 : Array CpInfo := pool [(1, .class_ 2), (0, u "com/example/vestwright/vestwright/model/VestingPeriod"), (0, .class_ 4), (0, u "java/lang/Object"), (11, .class_ 17), (0, u "com/example/vestwright/vestwright/model/VestingPeriod$Days"), (0, .class_ 19), (0, u "com/example/vestwright/vestwright/model/VestingPeriod$Months")] 4

/-- com/example/vestwright/vestwright/model/VestingPeriod -/
def k3 : Class := { plain "com/example/vestwright/vestwright/model/VestingPeriod" (some 0) with
  accessFlags := 1537
  interfaces := #[]
  cf := some (fileOf pool3 1 #[.nestMembers #[16, 18]] #[] 1537 3 #[] #[])
  fields := #[]
  methods := #[]
  instanceTypes := #[]
  staticTypes := #[]
  resolved := Array.replicate 24 none
  statics := none }

def pool4 : Array CpInfo := pool [(1, .methodref 2 3), (0, .class_ 4), (0, .nameAndType 5 6), (0, u "java/lang/Record"), (0, u "<init>"), (0, u "()V"), (0, .fieldref 8 9), (0, .class_ 10), (0, .nameAndType 11 12), (0, u "com/example/vestwright/vestwright/model/VestingPeriod$Days"), (0, u "length"), (0, u "I"), (26, .class_ 40), (0, u "com/example/vestwright/vestwright/model/VestingPeriod"), (0, u "(I)V"), (9, u "equals"), (0, u "(Ljava/lang/Object;)Z")] 25

def k4c0 : Code := { maxStack := 2, maxLocals := 2, code := prog_90_method_1_code, exceptionTable := #[], attributes := #[] }
def k4m0 : Method := { name := "<init>", desc := "(I)V", sig := { parameters := [.int], returnType := none }, accessFlags := 1, code := some k4c0 }
def k4c1 : Code := { maxStack := 2, maxLocals := 3, code := prog_90_method_5_code, exceptionTable := #[], attributes := #[] }
def k4m1 : Method := { name := "equals", desc := "(Ljava/lang/Object;)Z", sig := { parameters := [(.object "java/lang/Object")], returnType := some .boolean }, accessFlags := 1, code := some k4c1 }
/-- com/example/vestwright/vestwright/model/VestingPeriod$Days -/
def k4 : Class := { plain "com/example/vestwright/vestwright/model/VestingPeriod$Days" (some 2) with
  accessFlags := 49
  interfaces := #[3]
  cf := some (fileOf pool4 8 #[.nestHost 39] #[{ accessFlags := 1, nameIndex := 5, descriptorIndex := 41, attributes := #[] }, { accessFlags := 1, nameIndex := 51, descriptorIndex := 52, attributes := #[] }] 49 2 #[39] #[{ accessFlags := 18, nameIndex := 11, descriptorIndex := 12, attributes := #[] }])
  fields := #[{ name := "length", type := .int, accessFlags := 18, slot := 0, constantValue := 0 }]
  methods := #[k4m0, k4m1]
  instanceTypes := #[.int]
  staticTypes := #[]
  resolved := Array.replicate 78 none
  statics := none }

def pool5 : Array CpInfo := pool [(1, .class_ 2), (0, u "java/io/Serializable"), (0, .class_ 4), (0, u "java/lang/Object")] 2

/-- java/io/Serializable -/
def k5 : Class := { plain "java/io/Serializable" (some 0) with
  accessFlags := 1537
  interfaces := #[]
  cf := some (fileOf pool5 1 #[] #[] 1537 3 #[] #[])
  fields := #[]
  methods := #[]
  instanceTypes := #[]
  staticTypes := #[]
  resolved := Array.replicate 7 none
  statics := none }

def pool6 : Array CpInfo := pool [(1, .methodref 2 3), (0, .class_ 4), (0, .nameAndType 5 6), (0, u "java/lang/Object"), (0, u "<init>"), (0, u "()V"), (1, .class_ 10), (1, u "java/lang/Number"), (2, .class_ 14), (0, u "java/io/Serializable"), (0, u "serialVersionUID"), (0, u "J")] 20

def k6c0 : Code := { maxStack := 1, maxLocals := 1, code := jdk_18_method_1_code, exceptionTable := #[], attributes := #[] }
def k6m0 : Method := { name := "<init>", desc := "()V", sig := { parameters := [], returnType := none }, accessFlags := 1, code := some k6c0 }
/-- java/lang/Number -/
def k6 : Class := { plain "java/lang/Number" (some 0) with
  accessFlags := 1057
  interfaces := #[5]
  cf := some (fileOf pool6 8 #[] #[{ accessFlags := 1, nameIndex := 5, descriptorIndex := 6, attributes := #[] }] 1057 2 #[13] #[{ accessFlags := 26, nameIndex := 15, descriptorIndex := 16, attributes := #[] }])
  fields := #[{ name := "serialVersionUID", type := .long, accessFlags := 26, slot := 0, constantValue := 0 }]
  methods := #[k6m0]
  instanceTypes := #[]
  staticTypes := #[.long]
  resolved := Array.replicate 37 none
  statics := none }

def pool7 : Array CpInfo := pool [(1, .class_ 2), (0, u "java/lang/Comparable"), (0, .class_ 4), (0, u "java/lang/Object")] 7

/-- java/lang/Comparable -/
def k7 : Class := { plain "java/lang/Comparable" (some 0) with
  accessFlags := 1537
  interfaces := #[]
  cf := some (fileOf pool7 1 #[] #[] 1537 3 #[] #[])
  fields := #[]
  methods := #[]
  instanceTypes := #[]
  staticTypes := #[]
  resolved := Array.replicate 12 none
  statics := none }

def pool8 : Array CpInfo := pool [(1, .class_ 2), (0, u "java/lang/constant/Constable"), (0, .class_ 4), (0, u "java/lang/Object")] 6

/-- java/lang/constant/Constable -/
def k8 : Class := { plain "java/lang/constant/Constable" (some 0) with
  accessFlags := 1537
  interfaces := #[]
  cf := some (fileOf pool8 1 #[] #[] 1537 3 #[] #[])
  fields := #[]
  methods := #[]
  instanceTypes := #[]
  staticTypes := #[]
  resolved := Array.replicate 11 none
  statics := none }

def pool9 : Array CpInfo := pool [(1, .class_ 2), (0, u "java/lang/constant/ConstantDesc"), (0, .class_ 4), (0, u "java/lang/Object")] 32

/-- java/lang/constant/ConstantDesc -/
def k9 : Class := { plain "java/lang/constant/ConstantDesc" (some 0) with
  accessFlags := 1537
  interfaces := #[]
  cf := some (fileOf pool9 1 #[] #[] 1537 3 #[] #[])
  fields := #[]
  methods := #[]
  instanceTypes := #[]
  staticTypes := #[]
  resolved := Array.replicate 37 none
  statics := none }

def pool10 : Array CpInfo := pool [(1, .class_ 2), (0, u "java/lang/Integer"), (16, u "digits"), (0, u "[C"), (46, u "<init>"), (17, u "DigitOnes"), (0, u "[B"), (2, u "DigitTens"), (10, .nameAndType 67 101), (0, u "()V"), (85, u "valueOf"), (0, u "(I)Ljava/lang/Integer;"), (0, .class_ 190), (0, u "java/lang/Integer$IntegerCache"), (0, .fieldref 189 192), (0, .nameAndType 193 194), (0, u "high"), (0, u "I"), (0, .fieldref 189 196), (0, .nameAndType 197 198), (0, u "cache"), (0, u "[Ljava/lang/Integer;"), (0, .methodref 1 200), (0, .nameAndType 67 201), (0, u "(I)V"), (0, .methodref 203 100), (0, .class_ 204), (0, u "java/lang/Number"), (0, .fieldref 1 206), (0, .nameAndType 207 194), (0, u "value"), (94, u "TYPE"), (0, u "Ljava/lang/Class;"), (0, .class_ 305), (0, u "java/lang/Comparable"), (0, .class_ 307), (0, u "java/lang/constant/Constable"), (0, .class_ 309), (0, u "java/lang/constant/ConstantDesc"), (0, u "MIN_VALUE"), (1, u "MAX_VALUE"), (3, u "SIZE"), (1, u "BYTES"), (1, u "serialVersionUID"), (0, u "J")] 131

def k10c0 : Code := { maxStack := 3, maxLocals := 1, code := jdk_33_method_22_code, exceptionTable := #[], attributes := #[] }
def k10m0 : Method := { name := "valueOf", desc := "(I)Ljava/lang/Integer;", sig := { parameters := [.int], returnType := some (.object "java/lang/Integer") }, accessFlags := 9, code := some k10c0 }
def k10c1 : Code := { maxStack := 2, maxLocals := 2, code := jdk_33_method_23_code, exceptionTable := #[], attributes := #[] }
def k10m1 : Method := { name := "<init>", desc := "(I)V", sig := { parameters := [.int], returnType := none }, accessFlags := 1, code := some k10c1 }
/-- java/lang/Integer -/
def k10 : Class := { plain "java/lang/Integer" (some 6) with
  accessFlags := 49
  interfaces := #[7, 8, 9]
  cf := some (fileOf pool10 1 #[.nestMembers #[189]] #[{ accessFlags := 9, nameIndex := 187, descriptorIndex := 188, attributes := #[] }, { accessFlags := 1, nameIndex := 67, descriptorIndex := 201, attributes := #[] }] 49 203 #[304, 306, 308] #[{ accessFlags := 25, nameIndex := 310, descriptorIndex := 194, attributes := #[] }, { accessFlags := 25, nameIndex := 312, descriptorIndex := 194, attributes := #[] }, { accessFlags := 25, nameIndex := 302, descriptorIndex := 303, attributes := #[] }, { accessFlags := 24, nameIndex := 19, descriptorIndex := 20, attributes := #[] }, { accessFlags := 24, nameIndex := 89, descriptorIndex := 86, attributes := #[] }, { accessFlags := 24, nameIndex := 85, descriptorIndex := 86, attributes := #[] }, { accessFlags := 18, nameIndex := 207, descriptorIndex := 194, attributes := #[] }, { accessFlags := 25, nameIndex := 316, descriptorIndex := 194, attributes := #[] }, { accessFlags := 25, nameIndex := 318, descriptorIndex := 194, attributes := #[] }, { accessFlags := 26, nameIndex := 320, descriptorIndex := 321, attributes := #[] }])
  fields := #[{ name := "MIN_VALUE", type := .int, accessFlags := 25, slot := 0, constantValue := 0 }, { name := "MAX_VALUE", type := .int, accessFlags := 25, slot := 1, constantValue := 0 }, { name := "TYPE", type := (.object "java/lang/Class"), accessFlags := 25, slot := 2, constantValue := 0 }, { name := "digits", type := (.array .char), accessFlags := 24, slot := 3, constantValue := 0 }, { name := "DigitTens", type := (.array .byte), accessFlags := 24, slot := 4, constantValue := 0 }, { name := "DigitOnes", type := (.array .byte), accessFlags := 24, slot := 5, constantValue := 0 }, { name := "value", type := .int, accessFlags := 18, slot := 0, constantValue := 0 }, { name := "SIZE", type := .int, accessFlags := 25, slot := 6, constantValue := 0 }, { name := "BYTES", type := .int, accessFlags := 25, slot := 7, constantValue := 0 }, { name := "serialVersionUID", type := .long, accessFlags := 26, slot := 8, constantValue := 0 }]
  methods := #[k10m0, k10m1]
  instanceTypes := #[.int]
  staticTypes := #[.int, .int, (.object "java/lang/Class"), (.array .char), (.array .byte), (.array .byte), .int, .int, .long]
  resolved := Array.replicate 453 none
  statics := none }

def pool11 : Array CpInfo := pool [(2, .class_ 4), (1, u "java/lang/Object"), (0, u "<init>"), (0, u "()V"), (0, .class_ 8), (0, u "java/lang/Integer"), (7, .class_ 18), (1, u "java/lang/Integer$IntegerCache"), (0, u "$assertionsDisabled"), (0, u "Z"), (26, u "high"), (0, u "I"), (8, u "archivedCache"), (0, u "[Ljava/lang/Integer;"), (12, u "cache"), (0, u "low")] 27

def k11m0 : Method := { name := "<init>", desc := "()V", sig := { parameters := [], returnType := none }, accessFlags := 2, code := none }
/-- java/lang/Integer$IntegerCache -/
def k11 : Class := { plain "java/lang/Integer$IntegerCache" (some 0) with
  accessFlags := 48
  interfaces := #[]
  cf := some (fileOf pool11 16 #[.nestHost 7] #[{ accessFlags := 2, nameIndex := 5, descriptorIndex := 6, attributes := #[] }] 48 2 #[] #[{ accessFlags := 24, nameIndex := 72, descriptorIndex := 48, attributes := #[] }, { accessFlags := 24, nameIndex := 47, descriptorIndex := 48, attributes := #[] }, { accessFlags := 24, nameIndex := 71, descriptorIndex := 58, attributes := #[] }, { accessFlags := 8, nameIndex := 57, descriptorIndex := 58, attributes := #[] }, { accessFlags := 4120, nameIndex := 19, descriptorIndex := 20, attributes := #[] }])
  fields := #[{ name := "low", type := .int, accessFlags := 24, slot := 0, constantValue := 0 }, { name := "high", type := .int, accessFlags := 24, slot := 1, constantValue := 0 }, { name := "cache", type := (.array (.object "java/lang/Integer")), accessFlags := 24, slot := 2, constantValue := 0 }, { name := "archivedCache", type := (.array (.object "java/lang/Integer")), accessFlags := 8, slot := 3, constantValue := 0 }, { name := "$assertionsDisabled", type := .boolean, accessFlags := 4120, slot := 4, constantValue := 0 }]
  methods := #[k11m0]
  instanceTypes := #[]
  staticTypes := #[.int, .int, (.array (.object "java/lang/Integer")), (.array (.object "java/lang/Integer")), .boolean]
  resolved := Array.replicate 100 none
  statics := some 0 }

def pool12 : Array CpInfo := pool [(1, u "java/lang/Cloneable"), (0, .class_ 1), (0, u "java/lang/Object"), (0, .class_ 3)] 3

/-- java/lang/Cloneable -/
def k12 : Class := { plain "java/lang/Cloneable" (some 0) with
  accessFlags := 1537
  interfaces := #[]
  cf := some (fileOf pool12 2 #[] #[] 1537 4 #[] #[])
  fields := #[]
  methods := #[]
  instanceTypes := #[]
  staticTypes := #[]
  resolved := Array.replicate 8 none
  statics := none }

/-- the primitive byte -/
def k13 : Class := { plain "byte" none with kind := .primitive 'B', accessFlags := 0x411 }
/-- [B -/
def k14 : Class := { plain "[B" (some 0) with kind := .array 13 .byte, interfaces := #[12, 5], accessFlags := 1041 }

/-- the primitive int -/
def k15 : Class := { plain "int" none with kind := .primitive 'I', accessFlags := 0x411 }
/-- [I -/
def k16 : Class := { plain "[I" (some 0) with kind := .array 15 .int, interfaces := #[12, 5], accessFlags := 1041 }

/-- [Ljava/lang/Integer; -/
def k17 : Class := { plain "[Ljava/lang/Integer;" (some 0) with kind := .array 10 (.object "java/lang/Integer"), interfaces := #[12, 5], accessFlags := 1041 }

def heap : Heap := #[{ cls := 11, slots := #[.int 0, .int 127, .ref 1, .null, .int 0], vm := .statics 11 },
  { cls := 17, slots := #[.ref 2, .ref 3, .ref 4, .ref 5, .ref 6, .ref 7, .ref 8, .ref 9, .ref 10, .ref 11, .ref 12, .ref 13, .ref 14, .ref 15, .ref 16, .ref 17, .ref 18, .ref 19, .ref 20, .ref 21, .ref 22, .ref 23, .ref 24, .ref 25, .ref 26, .ref 27, .ref 28, .ref 29, .ref 30, .ref 31, .ref 32, .ref 33, .ref 34, .ref 35, .ref 36, .ref 37, .ref 38, .ref 39, .ref 40, .ref 41, .ref 42, .ref 43, .ref 44, .ref 45, .ref 46, .ref 47, .ref 48, .ref 49, .ref 50, .ref 51, .ref 52, .ref 53, .ref 54, .ref 55, .ref 56, .ref 57, .ref 58, .ref 59, .ref 60, .ref 61, .ref 62, .ref 63, .ref 64, .ref 65, .ref 66, .ref 67, .ref 68, .ref 69, .ref 70, .ref 71, .ref 72, .ref 73, .ref 74, .ref 75, .ref 76, .ref 77, .ref 78, .ref 79, .ref 80, .ref 81, .ref 82, .ref 83, .ref 84, .ref 85, .ref 86, .ref 87, .ref 88, .ref 89, .ref 90, .ref 91, .ref 92, .ref 93, .ref 94, .ref 95, .ref 96, .ref 97, .ref 98, .ref 99, .ref 100, .ref 101, .ref 102, .ref 103, .ref 104, .ref 105, .ref 106, .ref 107, .ref 108, .ref 109, .ref 110, .ref 111, .ref 112, .ref 113, .ref 114, .ref 115, .ref 116, .ref 117, .ref 118, .ref 119, .ref 120, .ref 121, .ref 122, .ref 123, .ref 124, .ref 125, .ref 126, .ref 127, .ref 128, .ref 129, .ref 130, .ref 131, .ref 132, .ref 133, .ref 134, .ref 135, .ref 136, .ref 137, .ref 138, .ref 139, .ref 140, .ref 141, .ref 142, .ref 143, .ref 144, .ref 145, .ref 146, .ref 147, .ref 148, .ref 149, .ref 150, .ref 151, .ref 152, .ref 153, .ref 154, .ref 155, .ref 156, .ref 157, .ref 158, .ref 159, .ref 160, .ref 161, .ref 162, .ref 163, .ref 164, .ref 165, .ref 166, .ref 167, .ref 168, .ref 169, .ref 170, .ref 171, .ref 172, .ref 173, .ref 174, .ref 175, .ref 176, .ref 177, .ref 178, .ref 179, .ref 180, .ref 181, .ref 182, .ref 183, .ref 184, .ref 185, .ref 186, .ref 187, .ref 188, .ref 189, .ref 190, .ref 191, .ref 192, .ref 193, .ref 194, .ref 195, .ref 196, .ref 197, .ref 198, .ref 199, .ref 200, .ref 201, .ref 202, .ref 203, .ref 204, .ref 205, .ref 206, .ref 207, .ref 208, .ref 209, .ref 210, .ref 211, .ref 212, .ref 213, .ref 214, .ref 215, .ref 216, .ref 217, .ref 218, .ref 219, .ref 220, .ref 221, .ref 222, .ref 223, .ref 224, .ref 225, .ref 226, .ref 227, .ref 228, .ref 229, .ref 230, .ref 231, .ref 232, .ref 233, .ref 234, .ref 235, .ref 236, .ref 237, .ref 238, .ref 239, .ref 240, .ref 241, .ref 242, .ref 243, .ref 244, .ref 245, .ref 246, .ref 247, .ref 248, .ref 249, .ref 250, .ref 251, .ref 252, .ref 253, .ref 254, .ref 255, .ref 256, .ref 257], vm := .none },
  { cls := 10, slots := #[.int (-128)], vm := .none },
  { cls := 10, slots := #[.int (-127)], vm := .none },
  { cls := 10, slots := #[.int (-126)], vm := .none },
  { cls := 10, slots := #[.int (-125)], vm := .none },
  { cls := 10, slots := #[.int (-124)], vm := .none },
  { cls := 10, slots := #[.int (-123)], vm := .none },
  { cls := 10, slots := #[.int (-122)], vm := .none },
  { cls := 10, slots := #[.int (-121)], vm := .none },
  { cls := 10, slots := #[.int (-120)], vm := .none },
  { cls := 10, slots := #[.int (-119)], vm := .none },
  { cls := 10, slots := #[.int (-118)], vm := .none },
  { cls := 10, slots := #[.int (-117)], vm := .none },
  { cls := 10, slots := #[.int (-116)], vm := .none },
  { cls := 10, slots := #[.int (-115)], vm := .none },
  { cls := 10, slots := #[.int (-114)], vm := .none },
  { cls := 10, slots := #[.int (-113)], vm := .none },
  { cls := 10, slots := #[.int (-112)], vm := .none },
  { cls := 10, slots := #[.int (-111)], vm := .none },
  { cls := 10, slots := #[.int (-110)], vm := .none },
  { cls := 10, slots := #[.int (-109)], vm := .none },
  { cls := 10, slots := #[.int (-108)], vm := .none },
  { cls := 10, slots := #[.int (-107)], vm := .none },
  { cls := 10, slots := #[.int (-106)], vm := .none },
  { cls := 10, slots := #[.int (-105)], vm := .none },
  { cls := 10, slots := #[.int (-104)], vm := .none },
  { cls := 10, slots := #[.int (-103)], vm := .none },
  { cls := 10, slots := #[.int (-102)], vm := .none },
  { cls := 10, slots := #[.int (-101)], vm := .none },
  { cls := 10, slots := #[.int (-100)], vm := .none },
  { cls := 10, slots := #[.int (-99)], vm := .none },
  { cls := 10, slots := #[.int (-98)], vm := .none },
  { cls := 10, slots := #[.int (-97)], vm := .none },
  { cls := 10, slots := #[.int (-96)], vm := .none },
  { cls := 10, slots := #[.int (-95)], vm := .none },
  { cls := 10, slots := #[.int (-94)], vm := .none },
  { cls := 10, slots := #[.int (-93)], vm := .none },
  { cls := 10, slots := #[.int (-92)], vm := .none },
  { cls := 10, slots := #[.int (-91)], vm := .none },
  { cls := 10, slots := #[.int (-90)], vm := .none },
  { cls := 10, slots := #[.int (-89)], vm := .none },
  { cls := 10, slots := #[.int (-88)], vm := .none },
  { cls := 10, slots := #[.int (-87)], vm := .none },
  { cls := 10, slots := #[.int (-86)], vm := .none },
  { cls := 10, slots := #[.int (-85)], vm := .none },
  { cls := 10, slots := #[.int (-84)], vm := .none },
  { cls := 10, slots := #[.int (-83)], vm := .none },
  { cls := 10, slots := #[.int (-82)], vm := .none },
  { cls := 10, slots := #[.int (-81)], vm := .none },
  { cls := 10, slots := #[.int (-80)], vm := .none },
  { cls := 10, slots := #[.int (-79)], vm := .none },
  { cls := 10, slots := #[.int (-78)], vm := .none },
  { cls := 10, slots := #[.int (-77)], vm := .none },
  { cls := 10, slots := #[.int (-76)], vm := .none },
  { cls := 10, slots := #[.int (-75)], vm := .none },
  { cls := 10, slots := #[.int (-74)], vm := .none },
  { cls := 10, slots := #[.int (-73)], vm := .none },
  { cls := 10, slots := #[.int (-72)], vm := .none },
  { cls := 10, slots := #[.int (-71)], vm := .none },
  { cls := 10, slots := #[.int (-70)], vm := .none },
  { cls := 10, slots := #[.int (-69)], vm := .none },
  { cls := 10, slots := #[.int (-68)], vm := .none },
  { cls := 10, slots := #[.int (-67)], vm := .none },
  { cls := 10, slots := #[.int (-66)], vm := .none },
  { cls := 10, slots := #[.int (-65)], vm := .none },
  { cls := 10, slots := #[.int (-64)], vm := .none },
  { cls := 10, slots := #[.int (-63)], vm := .none },
  { cls := 10, slots := #[.int (-62)], vm := .none },
  { cls := 10, slots := #[.int (-61)], vm := .none },
  { cls := 10, slots := #[.int (-60)], vm := .none },
  { cls := 10, slots := #[.int (-59)], vm := .none },
  { cls := 10, slots := #[.int (-58)], vm := .none },
  { cls := 10, slots := #[.int (-57)], vm := .none },
  { cls := 10, slots := #[.int (-56)], vm := .none },
  { cls := 10, slots := #[.int (-55)], vm := .none },
  { cls := 10, slots := #[.int (-54)], vm := .none },
  { cls := 10, slots := #[.int (-53)], vm := .none },
  { cls := 10, slots := #[.int (-52)], vm := .none },
  { cls := 10, slots := #[.int (-51)], vm := .none },
  { cls := 10, slots := #[.int (-50)], vm := .none },
  { cls := 10, slots := #[.int (-49)], vm := .none },
  { cls := 10, slots := #[.int (-48)], vm := .none },
  { cls := 10, slots := #[.int (-47)], vm := .none },
  { cls := 10, slots := #[.int (-46)], vm := .none },
  { cls := 10, slots := #[.int (-45)], vm := .none },
  { cls := 10, slots := #[.int (-44)], vm := .none },
  { cls := 10, slots := #[.int (-43)], vm := .none },
  { cls := 10, slots := #[.int (-42)], vm := .none },
  { cls := 10, slots := #[.int (-41)], vm := .none },
  { cls := 10, slots := #[.int (-40)], vm := .none },
  { cls := 10, slots := #[.int (-39)], vm := .none },
  { cls := 10, slots := #[.int (-38)], vm := .none },
  { cls := 10, slots := #[.int (-37)], vm := .none },
  { cls := 10, slots := #[.int (-36)], vm := .none },
  { cls := 10, slots := #[.int (-35)], vm := .none },
  { cls := 10, slots := #[.int (-34)], vm := .none },
  { cls := 10, slots := #[.int (-33)], vm := .none },
  { cls := 10, slots := #[.int (-32)], vm := .none },
  { cls := 10, slots := #[.int (-31)], vm := .none },
  { cls := 10, slots := #[.int (-30)], vm := .none },
  { cls := 10, slots := #[.int (-29)], vm := .none },
  { cls := 10, slots := #[.int (-28)], vm := .none },
  { cls := 10, slots := #[.int (-27)], vm := .none },
  { cls := 10, slots := #[.int (-26)], vm := .none },
  { cls := 10, slots := #[.int (-25)], vm := .none },
  { cls := 10, slots := #[.int (-24)], vm := .none },
  { cls := 10, slots := #[.int (-23)], vm := .none },
  { cls := 10, slots := #[.int (-22)], vm := .none },
  { cls := 10, slots := #[.int (-21)], vm := .none },
  { cls := 10, slots := #[.int (-20)], vm := .none },
  { cls := 10, slots := #[.int (-19)], vm := .none },
  { cls := 10, slots := #[.int (-18)], vm := .none },
  { cls := 10, slots := #[.int (-17)], vm := .none },
  { cls := 10, slots := #[.int (-16)], vm := .none },
  { cls := 10, slots := #[.int (-15)], vm := .none },
  { cls := 10, slots := #[.int (-14)], vm := .none },
  { cls := 10, slots := #[.int (-13)], vm := .none },
  { cls := 10, slots := #[.int (-12)], vm := .none },
  { cls := 10, slots := #[.int (-11)], vm := .none },
  { cls := 10, slots := #[.int (-10)], vm := .none },
  { cls := 10, slots := #[.int (-9)], vm := .none },
  { cls := 10, slots := #[.int (-8)], vm := .none },
  { cls := 10, slots := #[.int (-7)], vm := .none },
  { cls := 10, slots := #[.int (-6)], vm := .none },
  { cls := 10, slots := #[.int (-5)], vm := .none },
  { cls := 10, slots := #[.int (-4)], vm := .none },
  { cls := 10, slots := #[.int (-3)], vm := .none },
  { cls := 10, slots := #[.int (-2)], vm := .none },
  { cls := 10, slots := #[.int (-1)], vm := .none },
  { cls := 10, slots := #[.int 0], vm := .none },
  { cls := 10, slots := #[.int 1], vm := .none },
  { cls := 10, slots := #[.int 2], vm := .none },
  { cls := 10, slots := #[.int 3], vm := .none },
  { cls := 10, slots := #[.int 4], vm := .none },
  { cls := 10, slots := #[.int 5], vm := .none },
  { cls := 10, slots := #[.int 6], vm := .none },
  { cls := 10, slots := #[.int 7], vm := .none },
  { cls := 10, slots := #[.int 8], vm := .none },
  { cls := 10, slots := #[.int 9], vm := .none },
  { cls := 10, slots := #[.int 10], vm := .none },
  { cls := 10, slots := #[.int 11], vm := .none },
  { cls := 10, slots := #[.int 12], vm := .none },
  { cls := 10, slots := #[.int 13], vm := .none },
  { cls := 10, slots := #[.int 14], vm := .none },
  { cls := 10, slots := #[.int 15], vm := .none },
  { cls := 10, slots := #[.int 16], vm := .none },
  { cls := 10, slots := #[.int 17], vm := .none },
  { cls := 10, slots := #[.int 18], vm := .none },
  { cls := 10, slots := #[.int 19], vm := .none },
  { cls := 10, slots := #[.int 20], vm := .none },
  { cls := 10, slots := #[.int 21], vm := .none },
  { cls := 10, slots := #[.int 22], vm := .none },
  { cls := 10, slots := #[.int 23], vm := .none },
  { cls := 10, slots := #[.int 24], vm := .none },
  { cls := 10, slots := #[.int 25], vm := .none },
  { cls := 10, slots := #[.int 26], vm := .none },
  { cls := 10, slots := #[.int 27], vm := .none },
  { cls := 10, slots := #[.int 28], vm := .none },
  { cls := 10, slots := #[.int 29], vm := .none },
  { cls := 10, slots := #[.int 30], vm := .none },
  { cls := 10, slots := #[.int 31], vm := .none },
  { cls := 10, slots := #[.int 32], vm := .none },
  { cls := 10, slots := #[.int 33], vm := .none },
  { cls := 10, slots := #[.int 34], vm := .none },
  { cls := 10, slots := #[.int 35], vm := .none },
  { cls := 10, slots := #[.int 36], vm := .none },
  { cls := 10, slots := #[.int 37], vm := .none },
  { cls := 10, slots := #[.int 38], vm := .none },
  { cls := 10, slots := #[.int 39], vm := .none },
  { cls := 10, slots := #[.int 40], vm := .none },
  { cls := 10, slots := #[.int 41], vm := .none },
  { cls := 10, slots := #[.int 42], vm := .none },
  { cls := 10, slots := #[.int 43], vm := .none },
  { cls := 10, slots := #[.int 44], vm := .none },
  { cls := 10, slots := #[.int 45], vm := .none },
  { cls := 10, slots := #[.int 46], vm := .none },
  { cls := 10, slots := #[.int 47], vm := .none },
  { cls := 10, slots := #[.int 48], vm := .none },
  { cls := 10, slots := #[.int 49], vm := .none },
  { cls := 10, slots := #[.int 50], vm := .none },
  { cls := 10, slots := #[.int 51], vm := .none },
  { cls := 10, slots := #[.int 52], vm := .none },
  { cls := 10, slots := #[.int 53], vm := .none },
  { cls := 10, slots := #[.int 54], vm := .none },
  { cls := 10, slots := #[.int 55], vm := .none },
  { cls := 10, slots := #[.int 56], vm := .none },
  { cls := 10, slots := #[.int 57], vm := .none },
  { cls := 10, slots := #[.int 58], vm := .none },
  { cls := 10, slots := #[.int 59], vm := .none },
  { cls := 10, slots := #[.int 60], vm := .none },
  { cls := 10, slots := #[.int 61], vm := .none },
  { cls := 10, slots := #[.int 62], vm := .none },
  { cls := 10, slots := #[.int 63], vm := .none },
  { cls := 10, slots := #[.int 64], vm := .none },
  { cls := 10, slots := #[.int 65], vm := .none },
  { cls := 10, slots := #[.int 66], vm := .none },
  { cls := 10, slots := #[.int 67], vm := .none },
  { cls := 10, slots := #[.int 68], vm := .none },
  { cls := 10, slots := #[.int 69], vm := .none },
  { cls := 10, slots := #[.int 70], vm := .none },
  { cls := 10, slots := #[.int 71], vm := .none },
  { cls := 10, slots := #[.int 72], vm := .none },
  { cls := 10, slots := #[.int 73], vm := .none },
  { cls := 10, slots := #[.int 74], vm := .none },
  { cls := 10, slots := #[.int 75], vm := .none },
  { cls := 10, slots := #[.int 76], vm := .none },
  { cls := 10, slots := #[.int 77], vm := .none },
  { cls := 10, slots := #[.int 78], vm := .none },
  { cls := 10, slots := #[.int 79], vm := .none },
  { cls := 10, slots := #[.int 80], vm := .none },
  { cls := 10, slots := #[.int 81], vm := .none },
  { cls := 10, slots := #[.int 82], vm := .none },
  { cls := 10, slots := #[.int 83], vm := .none },
  { cls := 10, slots := #[.int 84], vm := .none },
  { cls := 10, slots := #[.int 85], vm := .none },
  { cls := 10, slots := #[.int 86], vm := .none },
  { cls := 10, slots := #[.int 87], vm := .none },
  { cls := 10, slots := #[.int 88], vm := .none },
  { cls := 10, slots := #[.int 89], vm := .none },
  { cls := 10, slots := #[.int 90], vm := .none },
  { cls := 10, slots := #[.int 91], vm := .none },
  { cls := 10, slots := #[.int 92], vm := .none },
  { cls := 10, slots := #[.int 93], vm := .none },
  { cls := 10, slots := #[.int 94], vm := .none },
  { cls := 10, slots := #[.int 95], vm := .none },
  { cls := 10, slots := #[.int 96], vm := .none },
  { cls := 10, slots := #[.int 97], vm := .none },
  { cls := 10, slots := #[.int 98], vm := .none },
  { cls := 10, slots := #[.int 99], vm := .none },
  { cls := 10, slots := #[.int 100], vm := .none },
  { cls := 10, slots := #[.int 101], vm := .none },
  { cls := 10, slots := #[.int 102], vm := .none },
  { cls := 10, slots := #[.int 103], vm := .none },
  { cls := 10, slots := #[.int 104], vm := .none },
  { cls := 10, slots := #[.int 105], vm := .none },
  { cls := 10, slots := #[.int 106], vm := .none },
  { cls := 10, slots := #[.int 107], vm := .none },
  { cls := 10, slots := #[.int 108], vm := .none },
  { cls := 10, slots := #[.int 109], vm := .none },
  { cls := 10, slots := #[.int 110], vm := .none },
  { cls := 10, slots := #[.int 111], vm := .none },
  { cls := 10, slots := #[.int 112], vm := .none },
  { cls := 10, slots := #[.int 113], vm := .none },
  { cls := 10, slots := #[.int 114], vm := .none },
  { cls := 10, slots := #[.int 115], vm := .none },
  { cls := 10, slots := #[.int 116], vm := .none },
  { cls := 10, slots := #[.int 117], vm := .none },
  { cls := 10, slots := #[.int 118], vm := .none },
  { cls := 10, slots := #[.int 119], vm := .none },
  { cls := 10, slots := #[.int 120], vm := .none },
  { cls := 10, slots := #[.int 121], vm := .none },
  { cls := 10, slots := #[.int 122], vm := .none },
  { cls := 10, slots := #[.int 123], vm := .none },
  { cls := 10, slots := #[.int 124], vm := .none },
  { cls := 10, slots := #[.int 125], vm := .none },
  { cls := 10, slots := #[.int 126], vm := .none },
  { cls := 10, slots := #[.int 127], vm := .none }]
def classes : Array Class := #[k0, k1, k2, k3, k4, k5, k6, k7, k8, k9, k10, k11, k12, k13, k14, k15, k16, k17]
def interned : List (Array UInt16 × Addr) := []
def slotsUsed : Nat := 517
def theMethod : MethodId := ⟨1, 1⟩
def args0 : Array Value := #[.int 5, .int 5, .int 5]
def aboutOver (below : List Frame) : State where
  vm := { classes := classes, interned := interned.toArray }
  heap := heap
  slotsUsed := slotsUsed
  threads := #[{ frames := .invoking theMethod args0 :: below }]
def below0 : List Frame := [.native { method := ⟨0, 0⟩, args := #[] }]
def about1 : State := aboutOver below0
def p0 : Program := .bare "" "" ""
def e0 : Env := launch0.env 0 0 0
theorem w_frames : about1.frames = Frame.invoking theMethod args0 :: below0 := rfl
set_option maxRecDepth 65536 in
theorem w_args : argsFit about1.vm theMethod args0 = true := by decide +kernel
set_option maxRecDepth 65536 in
theorem w_heap : heapFits about1 = true := by decide +kernel
set_option maxRecDepth 65536 in
theorem w_runnable : about1.curStatus? = some .runnable := by decide +kernel
set_option maxRecDepth 65536 in
theorem w_alone : about1.alone = true := by decide +kernel
set_option maxRecDepth 65536 in
theorem w_named : about1.methodNamed? x = some theMethod := by decide +kernel
set_option maxRecDepth 65536 in
theorem w_hears : about1.hears theMethod below0 = true := by decide +kernel
set_option maxRecDepth 65536 in
theorem w_ripe : about1.ripe theMethod args0 below0 = true := by decide +kernel
theorem w_running : about1.status = .running := rfl
set_option maxRecDepth 65536 in
theorem w_room : about1.hasRoom e0.platform room_1 = true :=
  launch0.hasRoom_least _ room_1 (by decide +kernel) (by decide +kernel) (by decide +kernel) (by decide +kernel) (by decide +kernel) (by decide +kernel)
theorem allAtoms_all (ts : List Jvm.Cond) (a : Array Jvm.Value) (st : Jvm.State) : (allAtoms ts).before a st = ts.all (fun c => c.before a st) := by
  induction ts with
  | nil => rfl
  | cons c t ih =>
    show (Jvm.Cond.and c (allAtoms t)).before a st = _
    rw [Jvm.Cond.before_and, ih, List.all_cons]
def words1 : List Jvm.Cond := Jvm.Cond.code x code maxLocals ret :: tables_1
/-- a 'code' word, met by the world's own term for the bytes: nothing is compared byte by byte -/
theorem code_word {y : MethodName} {bytes : ByteArray} {mx : Nat} {rt : Option FieldType} {a : Array Value} {s : State} {m : MethodId} {meth : Method} {c : Code} (h1 : s.methodNamed? y = some m) (h2 : s.vm.method? m = some meth) (h3 : meth.code = some c) (h4 : c.code = bytes)
    (h5 : (c.maxLocals == mx && c.exceptionTable.isEmpty && decide (c.maxStack ≤ mostOperands) && decide (meth.sig.returnType = rt) && !meth.locks && decide (parseMethodDescriptor y.desc = some meth.sig)) = true) : (Jvm.Cond.code y bytes mx rt).before a s = true := by
  simp only [Bool.and_eq_true, beq_iff_eq, Bool.not_eq_true', decide_eq_true_eq] at h5
  obtain ⟨⟨⟨⟨⟨g1, g2⟩, g3⟩, g4⟩, g5⟩, g6⟩ := h5
  simp [Cond.before, Cond.holds, Cond.value, h1, h2, h3, h4, g1, g2, g3, g4, g5, g6]
def isCode : Jvm.Cond → Bool
  | .code _ _ _ _ => true
  | _ => false
theorem all_split {L : List Jvm.Cond} {P : Jvm.Cond → Bool} (h1 : L.all (fun c => isCode c || P c) = true) (h2 : ∀ c ∈ L.filter isCode, P c = true) : L.all P = true := by
  refine List.all_eq_true.mpr fun c hc => ?_
  have h := List.all_eq_true.mp h1 c hc
  rcases Bool.eq_false_or_eq_true (isCode c) with hi | hi
  · exact h2 c (List.mem_filter.mpr ⟨hc, hi⟩)
  · simpa [hi] using h
set_option maxRecDepth 65536 in
theorem w_c0 : (Jvm.Cond.code x code maxLocals ret).before args0 about1 = true := code_word (m := ⟨1, 1⟩) (meth := k1m1) (c := k1c1) (by decide +kernel) rfl rfl rfl (by decide +kernel)
set_option maxRecDepth 65536 in
theorem w_c1 : (Jvm.Cond.code ({ cls := "com/example/vestwright/vestwright/model/VestingPeriod$Days", name := "<init>", desc := "(I)V" } : Jvm.MethodName) prog_90_method_1_code (2 : Nat) (Option.none : Option Jvm.ClassFile.FieldType)).before args0 about1 = true := code_word (m := ⟨4, 0⟩) (meth := k4m0) (c := k4c0) (by decide +kernel) rfl rfl rfl (by decide +kernel)
set_option maxRecDepth 65536 in
theorem w_c2 : (Jvm.Cond.code ({ cls := "java/lang/Record", name := "<init>", desc := "()V" } : Jvm.MethodName) jdk_30_method_1_code (1 : Nat) (Option.none : Option Jvm.ClassFile.FieldType)).before args0 about1 = true := code_word (m := ⟨2, 0⟩) (meth := k2m0) (c := k2c0) (by decide +kernel) rfl rfl rfl (by decide +kernel)
set_option maxRecDepth 65536 in
theorem w_c3 : (Jvm.Cond.code ({ cls := "java/lang/Object", name := "<init>", desc := "()V" } : Jvm.MethodName) object_method_1_code (1 : Nat) (Option.none : Option Jvm.ClassFile.FieldType)).before args0 about1 = true := code_word (m := ⟨0, 0⟩) (meth := k0m0) (c := k0c0) (by decide +kernel) rfl rfl rfl (by decide +kernel)
set_option maxRecDepth 65536 in
theorem w_c4 : (Jvm.Cond.code ({ cls := "com/example/vestwright/vestwright/model/VestingPeriod$Days", name := "equals", desc := "(Ljava/lang/Object;)Z" } : Jvm.MethodName) prog_90_method_5_code (3 : Nat) (Option.some Jvm.ClassFile.FieldType.boolean)).before args0 about1 = true := code_word (m := ⟨4, 1⟩) (meth := k4m1) (c := k4c1) (by decide +kernel) rfl rfl rfl (by decide +kernel)
set_option maxRecDepth 65536 in
theorem w_c5 : (Jvm.Cond.code ({ cls := "java/lang/Integer", name := "valueOf", desc := "(I)Ljava/lang/Integer;" } : Jvm.MethodName) jdk_33_method_22_code (1 : Nat) (Option.some (Jvm.ClassFile.FieldType.object "java/lang/Integer"))).before args0 about1 = true := code_word (m := ⟨10, 0⟩) (meth := k10m0) (c := k10c0) (by decide +kernel) rfl rfl rfl (by decide +kernel)
set_option maxRecDepth 65536 in
theorem w_c6 : (Jvm.Cond.code ({ cls := "java/lang/Integer", name := "<init>", desc := "(I)V" } : Jvm.MethodName) jdk_33_method_23_code (2 : Nat) (Option.none : Option Jvm.ClassFile.FieldType)).before args0 about1 = true := code_word (m := ⟨10, 1⟩) (meth := k10m1) (c := k10c1) (by decide +kernel) rfl rfl rfl (by decide +kernel)
set_option maxRecDepth 65536 in
theorem w_c7 : (Jvm.Cond.code ({ cls := "java/lang/Number", name := "<init>", desc := "()V" } : Jvm.MethodName) jdk_18_method_1_code (1 : Nat) (Option.none : Option Jvm.ClassFile.FieldType)).before args0 about1 = true := code_word (m := ⟨6, 0⟩) (meth := k6m0) (c := k6c0) (by decide +kernel) rfl rfl rfl (by decide +kernel)
def codes1 : List Jvm.Cond := [Jvm.Cond.code x code maxLocals ret, Jvm.Cond.code ({ cls := "com/example/vestwright/vestwright/model/VestingPeriod$Days", name := "<init>", desc := "(I)V" } : Jvm.MethodName) prog_90_method_1_code (2 : Nat) (Option.none : Option Jvm.ClassFile.FieldType), Jvm.Cond.code ({ cls := "java/lang/Record", name := "<init>", desc := "()V" } : Jvm.MethodName) jdk_30_method_1_code (1 : Nat) (Option.none : Option Jvm.ClassFile.FieldType), Jvm.Cond.code ({ cls := "java/lang/Object", name := "<init>", desc := "()V" } : Jvm.MethodName) object_method_1_code (1 : Nat) (Option.none : Option Jvm.ClassFile.FieldType), Jvm.Cond.code ({ cls := "com/example/vestwright/vestwright/model/VestingPeriod$Days", name := "equals", desc := "(Ljava/lang/Object;)Z" } : Jvm.MethodName) prog_90_method_5_code (3 : Nat) (Option.some Jvm.ClassFile.FieldType.boolean), Jvm.Cond.code ({ cls := "java/lang/Integer", name := "valueOf", desc := "(I)Ljava/lang/Integer;" } : Jvm.MethodName) jdk_33_method_22_code (1 : Nat) (Option.some (Jvm.ClassFile.FieldType.object "java/lang/Integer")), Jvm.Cond.code ({ cls := "java/lang/Integer", name := "<init>", desc := "(I)V" } : Jvm.MethodName) jdk_33_method_23_code (2 : Nat) (Option.none : Option Jvm.ClassFile.FieldType), Jvm.Cond.code ({ cls := "java/lang/Number", name := "<init>", desc := "()V" } : Jvm.MethodName) jdk_18_method_1_code (1 : Nat) (Option.none : Option Jvm.ClassFile.FieldType)]
set_option maxRecDepth 65536 in
theorem codes_eq : words1.filter isCode = codes1 := rfl
theorem w_codes : ∀ c ∈ words1.filter isCode, c.before args0 about1 = true := by
  rw [codes_eq]
  intro c hc
  simp only [codes1, List.mem_cons, List.not_mem_nil, or_false] at hc
  rcases hc with rfl | rfl | rfl | rfl | rfl | rfl | rfl | rfl
  · exact w_c0
  · exact w_c1
  · exact w_c2
  · exact w_c3
  · exact w_c4
  · exact w_c5
  · exact w_c6
  · exact w_c7
set_option maxRecDepth 65536 in
theorem w_t1 : (words1.take 24).all (fun c => isCode c || c.before args0 about1) = true := by decide +kernel
set_option maxRecDepth 65536 in
theorem w_t2 : ((words1.drop 24).take 24).all (fun c => isCode c || c.before args0 about1) = true := by decide +kernel
set_option maxRecDepth 65536 in
theorem w_t3 : ((words1.drop 24).drop 24).all (fun c => isCode c || c.before args0 about1) = true := by decide +kernel
theorem w_tables : (allAtoms (Jvm.Cond.code x code maxLocals ret :: tables_1)).before args0 about1 = true := by
  rw [allAtoms_all]
  show words1.all (fun c => c.before args0 about1) = true
  refine all_split ?_ w_codes
  rw [← List.take_append_drop 24 words1, List.all_append, w_t1, ← List.take_append_drop 24 (words1.drop 24), List.all_append, w_t2, w_t3]
  rfl
set_option maxRecDepth 65536 in
theorem w_rest : rest_1_c.before args0 about1 = true := by decide +kernel
set_option maxRecDepth 65536 in
theorem w_case : (Jvm.Cond.and given_1 narrow_1).before args0 about1 = true := by decide +kernel
theorem w_applies : (headSpec (Jvm.Cond.code x code maxLocals ret :: tables_1) room_1).applies x e0.platform about1 = true :=
  (Spec.applies_iff w_frames).mpr ⟨w_running, w_runnable, w_alone, w_named, w_hears, w_ripe, w_room, w_tables⟩
theorem atStart : AtStart classFile x code maxLocals ret World_1 tables_1 room_1 Calls_1 rest_1 Pre_1 launch0 p0 e0 about1 theMethod args0 below0 :=
  ⟨lists_1, trivial, launch0.admits_env _ _ _, launch0.least_env, fairChoices_fair.cas, fairChoices_fair.clock, w_frames, w_args, w_heap, w_applies, trivial, w_rest, w_case⟩
end start1
theorem witness_1 : WitnessClaimed_1 := ⟨start1.p0, start1.e0, start1.about1, start1.theMethod, start1.args0, start1.below0, start1.atStart⟩
end Jvm.Pilot.@@N@@
