import JvmDerived
import JvmDerived.Pilot.@@N@@Statement
import JvmDerived.Pilot.@@N@@Code
set_option linter.unusedVariables false
set_option linter.unusedSimpArgs false
namespace Jvm.Pilot.@@N@@
open Jvm Jvm.ClassFile Sem Op Lib Jvm.Free Jvm.Stand Jvm.LawKit Jvm.RoadKit Bundle Jvm.Pilot.@@N@@.Jvm.D
theorem own_ofNat {y : Int32} {n : Nat} (h : y.toBitVec.toNat = n) : y = Int32.ofNat n := by
  subst h
  apply Int32.toBitVec_inj.mp
  apply BitVec.eq_of_toNat_eq
  simp
theorem own_and_le (x m : Int32) : (x &&& m).toBitVec.toNat ≤ m.toBitVec.toNat := by
  rw [Int32.toBitVec_and, BitVec.toNat_and]; exact Nat.and_le_right
theorem own_and_1 (x : Int32) : (x &&& (1 : Int32)) = (0 : Int32) ∨ (x &&& (1 : Int32)) = (1 : Int32) := by
  have h := own_and_le x (1 : Int32)
  have e : (1 : Int32).toBitVec.toNat = 1 := by decide
  rw [e] at h
  generalize x &&& (1 : Int32) = y at h ⊢
  have q : y.toBitVec.toNat = 0 ∨ y.toBitVec.toNat = 1 := by omega
  rcases q with q | q <;> simp [own_ofNat q]
theorem own_and_2 (x : Int32) : (x &&& (2 : Int32)) = (0 : Int32) ∨ (x &&& (2 : Int32)) = (2 : Int32) := by
  have q : ∀ b : BitVec 32, b &&& 2#32 = 0#32 ∨ b &&& 2#32 = 2#32 := fun b => by
    cases hb : b.getLsbD 1
    · left; apply BitVec.eq_of_getLsbD_eq; intro i hi; simp only [BitVec.getLsbD_and]; by_cases e : i = 1
      · subst e; rw [hb]; decide
      · have : (2#32).getLsbD i = false := by revert i; decide
        simp [this]
    · right; apply BitVec.eq_of_getLsbD_eq; intro i hi; simp only [BitVec.getLsbD_and]; by_cases e : i = 1
      · subst e; rw [hb]; decide
      · have : (2#32).getLsbD i = false := by revert i; decide
        simp [this]
  rcases q x.toBitVec with h | h
  · left; exact Int32.toBitVec_inj.mp h
  · right; exact Int32.toBitVec_inj.mp h
theorem own_and_4 (x : Int32) : (x &&& (4 : Int32)) = (0 : Int32) ∨ (x &&& (4 : Int32)) = (4 : Int32) := by
  have q : ∀ b : BitVec 32, b &&& 4#32 = 0#32 ∨ b &&& 4#32 = 4#32 := fun b => by
    cases hb : b.getLsbD 2
    · left; apply BitVec.eq_of_getLsbD_eq; intro i hi; simp only [BitVec.getLsbD_and]; by_cases e : i = 2
      · subst e; rw [hb]; decide
      · have : (4#32).getLsbD i = false := by revert i; decide
        simp [this]
    · right; apply BitVec.eq_of_getLsbD_eq; intro i hi; simp only [BitVec.getLsbD_and]; by_cases e : i = 2
      · subst e; rw [hb]; decide
      · have : (4#32).getLsbD i = false := by revert i; decide
        simp [this]
  rcases q x.toBitVec with h | h
  · left; exact Int32.toBitVec_inj.mp h
  · right; exact Int32.toBitVec_inj.mp h
theorem own_nb {p : Int32} (h : p = (0 : Int32) ∨ p = (1 : Int32)) : narrow .boolean (.int p) = .int p := by rcases h with rfl | rfl <;> rfl
theorem own_fb {p : Int32} (h : p = (0 : Int32) ∨ p = (1 : Int32)) : fits .boolean (.int p) = true := by rcases h with rfl | rfl <;> rfl
theorem own_and_3 (x : Int32) : (x &&& (3 : Int32)) = (0 : Int32) ∨ (x &&& (3 : Int32)) = (1 : Int32) ∨ (x &&& (3 : Int32)) = (2 : Int32) ∨ (x &&& (3 : Int32)) = (3 : Int32) := by
  have h := own_and_le x (3 : Int32)
  have e : (3 : Int32).toBitVec.toNat = 3 := by decide
  rw [e] at h
  generalize x &&& (3 : Int32) = y at h ⊢
  have q : y.toBitVec.toNat = 0 ∨ y.toBitVec.toNat = 1 ∨ y.toBitVec.toNat = 2 ∨ y.toBitVec.toNat = 3 := by omega
  rcases q with q | q | q | q <;> simp [own_ofNat q]
def OwnCls (Z : State) (K : String) : Prop := ∃ t k, Z.vm.findClass K = some t ∧ Z.vm.classes[t]? = some k ∧ k.kind = .ordinary ∧ k.isInterface = false
theorem own_cls_inst {Z : State} {a0 : Array Value} {K : String} {n : Nat} (w : (Cond.instantiable K n).before a0 Z = true) : OwnCls Z K := by
  obtain ⟨c, k, h1, h2, h3, h4, -⟩ := Cond.instantiable_spec w
  exact ⟨c, k, h1, h2, h3, by simp only [Bool.or_eq_false_iff] at h4; exact h4.1⟩
theorem own_cls_sup {Z : State} {a0 : Array Value} {K S : String} (w : (Cond.superclass K S).before a0 Z = true) : OwnCls Z K := by
  obtain ⟨c, h0⟩ := found_sup w
  obtain ⟨p, k, kp, h1, h2, h3, h4, h5, -, h7⟩ := Cond.superclass_spec h0 w
  exact ⟨c, k, h0, h2, h5, h7⟩
theorem own_ns_root {Z : State} {a0 : Array Value} {O K : String} (w : (Cond.noSuperclass O).before a0 Z = true) (wk : OwnCls Z K) (hn : O ≠ K) : NS Z O K := by
  obtain ⟨c, k, h1, h2, h3, -, -⟩ := Cond.noSuperclass_spec w
  obtain ⟨t, k2, g1, -⟩ := wk
  have ne := ids_ne h1 g1 hn
  refine ⟨c, t, h1, g1, fun fuel => ?_⟩
  match fuel with
  | 0 => rfl
  | f + 1 => simp [Vm.isSubclassAux, ne, h2, h3]
theorem own_ns_no {Z : State} {a0 : Array Value} {C S K : String} (w : (Cond.superclass C S).before a0 Z = true) (wk : OwnCls Z K) (n : NS Z C K) (hn : C ≠ K) : ∃ c t, Z.vm.findClass C = some c ∧ Z.vm.findClass K = some t ∧ Z.vm.assignable c t = false := by
  obtain ⟨c, t, h0, g0, n3⟩ := n
  obtain ⟨p, k, kp, h1, h2, h3, h4, h5, -, h7⟩ := Cond.superclass_spec h0 w
  obtain ⟨t', k', g1, g2, g5, g7⟩ := wk
  cases g0.symm.trans g1
  have ne := ids_ne h0 g0 hn
  refine ⟨c, t, h0, g0, ?_⟩
  show Z.vm.assignableAux (255 + 1) c t = false
  simp [Vm.assignableAux, ne, h2, g2, h5, g5, g7, Vm.isSubclass, n3]
theorem own_cache {p : Int32} (h1 : ¬ (p < (-128 : Int32))) (h2 : ¬ ((127 : Int32) < p)) : ¬ ((p + (128 : Int32)) < 0) ∧ (p + (128 : Int32)) < (256 : Int32) := by
  have a1 : (-128 : Int32).toInt = -128 := by decide
  have a2 : (127 : Int32).toInt = 127 := by decide
  have a3 : (128 : Int32).toInt = 128 := by decide
  have a4 : (256 : Int32).toInt = 256 := by decide
  have a0 : (0 : Int32).toInt = 0 := by decide
  simp only [Int32.lt_iff_toInt_lt, a1, a2] at h1 h2
  have e : (p + (128 : Int32)).toInt = p.toInt + 128 := by rw [Int32.toInt_add, a3, Int.bmod_eq_of_le (by omega) (by omega)]
  simp only [Int32.lt_iff_toInt_lt, a0, a4, e]
  omega
theorem own_len {s : State} {args : Array Value} {t : Term} {a : Addr} {cl : Cell} {n : Int32} (ev : t.eval args s none [] s = some (.ref a)) (hf : s.arrayAt? a = some cl) (h : (Term.length t).eval args s none [] s = some (.int n)) : cl.slots.size < 2 ^ 31 ∧ cl.slots.size.toInt32 = n := by
  simp only [Term.eval, ev, Option.bind_eq_bind, Option.bind_some, hf] at h
  split at h
  · rename_i q; exact ⟨q, Value.int.inj (Option.some.inj h)⟩
  · cases h
theorem own_sub {s : State} {args : Array Value} {t : Term} {idx : List Nat} {j : Int32} (h : t.eval args s none idx s = some (.int j)) : (Term.sub t (Term.int (128 : Int32))).eval args s none idx s = some (.int (j - 128)) := by
  simp [Term.eval, h]
def Wd (Z : State) (wc : Addr) : Prop := (Sta Z Z.heap "java/lang/Integer$IntegerCache" "high" "I" (.int (127 : Int32))) ∧ (Sta Z Z.heap "java/lang/Integer$IntegerCache" "cache" "[Ljava/lang/Integer;" (.ref wc)) ∧ (∃ cl, Bxs Z wc cl "java/lang/Integer" "I" (256 : Int32) (fun j => .int (j - 128))) ∧ True
def Qp (r : Option Value) (h0 : Heap) (n0 : Nat) (v : Option Value) (h : Heap) (L : List Loc) : Prop := v = r ∧ Fr n0 L ∧ h = h0
def Ql (n0 : Nat) (v : Option Value) (h : Heap) (L : List Loc) : Prop := v = some (.int (1 : Int32)) ∧ Fr n0 L
theorem d_prog_87_method_1_code_0 : decode prog_87_method_1_code 0 = .ok (.aload_n 0, 1) := by decide +kernel
theorem d_prog_87_method_1_code_1 : decode prog_87_method_1_code 1 = .ok (.invokespecial 1, 3) := by decide +kernel
theorem d_jdk_30_method_1_code_0 : decode jdk_30_method_1_code 0 = .ok (.aload_n 0, 1) := by decide +kernel
theorem d_jdk_30_method_1_code_1 : decode jdk_30_method_1_code 1 = .ok (.invokespecial 1, 3) := by decide +kernel
theorem d_jdk_30_method_1_code_4 : decode jdk_30_method_1_code 4 = .ok (.return_, 1) := by decide +kernel
theorem pn0 : plainName "java/lang/Record" = true := by first | (simp [plainName, overriddenIn]; done) | decide +kernel
theorem ef0 (m : MethodId)   (a1 : Addr) : entryFrame m #[(.ref a1)] 1 = mkF m 0 #[.val (.ref a1)] [] := by first | (simp [entryFrame, mkF, argsToLocals, Value.category]; done) | rfl
set_option maxRecDepth 65536 in
set_option maxHeartbeats 40000000 in
theorem rm2 (l : Launch) (Z : State) (a0 : Array Value) (hw : ∀ d ∈ tables_1, d.before a0 Z = true) (ws : List Jvm.Cond) (wc : Addr) (a1 : Addr) (h0 : Heap) (n0 : Nat) (hWd : Wd Z wc) (O0 : Old Z n0 h0) (E_a1 : Exa Z h0 a1 "com/example/vestwright/vestwright/model/VestingDay") (F_a1_vestingStartDay : Fld Z h0 a1 "com/example/vestwright/vestwright/model/VestingDay" "vestingStartDay" "Z" (.int (0 : Int32))) (F_a1_day : Fld Z h0 a1 "com/example/vestwright/vestwright/model/VestingDay" "day" "I" (.int (0 : Int32))) (g_a1 : n0 ≤ a1) :
    MetFree l (⟨"java/lang/Record", "<init>", "()V"⟩ : MethodName) (head1 (Jvm.Cond.code (⟨"java/lang/Record", "<init>", "()V"⟩ : MethodName) jdk_30_method_1_code 1 none :: ws) ({ frames := 1, cells := 0, slots := 0, locals := 12 } : Room)) (fun a U => a = #[(.ref a1)] ∧ Z.Warmed39 U.vm ∧ U.heap = h0) (fun _ _ _ _ _ => True) (fun _ U o U' => ∃ v L, o = .returned v ∧ Qp (none) h0 n0 v U'.heap L ∧ FrameEnd U o U' L ({ frames := 1, cells := 0, slots := 0, locals := 12 } : Room).cells ({ frames := 1, cells := 0, slots := 0, locals := 12 } : Room).slots) := by
  refine MetFree.of_bodySF (plainFor_of_name pn0) hisR ?_
  intro p e s m args below meth c s₁ Bd hml0 hP hK
  obtain ⟨rfl, hZ, hh⟩ := hP
  have hx := Bd.exec
  have hby := Bd.bytes
  have hml : c.maxLocals = 1 := hml0
  have hown : s.vm.findClass "java/lang/Record" = some m.cls := findClass_of_methodNamed Bd.named
  have hnm := (name_of_methodNamed Bd.named Bd.method).1
  have X0 : Stand p l e ({ frames := 1, cells := 0, slots := 0, locals := 12 } : Room) s m #[(.ref a1)] below meth c s₁ [] 0 0 := Stand.of_body Bd
  have e0 : s₁.heap = h0 := by rw [← hh, Bd.state]; rfl
  have N0 := Fr.nil n0
  have hlk := Bd.notSynchronized
  obtain ⟨wSh, wSc, wB, -⟩ := id hWd
  have pre0 : ∀ t, Steps p.tables e below (s₁.setTop (mkF m 0 #[.val (.ref a1)] [])) t → Steps p.tables e below (s₁.setTop (entryFrame m #[(.ref a1)] 1)) t := fun t k => castTop (ef0 m a1) k
  obtain ⟨T16, X16, e16, st16⟩ := initO X0 hx hZ hown (hw _ (List.mem_of_getElem? (i := 11) rfl)) (hw _ (List.mem_of_getElem? (i := 12) rfl)) (hw _ (List.mem_of_getElem? (i := 13) rfl)) e0 (g := (mkF m 1 #[.val (.ref a1)] [(.ref a1)])) rfl (by rw [hml]; rfl) rfl (hb hby d_jdk_30_method_1_code_1) (by decide) (W := 0) (by show 2 * 0 + _ ≤ _; exact Nat.le_of_eq rfl) (by decide)
  obtain ⟨fs, hr, hrun, hended, hWr, hsame⟩ := X16.leave (v := none) (fun _ => rfl) hlk
  refine ⟨_, _, pre0 _ ?_, hrun, hended, _, _, rfl, ?_, ⟨_, rfl⟩, hWr, hsame.mono (Nat.le_of_ble_eq_true rfl) (Nat.le_of_ble_eq_true rfl)⟩
  · show Steps p.tables e below (s₁.setTop (mkF m 0 #[.val (.ref a1)] [])) _
    refine XS.aloadN X0.here hx rfl (hb hby d_jdk_30_method_1_code_0) rfl rfl ?_
    show Steps p.tables e below (s₁.setTop (mkF m 1 #[.val (.ref a1)] [(.ref a1)])) _
    refine st16 _ ?_
    show Steps p.tables e below (T16.setTop (mkF m 4 #[.val (.ref a1)] [])) _
    exact X16.returnOut hx Bd.returns (hb hby d_jdk_30_method_1_code_4) hr
  · show Qp (none) h0 n0 _ T16.heap _
    rw [e16]
    exact ⟨rfl, N0, rfl⟩
theorem pd0 : parseMethodDescriptor "()V" = some ⟨[], none⟩ := by decide +kernel
theorem d_prog_87_method_1_code_4 : decode prog_87_method_1_code 4 = .ok (.aload_n 0, 1) := by decide +kernel
theorem d_prog_87_method_1_code_5 : decode prog_87_method_1_code 5 = .ok (.iload_n 1, 1) := by decide +kernel
theorem d_prog_87_method_1_code_6 : decode prog_87_method_1_code 6 = .ok (.putfield 7, 3) := by decide +kernel
theorem d_prog_87_method_1_code_9 : decode prog_87_method_1_code 9 = .ok (.aload_n 0, 1) := by decide +kernel
theorem d_prog_87_method_1_code_10 : decode prog_87_method_1_code 10 = .ok (.iload_n 2, 1) := by decide +kernel
theorem d_prog_87_method_1_code_11 : decode prog_87_method_1_code 11 = .ok (.putfield 13, 3) := by decide +kernel
theorem d_prog_87_method_1_code_14 : decode prog_87_method_1_code 14 = .ok (.return_, 1) := by decide +kernel
theorem pn1 : plainName "com/example/vestwright/vestwright/model/VestingDay" = true := by first | (simp [plainName, overriddenIn]; done) | decide +kernel
theorem ef1 (m : MethodId) (p1 : Int32) (p2 : Int32)  (a1 : Addr) : entryFrame m #[(.ref a1), (.int p1), (.int p2)] 3 = mkF m 0 #[.val (.ref a1), .val (.int p1), .val (.int p2)] [] := by first | (simp [entryFrame, mkF, argsToLocals, Value.category]; done) | rfl
def Qerm1 (Z : State) (wc : Addr) (p1 p2 : Int32) (a1 : Addr) (h0 : Heap) (n0 : Nat) (v : Option Value) (h : Heap) (L : List Loc) : Prop := v = none ∧ Fr n0 L ∧ Keep h0 h [a1] ∧ Old Z n0 h ∧ Exa Z h a1 "com/example/vestwright/vestwright/model/VestingDay" ∧ Fld Z h a1 "com/example/vestwright/vestwright/model/VestingDay" "vestingStartDay" "Z" (.int p1) ∧ Fld Z h a1 "com/example/vestwright/vestwright/model/VestingDay" "day" "I" (.int p2)
set_option maxRecDepth 65536 in
set_option maxHeartbeats 40000000 in
theorem rm1 (l : Launch) (Z : State) (a0 : Array Value) (hw : ∀ d ∈ tables_1, d.before a0 Z = true) (ws : List Jvm.Cond) (wc : Addr) (p1 p2 : Int32) (a1 : Addr) (h0 : Heap) (n0 : Nat) (hWd : Wd Z wc) (O0 : Old Z n0 h0) (bl_p1 : p1 = (0 : Int32) ∨ p1 = (1 : Int32)) (E_a1 : Exa Z h0 a1 "com/example/vestwright/vestwright/model/VestingDay") (F_a1_vestingStartDay : Fld Z h0 a1 "com/example/vestwright/vestwright/model/VestingDay" "vestingStartDay" "Z" (.int (0 : Int32))) (F_a1_day : Fld Z h0 a1 "com/example/vestwright/vestwright/model/VestingDay" "day" "I" (.int (0 : Int32))) (g_a1 : n0 ≤ a1) :
    MetFree l (⟨"com/example/vestwright/vestwright/model/VestingDay", "<init>", "(ZI)V"⟩ : MethodName) (head1 (Jvm.Cond.code (⟨"com/example/vestwright/vestwright/model/VestingDay", "<init>", "(ZI)V"⟩ : MethodName) prog_87_method_1_code 3 none :: ws) ({ frames := 2, cells := 0, slots := 0, locals := 24 } : Room)) (fun a U => a = #[(.ref a1), (.int p1), (.int p2)] ∧ Z.Warmed39 U.vm ∧ U.heap = h0) (fun _ _ _ _ _ => True) (fun _ U o U' => ∃ v L, o = .returned v ∧ Qerm1 Z wc p1 p2 a1 h0 n0 v U'.heap L ∧ FrameEnd U o U' L ({ frames := 2, cells := 0, slots := 0, locals := 24 } : Room).cells ({ frames := 2, cells := 0, slots := 0, locals := 24 } : Room).slots) := by
  refine MetFree.of_bodySF (plainFor_of_name pn1) hisR ?_
  intro p e s m args below meth c s₁ Bd hml0 hP hK
  obtain ⟨rfl, hZ, hh⟩ := hP
  have hx := Bd.exec
  have hby := Bd.bytes
  have hml : c.maxLocals = 3 := hml0
  have hown : s.vm.findClass "com/example/vestwright/vestwright/model/VestingDay" = some m.cls := findClass_of_methodNamed Bd.named
  have hnm := (name_of_methodNamed Bd.named Bd.method).1
  have X0 : Stand p l e ({ frames := 2, cells := 0, slots := 0, locals := 24 } : Room) s m #[(.ref a1), (.int p1), (.int p2)] below meth c s₁ [] 0 0 := Stand.of_body Bd
  have e0 : s₁.heap = h0 := by rw [← hh, Bd.state]; rfl
  have N0 := Fr.nil n0
  have hlk := Bd.notSynchronized
  obtain ⟨wSh, wSc, wB, -⟩ := id hWd
  have pre0 : ∀ t, Steps p.tables e below (s₁.setTop (mkF m 0 #[.val (.ref a1), .val (.int p1), .val (.int p2)] [])) t → Steps p.tables e below (s₁.setTop (entryFrame m #[(.ref a1), (.int p1), (.int p2)] 3)) t := fun t k => castTop (ef1 m p1 p2 a1) k
  obtain ⟨_, _, ⟨T17, L17, k17, n17⟩, -, X17, ⟨Lc17, hQ17, l17, y17, z17⟩, st17⟩ := X0.specialBack hx (y := (⟨"java/lang/Record", "<init>", "()V"⟩ : MethodName)) rfl hown (mvT hZ (hw _ (List.mem_of_getElem? (i := 6) rfl))) (mvT hZ (hw _ (List.mem_of_getElem? (i := 7) rfl))) (mvT hZ (hw _ (List.mem_of_getElem? (i := 10) rfl))) (by decide) (backOf (W := 0) (rm2 l Z a0 hw [] wc a1 h0 n0 hWd O0 E_a1 F_a1_vestingStartDay F_a1_day g_a1) hZ (hw _ (List.mem_of_getElem? (i := 10) rfl)) (hw _ (List.mem_of_getElem? (i := 9) rfl)) (by decide) (by decide)) (g := (mkF m 1 #[.val (.ref a1), .val (.int p1), .val (.int p2)] [(.ref a1)])) rfl (by rw [hml]; rfl) (Steps.refl _) (a := a1) (argsL := []) (rest := []) (lenOf pd0 rfl) rfl (by show 2 * 0 + _ ≤ _; exact Nat.le_of_eq rfl) (hb hby d_prog_87_method_1_code_1) (fun _ _ => ⟨rfl, e0, (by decide : 0 + 0 ≤ _), (by decide : 0 + 0 ≤ _)⟩)
  dsimp only [Pt.U, Pt.locs, Pt.cells, Pt.slots] at X17 l17 y17 z17 st17 hQ17
  subst l17 y17 z17
  obtain ⟨rfl, N17q, e17⟩ := hQ17
  have N17 := Fr.app N0 N17q
  obtain ⟨T18, h18, X18, e18, W18, st18⟩ := putFN X17 hx hZ hown (hw _ (List.mem_of_getElem? (i := 14) rfl)) Via.refl e17 F_a1_vestingStartDay E_a1 (Or.inr ⟨(hw _ (List.mem_of_getElem? (i := 15) rfl)), rfl, hnm⟩) (hw _ (List.mem_of_getElem? (i := 1) rfl)) (ty := .boolean) (v' := (.int p1)) (by decide) (own_nb bl_p1) (own_fb bl_p1) (g := (mkF m 6 #[.val (.ref a1), .val (.int p1), .val (.int p2)] [(.int p1), (.ref a1)])) rfl rfl (hb hby d_prog_87_method_1_code_6)
  have E_a1_18 : Exa Z h18 a1 "com/example/vestwright/vestwright/model/VestingDay" := E_a1.wr W18
  have F_a1_day_18 : Fld Z h18 a1 "com/example/vestwright/vestwright/model/VestingDay" "day" "I" (.int (0 : Int32)) := F_a1_day.other W18 (Or.inr (slot_ne (Or.inr (hw _ (List.mem_of_getElem? (i := 17) rfl))) (Or.inr (hw _ (List.mem_of_getElem? (i := 15) rfl))) (by decide) (t := .int) (t' := .boolean) (by decide) (by decide)))
  have F_a1_vestingStartDay_18 : Fld Z h18 a1 "com/example/vestwright/vestwright/model/VestingDay" "vestingStartDay" "Z" (.int p1) := F_a1_vestingStartDay.same W18
  have Kp18 : Keep h0 h18 [a1] := (Keep.refl h0 [a1]).wr W18 (Or.inl (List.mem_of_getElem? (i := 0) rfl))
  have N18 := Fr.snoc X18 N17 g_a1
  have O_18 : Old Z n0 h18 := O0.wr W18 g_a1
  obtain ⟨T19, h19, X19, e19, W19, st19⟩ := putF X18 hx hZ hown (host := "") (Or.inl (hw _ (List.mem_of_getElem? (i := 16) rfl))) Via.refl e18 F_a1_day_18 E_a1_18 (Or.inr ⟨(hw _ (List.mem_of_getElem? (i := 17) rfl)), rfl, hnm⟩) (hw _ (List.mem_of_getElem? (i := 1) rfl)) (ty := .int) (by decide) rfl rfl (g := (mkF m 11 #[.val (.ref a1), .val (.int p1), .val (.int p2)] [(.int p2), (.ref a1)])) rfl rfl (hb hby d_prog_87_method_1_code_11)
  have E_a1_19 : Exa Z h19 a1 "com/example/vestwright/vestwright/model/VestingDay" := E_a1_18.wr W19
  have F_a1_vestingStartDay_19 : Fld Z h19 a1 "com/example/vestwright/vestwright/model/VestingDay" "vestingStartDay" "Z" (.int p1) := F_a1_vestingStartDay_18.other W19 (Or.inr (slot_ne (Or.inr (hw _ (List.mem_of_getElem? (i := 15) rfl))) (Or.inr (hw _ (List.mem_of_getElem? (i := 17) rfl))) (by decide) (t := .boolean) (t' := .int) (by decide) (by decide)))
  have F_a1_day_19 : Fld Z h19 a1 "com/example/vestwright/vestwright/model/VestingDay" "day" "I" (.int p2) := F_a1_day_18.same W19
  have Kp19 : Keep h0 h19 [a1] := Kp18.wr W19 (Or.inl (List.mem_of_getElem? (i := 0) rfl))
  have N19 := Fr.snoc X19 N18 g_a1
  have O_19 : Old Z n0 h19 := O_18.wr W19 g_a1
  obtain ⟨fs, hr, hrun, hended, hWr, hsame⟩ := X19.leave (v := none) (fun _ => rfl) hlk
  refine ⟨_, _, pre0 _ ?_, hrun, hended, _, _, rfl, ?_, ⟨_, rfl⟩, hWr, hsame.mono (Nat.le_of_ble_eq_true rfl) (Nat.le_of_ble_eq_true rfl)⟩
  · show Steps p.tables e below (s₁.setTop (mkF m 0 #[.val (.ref a1), .val (.int p1), .val (.int p2)] [])) _
    refine XS.aloadN X0.here hx rfl (hb hby d_prog_87_method_1_code_0) rfl rfl ?_
    show Steps p.tables e below (s₁.setTop (mkF m 1 #[.val (.ref a1), .val (.int p1), .val (.int p2)] [(.ref a1)])) _
    refine st17.trans ?_
    show Steps p.tables e below (T17.setTop (mkF m 4 #[.val (.ref a1), .val (.int p1), .val (.int p2)] [])) _
    refine XS.aloadN X17.here hx rfl (hb hby d_prog_87_method_1_code_4) rfl rfl ?_
    show Steps p.tables e below (T17.setTop (mkF m 5 #[.val (.ref a1), .val (.int p1), .val (.int p2)] [(.ref a1)])) _
    refine XS.iloadN X17.here hx rfl (hb hby d_prog_87_method_1_code_5) rfl ?_
    show Steps p.tables e below (T17.setTop (mkF m 6 #[.val (.ref a1), .val (.int p1), .val (.int p2)] [(.int p1), (.ref a1)])) _
    refine st18 _ ?_
    show Steps p.tables e below (T18.setTop (mkF m 9 #[.val (.ref a1), .val (.int p1), .val (.int p2)] [])) _
    refine XS.aloadN X18.here hx rfl (hb hby d_prog_87_method_1_code_9) rfl rfl ?_
    show Steps p.tables e below (T18.setTop (mkF m 10 #[.val (.ref a1), .val (.int p1), .val (.int p2)] [(.ref a1)])) _
    refine XS.iloadN X18.here hx rfl (hb hby d_prog_87_method_1_code_10) rfl ?_
    show Steps p.tables e below (T18.setTop (mkF m 11 #[.val (.ref a1), .val (.int p1), .val (.int p2)] [(.int p2), (.ref a1)])) _
    refine st19 _ ?_
    show Steps p.tables e below (T19.setTop (mkF m 14 #[.val (.ref a1), .val (.int p1), .val (.int p2)] [])) _
    exact X19.returnOut hx Bd.returns (hb hby d_prog_87_method_1_code_14) hr
  · show Qerm1 Z wc p1 p2 a1 h0 n0 _ T19.heap _
    rw [e19]
    exact ⟨rfl, N19, Kp19, O_19, E_a1_19, F_a1_vestingStartDay_19, F_a1_day_19⟩
theorem pd1 : parseMethodDescriptor "(ZI)V" = some ⟨[.boolean, .int], none⟩ := by decide +kernel
theorem d_prog_87_method_7_code_0 : decode prog_87_method_7_code 0 = .ok (.aload_n 1, 1) := by decide +kernel
theorem d_prog_87_method_7_code_1 : decode prog_87_method_7_code 1 = .ok (.instanceof 8, 3) := by decide +kernel
theorem d_prog_87_method_7_code_4 : decode prog_87_method_7_code 4 = .ok (.ifCond .eq 34, 3) := by decide +kernel
theorem d_prog_87_method_7_code_7 : decode prog_87_method_7_code 7 = .ok (.aload_n 1, 1) := by decide +kernel
theorem d_prog_87_method_7_code_8 : decode prog_87_method_7_code 8 = .ok (.checkcast 8, 3) := by decide +kernel
theorem d_prog_87_method_7_code_11 : decode prog_87_method_7_code 11 = .ok (.astore_n 2, 1) := by decide +kernel
theorem d_prog_87_method_7_code_12 : decode prog_87_method_7_code 12 = .ok (.aload_n 2, 1) := by decide +kernel
theorem d_prog_87_method_7_code_13 : decode prog_87_method_7_code 13 = .ok (.getfield 7, 3) := by decide +kernel
theorem d_prog_87_method_7_code_16 : decode prog_87_method_7_code 16 = .ok (.aload_n 0, 1) := by decide +kernel
theorem d_prog_87_method_7_code_17 : decode prog_87_method_7_code 17 = .ok (.getfield 7, 3) := by decide +kernel
theorem d_prog_87_method_7_code_20 : decode prog_87_method_7_code 20 = .ok (.if_icmp .ne 18, 3) := by decide +kernel
theorem d_prog_87_method_7_code_23 : decode prog_87_method_7_code 23 = .ok (.aload_n 2, 1) := by decide +kernel
theorem d_prog_87_method_7_code_24 : decode prog_87_method_7_code 24 = .ok (.getfield 13, 3) := by decide +kernel
theorem d_prog_87_method_7_code_27 : decode prog_87_method_7_code 27 = .ok (.aload_n 0, 1) := by decide +kernel
theorem d_prog_87_method_7_code_28 : decode prog_87_method_7_code 28 = .ok (.getfield 13, 3) := by decide +kernel
theorem d_prog_87_method_7_code_31 : decode prog_87_method_7_code 31 = .ok (.if_icmp .ne 7, 3) := by decide +kernel
theorem d_prog_87_method_7_code_34 : decode prog_87_method_7_code 34 = .ok (.iconst 1, 1) := by decide +kernel
theorem d_prog_87_method_7_code_35 : decode prog_87_method_7_code 35 = .ok (.goto 4, 3) := by decide +kernel
theorem d_prog_87_method_7_code_39 : decode prog_87_method_7_code 39 = .ok (.ireturn, 1) := by decide +kernel
theorem ef2 (m : MethodId)   (a1 : Addr) (a2 : Addr) : entryFrame m #[(.ref a1), (.ref a2)] 3 = mkF m 0 #[.val (.ref a1), .val (.ref a2), .unset] [] := by first | (simp [entryFrame, mkF, argsToLocals, Value.category]; done) | rfl
set_option maxRecDepth 65536 in
set_option maxHeartbeats 40000000 in
theorem rm3 (l : Launch) (Z : State) (a0 : Array Value) (hw : ∀ d ∈ tables_1, d.before a0 Z = true) (ws : List Jvm.Cond) (wc : Addr) (p1 p2 p3 p4 : Int32) (a1 a2 : Addr) (h0 : Heap) (n0 : Nat) (hWd : Wd Z wc) (O0 : Old Z n0 h0) (rl0 : p1 = p3) (rl1 : p2 = p4) (E_a1 : Exa Z h0 a1 "com/example/vestwright/vestwright/model/VestingDay") (F_a1_vestingStartDay : Fld Z h0 a1 "com/example/vestwright/vestwright/model/VestingDay" "vestingStartDay" "Z" (.int p1)) (F_a1_day : Fld Z h0 a1 "com/example/vestwright/vestwright/model/VestingDay" "day" "I" (.int p2)) (g_a1 : n0 ≤ a1) (E_a2 : Exa Z h0 a2 "com/example/vestwright/vestwright/model/VestingDay") (F_a2_vestingStartDay : Fld Z h0 a2 "com/example/vestwright/vestwright/model/VestingDay" "vestingStartDay" "Z" (.int p3)) (F_a2_day : Fld Z h0 a2 "com/example/vestwright/vestwright/model/VestingDay" "day" "I" (.int p4)) (g_a2 : n0 ≤ a2) :
    MetFree l (⟨"com/example/vestwright/vestwright/model/VestingDay", "equals", "(Ljava/lang/Object;)Z"⟩ : MethodName) (head1 (Jvm.Cond.code (⟨"com/example/vestwright/vestwright/model/VestingDay", "equals", "(Ljava/lang/Object;)Z"⟩ : MethodName) prog_87_method_7_code 3 (some .boolean) :: ws) ({ frames := 0, cells := 0, slots := 0, locals := 0 } : Room)) (fun a U => a = #[(.ref a1), (.ref a2)] ∧ Z.Warmed39 U.vm ∧ U.heap = h0) (fun _ _ _ _ _ => True) (fun _ U o U' => ∃ v L, o = .returned v ∧ Qp (some (.int (1 : Int32))) h0 n0 v U'.heap L ∧ FrameEnd U o U' L ({ frames := 0, cells := 0, slots := 0, locals := 0 } : Room).cells ({ frames := 0, cells := 0, slots := 0, locals := 0 } : Room).slots) := by
  refine MetFree.of_bodySF (plainFor_of_name pn1) hisR ?_
  intro p e s m args below meth c s₁ Bd hml0 hP hK
  obtain ⟨rfl, hZ, hh⟩ := hP
  have hx := Bd.exec
  have hby := Bd.bytes
  have hml : c.maxLocals = 3 := hml0
  have hown : s.vm.findClass "com/example/vestwright/vestwright/model/VestingDay" = some m.cls := findClass_of_methodNamed Bd.named
  have hnm := (name_of_methodNamed Bd.named Bd.method).1
  have X0 : Stand p l e ({ frames := 0, cells := 0, slots := 0, locals := 0 } : Room) s m #[(.ref a1), (.ref a2)] below meth c s₁ [] 0 0 := Stand.of_body Bd
  have e0 : s₁.heap = h0 := by rw [← hh, Bd.state]; rfl
  have N0 := Fr.nil n0
  have hlk := Bd.notSynchronized
  obtain ⟨wSh, wSc, wB, -⟩ := id hWd
  have pre0 : ∀ t, Steps p.tables e below (s₁.setTop (mkF m 0 #[.val (.ref a1), .val (.ref a2), .unset] [])) t → Steps p.tables e below (s₁.setTop (entryFrame m #[(.ref a1), (.ref a2)] 3)) t := fun t k => castTop (ef2 m a1 a2) k
  obtain ⟨T34, X34, e34, st34⟩ := instY X0 hx hZ hown (hw _ (List.mem_of_getElem? (i := 30) rfl)) e0 (Ins.self E_a2) (g := (mkF m 1 #[.val (.ref a1), .val (.ref a2), .unset] [(.ref a2)])) rfl rfl (hb hby d_prog_87_method_7_code_1)
  obtain ⟨T35, X35, e35, st35⟩ := castY X34 hx hZ hown (hw _ (List.mem_of_getElem? (i := 30) rfl)) e34 (Ins.self E_a2) (g := (mkF m 8 #[.val (.ref a1), .val (.ref a2), .unset] [(.ref a2)])) rfl rfl (hb hby d_prog_87_method_7_code_8)
  obtain ⟨T36, X36, e36, st36⟩ := getF X35 hx hZ hown (host := "") (Or.inl (hw _ (List.mem_of_getElem? (i := 14) rfl))) Via.refl e35 F_a2_vestingStartDay (g := (mkF m 13 #[.val (.ref a1), .val (.ref a2), .val (.ref a2)] [(.ref a2)])) rfl rfl (hb hby d_prog_87_method_7_code_13)
  obtain ⟨T37, X37, e37, st37⟩ := getF X36 hx hZ hown (host := "") (Or.inl (hw _ (List.mem_of_getElem? (i := 14) rfl))) Via.refl e36 F_a1_vestingStartDay (g := (mkF m 17 #[.val (.ref a1), .val (.ref a2), .val (.ref a2)] [(.ref a1), (.int p3)])) rfl rfl (hb hby d_prog_87_method_7_code_17)
  obtain ⟨T38, X38, e38, st38⟩ := getF X37 hx hZ hown (host := "") (Or.inl (hw _ (List.mem_of_getElem? (i := 16) rfl))) Via.refl e37 F_a2_day (g := (mkF m 24 #[.val (.ref a1), .val (.ref a2), .val (.ref a2)] [(.ref a2)])) rfl rfl (hb hby d_prog_87_method_7_code_24)
  obtain ⟨T39, X39, e39, st39⟩ := getF X38 hx hZ hown (host := "") (Or.inl (hw _ (List.mem_of_getElem? (i := 16) rfl))) Via.refl e38 F_a1_day (g := (mkF m 28 #[.val (.ref a1), .val (.ref a2), .val (.ref a2)] [(.ref a1), (.int p4)])) rfl rfl (hb hby d_prog_87_method_7_code_28)
  obtain ⟨fs, hr, hrun, hended, hWr, hsame⟩ := X39.leave (v := some (.int (1 : Int32))) (fun h => by rw [Bd.returns] at h; cases h) hlk
  refine ⟨_, _, pre0 _ ?_, hrun, hended, _, _, rfl, ?_, ⟨_, rfl⟩, hWr, hsame.mono (Nat.le_of_ble_eq_true rfl) (Nat.le_of_ble_eq_true rfl)⟩
  · show Steps p.tables e below (s₁.setTop (mkF m 0 #[.val (.ref a1), .val (.ref a2), .unset] [])) _
    refine XS.aloadN X0.here hx rfl (hb hby d_prog_87_method_7_code_0) rfl rfl ?_
    show Steps p.tables e below (s₁.setTop (mkF m 1 #[.val (.ref a1), .val (.ref a2), .unset] [(.ref a2)])) _
    refine st34 _ ?_
    show Steps p.tables e below (T34.setTop (mkF m 4 #[.val (.ref a1), .val (.ref a2), .unset] [(.int (1 : Int32))])) _
    refine XS.ifNo X34.here hx rfl (hb hby d_prog_87_method_7_code_4) rfl (by decide) ?_
    show Steps p.tables e below (T34.setTop (mkF m 7 #[.val (.ref a1), .val (.ref a2), .unset] [])) _
    refine XS.aloadN X34.here hx rfl (hb hby d_prog_87_method_7_code_7) rfl rfl ?_
    show Steps p.tables e below (T34.setTop (mkF m 8 #[.val (.ref a1), .val (.ref a2), .unset] [(.ref a2)])) _
    refine st35 _ ?_
    show Steps p.tables e below (T35.setTop (mkF m 11 #[.val (.ref a1), .val (.ref a2), .unset] [(.ref a2)])) _
    refine XS.astoreN X35.here hx rfl (hb hby d_prog_87_method_7_code_11) rfl rfl (l' := #[.val (.ref a1), .val (.ref a2), .val (.ref a2)]) rfl ?_
    show Steps p.tables e below (T35.setTop (mkF m 12 #[.val (.ref a1), .val (.ref a2), .val (.ref a2)] [])) _
    refine XS.aloadN X35.here hx rfl (hb hby d_prog_87_method_7_code_12) rfl rfl ?_
    show Steps p.tables e below (T35.setTop (mkF m 13 #[.val (.ref a1), .val (.ref a2), .val (.ref a2)] [(.ref a2)])) _
    refine st36 _ ?_
    show Steps p.tables e below (T36.setTop (mkF m 16 #[.val (.ref a1), .val (.ref a2), .val (.ref a2)] [(.int p3)])) _
    refine XS.aloadN X36.here hx rfl (hb hby d_prog_87_method_7_code_16) rfl rfl ?_
    show Steps p.tables e below (T36.setTop (mkF m 17 #[.val (.ref a1), .val (.ref a2), .val (.ref a2)] [(.ref a1), (.int p3)])) _
    refine st37 _ ?_
    show Steps p.tables e below (T37.setTop (mkF m 20 #[.val (.ref a1), .val (.ref a2), .val (.ref a2)] [(.int p1), (.int p3)])) _
    refine XS.icmpNo X37.here hx rfl (hb hby d_prog_87_method_7_code_20) rfl (teq (Eq.symm rl0)).2 ?_
    show Steps p.tables e below (T37.setTop (mkF m 23 #[.val (.ref a1), .val (.ref a2), .val (.ref a2)] [])) _
    refine XS.aloadN X37.here hx rfl (hb hby d_prog_87_method_7_code_23) rfl rfl ?_
    show Steps p.tables e below (T37.setTop (mkF m 24 #[.val (.ref a1), .val (.ref a2), .val (.ref a2)] [(.ref a2)])) _
    refine st38 _ ?_
    show Steps p.tables e below (T38.setTop (mkF m 27 #[.val (.ref a1), .val (.ref a2), .val (.ref a2)] [(.int p4)])) _
    refine XS.aloadN X38.here hx rfl (hb hby d_prog_87_method_7_code_27) rfl rfl ?_
    show Steps p.tables e below (T38.setTop (mkF m 28 #[.val (.ref a1), .val (.ref a2), .val (.ref a2)] [(.ref a1), (.int p4)])) _
    refine st39 _ ?_
    show Steps p.tables e below (T39.setTop (mkF m 31 #[.val (.ref a1), .val (.ref a2), .val (.ref a2)] [(.int p2), (.int p4)])) _
    refine XS.icmpNo X39.here hx rfl (hb hby d_prog_87_method_7_code_31) rfl (teq (Eq.symm rl1)).2 ?_
    show Steps p.tables e below (T39.setTop (mkF m 34 #[.val (.ref a1), .val (.ref a2), .val (.ref a2)] [])) _
    refine XS.iconst X39.here hx rfl (hb hby d_prog_87_method_7_code_34) ?_
    show Steps p.tables e below (T39.setTop (mkF m 35 #[.val (.ref a1), .val (.ref a2), .val (.ref a2)] [(.int (1 : Int32))])) _
    refine XS.goto X39.here hx rfl (pc0 := 35) (pc' := 39) rfl (hb hby d_prog_87_method_7_code_35) (by decide) (by decide) ?_
    show Steps p.tables e below (T39.setTop (mkF m 39 #[.val (.ref a1), .val (.ref a2), .val (.ref a2)] [(.int (1 : Int32))])) _
    exact retN X39 hx (t := .boolean) Bd.returns (by simp) (hb hby d_prog_87_method_7_code_39) hr
  · show Qp (some (.int (1 : Int32))) h0 n0 _ T39.heap _
    rw [e39]
    exact ⟨rfl, N0, rfl⟩
theorem pd2 : parseMethodDescriptor "(Ljava/lang/Object;)Z" = some ⟨[(.object "java/lang/Object")], some .boolean⟩ := by decide +kernel
set_option maxRecDepth 65536 in
set_option maxHeartbeats 40000000 in
theorem rm4 (l : Launch) (Z : State) (a0 : Array Value) (hw : ∀ d ∈ tables_1, d.before a0 Z = true) (ws : List Jvm.Cond) (wc : Addr) (p1 p2 p3 p4 : Int32) (a1 a2 : Addr) (h0 : Heap) (n0 : Nat) (hWd : Wd Z wc) (O0 : Old Z n0 h0) (rl0 : p3 = p1) (rl1 : p4 = p2) (E_a1 : Exa Z h0 a1 "com/example/vestwright/vestwright/model/VestingDay") (F_a1_vestingStartDay : Fld Z h0 a1 "com/example/vestwright/vestwright/model/VestingDay" "vestingStartDay" "Z" (.int p1)) (F_a1_day : Fld Z h0 a1 "com/example/vestwright/vestwright/model/VestingDay" "day" "I" (.int p2)) (g_a1 : n0 ≤ a1) (E_a2 : Exa Z h0 a2 "com/example/vestwright/vestwright/model/VestingDay") (F_a2_vestingStartDay : Fld Z h0 a2 "com/example/vestwright/vestwright/model/VestingDay" "vestingStartDay" "Z" (.int p3)) (F_a2_day : Fld Z h0 a2 "com/example/vestwright/vestwright/model/VestingDay" "day" "I" (.int p4)) (g_a2 : n0 ≤ a2) :
    MetFree l (⟨"com/example/vestwright/vestwright/model/VestingDay", "equals", "(Ljava/lang/Object;)Z"⟩ : MethodName) (head1 (Jvm.Cond.code (⟨"com/example/vestwright/vestwright/model/VestingDay", "equals", "(Ljava/lang/Object;)Z"⟩ : MethodName) prog_87_method_7_code 3 (some .boolean) :: ws) ({ frames := 0, cells := 0, slots := 0, locals := 0 } : Room)) (fun a U => a = #[(.ref a1), (.ref a2)] ∧ Z.Warmed39 U.vm ∧ U.heap = h0) (fun _ _ _ _ _ => True) (fun _ U o U' => ∃ v L, o = .returned v ∧ Qp (some (.int (1 : Int32))) h0 n0 v U'.heap L ∧ FrameEnd U o U' L ({ frames := 0, cells := 0, slots := 0, locals := 0 } : Room).cells ({ frames := 0, cells := 0, slots := 0, locals := 0 } : Room).slots) := by
  refine MetFree.of_bodySF (plainFor_of_name pn1) hisR ?_
  intro p e s m args below meth c s₁ Bd hml0 hP hK
  obtain ⟨rfl, hZ, hh⟩ := hP
  have hx := Bd.exec
  have hby := Bd.bytes
  have hml : c.maxLocals = 3 := hml0
  have hown : s.vm.findClass "com/example/vestwright/vestwright/model/VestingDay" = some m.cls := findClass_of_methodNamed Bd.named
  have hnm := (name_of_methodNamed Bd.named Bd.method).1
  have X0 : Stand p l e ({ frames := 0, cells := 0, slots := 0, locals := 0 } : Room) s m #[(.ref a1), (.ref a2)] below meth c s₁ [] 0 0 := Stand.of_body Bd
  have e0 : s₁.heap = h0 := by rw [← hh, Bd.state]; rfl
  have N0 := Fr.nil n0
  have hlk := Bd.notSynchronized
  obtain ⟨wSh, wSc, wB, -⟩ := id hWd
  have pre0 : ∀ t, Steps p.tables e below (s₁.setTop (mkF m 0 #[.val (.ref a1), .val (.ref a2), .unset] [])) t → Steps p.tables e below (s₁.setTop (entryFrame m #[(.ref a1), (.ref a2)] 3)) t := fun t k => castTop (ef2 m a1 a2) k
  obtain ⟨T41, X41, e41, st41⟩ := instY X0 hx hZ hown (hw _ (List.mem_of_getElem? (i := 30) rfl)) e0 (Ins.self E_a2) (g := (mkF m 1 #[.val (.ref a1), .val (.ref a2), .unset] [(.ref a2)])) rfl rfl (hb hby d_prog_87_method_7_code_1)
  obtain ⟨T42, X42, e42, st42⟩ := castY X41 hx hZ hown (hw _ (List.mem_of_getElem? (i := 30) rfl)) e41 (Ins.self E_a2) (g := (mkF m 8 #[.val (.ref a1), .val (.ref a2), .unset] [(.ref a2)])) rfl rfl (hb hby d_prog_87_method_7_code_8)
  obtain ⟨T43, X43, e43, st43⟩ := getF X42 hx hZ hown (host := "") (Or.inl (hw _ (List.mem_of_getElem? (i := 14) rfl))) Via.refl e42 F_a2_vestingStartDay (g := (mkF m 13 #[.val (.ref a1), .val (.ref a2), .val (.ref a2)] [(.ref a2)])) rfl rfl (hb hby d_prog_87_method_7_code_13)
  obtain ⟨T44, X44, e44, st44⟩ := getF X43 hx hZ hown (host := "") (Or.inl (hw _ (List.mem_of_getElem? (i := 14) rfl))) Via.refl e43 F_a1_vestingStartDay (g := (mkF m 17 #[.val (.ref a1), .val (.ref a2), .val (.ref a2)] [(.ref a1), (.int p3)])) rfl rfl (hb hby d_prog_87_method_7_code_17)
  obtain ⟨T45, X45, e45, st45⟩ := getF X44 hx hZ hown (host := "") (Or.inl (hw _ (List.mem_of_getElem? (i := 16) rfl))) Via.refl e44 F_a2_day (g := (mkF m 24 #[.val (.ref a1), .val (.ref a2), .val (.ref a2)] [(.ref a2)])) rfl rfl (hb hby d_prog_87_method_7_code_24)
  obtain ⟨T46, X46, e46, st46⟩ := getF X45 hx hZ hown (host := "") (Or.inl (hw _ (List.mem_of_getElem? (i := 16) rfl))) Via.refl e45 F_a1_day (g := (mkF m 28 #[.val (.ref a1), .val (.ref a2), .val (.ref a2)] [(.ref a1), (.int p4)])) rfl rfl (hb hby d_prog_87_method_7_code_28)
  obtain ⟨fs, hr, hrun, hended, hWr, hsame⟩ := X46.leave (v := some (.int (1 : Int32))) (fun h => by rw [Bd.returns] at h; cases h) hlk
  refine ⟨_, _, pre0 _ ?_, hrun, hended, _, _, rfl, ?_, ⟨_, rfl⟩, hWr, hsame.mono (Nat.le_of_ble_eq_true rfl) (Nat.le_of_ble_eq_true rfl)⟩
  · show Steps p.tables e below (s₁.setTop (mkF m 0 #[.val (.ref a1), .val (.ref a2), .unset] [])) _
    refine XS.aloadN X0.here hx rfl (hb hby d_prog_87_method_7_code_0) rfl rfl ?_
    show Steps p.tables e below (s₁.setTop (mkF m 1 #[.val (.ref a1), .val (.ref a2), .unset] [(.ref a2)])) _
    refine st41 _ ?_
    show Steps p.tables e below (T41.setTop (mkF m 4 #[.val (.ref a1), .val (.ref a2), .unset] [(.int (1 : Int32))])) _
    refine XS.ifNo X41.here hx rfl (hb hby d_prog_87_method_7_code_4) rfl (by decide) ?_
    show Steps p.tables e below (T41.setTop (mkF m 7 #[.val (.ref a1), .val (.ref a2), .unset] [])) _
    refine XS.aloadN X41.here hx rfl (hb hby d_prog_87_method_7_code_7) rfl rfl ?_
    show Steps p.tables e below (T41.setTop (mkF m 8 #[.val (.ref a1), .val (.ref a2), .unset] [(.ref a2)])) _
    refine st42 _ ?_
    show Steps p.tables e below (T42.setTop (mkF m 11 #[.val (.ref a1), .val (.ref a2), .unset] [(.ref a2)])) _
    refine XS.astoreN X42.here hx rfl (hb hby d_prog_87_method_7_code_11) rfl rfl (l' := #[.val (.ref a1), .val (.ref a2), .val (.ref a2)]) rfl ?_
    show Steps p.tables e below (T42.setTop (mkF m 12 #[.val (.ref a1), .val (.ref a2), .val (.ref a2)] [])) _
    refine XS.aloadN X42.here hx rfl (hb hby d_prog_87_method_7_code_12) rfl rfl ?_
    show Steps p.tables e below (T42.setTop (mkF m 13 #[.val (.ref a1), .val (.ref a2), .val (.ref a2)] [(.ref a2)])) _
    refine st43 _ ?_
    show Steps p.tables e below (T43.setTop (mkF m 16 #[.val (.ref a1), .val (.ref a2), .val (.ref a2)] [(.int p3)])) _
    refine XS.aloadN X43.here hx rfl (hb hby d_prog_87_method_7_code_16) rfl rfl ?_
    show Steps p.tables e below (T43.setTop (mkF m 17 #[.val (.ref a1), .val (.ref a2), .val (.ref a2)] [(.ref a1), (.int p3)])) _
    refine st44 _ ?_
    show Steps p.tables e below (T44.setTop (mkF m 20 #[.val (.ref a1), .val (.ref a2), .val (.ref a2)] [(.int p1), (.int p3)])) _
    refine XS.icmpNo X44.here hx rfl (hb hby d_prog_87_method_7_code_20) rfl (teq rl0).2 ?_
    show Steps p.tables e below (T44.setTop (mkF m 23 #[.val (.ref a1), .val (.ref a2), .val (.ref a2)] [])) _
    refine XS.aloadN X44.here hx rfl (hb hby d_prog_87_method_7_code_23) rfl rfl ?_
    show Steps p.tables e below (T44.setTop (mkF m 24 #[.val (.ref a1), .val (.ref a2), .val (.ref a2)] [(.ref a2)])) _
    refine st45 _ ?_
    show Steps p.tables e below (T45.setTop (mkF m 27 #[.val (.ref a1), .val (.ref a2), .val (.ref a2)] [(.int p4)])) _
    refine XS.aloadN X45.here hx rfl (hb hby d_prog_87_method_7_code_27) rfl rfl ?_
    show Steps p.tables e below (T45.setTop (mkF m 28 #[.val (.ref a1), .val (.ref a2), .val (.ref a2)] [(.ref a1), (.int p4)])) _
    refine st46 _ ?_
    show Steps p.tables e below (T46.setTop (mkF m 31 #[.val (.ref a1), .val (.ref a2), .val (.ref a2)] [(.int p2), (.int p4)])) _
    refine XS.icmpNo X46.here hx rfl (hb hby d_prog_87_method_7_code_31) rfl (teq rl1).2 ?_
    show Steps p.tables e below (T46.setTop (mkF m 34 #[.val (.ref a1), .val (.ref a2), .val (.ref a2)] [])) _
    refine XS.iconst X46.here hx rfl (hb hby d_prog_87_method_7_code_34) ?_
    show Steps p.tables e below (T46.setTop (mkF m 35 #[.val (.ref a1), .val (.ref a2), .val (.ref a2)] [(.int (1 : Int32))])) _
    refine XS.goto X46.here hx rfl (pc0 := 35) (pc' := 39) rfl (hb hby d_prog_87_method_7_code_35) (by decide) (by decide) ?_
    show Steps p.tables e below (T46.setTop (mkF m 39 #[.val (.ref a1), .val (.ref a2), .val (.ref a2)] [(.int (1 : Int32))])) _
    exact retN X46 hx (t := .boolean) Bd.returns (by simp) (hb hby d_prog_87_method_7_code_39) hr
  · show Qp (some (.int (1 : Int32))) h0 n0 _ T46.heap _
    rw [e46]
    exact ⟨rfl, N0, rfl⟩
theorem d_prog_87_method_7_code_38 : decode prog_87_method_7_code 38 = .ok (.iconst 0, 1) := by decide +kernel
set_option maxRecDepth 65536 in
set_option maxHeartbeats 40000000 in
theorem rm5 (l : Launch) (Z : State) (a0 : Array Value) (hw : ∀ d ∈ tables_1, d.before a0 Z = true) (ws : List Jvm.Cond) (wc : Addr) (p1 p2 p3 p4 : Int32) (a1 a2 : Addr) (h0 : Heap) (n0 : Nat) (hWd : Wd Z wc) (O0 : Old Z n0 h0) (rl0 : p1 = p3) (rl1 : ¬ (p2 = p4)) (E_a1 : Exa Z h0 a1 "com/example/vestwright/vestwright/model/VestingDay") (F_a1_vestingStartDay : Fld Z h0 a1 "com/example/vestwright/vestwright/model/VestingDay" "vestingStartDay" "Z" (.int p1)) (F_a1_day : Fld Z h0 a1 "com/example/vestwright/vestwright/model/VestingDay" "day" "I" (.int p2)) (g_a1 : n0 ≤ a1) (E_a2 : Exa Z h0 a2 "com/example/vestwright/vestwright/model/VestingDay") (F_a2_vestingStartDay : Fld Z h0 a2 "com/example/vestwright/vestwright/model/VestingDay" "vestingStartDay" "Z" (.int p3)) (F_a2_day : Fld Z h0 a2 "com/example/vestwright/vestwright/model/VestingDay" "day" "I" (.int p4)) (g_a2 : n0 ≤ a2) :
    MetFree l (⟨"com/example/vestwright/vestwright/model/VestingDay", "equals", "(Ljava/lang/Object;)Z"⟩ : MethodName) (head1 (Jvm.Cond.code (⟨"com/example/vestwright/vestwright/model/VestingDay", "equals", "(Ljava/lang/Object;)Z"⟩ : MethodName) prog_87_method_7_code 3 (some .boolean) :: ws) ({ frames := 0, cells := 0, slots := 0, locals := 0 } : Room)) (fun a U => a = #[(.ref a1), (.ref a2)] ∧ Z.Warmed39 U.vm ∧ U.heap = h0) (fun _ _ _ _ _ => True) (fun _ U o U' => ∃ v L, o = .returned v ∧ Qp (some (.int (0 : Int32))) h0 n0 v U'.heap L ∧ FrameEnd U o U' L ({ frames := 0, cells := 0, slots := 0, locals := 0 } : Room).cells ({ frames := 0, cells := 0, slots := 0, locals := 0 } : Room).slots) := by
  refine MetFree.of_bodySF (plainFor_of_name pn1) hisR ?_
  intro p e s m args below meth c s₁ Bd hml0 hP hK
  obtain ⟨rfl, hZ, hh⟩ := hP
  have hx := Bd.exec
  have hby := Bd.bytes
  have hml : c.maxLocals = 3 := hml0
  have hown : s.vm.findClass "com/example/vestwright/vestwright/model/VestingDay" = some m.cls := findClass_of_methodNamed Bd.named
  have hnm := (name_of_methodNamed Bd.named Bd.method).1
  have X0 : Stand p l e ({ frames := 0, cells := 0, slots := 0, locals := 0 } : Room) s m #[(.ref a1), (.ref a2)] below meth c s₁ [] 0 0 := Stand.of_body Bd
  have e0 : s₁.heap = h0 := by rw [← hh, Bd.state]; rfl
  have N0 := Fr.nil n0
  have hlk := Bd.notSynchronized
  obtain ⟨wSh, wSc, wB, -⟩ := id hWd
  have pre0 : ∀ t, Steps p.tables e below (s₁.setTop (mkF m 0 #[.val (.ref a1), .val (.ref a2), .unset] [])) t → Steps p.tables e below (s₁.setTop (entryFrame m #[(.ref a1), (.ref a2)] 3)) t := fun t k => castTop (ef2 m a1 a2) k
  obtain ⟨T48, X48, e48, st48⟩ := instY X0 hx hZ hown (hw _ (List.mem_of_getElem? (i := 30) rfl)) e0 (Ins.self E_a2) (g := (mkF m 1 #[.val (.ref a1), .val (.ref a2), .unset] [(.ref a2)])) rfl rfl (hb hby d_prog_87_method_7_code_1)
  obtain ⟨T49, X49, e49, st49⟩ := castY X48 hx hZ hown (hw _ (List.mem_of_getElem? (i := 30) rfl)) e48 (Ins.self E_a2) (g := (mkF m 8 #[.val (.ref a1), .val (.ref a2), .unset] [(.ref a2)])) rfl rfl (hb hby d_prog_87_method_7_code_8)
  obtain ⟨T50, X50, e50, st50⟩ := getF X49 hx hZ hown (host := "") (Or.inl (hw _ (List.mem_of_getElem? (i := 14) rfl))) Via.refl e49 F_a2_vestingStartDay (g := (mkF m 13 #[.val (.ref a1), .val (.ref a2), .val (.ref a2)] [(.ref a2)])) rfl rfl (hb hby d_prog_87_method_7_code_13)
  obtain ⟨T51, X51, e51, st51⟩ := getF X50 hx hZ hown (host := "") (Or.inl (hw _ (List.mem_of_getElem? (i := 14) rfl))) Via.refl e50 F_a1_vestingStartDay (g := (mkF m 17 #[.val (.ref a1), .val (.ref a2), .val (.ref a2)] [(.ref a1), (.int p3)])) rfl rfl (hb hby d_prog_87_method_7_code_17)
  obtain ⟨T52, X52, e52, st52⟩ := getF X51 hx hZ hown (host := "") (Or.inl (hw _ (List.mem_of_getElem? (i := 16) rfl))) Via.refl e51 F_a2_day (g := (mkF m 24 #[.val (.ref a1), .val (.ref a2), .val (.ref a2)] [(.ref a2)])) rfl rfl (hb hby d_prog_87_method_7_code_24)
  obtain ⟨T53, X53, e53, st53⟩ := getF X52 hx hZ hown (host := "") (Or.inl (hw _ (List.mem_of_getElem? (i := 16) rfl))) Via.refl e52 F_a1_day (g := (mkF m 28 #[.val (.ref a1), .val (.ref a2), .val (.ref a2)] [(.ref a1), (.int p4)])) rfl rfl (hb hby d_prog_87_method_7_code_28)
  obtain ⟨fs, hr, hrun, hended, hWr, hsame⟩ := X53.leave (v := some (.int (0 : Int32))) (fun h => by rw [Bd.returns] at h; cases h) hlk
  refine ⟨_, _, pre0 _ ?_, hrun, hended, _, _, rfl, ?_, ⟨_, rfl⟩, hWr, hsame.mono (Nat.le_of_ble_eq_true rfl) (Nat.le_of_ble_eq_true rfl)⟩
  · show Steps p.tables e below (s₁.setTop (mkF m 0 #[.val (.ref a1), .val (.ref a2), .unset] [])) _
    refine XS.aloadN X0.here hx rfl (hb hby d_prog_87_method_7_code_0) rfl rfl ?_
    show Steps p.tables e below (s₁.setTop (mkF m 1 #[.val (.ref a1), .val (.ref a2), .unset] [(.ref a2)])) _
    refine st48 _ ?_
    show Steps p.tables e below (T48.setTop (mkF m 4 #[.val (.ref a1), .val (.ref a2), .unset] [(.int (1 : Int32))])) _
    refine XS.ifNo X48.here hx rfl (hb hby d_prog_87_method_7_code_4) rfl (by decide) ?_
    show Steps p.tables e below (T48.setTop (mkF m 7 #[.val (.ref a1), .val (.ref a2), .unset] [])) _
    refine XS.aloadN X48.here hx rfl (hb hby d_prog_87_method_7_code_7) rfl rfl ?_
    show Steps p.tables e below (T48.setTop (mkF m 8 #[.val (.ref a1), .val (.ref a2), .unset] [(.ref a2)])) _
    refine st49 _ ?_
    show Steps p.tables e below (T49.setTop (mkF m 11 #[.val (.ref a1), .val (.ref a2), .unset] [(.ref a2)])) _
    refine XS.astoreN X49.here hx rfl (hb hby d_prog_87_method_7_code_11) rfl rfl (l' := #[.val (.ref a1), .val (.ref a2), .val (.ref a2)]) rfl ?_
    show Steps p.tables e below (T49.setTop (mkF m 12 #[.val (.ref a1), .val (.ref a2), .val (.ref a2)] [])) _
    refine XS.aloadN X49.here hx rfl (hb hby d_prog_87_method_7_code_12) rfl rfl ?_
    show Steps p.tables e below (T49.setTop (mkF m 13 #[.val (.ref a1), .val (.ref a2), .val (.ref a2)] [(.ref a2)])) _
    refine st50 _ ?_
    show Steps p.tables e below (T50.setTop (mkF m 16 #[.val (.ref a1), .val (.ref a2), .val (.ref a2)] [(.int p3)])) _
    refine XS.aloadN X50.here hx rfl (hb hby d_prog_87_method_7_code_16) rfl rfl ?_
    show Steps p.tables e below (T50.setTop (mkF m 17 #[.val (.ref a1), .val (.ref a2), .val (.ref a2)] [(.ref a1), (.int p3)])) _
    refine st51 _ ?_
    show Steps p.tables e below (T51.setTop (mkF m 20 #[.val (.ref a1), .val (.ref a2), .val (.ref a2)] [(.int p1), (.int p3)])) _
    refine XS.icmpNo X51.here hx rfl (hb hby d_prog_87_method_7_code_20) rfl (teq (Eq.symm rl0)).2 ?_
    show Steps p.tables e below (T51.setTop (mkF m 23 #[.val (.ref a1), .val (.ref a2), .val (.ref a2)] [])) _
    refine XS.aloadN X51.here hx rfl (hb hby d_prog_87_method_7_code_23) rfl rfl ?_
    show Steps p.tables e below (T51.setTop (mkF m 24 #[.val (.ref a1), .val (.ref a2), .val (.ref a2)] [(.ref a2)])) _
    refine st52 _ ?_
    show Steps p.tables e below (T52.setTop (mkF m 27 #[.val (.ref a1), .val (.ref a2), .val (.ref a2)] [(.int p4)])) _
    refine XS.aloadN X52.here hx rfl (hb hby d_prog_87_method_7_code_27) rfl rfl ?_
    show Steps p.tables e below (T52.setTop (mkF m 28 #[.val (.ref a1), .val (.ref a2), .val (.ref a2)] [(.ref a1), (.int p4)])) _
    refine st53 _ ?_
    show Steps p.tables e below (T53.setTop (mkF m 31 #[.val (.ref a1), .val (.ref a2), .val (.ref a2)] [(.int p2), (.int p4)])) _
    refine XS.icmpYes X53.here hx rfl (pc0 := 31) (pc' := 38) rfl (hb hby d_prog_87_method_7_code_31) rfl (feq (fun q => rl1 (Eq.symm q))).2 (by decide) (by decide) ?_
    show Steps p.tables e below (T53.setTop (mkF m 38 #[.val (.ref a1), .val (.ref a2), .val (.ref a2)] [])) _
    refine XS.iconst X53.here hx rfl (hb hby d_prog_87_method_7_code_38) ?_
    show Steps p.tables e below (T53.setTop (mkF m 39 #[.val (.ref a1), .val (.ref a2), .val (.ref a2)] [(.int (0 : Int32))])) _
    exact retN X53 hx (t := .boolean) Bd.returns (by simp) (hb hby d_prog_87_method_7_code_39) hr
  · show Qp (some (.int (0 : Int32))) h0 n0 _ T53.heap _
    rw [e53]
    exact ⟨rfl, N0, rfl⟩
set_option maxRecDepth 65536 in
set_option maxHeartbeats 40000000 in
theorem rm6 (l : Launch) (Z : State) (a0 : Array Value) (hw : ∀ d ∈ tables_1, d.before a0 Z = true) (ws : List Jvm.Cond) (wc : Addr) (p1 p2 p3 p4 : Int32) (a1 a2 : Addr) (h0 : Heap) (n0 : Nat) (hWd : Wd Z wc) (O0 : Old Z n0 h0) (rl0 : p3 = p1) (rl1 : ¬ (p4 = p2)) (E_a1 : Exa Z h0 a1 "com/example/vestwright/vestwright/model/VestingDay") (F_a1_vestingStartDay : Fld Z h0 a1 "com/example/vestwright/vestwright/model/VestingDay" "vestingStartDay" "Z" (.int p1)) (F_a1_day : Fld Z h0 a1 "com/example/vestwright/vestwright/model/VestingDay" "day" "I" (.int p2)) (g_a1 : n0 ≤ a1) (E_a2 : Exa Z h0 a2 "com/example/vestwright/vestwright/model/VestingDay") (F_a2_vestingStartDay : Fld Z h0 a2 "com/example/vestwright/vestwright/model/VestingDay" "vestingStartDay" "Z" (.int p3)) (F_a2_day : Fld Z h0 a2 "com/example/vestwright/vestwright/model/VestingDay" "day" "I" (.int p4)) (g_a2 : n0 ≤ a2) :
    MetFree l (⟨"com/example/vestwright/vestwright/model/VestingDay", "equals", "(Ljava/lang/Object;)Z"⟩ : MethodName) (head1 (Jvm.Cond.code (⟨"com/example/vestwright/vestwright/model/VestingDay", "equals", "(Ljava/lang/Object;)Z"⟩ : MethodName) prog_87_method_7_code 3 (some .boolean) :: ws) ({ frames := 0, cells := 0, slots := 0, locals := 0 } : Room)) (fun a U => a = #[(.ref a1), (.ref a2)] ∧ Z.Warmed39 U.vm ∧ U.heap = h0) (fun _ _ _ _ _ => True) (fun _ U o U' => ∃ v L, o = .returned v ∧ Qp (some (.int (0 : Int32))) h0 n0 v U'.heap L ∧ FrameEnd U o U' L ({ frames := 0, cells := 0, slots := 0, locals := 0 } : Room).cells ({ frames := 0, cells := 0, slots := 0, locals := 0 } : Room).slots) := by
  refine MetFree.of_bodySF (plainFor_of_name pn1) hisR ?_
  intro p e s m args below meth c s₁ Bd hml0 hP hK
  obtain ⟨rfl, hZ, hh⟩ := hP
  have hx := Bd.exec
  have hby := Bd.bytes
  have hml : c.maxLocals = 3 := hml0
  have hown : s.vm.findClass "com/example/vestwright/vestwright/model/VestingDay" = some m.cls := findClass_of_methodNamed Bd.named
  have hnm := (name_of_methodNamed Bd.named Bd.method).1
  have X0 : Stand p l e ({ frames := 0, cells := 0, slots := 0, locals := 0 } : Room) s m #[(.ref a1), (.ref a2)] below meth c s₁ [] 0 0 := Stand.of_body Bd
  have e0 : s₁.heap = h0 := by rw [← hh, Bd.state]; rfl
  have N0 := Fr.nil n0
  have hlk := Bd.notSynchronized
  obtain ⟨wSh, wSc, wB, -⟩ := id hWd
  have pre0 : ∀ t, Steps p.tables e below (s₁.setTop (mkF m 0 #[.val (.ref a1), .val (.ref a2), .unset] [])) t → Steps p.tables e below (s₁.setTop (entryFrame m #[(.ref a1), (.ref a2)] 3)) t := fun t k => castTop (ef2 m a1 a2) k
  obtain ⟨T55, X55, e55, st55⟩ := instY X0 hx hZ hown (hw _ (List.mem_of_getElem? (i := 30) rfl)) e0 (Ins.self E_a2) (g := (mkF m 1 #[.val (.ref a1), .val (.ref a2), .unset] [(.ref a2)])) rfl rfl (hb hby d_prog_87_method_7_code_1)
  obtain ⟨T56, X56, e56, st56⟩ := castY X55 hx hZ hown (hw _ (List.mem_of_getElem? (i := 30) rfl)) e55 (Ins.self E_a2) (g := (mkF m 8 #[.val (.ref a1), .val (.ref a2), .unset] [(.ref a2)])) rfl rfl (hb hby d_prog_87_method_7_code_8)
  obtain ⟨T57, X57, e57, st57⟩ := getF X56 hx hZ hown (host := "") (Or.inl (hw _ (List.mem_of_getElem? (i := 14) rfl))) Via.refl e56 F_a2_vestingStartDay (g := (mkF m 13 #[.val (.ref a1), .val (.ref a2), .val (.ref a2)] [(.ref a2)])) rfl rfl (hb hby d_prog_87_method_7_code_13)
  obtain ⟨T58, X58, e58, st58⟩ := getF X57 hx hZ hown (host := "") (Or.inl (hw _ (List.mem_of_getElem? (i := 14) rfl))) Via.refl e57 F_a1_vestingStartDay (g := (mkF m 17 #[.val (.ref a1), .val (.ref a2), .val (.ref a2)] [(.ref a1), (.int p3)])) rfl rfl (hb hby d_prog_87_method_7_code_17)
  obtain ⟨T59, X59, e59, st59⟩ := getF X58 hx hZ hown (host := "") (Or.inl (hw _ (List.mem_of_getElem? (i := 16) rfl))) Via.refl e58 F_a2_day (g := (mkF m 24 #[.val (.ref a1), .val (.ref a2), .val (.ref a2)] [(.ref a2)])) rfl rfl (hb hby d_prog_87_method_7_code_24)
  obtain ⟨T60, X60, e60, st60⟩ := getF X59 hx hZ hown (host := "") (Or.inl (hw _ (List.mem_of_getElem? (i := 16) rfl))) Via.refl e59 F_a1_day (g := (mkF m 28 #[.val (.ref a1), .val (.ref a2), .val (.ref a2)] [(.ref a1), (.int p4)])) rfl rfl (hb hby d_prog_87_method_7_code_28)
  obtain ⟨fs, hr, hrun, hended, hWr, hsame⟩ := X60.leave (v := some (.int (0 : Int32))) (fun h => by rw [Bd.returns] at h; cases h) hlk
  refine ⟨_, _, pre0 _ ?_, hrun, hended, _, _, rfl, ?_, ⟨_, rfl⟩, hWr, hsame.mono (Nat.le_of_ble_eq_true rfl) (Nat.le_of_ble_eq_true rfl)⟩
  · show Steps p.tables e below (s₁.setTop (mkF m 0 #[.val (.ref a1), .val (.ref a2), .unset] [])) _
    refine XS.aloadN X0.here hx rfl (hb hby d_prog_87_method_7_code_0) rfl rfl ?_
    show Steps p.tables e below (s₁.setTop (mkF m 1 #[.val (.ref a1), .val (.ref a2), .unset] [(.ref a2)])) _
    refine st55 _ ?_
    show Steps p.tables e below (T55.setTop (mkF m 4 #[.val (.ref a1), .val (.ref a2), .unset] [(.int (1 : Int32))])) _
    refine XS.ifNo X55.here hx rfl (hb hby d_prog_87_method_7_code_4) rfl (by decide) ?_
    show Steps p.tables e below (T55.setTop (mkF m 7 #[.val (.ref a1), .val (.ref a2), .unset] [])) _
    refine XS.aloadN X55.here hx rfl (hb hby d_prog_87_method_7_code_7) rfl rfl ?_
    show Steps p.tables e below (T55.setTop (mkF m 8 #[.val (.ref a1), .val (.ref a2), .unset] [(.ref a2)])) _
    refine st56 _ ?_
    show Steps p.tables e below (T56.setTop (mkF m 11 #[.val (.ref a1), .val (.ref a2), .unset] [(.ref a2)])) _
    refine XS.astoreN X56.here hx rfl (hb hby d_prog_87_method_7_code_11) rfl rfl (l' := #[.val (.ref a1), .val (.ref a2), .val (.ref a2)]) rfl ?_
    show Steps p.tables e below (T56.setTop (mkF m 12 #[.val (.ref a1), .val (.ref a2), .val (.ref a2)] [])) _
    refine XS.aloadN X56.here hx rfl (hb hby d_prog_87_method_7_code_12) rfl rfl ?_
    show Steps p.tables e below (T56.setTop (mkF m 13 #[.val (.ref a1), .val (.ref a2), .val (.ref a2)] [(.ref a2)])) _
    refine st57 _ ?_
    show Steps p.tables e below (T57.setTop (mkF m 16 #[.val (.ref a1), .val (.ref a2), .val (.ref a2)] [(.int p3)])) _
    refine XS.aloadN X57.here hx rfl (hb hby d_prog_87_method_7_code_16) rfl rfl ?_
    show Steps p.tables e below (T57.setTop (mkF m 17 #[.val (.ref a1), .val (.ref a2), .val (.ref a2)] [(.ref a1), (.int p3)])) _
    refine st58 _ ?_
    show Steps p.tables e below (T58.setTop (mkF m 20 #[.val (.ref a1), .val (.ref a2), .val (.ref a2)] [(.int p1), (.int p3)])) _
    refine XS.icmpNo X58.here hx rfl (hb hby d_prog_87_method_7_code_20) rfl (teq rl0).2 ?_
    show Steps p.tables e below (T58.setTop (mkF m 23 #[.val (.ref a1), .val (.ref a2), .val (.ref a2)] [])) _
    refine XS.aloadN X58.here hx rfl (hb hby d_prog_87_method_7_code_23) rfl rfl ?_
    show Steps p.tables e below (T58.setTop (mkF m 24 #[.val (.ref a1), .val (.ref a2), .val (.ref a2)] [(.ref a2)])) _
    refine st59 _ ?_
    show Steps p.tables e below (T59.setTop (mkF m 27 #[.val (.ref a1), .val (.ref a2), .val (.ref a2)] [(.int p4)])) _
    refine XS.aloadN X59.here hx rfl (hb hby d_prog_87_method_7_code_27) rfl rfl ?_
    show Steps p.tables e below (T59.setTop (mkF m 28 #[.val (.ref a1), .val (.ref a2), .val (.ref a2)] [(.ref a1), (.int p4)])) _
    refine st60 _ ?_
    show Steps p.tables e below (T60.setTop (mkF m 31 #[.val (.ref a1), .val (.ref a2), .val (.ref a2)] [(.int p2), (.int p4)])) _
    refine XS.icmpYes X60.here hx rfl (pc0 := 31) (pc' := 38) rfl (hb hby d_prog_87_method_7_code_31) rfl (feq rl1).2 (by decide) (by decide) ?_
    show Steps p.tables e below (T60.setTop (mkF m 38 #[.val (.ref a1), .val (.ref a2), .val (.ref a2)] [])) _
    refine XS.iconst X60.here hx rfl (hb hby d_prog_87_method_7_code_38) ?_
    show Steps p.tables e below (T60.setTop (mkF m 39 #[.val (.ref a1), .val (.ref a2), .val (.ref a2)] [(.int (0 : Int32))])) _
    exact retN X60 hx (t := .boolean) Bd.returns (by simp) (hb hby d_prog_87_method_7_code_39) hr
  · show Qp (some (.int (0 : Int32))) h0 n0 _ T60.heap _
    rw [e60]
    exact ⟨rfl, N0, rfl⟩
set_option maxRecDepth 65536 in
set_option maxHeartbeats 40000000 in
theorem rm7 (l : Launch) (Z : State) (a0 : Array Value) (hw : ∀ d ∈ tables_1, d.before a0 Z = true) (ws : List Jvm.Cond) (wc : Addr) (p1 p2 p3 p4 : Int32) (a1 a2 : Addr) (h0 : Heap) (n0 : Nat) (hWd : Wd Z wc) (O0 : Old Z n0 h0) (rl0 : ¬ (p1 = p3)) (E_a1 : Exa Z h0 a1 "com/example/vestwright/vestwright/model/VestingDay") (F_a1_vestingStartDay : Fld Z h0 a1 "com/example/vestwright/vestwright/model/VestingDay" "vestingStartDay" "Z" (.int p1)) (F_a1_day : Fld Z h0 a1 "com/example/vestwright/vestwright/model/VestingDay" "day" "I" (.int p2)) (g_a1 : n0 ≤ a1) (E_a2 : Exa Z h0 a2 "com/example/vestwright/vestwright/model/VestingDay") (F_a2_vestingStartDay : Fld Z h0 a2 "com/example/vestwright/vestwright/model/VestingDay" "vestingStartDay" "Z" (.int p3)) (F_a2_day : Fld Z h0 a2 "com/example/vestwright/vestwright/model/VestingDay" "day" "I" (.int p4)) (g_a2 : n0 ≤ a2) :
    MetFree l (⟨"com/example/vestwright/vestwright/model/VestingDay", "equals", "(Ljava/lang/Object;)Z"⟩ : MethodName) (head1 (Jvm.Cond.code (⟨"com/example/vestwright/vestwright/model/VestingDay", "equals", "(Ljava/lang/Object;)Z"⟩ : MethodName) prog_87_method_7_code 3 (some .boolean) :: ws) ({ frames := 0, cells := 0, slots := 0, locals := 0 } : Room)) (fun a U => a = #[(.ref a1), (.ref a2)] ∧ Z.Warmed39 U.vm ∧ U.heap = h0) (fun _ _ _ _ _ => True) (fun _ U o U' => ∃ v L, o = .returned v ∧ Qp (some (.int (0 : Int32))) h0 n0 v U'.heap L ∧ FrameEnd U o U' L ({ frames := 0, cells := 0, slots := 0, locals := 0 } : Room).cells ({ frames := 0, cells := 0, slots := 0, locals := 0 } : Room).slots) := by
  refine MetFree.of_bodySF (plainFor_of_name pn1) hisR ?_
  intro p e s m args below meth c s₁ Bd hml0 hP hK
  obtain ⟨rfl, hZ, hh⟩ := hP
  have hx := Bd.exec
  have hby := Bd.bytes
  have hml : c.maxLocals = 3 := hml0
  have hown : s.vm.findClass "com/example/vestwright/vestwright/model/VestingDay" = some m.cls := findClass_of_methodNamed Bd.named
  have hnm := (name_of_methodNamed Bd.named Bd.method).1
  have X0 : Stand p l e ({ frames := 0, cells := 0, slots := 0, locals := 0 } : Room) s m #[(.ref a1), (.ref a2)] below meth c s₁ [] 0 0 := Stand.of_body Bd
  have e0 : s₁.heap = h0 := by rw [← hh, Bd.state]; rfl
  have N0 := Fr.nil n0
  have hlk := Bd.notSynchronized
  obtain ⟨wSh, wSc, wB, -⟩ := id hWd
  have pre0 : ∀ t, Steps p.tables e below (s₁.setTop (mkF m 0 #[.val (.ref a1), .val (.ref a2), .unset] [])) t → Steps p.tables e below (s₁.setTop (entryFrame m #[(.ref a1), (.ref a2)] 3)) t := fun t k => castTop (ef2 m a1 a2) k
  obtain ⟨T62, X62, e62, st62⟩ := instY X0 hx hZ hown (hw _ (List.mem_of_getElem? (i := 30) rfl)) e0 (Ins.self E_a2) (g := (mkF m 1 #[.val (.ref a1), .val (.ref a2), .unset] [(.ref a2)])) rfl rfl (hb hby d_prog_87_method_7_code_1)
  obtain ⟨T63, X63, e63, st63⟩ := castY X62 hx hZ hown (hw _ (List.mem_of_getElem? (i := 30) rfl)) e62 (Ins.self E_a2) (g := (mkF m 8 #[.val (.ref a1), .val (.ref a2), .unset] [(.ref a2)])) rfl rfl (hb hby d_prog_87_method_7_code_8)
  obtain ⟨T64, X64, e64, st64⟩ := getF X63 hx hZ hown (host := "") (Or.inl (hw _ (List.mem_of_getElem? (i := 14) rfl))) Via.refl e63 F_a2_vestingStartDay (g := (mkF m 13 #[.val (.ref a1), .val (.ref a2), .val (.ref a2)] [(.ref a2)])) rfl rfl (hb hby d_prog_87_method_7_code_13)
  obtain ⟨T65, X65, e65, st65⟩ := getF X64 hx hZ hown (host := "") (Or.inl (hw _ (List.mem_of_getElem? (i := 14) rfl))) Via.refl e64 F_a1_vestingStartDay (g := (mkF m 17 #[.val (.ref a1), .val (.ref a2), .val (.ref a2)] [(.ref a1), (.int p3)])) rfl rfl (hb hby d_prog_87_method_7_code_17)
  obtain ⟨fs, hr, hrun, hended, hWr, hsame⟩ := X65.leave (v := some (.int (0 : Int32))) (fun h => by rw [Bd.returns] at h; cases h) hlk
  refine ⟨_, _, pre0 _ ?_, hrun, hended, _, _, rfl, ?_, ⟨_, rfl⟩, hWr, hsame.mono (Nat.le_of_ble_eq_true rfl) (Nat.le_of_ble_eq_true rfl)⟩
  · show Steps p.tables e below (s₁.setTop (mkF m 0 #[.val (.ref a1), .val (.ref a2), .unset] [])) _
    refine XS.aloadN X0.here hx rfl (hb hby d_prog_87_method_7_code_0) rfl rfl ?_
    show Steps p.tables e below (s₁.setTop (mkF m 1 #[.val (.ref a1), .val (.ref a2), .unset] [(.ref a2)])) _
    refine st62 _ ?_
    show Steps p.tables e below (T62.setTop (mkF m 4 #[.val (.ref a1), .val (.ref a2), .unset] [(.int (1 : Int32))])) _
    refine XS.ifNo X62.here hx rfl (hb hby d_prog_87_method_7_code_4) rfl (by decide) ?_
    show Steps p.tables e below (T62.setTop (mkF m 7 #[.val (.ref a1), .val (.ref a2), .unset] [])) _
    refine XS.aloadN X62.here hx rfl (hb hby d_prog_87_method_7_code_7) rfl rfl ?_
    show Steps p.tables e below (T62.setTop (mkF m 8 #[.val (.ref a1), .val (.ref a2), .unset] [(.ref a2)])) _
    refine st63 _ ?_
    show Steps p.tables e below (T63.setTop (mkF m 11 #[.val (.ref a1), .val (.ref a2), .unset] [(.ref a2)])) _
    refine XS.astoreN X63.here hx rfl (hb hby d_prog_87_method_7_code_11) rfl rfl (l' := #[.val (.ref a1), .val (.ref a2), .val (.ref a2)]) rfl ?_
    show Steps p.tables e below (T63.setTop (mkF m 12 #[.val (.ref a1), .val (.ref a2), .val (.ref a2)] [])) _
    refine XS.aloadN X63.here hx rfl (hb hby d_prog_87_method_7_code_12) rfl rfl ?_
    show Steps p.tables e below (T63.setTop (mkF m 13 #[.val (.ref a1), .val (.ref a2), .val (.ref a2)] [(.ref a2)])) _
    refine st64 _ ?_
    show Steps p.tables e below (T64.setTop (mkF m 16 #[.val (.ref a1), .val (.ref a2), .val (.ref a2)] [(.int p3)])) _
    refine XS.aloadN X64.here hx rfl (hb hby d_prog_87_method_7_code_16) rfl rfl ?_
    show Steps p.tables e below (T64.setTop (mkF m 17 #[.val (.ref a1), .val (.ref a2), .val (.ref a2)] [(.ref a1), (.int p3)])) _
    refine st65 _ ?_
    show Steps p.tables e below (T65.setTop (mkF m 20 #[.val (.ref a1), .val (.ref a2), .val (.ref a2)] [(.int p1), (.int p3)])) _
    refine XS.icmpYes X65.here hx rfl (pc0 := 20) (pc' := 38) rfl (hb hby d_prog_87_method_7_code_20) rfl (feq (fun q => rl0 (Eq.symm q))).2 (by decide) (by decide) ?_
    show Steps p.tables e below (T65.setTop (mkF m 38 #[.val (.ref a1), .val (.ref a2), .val (.ref a2)] [])) _
    refine XS.iconst X65.here hx rfl (hb hby d_prog_87_method_7_code_38) ?_
    show Steps p.tables e below (T65.setTop (mkF m 39 #[.val (.ref a1), .val (.ref a2), .val (.ref a2)] [(.int (0 : Int32))])) _
    exact retN X65 hx (t := .boolean) Bd.returns (by simp) (hb hby d_prog_87_method_7_code_39) hr
  · show Qp (some (.int (0 : Int32))) h0 n0 _ T65.heap _
    rw [e65]
    exact ⟨rfl, N0, rfl⟩
set_option maxRecDepth 65536 in
set_option maxHeartbeats 40000000 in
theorem rm8 (l : Launch) (Z : State) (a0 : Array Value) (hw : ∀ d ∈ tables_1, d.before a0 Z = true) (ws : List Jvm.Cond) (wc : Addr) (p1 p2 p3 p4 : Int32) (a1 a2 : Addr) (h0 : Heap) (n0 : Nat) (hWd : Wd Z wc) (O0 : Old Z n0 h0) (rl0 : ¬ (p3 = p1)) (E_a1 : Exa Z h0 a1 "com/example/vestwright/vestwright/model/VestingDay") (F_a1_vestingStartDay : Fld Z h0 a1 "com/example/vestwright/vestwright/model/VestingDay" "vestingStartDay" "Z" (.int p1)) (F_a1_day : Fld Z h0 a1 "com/example/vestwright/vestwright/model/VestingDay" "day" "I" (.int p2)) (g_a1 : n0 ≤ a1) (E_a2 : Exa Z h0 a2 "com/example/vestwright/vestwright/model/VestingDay") (F_a2_vestingStartDay : Fld Z h0 a2 "com/example/vestwright/vestwright/model/VestingDay" "vestingStartDay" "Z" (.int p3)) (F_a2_day : Fld Z h0 a2 "com/example/vestwright/vestwright/model/VestingDay" "day" "I" (.int p4)) (g_a2 : n0 ≤ a2) :
    MetFree l (⟨"com/example/vestwright/vestwright/model/VestingDay", "equals", "(Ljava/lang/Object;)Z"⟩ : MethodName) (head1 (Jvm.Cond.code (⟨"com/example/vestwright/vestwright/model/VestingDay", "equals", "(Ljava/lang/Object;)Z"⟩ : MethodName) prog_87_method_7_code 3 (some .boolean) :: ws) ({ frames := 0, cells := 0, slots := 0, locals := 0 } : Room)) (fun a U => a = #[(.ref a1), (.ref a2)] ∧ Z.Warmed39 U.vm ∧ U.heap = h0) (fun _ _ _ _ _ => True) (fun _ U o U' => ∃ v L, o = .returned v ∧ Qp (some (.int (0 : Int32))) h0 n0 v U'.heap L ∧ FrameEnd U o U' L ({ frames := 0, cells := 0, slots := 0, locals := 0 } : Room).cells ({ frames := 0, cells := 0, slots := 0, locals := 0 } : Room).slots) := by
  refine MetFree.of_bodySF (plainFor_of_name pn1) hisR ?_
  intro p e s m args below meth c s₁ Bd hml0 hP hK
  obtain ⟨rfl, hZ, hh⟩ := hP
  have hx := Bd.exec
  have hby := Bd.bytes
  have hml : c.maxLocals = 3 := hml0
  have hown : s.vm.findClass "com/example/vestwright/vestwright/model/VestingDay" = some m.cls := findClass_of_methodNamed Bd.named
  have hnm := (name_of_methodNamed Bd.named Bd.method).1
  have X0 : Stand p l e ({ frames := 0, cells := 0, slots := 0, locals := 0 } : Room) s m #[(.ref a1), (.ref a2)] below meth c s₁ [] 0 0 := Stand.of_body Bd
  have e0 : s₁.heap = h0 := by rw [← hh, Bd.state]; rfl
  have N0 := Fr.nil n0
  have hlk := Bd.notSynchronized
  obtain ⟨wSh, wSc, wB, -⟩ := id hWd
  have pre0 : ∀ t, Steps p.tables e below (s₁.setTop (mkF m 0 #[.val (.ref a1), .val (.ref a2), .unset] [])) t → Steps p.tables e below (s₁.setTop (entryFrame m #[(.ref a1), (.ref a2)] 3)) t := fun t k => castTop (ef2 m a1 a2) k
  obtain ⟨T67, X67, e67, st67⟩ := instY X0 hx hZ hown (hw _ (List.mem_of_getElem? (i := 30) rfl)) e0 (Ins.self E_a2) (g := (mkF m 1 #[.val (.ref a1), .val (.ref a2), .unset] [(.ref a2)])) rfl rfl (hb hby d_prog_87_method_7_code_1)
  obtain ⟨T68, X68, e68, st68⟩ := castY X67 hx hZ hown (hw _ (List.mem_of_getElem? (i := 30) rfl)) e67 (Ins.self E_a2) (g := (mkF m 8 #[.val (.ref a1), .val (.ref a2), .unset] [(.ref a2)])) rfl rfl (hb hby d_prog_87_method_7_code_8)
  obtain ⟨T69, X69, e69, st69⟩ := getF X68 hx hZ hown (host := "") (Or.inl (hw _ (List.mem_of_getElem? (i := 14) rfl))) Via.refl e68 F_a2_vestingStartDay (g := (mkF m 13 #[.val (.ref a1), .val (.ref a2), .val (.ref a2)] [(.ref a2)])) rfl rfl (hb hby d_prog_87_method_7_code_13)
  obtain ⟨T70, X70, e70, st70⟩ := getF X69 hx hZ hown (host := "") (Or.inl (hw _ (List.mem_of_getElem? (i := 14) rfl))) Via.refl e69 F_a1_vestingStartDay (g := (mkF m 17 #[.val (.ref a1), .val (.ref a2), .val (.ref a2)] [(.ref a1), (.int p3)])) rfl rfl (hb hby d_prog_87_method_7_code_17)
  obtain ⟨fs, hr, hrun, hended, hWr, hsame⟩ := X70.leave (v := some (.int (0 : Int32))) (fun h => by rw [Bd.returns] at h; cases h) hlk
  refine ⟨_, _, pre0 _ ?_, hrun, hended, _, _, rfl, ?_, ⟨_, rfl⟩, hWr, hsame.mono (Nat.le_of_ble_eq_true rfl) (Nat.le_of_ble_eq_true rfl)⟩
  · show Steps p.tables e below (s₁.setTop (mkF m 0 #[.val (.ref a1), .val (.ref a2), .unset] [])) _
    refine XS.aloadN X0.here hx rfl (hb hby d_prog_87_method_7_code_0) rfl rfl ?_
    show Steps p.tables e below (s₁.setTop (mkF m 1 #[.val (.ref a1), .val (.ref a2), .unset] [(.ref a2)])) _
    refine st67 _ ?_
    show Steps p.tables e below (T67.setTop (mkF m 4 #[.val (.ref a1), .val (.ref a2), .unset] [(.int (1 : Int32))])) _
    refine XS.ifNo X67.here hx rfl (hb hby d_prog_87_method_7_code_4) rfl (by decide) ?_
    show Steps p.tables e below (T67.setTop (mkF m 7 #[.val (.ref a1), .val (.ref a2), .unset] [])) _
    refine XS.aloadN X67.here hx rfl (hb hby d_prog_87_method_7_code_7) rfl rfl ?_
    show Steps p.tables e below (T67.setTop (mkF m 8 #[.val (.ref a1), .val (.ref a2), .unset] [(.ref a2)])) _
    refine st68 _ ?_
    show Steps p.tables e below (T68.setTop (mkF m 11 #[.val (.ref a1), .val (.ref a2), .unset] [(.ref a2)])) _
    refine XS.astoreN X68.here hx rfl (hb hby d_prog_87_method_7_code_11) rfl rfl (l' := #[.val (.ref a1), .val (.ref a2), .val (.ref a2)]) rfl ?_
    show Steps p.tables e below (T68.setTop (mkF m 12 #[.val (.ref a1), .val (.ref a2), .val (.ref a2)] [])) _
    refine XS.aloadN X68.here hx rfl (hb hby d_prog_87_method_7_code_12) rfl rfl ?_
    show Steps p.tables e below (T68.setTop (mkF m 13 #[.val (.ref a1), .val (.ref a2), .val (.ref a2)] [(.ref a2)])) _
    refine st69 _ ?_
    show Steps p.tables e below (T69.setTop (mkF m 16 #[.val (.ref a1), .val (.ref a2), .val (.ref a2)] [(.int p3)])) _
    refine XS.aloadN X69.here hx rfl (hb hby d_prog_87_method_7_code_16) rfl rfl ?_
    show Steps p.tables e below (T69.setTop (mkF m 17 #[.val (.ref a1), .val (.ref a2), .val (.ref a2)] [(.ref a1), (.int p3)])) _
    refine st70 _ ?_
    show Steps p.tables e below (T70.setTop (mkF m 20 #[.val (.ref a1), .val (.ref a2), .val (.ref a2)] [(.int p1), (.int p3)])) _
    refine XS.icmpYes X70.here hx rfl (pc0 := 20) (pc' := 38) rfl (hb hby d_prog_87_method_7_code_20) rfl (feq rl0).2 (by decide) (by decide) ?_
    show Steps p.tables e below (T70.setTop (mkF m 38 #[.val (.ref a1), .val (.ref a2), .val (.ref a2)] [])) _
    refine XS.iconst X70.here hx rfl (hb hby d_prog_87_method_7_code_38) ?_
    show Steps p.tables e below (T70.setTop (mkF m 39 #[.val (.ref a1), .val (.ref a2), .val (.ref a2)] [(.int (0 : Int32))])) _
    exact retN X70 hx (t := .boolean) Bd.returns (by simp) (hb hby d_prog_87_method_7_code_39) hr
  · show Qp (some (.int (0 : Int32))) h0 n0 _ T70.heap _
    rw [e70]
    exact ⟨rfl, N0, rfl⟩
theorem ef3 (m : MethodId)   (a1 : Addr) : entryFrame m #[(.ref a1), .null] 3 = mkF m 0 #[.val (.ref a1), .val .null, .unset] [] := by first | (simp [entryFrame, mkF, argsToLocals, Value.category]; done) | rfl
set_option maxRecDepth 65536 in
set_option maxHeartbeats 40000000 in
theorem rm9 (l : Launch) (Z : State) (a0 : Array Value) (hw : ∀ d ∈ tables_1, d.before a0 Z = true) (ws : List Jvm.Cond) (wc : Addr) (p1 p2 : Int32) (a1 : Addr) (h0 : Heap) (n0 : Nat) (hWd : Wd Z wc) (O0 : Old Z n0 h0) (E_a1 : Exa Z h0 a1 "com/example/vestwright/vestwright/model/VestingDay") (F_a1_vestingStartDay : Fld Z h0 a1 "com/example/vestwright/vestwright/model/VestingDay" "vestingStartDay" "Z" (.int p1)) (F_a1_day : Fld Z h0 a1 "com/example/vestwright/vestwright/model/VestingDay" "day" "I" (.int p2)) (g_a1 : n0 ≤ a1) :
    MetFree l (⟨"com/example/vestwright/vestwright/model/VestingDay", "equals", "(Ljava/lang/Object;)Z"⟩ : MethodName) (head1 (Jvm.Cond.code (⟨"com/example/vestwright/vestwright/model/VestingDay", "equals", "(Ljava/lang/Object;)Z"⟩ : MethodName) prog_87_method_7_code 3 (some .boolean) :: ws) ({ frames := 0, cells := 0, slots := 0, locals := 0 } : Room)) (fun a U => a = #[(.ref a1), .null] ∧ Z.Warmed39 U.vm ∧ U.heap = h0) (fun _ _ _ _ _ => True) (fun _ U o U' => ∃ v L, o = .returned v ∧ Qp (some (.int (0 : Int32))) h0 n0 v U'.heap L ∧ FrameEnd U o U' L ({ frames := 0, cells := 0, slots := 0, locals := 0 } : Room).cells ({ frames := 0, cells := 0, slots := 0, locals := 0 } : Room).slots) := by
  refine MetFree.of_bodySF (plainFor_of_name pn1) hisR ?_
  intro p e s m args below meth c s₁ Bd hml0 hP hK
  obtain ⟨rfl, hZ, hh⟩ := hP
  have hx := Bd.exec
  have hby := Bd.bytes
  have hml : c.maxLocals = 3 := hml0
  have hown : s.vm.findClass "com/example/vestwright/vestwright/model/VestingDay" = some m.cls := findClass_of_methodNamed Bd.named
  have hnm := (name_of_methodNamed Bd.named Bd.method).1
  have X0 : Stand p l e ({ frames := 0, cells := 0, slots := 0, locals := 0 } : Room) s m #[(.ref a1), .null] below meth c s₁ [] 0 0 := Stand.of_body Bd
  have e0 : s₁.heap = h0 := by rw [← hh, Bd.state]; rfl
  have N0 := Fr.nil n0
  have hlk := Bd.notSynchronized
  obtain ⟨wSh, wSc, wB, -⟩ := id hWd
  have pre0 : ∀ t, Steps p.tables e below (s₁.setTop (mkF m 0 #[.val (.ref a1), .val .null, .unset] [])) t → Steps p.tables e below (s₁.setTop (entryFrame m #[(.ref a1), .null] 3)) t := fun t k => castTop (ef3 m a1) k
  obtain ⟨fs, hr, hrun, hended, hWr, hsame⟩ := X0.leave (v := some (.int (0 : Int32))) (fun h => by rw [Bd.returns] at h; cases h) hlk
  refine ⟨_, _, pre0 _ ?_, hrun, hended, _, _, rfl, ?_, ⟨_, rfl⟩, hWr, hsame.mono (Nat.le_of_ble_eq_true rfl) (Nat.le_of_ble_eq_true rfl)⟩
  · show Steps p.tables e below (s₁.setTop (mkF m 0 #[.val (.ref a1), .val .null, .unset] [])) _
    refine XS.aloadN X0.here hx rfl (hb hby d_prog_87_method_7_code_0) rfl rfl ?_
    show Steps p.tables e below (s₁.setTop (mkF m 1 #[.val (.ref a1), .val .null, .unset] [.null])) _
    refine X0.instanceofNull hx (g := (mkF m 1 #[.val (.ref a1), .val .null, .unset] [.null])) rfl rfl (hb hby d_prog_87_method_7_code_1) _ ?_
    show Steps p.tables e below (s₁.setTop (mkF m 4 #[.val (.ref a1), .val .null, .unset] [(.int (0 : Int32))])) _
    refine XS.ifYes X0.here hx rfl (pc0 := 4) (pc' := 38) rfl (hb hby d_prog_87_method_7_code_4) rfl (by decide) (by decide) (by decide) ?_
    show Steps p.tables e below (s₁.setTop (mkF m 38 #[.val (.ref a1), .val .null, .unset] [])) _
    refine XS.iconst X0.here hx rfl (hb hby d_prog_87_method_7_code_38) ?_
    show Steps p.tables e below (s₁.setTop (mkF m 39 #[.val (.ref a1), .val .null, .unset] [(.int (0 : Int32))])) _
    exact retN X0 hx (t := .boolean) Bd.returns (by simp) (hb hby d_prog_87_method_7_code_39) hr
  · show Qp (some (.int (0 : Int32))) h0 n0 _ s₁.heap _
    rw [e0]
    exact ⟨rfl, N0, rfl⟩
theorem d_jdk_33_method_22_code_0 : decode jdk_33_method_22_code 0 = .ok (.iload_n 0, 1) := by decide +kernel
theorem d_jdk_33_method_22_code_1 : decode jdk_33_method_22_code 1 = .ok (.bipush (-128), 2) := by decide +kernel
theorem d_jdk_33_method_22_code_3 : decode jdk_33_method_22_code 3 = .ok (.if_icmp .lt 20, 3) := by decide +kernel
theorem d_jdk_33_method_22_code_23 : decode jdk_33_method_22_code 23 = .ok (.new 1, 3) := by decide +kernel
theorem d_jdk_33_method_22_code_26 : decode jdk_33_method_22_code 26 = .ok (.dup, 1) := by decide +kernel
theorem d_jdk_33_method_22_code_27 : decode jdk_33_method_22_code 27 = .ok (.iload_n 0, 1) := by decide +kernel
theorem d_jdk_33_method_22_code_28 : decode jdk_33_method_22_code 28 = .ok (.invokespecial 199, 3) := by decide +kernel
theorem d_jdk_33_method_23_code_0 : decode jdk_33_method_23_code 0 = .ok (.aload_n 0, 1) := by decide +kernel
theorem d_jdk_33_method_23_code_1 : decode jdk_33_method_23_code 1 = .ok (.invokespecial 202, 3) := by decide +kernel
theorem d_jdk_18_method_1_code_0 : decode jdk_18_method_1_code 0 = .ok (.aload_n 0, 1) := by decide +kernel
theorem d_jdk_18_method_1_code_1 : decode jdk_18_method_1_code 1 = .ok (.invokespecial 1, 3) := by decide +kernel
theorem d_jdk_18_method_1_code_4 : decode jdk_18_method_1_code 4 = .ok (.return_, 1) := by decide +kernel
theorem pn2 : plainName "java/lang/Number" = true := by first | (simp [plainName, overriddenIn]; done) | decide +kernel
set_option maxRecDepth 65536 in
set_option maxHeartbeats 40000000 in
theorem rm12 (l : Launch) (Z : State) (a0 : Array Value) (hw : ∀ d ∈ tables_1, d.before a0 Z = true) (ws : List Jvm.Cond) (wc : Addr) (a1 : Addr) (h0 : Heap) (n0 : Nat) (hWd : Wd Z wc) (O0 : Old Z n0 h0) (E_a1 : Exa Z h0 a1 "java/lang/Integer") (F_a1_value : Fld Z h0 a1 "java/lang/Integer" "value" "I" (.int (0 : Int32))) (g_a1 : n0 ≤ a1) :
    MetFree l (⟨"java/lang/Number", "<init>", "()V"⟩ : MethodName) (head1 (Jvm.Cond.code (⟨"java/lang/Number", "<init>", "()V"⟩ : MethodName) jdk_18_method_1_code 1 none :: ws) ({ frames := 1, cells := 0, slots := 0, locals := 12 } : Room)) (fun a U => a = #[(.ref a1)] ∧ Z.Warmed39 U.vm ∧ U.heap = h0) (fun _ _ _ _ _ => True) (fun _ U o U' => ∃ v L, o = .returned v ∧ Qp (none) h0 n0 v U'.heap L ∧ FrameEnd U o U' L ({ frames := 1, cells := 0, slots := 0, locals := 12 } : Room).cells ({ frames := 1, cells := 0, slots := 0, locals := 12 } : Room).slots) := by
  refine MetFree.of_bodySF (plainFor_of_name pn2) hisR ?_
  intro p e s m args below meth c s₁ Bd hml0 hP hK
  obtain ⟨rfl, hZ, hh⟩ := hP
  have hx := Bd.exec
  have hby := Bd.bytes
  have hml : c.maxLocals = 1 := hml0
  have hown : s.vm.findClass "java/lang/Number" = some m.cls := findClass_of_methodNamed Bd.named
  have hnm := (name_of_methodNamed Bd.named Bd.method).1
  have X0 : Stand p l e ({ frames := 1, cells := 0, slots := 0, locals := 12 } : Room) s m #[(.ref a1)] below meth c s₁ [] 0 0 := Stand.of_body Bd
  have e0 : s₁.heap = h0 := by rw [← hh, Bd.state]; rfl
  have N0 := Fr.nil n0
  have hlk := Bd.notSynchronized
  obtain ⟨wSh, wSc, wB, -⟩ := id hWd
  have pre0 : ∀ t, Steps p.tables e below (s₁.setTop (mkF m 0 #[.val (.ref a1)] [])) t → Steps p.tables e below (s₁.setTop (entryFrame m #[(.ref a1)] 1)) t := fun t k => castTop (ef0 m a1) k
  obtain ⟨T77, X77, e77, st77⟩ := initO X0 hx hZ hown (hw _ (List.mem_of_getElem? (i := 46) rfl)) (hw _ (List.mem_of_getElem? (i := 12) rfl)) (hw _ (List.mem_of_getElem? (i := 13) rfl)) e0 (g := (mkF m 1 #[.val (.ref a1)] [(.ref a1)])) rfl (by rw [hml]; rfl) rfl (hb hby d_jdk_18_method_1_code_1) (by decide) (W := 0) (by show 2 * 0 + _ ≤ _; exact Nat.le_of_eq rfl) (by decide)
  obtain ⟨fs, hr, hrun, hended, hWr, hsame⟩ := X77.leave (v := none) (fun _ => rfl) hlk
  refine ⟨_, _, pre0 _ ?_, hrun, hended, _, _, rfl, ?_, ⟨_, rfl⟩, hWr, hsame.mono (Nat.le_of_ble_eq_true rfl) (Nat.le_of_ble_eq_true rfl)⟩
  · show Steps p.tables e below (s₁.setTop (mkF m 0 #[.val (.ref a1)] [])) _
    refine XS.aloadN X0.here hx rfl (hb hby d_jdk_18_method_1_code_0) rfl rfl ?_
    show Steps p.tables e below (s₁.setTop (mkF m 1 #[.val (.ref a1)] [(.ref a1)])) _
    refine st77 _ ?_
    show Steps p.tables e below (T77.setTop (mkF m 4 #[.val (.ref a1)] [])) _
    exact X77.returnOut hx Bd.returns (hb hby d_jdk_18_method_1_code_4) hr
  · show Qp (none) h0 n0 _ T77.heap _
    rw [e77]
    exact ⟨rfl, N0, rfl⟩
theorem d_jdk_33_method_23_code_4 : decode jdk_33_method_23_code 4 = .ok (.aload_n 0, 1) := by decide +kernel
theorem d_jdk_33_method_23_code_5 : decode jdk_33_method_23_code 5 = .ok (.iload_n 1, 1) := by decide +kernel
theorem d_jdk_33_method_23_code_6 : decode jdk_33_method_23_code 6 = .ok (.putfield 205, 3) := by decide +kernel
theorem d_jdk_33_method_23_code_9 : decode jdk_33_method_23_code 9 = .ok (.return_, 1) := by decide +kernel
theorem pn3 : plainName "java/lang/Integer" = true := by first | (simp [plainName, overriddenIn]; done) | decide +kernel
theorem ef4 (m : MethodId) (p1 : Int32)  (a1 : Addr) : entryFrame m #[(.ref a1), (.int p1)] 2 = mkF m 0 #[.val (.ref a1), .val (.int p1)] [] := by first | (simp [entryFrame, mkF, argsToLocals, Value.category]; done) | rfl
def Qerm11 (Z : State) (wc : Addr) (p1 : Int32) (a1 : Addr) (h0 : Heap) (n0 : Nat) (v : Option Value) (h : Heap) (L : List Loc) : Prop := v = none ∧ Fr n0 L ∧ Keep h0 h [a1] ∧ Old Z n0 h ∧ Exa Z h a1 "java/lang/Integer" ∧ Fld Z h a1 "java/lang/Integer" "value" "I" (.int p1)
set_option maxRecDepth 65536 in
set_option maxHeartbeats 40000000 in
theorem rm11 (l : Launch) (Z : State) (a0 : Array Value) (hw : ∀ d ∈ tables_1, d.before a0 Z = true) (ws : List Jvm.Cond) (wc : Addr) (p1 : Int32) (a1 : Addr) (h0 : Heap) (n0 : Nat) (hWd : Wd Z wc) (O0 : Old Z n0 h0) (rl0 : p1 < (-128 : Int32)) (E_a1 : Exa Z h0 a1 "java/lang/Integer") (F_a1_value : Fld Z h0 a1 "java/lang/Integer" "value" "I" (.int (0 : Int32))) (g_a1 : n0 ≤ a1) :
    MetFree l (⟨"java/lang/Integer", "<init>", "(I)V"⟩ : MethodName) (head1 (Jvm.Cond.code (⟨"java/lang/Integer", "<init>", "(I)V"⟩ : MethodName) jdk_33_method_23_code 2 none :: ws) ({ frames := 2, cells := 0, slots := 0, locals := 24 } : Room)) (fun a U => a = #[(.ref a1), (.int p1)] ∧ Z.Warmed39 U.vm ∧ U.heap = h0) (fun _ _ _ _ _ => True) (fun _ U o U' => ∃ v L, o = .returned v ∧ Qerm11 Z wc p1 a1 h0 n0 v U'.heap L ∧ FrameEnd U o U' L ({ frames := 2, cells := 0, slots := 0, locals := 24 } : Room).cells ({ frames := 2, cells := 0, slots := 0, locals := 24 } : Room).slots) := by
  refine MetFree.of_bodySF (plainFor_of_name pn3) hisR ?_
  intro p e s m args below meth c s₁ Bd hml0 hP hK
  obtain ⟨rfl, hZ, hh⟩ := hP
  have hx := Bd.exec
  have hby := Bd.bytes
  have hml : c.maxLocals = 2 := hml0
  have hown : s.vm.findClass "java/lang/Integer" = some m.cls := findClass_of_methodNamed Bd.named
  have hnm := (name_of_methodNamed Bd.named Bd.method).1
  have X0 : Stand p l e ({ frames := 2, cells := 0, slots := 0, locals := 24 } : Room) s m #[(.ref a1), (.int p1)] below meth c s₁ [] 0 0 := Stand.of_body Bd
  have e0 : s₁.heap = h0 := by rw [← hh, Bd.state]; rfl
  have N0 := Fr.nil n0
  have hlk := Bd.notSynchronized
  obtain ⟨wSh, wSc, wB, -⟩ := id hWd
  have pre0 : ∀ t, Steps p.tables e below (s₁.setTop (mkF m 0 #[.val (.ref a1), .val (.int p1)] [])) t → Steps p.tables e below (s₁.setTop (entryFrame m #[(.ref a1), (.int p1)] 2)) t := fun t k => castTop (ef4 m p1 a1) k
  obtain ⟨_, _, ⟨T78, L78, k78, n78⟩, -, X78, ⟨Lc78, hQ78, l78, y78, z78⟩, st78⟩ := X0.specialBack hx (y := (⟨"java/lang/Number", "<init>", "()V"⟩ : MethodName)) rfl hown (mvT hZ (hw _ (List.mem_of_getElem? (i := 40) rfl))) (mvT hZ (hw _ (List.mem_of_getElem? (i := 41) rfl))) (mvT hZ (hw _ (List.mem_of_getElem? (i := 45) rfl))) (by decide) (backOf (W := 0) (rm12 l Z a0 hw [] wc a1 h0 n0 hWd O0 E_a1 F_a1_value g_a1) hZ (hw _ (List.mem_of_getElem? (i := 45) rfl)) (hw _ (List.mem_of_getElem? (i := 44) rfl)) (by decide) (by decide)) (g := (mkF m 1 #[.val (.ref a1), .val (.int p1)] [(.ref a1)])) rfl (by rw [hml]; rfl) (Steps.refl _) (a := a1) (argsL := []) (rest := []) (lenOf pd0 rfl) rfl (by show 2 * 0 + _ ≤ _; exact Nat.le_of_eq rfl) (hb hby d_jdk_33_method_23_code_1) (fun _ _ => ⟨rfl, e0, (by decide : 0 + 0 ≤ _), (by decide : 0 + 0 ≤ _)⟩)
  dsimp only [Pt.U, Pt.locs, Pt.cells, Pt.slots] at X78 l78 y78 z78 st78 hQ78
  subst l78 y78 z78
  obtain ⟨rfl, N78q, e78⟩ := hQ78
  have N78 := Fr.app N0 N78q
  obtain ⟨T79, h79, X79, e79, W79, st79⟩ := putF X78 hx hZ hown (host := "") (Or.inl (hw _ (List.mem_of_getElem? (i := 47) rfl))) Via.refl e78 F_a1_value E_a1 (Or.inr ⟨(hw _ (List.mem_of_getElem? (i := 48) rfl)), rfl, hnm⟩) (hw _ (List.mem_of_getElem? (i := 35) rfl)) (ty := .int) (by decide) rfl rfl (g := (mkF m 6 #[.val (.ref a1), .val (.int p1)] [(.int p1), (.ref a1)])) rfl rfl (hb hby d_jdk_33_method_23_code_6)
  have E_a1_79 : Exa Z h79 a1 "java/lang/Integer" := E_a1.wr W79
  have F_a1_value_79 : Fld Z h79 a1 "java/lang/Integer" "value" "I" (.int p1) := F_a1_value.same W79
  have Kp79 : Keep h0 h79 [a1] := (Keep.refl h0 [a1]).wr W79 (Or.inl (List.mem_of_getElem? (i := 0) rfl))
  have N79 := Fr.snoc X79 N78 g_a1
  have O_79 : Old Z n0 h79 := O0.wr W79 g_a1
  obtain ⟨fs, hr, hrun, hended, hWr, hsame⟩ := X79.leave (v := none) (fun _ => rfl) hlk
  refine ⟨_, _, pre0 _ ?_, hrun, hended, _, _, rfl, ?_, ⟨_, rfl⟩, hWr, hsame.mono (Nat.le_of_ble_eq_true rfl) (Nat.le_of_ble_eq_true rfl)⟩
  · show Steps p.tables e below (s₁.setTop (mkF m 0 #[.val (.ref a1), .val (.int p1)] [])) _
    refine XS.aloadN X0.here hx rfl (hb hby d_jdk_33_method_23_code_0) rfl rfl ?_
    show Steps p.tables e below (s₁.setTop (mkF m 1 #[.val (.ref a1), .val (.int p1)] [(.ref a1)])) _
    refine st78.trans ?_
    show Steps p.tables e below (T78.setTop (mkF m 4 #[.val (.ref a1), .val (.int p1)] [])) _
    refine XS.aloadN X78.here hx rfl (hb hby d_jdk_33_method_23_code_4) rfl rfl ?_
    show Steps p.tables e below (T78.setTop (mkF m 5 #[.val (.ref a1), .val (.int p1)] [(.ref a1)])) _
    refine XS.iloadN X78.here hx rfl (hb hby d_jdk_33_method_23_code_5) rfl ?_
    show Steps p.tables e below (T78.setTop (mkF m 6 #[.val (.ref a1), .val (.int p1)] [(.int p1), (.ref a1)])) _
    refine st79 _ ?_
    show Steps p.tables e below (T79.setTop (mkF m 9 #[.val (.ref a1), .val (.int p1)] [])) _
    exact X79.returnOut hx Bd.returns (hb hby d_jdk_33_method_23_code_9) hr
  · show Qerm11 Z wc p1 a1 h0 n0 _ T79.heap _
    rw [e79]
    exact ⟨rfl, N79, Kp79, O_79, E_a1_79, F_a1_value_79⟩
theorem pd3 : parseMethodDescriptor "(I)V" = some ⟨[.int], none⟩ := by decide +kernel
theorem d_jdk_33_method_22_code_31 : decode jdk_33_method_22_code 31 = .ok (.areturn, 1) := by decide +kernel
theorem ef5 (m : MethodId) (p1 : Int32)   : entryFrame m #[(.int p1)] 1 = mkF m 0 #[.val (.int p1)] [] := by first | (simp [entryFrame, mkF, argsToLocals, Value.category]; done) | rfl
def Qerm10 (Z : State) (wc : Addr) (p1 : Int32) (h0 : Heap) (n0 : Nat) (v : Option Value) (h : Heap) (L : List Loc) : Prop := ∃ r : Addr, v = some (.ref r) ∧ Fr n0 L ∧ Keep h0 h [] ∧ Old Z n0 h ∧ Exa Z h r "java/lang/Integer" ∧ Fld Z h r "java/lang/Integer" "value" "I" (.int p1) ∧ n0 ≤ r
set_option maxRecDepth 65536 in
set_option maxHeartbeats 40000000 in
theorem rm10 (l : Launch) (Z : State) (a0 : Array Value) (hw : ∀ d ∈ tables_1, d.before a0 Z = true) (ws : List Jvm.Cond) (wc : Addr) (p1 : Int32) (h0 : Heap) (n0 : Nat) (hWd : Wd Z wc) (O0 : Old Z n0 h0) (rl0 : p1 < (-128 : Int32)) :
    MetFree l (⟨"java/lang/Integer", "valueOf", "(I)Ljava/lang/Integer;"⟩ : MethodName) (head1 (Jvm.Cond.code (⟨"java/lang/Integer", "valueOf", "(I)Ljava/lang/Integer;"⟩ : MethodName) jdk_33_method_22_code 1 (some (.object "java/lang/Integer")) :: ws) ({ frames := 3, cells := 1, slots := 1, locals := 38 } : Room)) (fun a U => a = #[(.int p1)] ∧ Z.Warmed39 U.vm ∧ U.heap = h0) (fun _ _ _ _ _ => True) (fun _ U o U' => ∃ v L, o = .returned v ∧ Qerm10 Z wc p1 h0 n0 v U'.heap L ∧ FrameEnd U o U' L ({ frames := 3, cells := 1, slots := 1, locals := 38 } : Room).cells ({ frames := 3, cells := 1, slots := 1, locals := 38 } : Room).slots) := by
  refine MetFree.of_bodySF (plainFor_of_name pn3) hisR ?_
  intro p e s m args below meth c s₁ Bd hml0 hP hK
  obtain ⟨rfl, hZ, hh⟩ := hP
  have hx := Bd.exec
  have hby := Bd.bytes
  have hml : c.maxLocals = 1 := hml0
  have hown : s.vm.findClass "java/lang/Integer" = some m.cls := findClass_of_methodNamed Bd.named
  have hnm := (name_of_methodNamed Bd.named Bd.method).1
  have X0 : Stand p l e ({ frames := 3, cells := 1, slots := 1, locals := 38 } : Room) s m #[(.int p1)] below meth c s₁ [] 0 0 := Stand.of_body Bd
  have e0 : s₁.heap = h0 := by rw [← hh, Bd.state]; rfl
  have N0 := Fr.nil n0
  have hlk := Bd.notSynchronized
  obtain ⟨wSh, wSc, wB, -⟩ := id hWd
  have pre0 : ∀ t, Steps p.tables e below (s₁.setTop (mkF m 0 #[.val (.int p1)] [])) t → Steps p.tables e below (s₁.setTop (entryFrame m #[(.int p1)] 1)) t := fun t k => castTop (ef5 m p1) k
  obtain ⟨T76, h76, X76, e76, E76, A76, D76, -, st76⟩ := newO X0 hx hZ hown (hw _ (List.mem_of_getElem? (i := 34) rfl)) (hw _ (List.mem_of_getElem? (i := 35) rfl)) (hw _ (List.mem_of_getElem? (i := 25) rfl)) e0 (g := (mkF m 23 #[.val (.int p1)] [])) rfl (hb hby d_jdk_33_method_22_code_23) (by decide) (by decide)
  obtain ⟨b76, g76⟩ : ∃ z, z = h0.size := ⟨_, rfl⟩
  rw [← g76] at A76 D76 st76
  have g_b76 : n0 ≤ b76 := Nat.le_trans (Nat.le_trans (Nat.le_of_eq O0.1.symm) O0.2.1) (Nat.le_of_eq g76.symm)
  have sz_b76 : h0.size ≤ b76 := Nat.le_trans (Keep.refl h0 []).1 (Nat.le_of_eq g76.symm)
  have Kp76 : Keep h0 h76 [] := (Keep.refl h0 []).ext E76
  have O_76 : Old Z n0 h76 := O0.ext E76
  have F_b76_value : Fld Z h76 b76 "java/lang/Integer" "value" "I" (.int (0 : Int32)) := D76 (Or.inr (hw _ (List.mem_of_getElem? (i := 48) rfl))) (ty := .int) (by decide)
  obtain ⟨_, _, ⟨T80, L80, k80, n80⟩, -, X80, ⟨Lc80, hQ80, l80, y80, z80⟩, st80⟩ := X76.specialBack hx (y := (⟨"java/lang/Integer", "<init>", "(I)V"⟩ : MethodName)) rfl hown (mvT hZ (hw _ (List.mem_of_getElem? (i := 36) rfl))) (mvT hZ (hw _ (List.mem_of_getElem? (i := 37) rfl))) (mvT hZ (hw _ (List.mem_of_getElem? (i := 39) rfl))) (by decide) (backOf (W := 1) (rm11 l Z a0 hw [] wc p1 b76 h76 n0 hWd O_76 rl0 A76 F_b76_value g_b76) hZ (hw _ (List.mem_of_getElem? (i := 39) rfl)) (hw _ (List.mem_of_getElem? (i := 25) rfl)) (by decide) (by decide)) (g := (mkF m 28 #[.val (.int p1)] [(.int p1), (.ref b76), (.ref b76)])) rfl (by rw [hml]; rfl) (Steps.refl _) (a := b76) (argsL := [(.int p1)]) (rest := [(.ref b76)]) (lenOf pd3 rfl) rfl (by show 2 * 0 + _ ≤ _; exact Nat.le_of_eq rfl) (hb hby d_jdk_33_method_22_code_28) (fun _ _ => ⟨rfl, e76, (by decide : 1 + 0 ≤ _), (by decide : 1 + 0 ≤ _)⟩)
  dsimp only [Pt.U, Pt.locs, Pt.cells, Pt.slots] at X80 l80 y80 z80 st80 hQ80
  subst l80 y80 z80
  obtain ⟨rfl, N80q, K80, O_80, E_b76_80, F_b76_value_80⟩ := hQ80
  have N80 := Fr.app N0 N80q
  have Kp80 : Keep h0 T80.heap [] := Kp76.trans K80 (allS (Or.inr sz_b76) all0)
  obtain ⟨fs, hr, hrun, hended, hWr, hsame⟩ := X80.leave (v := some (.ref b76)) (fun h => by rw [Bd.returns] at h; cases h) hlk
  refine ⟨_, _, pre0 _ ?_, hrun, hended, _, _, rfl, ?_, ⟨_, rfl⟩, hWr, hsame.mono (Nat.le_of_ble_eq_true rfl) (Nat.le_of_ble_eq_true rfl)⟩
  · show Steps p.tables e below (s₁.setTop (mkF m 0 #[.val (.int p1)] [])) _
    refine XS.iloadN X0.here hx rfl (hb hby d_jdk_33_method_22_code_0) rfl ?_
    show Steps p.tables e below (s₁.setTop (mkF m 1 #[.val (.int p1)] [(.int p1)])) _
    refine XS.bipush X0.here hx rfl (hb hby d_jdk_33_method_22_code_1) ?_
    show Steps p.tables e below (s₁.setTop (mkF m 3 #[.val (.int p1)] [(.int (-128 : Int32)), (.int p1)])) _
    refine XS.icmpYes X0.here hx rfl (pc0 := 3) (pc' := 23) rfl (hb hby d_jdk_33_method_22_code_3) rfl (tlt rl0).1 (by decide) (by decide) ?_
    show Steps p.tables e below (s₁.setTop (mkF m 23 #[.val (.int p1)] [])) _
    refine st76 _ ?_
    show Steps p.tables e below (T76.setTop (mkF m 26 #[.val (.int p1)] [(.ref b76)])) _
    refine XS.dup X76.here hx rfl (hb hby d_jdk_33_method_22_code_26) rfl rfl ?_
    show Steps p.tables e below (T76.setTop (mkF m 27 #[.val (.int p1)] [(.ref b76), (.ref b76)])) _
    refine XS.iloadN X76.here hx rfl (hb hby d_jdk_33_method_22_code_27) rfl ?_
    show Steps p.tables e below (T76.setTop (mkF m 28 #[.val (.int p1)] [(.int p1), (.ref b76), (.ref b76)])) _
    refine st80.trans ?_
    show Steps p.tables e below (T80.setTop (mkF m 31 #[.val (.int p1)] [(.ref b76)])) _
    exact retOut X80 hx (t := (.object "java/lang/Integer")) (i := .areturn) Bd.returns rfl (Or.inr (Or.inr (Or.inr (Or.inr ⟨rfl, rfl, rfl⟩)))) (hb hby d_jdk_33_method_22_code_31) hr
  · show Qerm10 Z wc p1 h0 n0 _ T80.heap _
    exact ⟨b76, rfl, N80, Kp80, O_80, E_b76_80, F_b76_value_80, g_b76⟩
theorem pd4 : parseMethodDescriptor "(I)Ljava/lang/Integer;" = some ⟨[.int], some (.object "java/lang/Integer")⟩ := by decide +kernel
set_option maxRecDepth 65536 in
set_option maxHeartbeats 40000000 in
theorem rm13 (l : Launch) (Z : State) (a0 : Array Value) (hw : ∀ d ∈ tables_1, d.before a0 Z = true) (ws : List Jvm.Cond) (wc : Addr) (p1 p2 : Int32) (a1 a2 : Addr) (h0 : Heap) (n0 : Nat) (hWd : Wd Z wc) (O0 : Old Z n0 h0) (rl0 : p2 < (-128 : Int32)) (E_a1 : Exa Z h0 a1 "com/example/vestwright/vestwright/model/VestingDay") (F_a1_vestingStartDay : Fld Z h0 a1 "com/example/vestwright/vestwright/model/VestingDay" "vestingStartDay" "Z" (.int p1)) (F_a1_day : Fld Z h0 a1 "com/example/vestwright/vestwright/model/VestingDay" "day" "I" (.int p2)) (g_a1 : n0 ≤ a1) (E_a2 : Exa Z h0 a2 "java/lang/Integer") (F_a2_value : Fld Z h0 a2 "java/lang/Integer" "value" "I" (.int p2)) (g_a2 : n0 ≤ a2) :
    MetFree l (⟨"com/example/vestwright/vestwright/model/VestingDay", "equals", "(Ljava/lang/Object;)Z"⟩ : MethodName) (head1 (Jvm.Cond.code (⟨"com/example/vestwright/vestwright/model/VestingDay", "equals", "(Ljava/lang/Object;)Z"⟩ : MethodName) prog_87_method_7_code 3 (some .boolean) :: ws) ({ frames := 0, cells := 0, slots := 0, locals := 0 } : Room)) (fun a U => a = #[(.ref a1), (.ref a2)] ∧ Z.Warmed39 U.vm ∧ U.heap = h0) (fun _ _ _ _ _ => True) (fun _ U o U' => ∃ v L, o = .returned v ∧ Qp (some (.int (0 : Int32))) h0 n0 v U'.heap L ∧ FrameEnd U o U' L ({ frames := 0, cells := 0, slots := 0, locals := 0 } : Room).cells ({ frames := 0, cells := 0, slots := 0, locals := 0 } : Room).slots) := by
  refine MetFree.of_bodySF (plainFor_of_name pn1) hisR ?_
  intro p e s m args below meth c s₁ Bd hml0 hP hK
  obtain ⟨rfl, hZ, hh⟩ := hP
  have hx := Bd.exec
  have hby := Bd.bytes
  have hml : c.maxLocals = 3 := hml0
  have hown : s.vm.findClass "com/example/vestwright/vestwright/model/VestingDay" = some m.cls := findClass_of_methodNamed Bd.named
  have hnm := (name_of_methodNamed Bd.named Bd.method).1
  have X0 : Stand p l e ({ frames := 0, cells := 0, slots := 0, locals := 0 } : Room) s m #[(.ref a1), (.ref a2)] below meth c s₁ [] 0 0 := Stand.of_body Bd
  have e0 : s₁.heap = h0 := by rw [← hh, Bd.state]; rfl
  have N0 := Fr.nil n0
  have hlk := Bd.notSynchronized
  obtain ⟨wSh, wSc, wB, -⟩ := id hWd
  have pre0 : ∀ t, Steps p.tables e below (s₁.setTop (mkF m 0 #[.val (.ref a1), .val (.ref a2), .unset] [])) t → Steps p.tables e below (s₁.setTop (entryFrame m #[(.ref a1), (.ref a2)] 3)) t := fun t k => castTop (ef2 m a1 a2) k
  obtain ⟨T82, X82, e82, st82⟩ := instNo X0 hx hZ hown (hw _ (List.mem_of_getElem? (i := 30) rfl)) e0 E_a2 (own_ns_no (hw _ (List.mem_of_getElem? (i := 31) rfl)) (own_cls_inst (hw _ (List.mem_of_getElem? (i := 1) rfl))) (NS.step (hw _ (List.mem_of_getElem? (i := 31) rfl)) (NS.step (hw _ (List.mem_of_getElem? (i := 32) rfl)) (own_ns_root (hw _ (List.mem_of_getElem? (i := 33) rfl)) (own_cls_inst (hw _ (List.mem_of_getElem? (i := 1) rfl))) (by decide)) (by decide)) (by decide)) (by decide)) (g := (mkF m 1 #[.val (.ref a1), .val (.ref a2), .unset] [(.ref a2)])) rfl rfl (hb hby d_prog_87_method_7_code_1)
  obtain ⟨fs, hr, hrun, hended, hWr, hsame⟩ := X82.leave (v := some (.int (0 : Int32))) (fun h => by rw [Bd.returns] at h; cases h) hlk
  refine ⟨_, _, pre0 _ ?_, hrun, hended, _, _, rfl, ?_, ⟨_, rfl⟩, hWr, hsame.mono (Nat.le_of_ble_eq_true rfl) (Nat.le_of_ble_eq_true rfl)⟩
  · show Steps p.tables e below (s₁.setTop (mkF m 0 #[.val (.ref a1), .val (.ref a2), .unset] [])) _
    refine XS.aloadN X0.here hx rfl (hb hby d_prog_87_method_7_code_0) rfl rfl ?_
    show Steps p.tables e below (s₁.setTop (mkF m 1 #[.val (.ref a1), .val (.ref a2), .unset] [(.ref a2)])) _
    refine st82 _ ?_
    show Steps p.tables e below (T82.setTop (mkF m 4 #[.val (.ref a1), .val (.ref a2), .unset] [(.int (0 : Int32))])) _
    refine XS.ifYes X82.here hx rfl (pc0 := 4) (pc' := 38) rfl (hb hby d_prog_87_method_7_code_4) rfl (by decide) (by decide) (by decide) ?_
    show Steps p.tables e below (T82.setTop (mkF m 38 #[.val (.ref a1), .val (.ref a2), .unset] [])) _
    refine XS.iconst X82.here hx rfl (hb hby d_prog_87_method_7_code_38) ?_
    show Steps p.tables e below (T82.setTop (mkF m 39 #[.val (.ref a1), .val (.ref a2), .unset] [(.int (0 : Int32))])) _
    exact retN X82 hx (t := .boolean) Bd.returns (by simp) (hb hby d_prog_87_method_7_code_39) hr
  · show Qp (some (.int (0 : Int32))) h0 n0 _ T82.heap _
    rw [e82]
    exact ⟨rfl, N0, rfl⟩
theorem d_jdk_33_method_22_code_6 : decode jdk_33_method_22_code 6 = .ok (.iload_n 0, 1) := by decide +kernel
theorem d_jdk_33_method_22_code_7 : decode jdk_33_method_22_code 7 = .ok (.getstatic 191, 3) := by decide +kernel
theorem d_jdk_33_method_22_code_10 : decode jdk_33_method_22_code 10 = .ok (.if_icmp .gt 13, 3) := by decide +kernel
def Qerm15 (Z : State) (wc : Addr) (p1 : Int32) (a1 : Addr) (h0 : Heap) (n0 : Nat) (v : Option Value) (h : Heap) (L : List Loc) : Prop := v = none ∧ Fr n0 L ∧ Keep h0 h [a1] ∧ Old Z n0 h ∧ Exa Z h a1 "java/lang/Integer" ∧ Fld Z h a1 "java/lang/Integer" "value" "I" (.int p1)
set_option maxRecDepth 65536 in
set_option maxHeartbeats 40000000 in
theorem rm15 (l : Launch) (Z : State) (a0 : Array Value) (hw : ∀ d ∈ tables_1, d.before a0 Z = true) (ws : List Jvm.Cond) (wc : Addr) (p1 : Int32) (a1 : Addr) (h0 : Heap) (n0 : Nat) (hWd : Wd Z wc) (O0 : Old Z n0 h0) (rl0 : ¬ (p1 < (-128 : Int32))) (rl1 : (127 : Int32) < p1) (E_a1 : Exa Z h0 a1 "java/lang/Integer") (F_a1_value : Fld Z h0 a1 "java/lang/Integer" "value" "I" (.int (0 : Int32))) (g_a1 : n0 ≤ a1) :
    MetFree l (⟨"java/lang/Integer", "<init>", "(I)V"⟩ : MethodName) (head1 (Jvm.Cond.code (⟨"java/lang/Integer", "<init>", "(I)V"⟩ : MethodName) jdk_33_method_23_code 2 none :: ws) ({ frames := 2, cells := 0, slots := 0, locals := 24 } : Room)) (fun a U => a = #[(.ref a1), (.int p1)] ∧ Z.Warmed39 U.vm ∧ U.heap = h0) (fun _ _ _ _ _ => True) (fun _ U o U' => ∃ v L, o = .returned v ∧ Qerm15 Z wc p1 a1 h0 n0 v U'.heap L ∧ FrameEnd U o U' L ({ frames := 2, cells := 0, slots := 0, locals := 24 } : Room).cells ({ frames := 2, cells := 0, slots := 0, locals := 24 } : Room).slots) := by
  refine MetFree.of_bodySF (plainFor_of_name pn3) hisR ?_
  intro p e s m args below meth c s₁ Bd hml0 hP hK
  obtain ⟨rfl, hZ, hh⟩ := hP
  have hx := Bd.exec
  have hby := Bd.bytes
  have hml : c.maxLocals = 2 := hml0
  have hown : s.vm.findClass "java/lang/Integer" = some m.cls := findClass_of_methodNamed Bd.named
  have hnm := (name_of_methodNamed Bd.named Bd.method).1
  have X0 : Stand p l e ({ frames := 2, cells := 0, slots := 0, locals := 24 } : Room) s m #[(.ref a1), (.int p1)] below meth c s₁ [] 0 0 := Stand.of_body Bd
  have e0 : s₁.heap = h0 := by rw [← hh, Bd.state]; rfl
  have N0 := Fr.nil n0
  have hlk := Bd.notSynchronized
  obtain ⟨wSh, wSc, wB, -⟩ := id hWd
  have pre0 : ∀ t, Steps p.tables e below (s₁.setTop (mkF m 0 #[.val (.ref a1), .val (.int p1)] [])) t → Steps p.tables e below (s₁.setTop (entryFrame m #[(.ref a1), (.int p1)] 2)) t := fun t k => castTop (ef4 m p1 a1) k
  obtain ⟨_, _, ⟨T88, L88, k88, n88⟩, -, X88, ⟨Lc88, hQ88, l88, y88, z88⟩, st88⟩ := X0.specialBack hx (y := (⟨"java/lang/Number", "<init>", "()V"⟩ : MethodName)) rfl hown (mvT hZ (hw _ (List.mem_of_getElem? (i := 40) rfl))) (mvT hZ (hw _ (List.mem_of_getElem? (i := 41) rfl))) (mvT hZ (hw _ (List.mem_of_getElem? (i := 45) rfl))) (by decide) (backOf (W := 0) (rm12 l Z a0 hw [] wc a1 h0 n0 hWd O0 E_a1 F_a1_value g_a1) hZ (hw _ (List.mem_of_getElem? (i := 45) rfl)) (hw _ (List.mem_of_getElem? (i := 44) rfl)) (by decide) (by decide)) (g := (mkF m 1 #[.val (.ref a1), .val (.int p1)] [(.ref a1)])) rfl (by rw [hml]; rfl) (Steps.refl _) (a := a1) (argsL := []) (rest := []) (lenOf pd0 rfl) rfl (by show 2 * 0 + _ ≤ _; exact Nat.le_of_eq rfl) (hb hby d_jdk_33_method_23_code_1) (fun _ _ => ⟨rfl, e0, (by decide : 0 + 0 ≤ _), (by decide : 0 + 0 ≤ _)⟩)
  dsimp only [Pt.U, Pt.locs, Pt.cells, Pt.slots] at X88 l88 y88 z88 st88 hQ88
  subst l88 y88 z88
  obtain ⟨rfl, N88q, e88⟩ := hQ88
  have N88 := Fr.app N0 N88q
  obtain ⟨T89, h89, X89, e89, W89, st89⟩ := putF X88 hx hZ hown (host := "") (Or.inl (hw _ (List.mem_of_getElem? (i := 47) rfl))) Via.refl e88 F_a1_value E_a1 (Or.inr ⟨(hw _ (List.mem_of_getElem? (i := 48) rfl)), rfl, hnm⟩) (hw _ (List.mem_of_getElem? (i := 35) rfl)) (ty := .int) (by decide) rfl rfl (g := (mkF m 6 #[.val (.ref a1), .val (.int p1)] [(.int p1), (.ref a1)])) rfl rfl (hb hby d_jdk_33_method_23_code_6)
  have E_a1_89 : Exa Z h89 a1 "java/lang/Integer" := E_a1.wr W89
  have F_a1_value_89 : Fld Z h89 a1 "java/lang/Integer" "value" "I" (.int p1) := F_a1_value.same W89
  have Kp89 : Keep h0 h89 [a1] := (Keep.refl h0 [a1]).wr W89 (Or.inl (List.mem_of_getElem? (i := 0) rfl))
  have N89 := Fr.snoc X89 N88 g_a1
  have O_89 : Old Z n0 h89 := O0.wr W89 g_a1
  obtain ⟨fs, hr, hrun, hended, hWr, hsame⟩ := X89.leave (v := none) (fun _ => rfl) hlk
  refine ⟨_, _, pre0 _ ?_, hrun, hended, _, _, rfl, ?_, ⟨_, rfl⟩, hWr, hsame.mono (Nat.le_of_ble_eq_true rfl) (Nat.le_of_ble_eq_true rfl)⟩
  · show Steps p.tables e below (s₁.setTop (mkF m 0 #[.val (.ref a1), .val (.int p1)] [])) _
    refine XS.aloadN X0.here hx rfl (hb hby d_jdk_33_method_23_code_0) rfl rfl ?_
    show Steps p.tables e below (s₁.setTop (mkF m 1 #[.val (.ref a1), .val (.int p1)] [(.ref a1)])) _
    refine st88.trans ?_
    show Steps p.tables e below (T88.setTop (mkF m 4 #[.val (.ref a1), .val (.int p1)] [])) _
    refine XS.aloadN X88.here hx rfl (hb hby d_jdk_33_method_23_code_4) rfl rfl ?_
    show Steps p.tables e below (T88.setTop (mkF m 5 #[.val (.ref a1), .val (.int p1)] [(.ref a1)])) _
    refine XS.iloadN X88.here hx rfl (hb hby d_jdk_33_method_23_code_5) rfl ?_
    show Steps p.tables e below (T88.setTop (mkF m 6 #[.val (.ref a1), .val (.int p1)] [(.int p1), (.ref a1)])) _
    refine st89 _ ?_
    show Steps p.tables e below (T89.setTop (mkF m 9 #[.val (.ref a1), .val (.int p1)] [])) _
    exact X89.returnOut hx Bd.returns (hb hby d_jdk_33_method_23_code_9) hr
  · show Qerm15 Z wc p1 a1 h0 n0 _ T89.heap _
    rw [e89]
    exact ⟨rfl, N89, Kp89, O_89, E_a1_89, F_a1_value_89⟩
def Qerm14 (Z : State) (wc : Addr) (p1 : Int32) (h0 : Heap) (n0 : Nat) (v : Option Value) (h : Heap) (L : List Loc) : Prop := ∃ r : Addr, v = some (.ref r) ∧ Fr n0 L ∧ Keep h0 h [] ∧ Old Z n0 h ∧ Exa Z h r "java/lang/Integer" ∧ Fld Z h r "java/lang/Integer" "value" "I" (.int p1) ∧ n0 ≤ r
set_option maxRecDepth 65536 in
set_option maxHeartbeats 40000000 in
theorem rm14 (l : Launch) (Z : State) (a0 : Array Value) (hw : ∀ d ∈ tables_1, d.before a0 Z = true) (ws : List Jvm.Cond) (wc : Addr) (p1 : Int32) (h0 : Heap) (n0 : Nat) (hWd : Wd Z wc) (O0 : Old Z n0 h0) (rl0 : ¬ (p1 < (-128 : Int32))) (rl1 : (127 : Int32) < p1) :
    MetFree l (⟨"java/lang/Integer", "valueOf", "(I)Ljava/lang/Integer;"⟩ : MethodName) (head1 (Jvm.Cond.code (⟨"java/lang/Integer", "valueOf", "(I)Ljava/lang/Integer;"⟩ : MethodName) jdk_33_method_22_code 1 (some (.object "java/lang/Integer")) :: ws) ({ frames := 3, cells := 1, slots := 1, locals := 38 } : Room)) (fun a U => a = #[(.int p1)] ∧ Z.Warmed39 U.vm ∧ U.heap = h0) (fun _ _ _ _ _ => True) (fun _ U o U' => ∃ v L, o = .returned v ∧ Qerm14 Z wc p1 h0 n0 v U'.heap L ∧ FrameEnd U o U' L ({ frames := 3, cells := 1, slots := 1, locals := 38 } : Room).cells ({ frames := 3, cells := 1, slots := 1, locals := 38 } : Room).slots) := by
  refine MetFree.of_bodySF (plainFor_of_name pn3) hisR ?_
  intro p e s m args below meth c s₁ Bd hml0 hP hK
  obtain ⟨rfl, hZ, hh⟩ := hP
  have hx := Bd.exec
  have hby := Bd.bytes
  have hml : c.maxLocals = 1 := hml0
  have hown : s.vm.findClass "java/lang/Integer" = some m.cls := findClass_of_methodNamed Bd.named
  have hnm := (name_of_methodNamed Bd.named Bd.method).1
  have X0 : Stand p l e ({ frames := 3, cells := 1, slots := 1, locals := 38 } : Room) s m #[(.int p1)] below meth c s₁ [] 0 0 := Stand.of_body Bd
  have e0 : s₁.heap = h0 := by rw [← hh, Bd.state]; rfl
  have N0 := Fr.nil n0
  have hlk := Bd.notSynchronized
  obtain ⟨wSh, wSc, wB, -⟩ := id hWd
  have pre0 : ∀ t, Steps p.tables e below (s₁.setTop (mkF m 0 #[.val (.int p1)] [])) t → Steps p.tables e below (s₁.setTop (entryFrame m #[(.int p1)] 1)) t := fun t k => castTop (ef5 m p1) k
  obtain ⟨T86, X86, e86, st86⟩ := getS2 X0 hx hZ hown (host := "") (Or.inl (hw _ (List.mem_of_getElem? (i := 27) rfl))) Via.refl e0 (wSh.ext O0.2) (g := (mkF m 7 #[.val (.int p1)] [(.int p1)])) rfl (hb hby d_jdk_33_method_22_code_7)
  obtain ⟨T87, h87, X87, e87, E87, A87, D87, -, st87⟩ := newO X86 hx hZ hown (hw _ (List.mem_of_getElem? (i := 34) rfl)) (hw _ (List.mem_of_getElem? (i := 35) rfl)) (hw _ (List.mem_of_getElem? (i := 25) rfl)) e86 (g := (mkF m 23 #[.val (.int p1)] [])) rfl (hb hby d_jdk_33_method_22_code_23) (by decide) (by decide)
  obtain ⟨b87, g87⟩ : ∃ z, z = h0.size := ⟨_, rfl⟩
  rw [← g87] at A87 D87 st87
  have g_b87 : n0 ≤ b87 := Nat.le_trans (Nat.le_trans (Nat.le_of_eq O0.1.symm) O0.2.1) (Nat.le_of_eq g87.symm)
  have sz_b87 : h0.size ≤ b87 := Nat.le_trans (Keep.refl h0 []).1 (Nat.le_of_eq g87.symm)
  have Kp87 : Keep h0 h87 [] := (Keep.refl h0 []).ext E87
  have O_87 : Old Z n0 h87 := O0.ext E87
  have F_b87_value : Fld Z h87 b87 "java/lang/Integer" "value" "I" (.int (0 : Int32)) := D87 (Or.inr (hw _ (List.mem_of_getElem? (i := 48) rfl))) (ty := .int) (by decide)
  obtain ⟨_, _, ⟨T90, L90, k90, n90⟩, -, X90, ⟨Lc90, hQ90, l90, y90, z90⟩, st90⟩ := X87.specialBack hx (y := (⟨"java/lang/Integer", "<init>", "(I)V"⟩ : MethodName)) rfl hown (mvT hZ (hw _ (List.mem_of_getElem? (i := 36) rfl))) (mvT hZ (hw _ (List.mem_of_getElem? (i := 37) rfl))) (mvT hZ (hw _ (List.mem_of_getElem? (i := 39) rfl))) (by decide) (backOf (W := 1) (rm15 l Z a0 hw [] wc p1 b87 h87 n0 hWd O_87 rl0 rl1 A87 F_b87_value g_b87) hZ (hw _ (List.mem_of_getElem? (i := 39) rfl)) (hw _ (List.mem_of_getElem? (i := 25) rfl)) (by decide) (by decide)) (g := (mkF m 28 #[.val (.int p1)] [(.int p1), (.ref b87), (.ref b87)])) rfl (by rw [hml]; rfl) (Steps.refl _) (a := b87) (argsL := [(.int p1)]) (rest := [(.ref b87)]) (lenOf pd3 rfl) rfl (by show 2 * 0 + _ ≤ _; exact Nat.le_of_eq rfl) (hb hby d_jdk_33_method_22_code_28) (fun _ _ => ⟨rfl, e87, (by decide : 1 + 0 ≤ _), (by decide : 1 + 0 ≤ _)⟩)
  dsimp only [Pt.U, Pt.locs, Pt.cells, Pt.slots] at X90 l90 y90 z90 st90 hQ90
  subst l90 y90 z90
  obtain ⟨rfl, N90q, K90, O_90, E_b87_90, F_b87_value_90⟩ := hQ90
  have N90 := Fr.app N0 N90q
  have Kp90 : Keep h0 T90.heap [] := Kp87.trans K90 (allS (Or.inr sz_b87) all0)
  obtain ⟨fs, hr, hrun, hended, hWr, hsame⟩ := X90.leave (v := some (.ref b87)) (fun h => by rw [Bd.returns] at h; cases h) hlk
  refine ⟨_, _, pre0 _ ?_, hrun, hended, _, _, rfl, ?_, ⟨_, rfl⟩, hWr, hsame.mono (Nat.le_of_ble_eq_true rfl) (Nat.le_of_ble_eq_true rfl)⟩
  · show Steps p.tables e below (s₁.setTop (mkF m 0 #[.val (.int p1)] [])) _
    refine XS.iloadN X0.here hx rfl (hb hby d_jdk_33_method_22_code_0) rfl ?_
    show Steps p.tables e below (s₁.setTop (mkF m 1 #[.val (.int p1)] [(.int p1)])) _
    refine XS.bipush X0.here hx rfl (hb hby d_jdk_33_method_22_code_1) ?_
    show Steps p.tables e below (s₁.setTop (mkF m 3 #[.val (.int p1)] [(.int (-128 : Int32)), (.int p1)])) _
    refine XS.icmpNo X0.here hx rfl (hb hby d_jdk_33_method_22_code_3) rfl (flt rl0).1 ?_
    show Steps p.tables e below (s₁.setTop (mkF m 6 #[.val (.int p1)] [])) _
    refine XS.iloadN X0.here hx rfl (hb hby d_jdk_33_method_22_code_6) rfl ?_
    show Steps p.tables e below (s₁.setTop (mkF m 7 #[.val (.int p1)] [(.int p1)])) _
    refine st86 _ ?_
    show Steps p.tables e below (T86.setTop (mkF m 10 #[.val (.int p1)] [(.int (127 : Int32)), (.int p1)])) _
    refine XS.icmpYes X86.here hx rfl (pc0 := 10) (pc' := 23) rfl (hb hby d_jdk_33_method_22_code_10) rfl (tlt rl1).2.2.1 (by decide) (by decide) ?_
    show Steps p.tables e below (T86.setTop (mkF m 23 #[.val (.int p1)] [])) _
    refine st87 _ ?_
    show Steps p.tables e below (T87.setTop (mkF m 26 #[.val (.int p1)] [(.ref b87)])) _
    refine XS.dup X87.here hx rfl (hb hby d_jdk_33_method_22_code_26) rfl rfl ?_
    show Steps p.tables e below (T87.setTop (mkF m 27 #[.val (.int p1)] [(.ref b87), (.ref b87)])) _
    refine XS.iloadN X87.here hx rfl (hb hby d_jdk_33_method_22_code_27) rfl ?_
    show Steps p.tables e below (T87.setTop (mkF m 28 #[.val (.int p1)] [(.int p1), (.ref b87), (.ref b87)])) _
    refine st90.trans ?_
    show Steps p.tables e below (T90.setTop (mkF m 31 #[.val (.int p1)] [(.ref b87)])) _
    exact retOut X90 hx (t := (.object "java/lang/Integer")) (i := .areturn) Bd.returns rfl (Or.inr (Or.inr (Or.inr (Or.inr ⟨rfl, rfl, rfl⟩)))) (hb hby d_jdk_33_method_22_code_31) hr
  · show Qerm14 Z wc p1 h0 n0 _ T90.heap _
    exact ⟨b87, rfl, N90, Kp90, O_90, E_b87_90, F_b87_value_90, g_b87⟩
set_option maxRecDepth 65536 in
set_option maxHeartbeats 40000000 in
theorem rm16 (l : Launch) (Z : State) (a0 : Array Value) (hw : ∀ d ∈ tables_1, d.before a0 Z = true) (ws : List Jvm.Cond) (wc : Addr) (p1 p2 : Int32) (a1 a2 : Addr) (h0 : Heap) (n0 : Nat) (hWd : Wd Z wc) (O0 : Old Z n0 h0) (rl0 : ¬ (p2 < (-128 : Int32))) (rl1 : (127 : Int32) < p2) (E_a1 : Exa Z h0 a1 "com/example/vestwright/vestwright/model/VestingDay") (F_a1_vestingStartDay : Fld Z h0 a1 "com/example/vestwright/vestwright/model/VestingDay" "vestingStartDay" "Z" (.int p1)) (F_a1_day : Fld Z h0 a1 "com/example/vestwright/vestwright/model/VestingDay" "day" "I" (.int p2)) (g_a1 : n0 ≤ a1) (E_a2 : Exa Z h0 a2 "java/lang/Integer") (F_a2_value : Fld Z h0 a2 "java/lang/Integer" "value" "I" (.int p2)) (g_a2 : n0 ≤ a2) :
    MetFree l (⟨"com/example/vestwright/vestwright/model/VestingDay", "equals", "(Ljava/lang/Object;)Z"⟩ : MethodName) (head1 (Jvm.Cond.code (⟨"com/example/vestwright/vestwright/model/VestingDay", "equals", "(Ljava/lang/Object;)Z"⟩ : MethodName) prog_87_method_7_code 3 (some .boolean) :: ws) ({ frames := 0, cells := 0, slots := 0, locals := 0 } : Room)) (fun a U => a = #[(.ref a1), (.ref a2)] ∧ Z.Warmed39 U.vm ∧ U.heap = h0) (fun _ _ _ _ _ => True) (fun _ U o U' => ∃ v L, o = .returned v ∧ Qp (some (.int (0 : Int32))) h0 n0 v U'.heap L ∧ FrameEnd U o U' L ({ frames := 0, cells := 0, slots := 0, locals := 0 } : Room).cells ({ frames := 0, cells := 0, slots := 0, locals := 0 } : Room).slots) := by
  refine MetFree.of_bodySF (plainFor_of_name pn1) hisR ?_
  intro p e s m args below meth c s₁ Bd hml0 hP hK
  obtain ⟨rfl, hZ, hh⟩ := hP
  have hx := Bd.exec
  have hby := Bd.bytes
  have hml : c.maxLocals = 3 := hml0
  have hown : s.vm.findClass "com/example/vestwright/vestwright/model/VestingDay" = some m.cls := findClass_of_methodNamed Bd.named
  have hnm := (name_of_methodNamed Bd.named Bd.method).1
  have X0 : Stand p l e ({ frames := 0, cells := 0, slots := 0, locals := 0 } : Room) s m #[(.ref a1), (.ref a2)] below meth c s₁ [] 0 0 := Stand.of_body Bd
  have e0 : s₁.heap = h0 := by rw [← hh, Bd.state]; rfl
  have N0 := Fr.nil n0
  have hlk := Bd.notSynchronized
  obtain ⟨wSh, wSc, wB, -⟩ := id hWd
  have pre0 : ∀ t, Steps p.tables e below (s₁.setTop (mkF m 0 #[.val (.ref a1), .val (.ref a2), .unset] [])) t → Steps p.tables e below (s₁.setTop (entryFrame m #[(.ref a1), (.ref a2)] 3)) t := fun t k => castTop (ef2 m a1 a2) k
  obtain ⟨T92, X92, e92, st92⟩ := instNo X0 hx hZ hown (hw _ (List.mem_of_getElem? (i := 30) rfl)) e0 E_a2 (own_ns_no (hw _ (List.mem_of_getElem? (i := 31) rfl)) (own_cls_inst (hw _ (List.mem_of_getElem? (i := 1) rfl))) (NS.step (hw _ (List.mem_of_getElem? (i := 31) rfl)) (NS.step (hw _ (List.mem_of_getElem? (i := 32) rfl)) (own_ns_root (hw _ (List.mem_of_getElem? (i := 33) rfl)) (own_cls_inst (hw _ (List.mem_of_getElem? (i := 1) rfl))) (by decide)) (by decide)) (by decide)) (by decide)) (g := (mkF m 1 #[.val (.ref a1), .val (.ref a2), .unset] [(.ref a2)])) rfl rfl (hb hby d_prog_87_method_7_code_1)
  obtain ⟨fs, hr, hrun, hended, hWr, hsame⟩ := X92.leave (v := some (.int (0 : Int32))) (fun h => by rw [Bd.returns] at h; cases h) hlk
  refine ⟨_, _, pre0 _ ?_, hrun, hended, _, _, rfl, ?_, ⟨_, rfl⟩, hWr, hsame.mono (Nat.le_of_ble_eq_true rfl) (Nat.le_of_ble_eq_true rfl)⟩
  · show Steps p.tables e below (s₁.setTop (mkF m 0 #[.val (.ref a1), .val (.ref a2), .unset] [])) _
    refine XS.aloadN X0.here hx rfl (hb hby d_prog_87_method_7_code_0) rfl rfl ?_
    show Steps p.tables e below (s₁.setTop (mkF m 1 #[.val (.ref a1), .val (.ref a2), .unset] [(.ref a2)])) _
    refine st92 _ ?_
    show Steps p.tables e below (T92.setTop (mkF m 4 #[.val (.ref a1), .val (.ref a2), .unset] [(.int (0 : Int32))])) _
    refine XS.ifYes X92.here hx rfl (pc0 := 4) (pc' := 38) rfl (hb hby d_prog_87_method_7_code_4) rfl (by decide) (by decide) (by decide) ?_
    show Steps p.tables e below (T92.setTop (mkF m 38 #[.val (.ref a1), .val (.ref a2), .unset] [])) _
    refine XS.iconst X92.here hx rfl (hb hby d_prog_87_method_7_code_38) ?_
    show Steps p.tables e below (T92.setTop (mkF m 39 #[.val (.ref a1), .val (.ref a2), .unset] [(.int (0 : Int32))])) _
    exact retN X92 hx (t := .boolean) Bd.returns (by simp) (hb hby d_prog_87_method_7_code_39) hr
  · show Qp (some (.int (0 : Int32))) h0 n0 _ T92.heap _
    rw [e92]
    exact ⟨rfl, N0, rfl⟩
theorem d_jdk_33_method_22_code_13 : decode jdk_33_method_22_code 13 = .ok (.getstatic 195, 3) := by decide +kernel
theorem d_jdk_33_method_22_code_16 : decode jdk_33_method_22_code 16 = .ok (.iload_n 0, 1) := by decide +kernel
theorem d_jdk_33_method_22_code_17 : decode jdk_33_method_22_code 17 = .ok (.sipush 128, 3) := by decide +kernel
theorem d_jdk_33_method_22_code_20 : decode jdk_33_method_22_code 20 = .ok (.iadd, 1) := by decide +kernel
theorem d_jdk_33_method_22_code_21 : decode jdk_33_method_22_code 21 = .ok (.aaload, 1) := by decide +kernel
theorem d_jdk_33_method_22_code_22 : decode jdk_33_method_22_code 22 = .ok (.areturn, 1) := by decide +kernel
def Qerm17 (Z : State) (wc : Addr) (p1 : Int32) (h0 : Heap) (n0 : Nat) (v : Option Value) (h : Heap) (L : List Loc) : Prop := ∃ r : Addr, v = some (.ref r) ∧ Fr n0 L ∧ Keep h0 h [] ∧ Old Z n0 h ∧ Exa Z h r "java/lang/Integer"
set_option maxRecDepth 65536 in
set_option maxHeartbeats 40000000 in
theorem rm17 (l : Launch) (Z : State) (a0 : Array Value) (hw : ∀ d ∈ tables_1, d.before a0 Z = true) (ws : List Jvm.Cond) (wc : Addr) (p1 : Int32) (h0 : Heap) (n0 : Nat) (hWd : Wd Z wc) (O0 : Old Z n0 h0) (rl0 : ¬ (p1 < (-128 : Int32))) (rl1 : ¬ ((127 : Int32) < p1)) :
    MetFree l (⟨"java/lang/Integer", "valueOf", "(I)Ljava/lang/Integer;"⟩ : MethodName) (head1 (Jvm.Cond.code (⟨"java/lang/Integer", "valueOf", "(I)Ljava/lang/Integer;"⟩ : MethodName) jdk_33_method_22_code 1 (some (.object "java/lang/Integer")) :: ws) ({ frames := 0, cells := 0, slots := 0, locals := 0 } : Room)) (fun a U => a = #[(.int p1)] ∧ Z.Warmed39 U.vm ∧ U.heap = h0) (fun _ _ _ _ _ => True) (fun _ U o U' => ∃ v L, o = .returned v ∧ Qerm17 Z wc p1 h0 n0 v U'.heap L ∧ FrameEnd U o U' L ({ frames := 0, cells := 0, slots := 0, locals := 0 } : Room).cells ({ frames := 0, cells := 0, slots := 0, locals := 0 } : Room).slots) := by
  refine MetFree.of_bodySF (plainFor_of_name pn3) hisR ?_
  intro p e s m args below meth c s₁ Bd hml0 hP hK
  obtain ⟨rfl, hZ, hh⟩ := hP
  have hx := Bd.exec
  have hby := Bd.bytes
  have hml : c.maxLocals = 1 := hml0
  have hown : s.vm.findClass "java/lang/Integer" = some m.cls := findClass_of_methodNamed Bd.named
  have hnm := (name_of_methodNamed Bd.named Bd.method).1
  have X0 : Stand p l e ({ frames := 0, cells := 0, slots := 0, locals := 0 } : Room) s m #[(.int p1)] below meth c s₁ [] 0 0 := Stand.of_body Bd
  have e0 : s₁.heap = h0 := by rw [← hh, Bd.state]; rfl
  have N0 := Fr.nil n0
  have hlk := Bd.notSynchronized
  obtain ⟨wSh, wSc, wB, -⟩ := id hWd
  have pre0 : ∀ t, Steps p.tables e below (s₁.setTop (mkF m 0 #[.val (.int p1)] [])) t → Steps p.tables e below (s₁.setTop (entryFrame m #[(.int p1)] 1)) t := fun t k => castTop (ef5 m p1) k
  obtain ⟨T94, X94, e94, st94⟩ := getS2 X0 hx hZ hown (host := "") (Or.inl (hw _ (List.mem_of_getElem? (i := 27) rfl))) Via.refl e0 (wSh.ext O0.2) (g := (mkF m 7 #[.val (.int p1)] [(.int p1)])) rfl (hb hby d_jdk_33_method_22_code_7)
  obtain ⟨T95, X95, e95, st95⟩ := getS2 X94 hx hZ hown (host := "") (Or.inl (hw _ (List.mem_of_getElem? (i := 29) rfl))) Via.refl e94 (wSc.ext O0.2) (g := (mkF m 13 #[.val (.int p1)] [])) rfl (hb hby d_jdk_33_method_22_code_13)
  obtain ⟨cl96, hB96⟩ := wB
  have hin96 : ¬ ((p1 + (128 : Int32)) < 0 ∨ cl96.slots.size ≤ ((p1 + (128 : Int32))).toNatClampNeg) := inb_of hB96.2.1 (own_cache rl0 rl1)
  obtain ⟨bx96, hat96, Eb96, Fb96⟩ := hB96.2.2.2 _ hin96
  obtain ⟨fs, hr, hrun, hended, hWr, hsame⟩ := X95.leave (v := some (.ref bx96)) (fun h => by rw [Bd.returns] at h; cases h) hlk
  refine ⟨_, _, pre0 _ ?_, hrun, hended, _, _, rfl, ?_, ⟨_, rfl⟩, hWr, hsame.mono (Nat.le_of_ble_eq_true rfl) (Nat.le_of_ble_eq_true rfl)⟩
  · show Steps p.tables e below (s₁.setTop (mkF m 0 #[.val (.int p1)] [])) _
    refine XS.iloadN X0.here hx rfl (hb hby d_jdk_33_method_22_code_0) rfl ?_
    show Steps p.tables e below (s₁.setTop (mkF m 1 #[.val (.int p1)] [(.int p1)])) _
    refine XS.bipush X0.here hx rfl (hb hby d_jdk_33_method_22_code_1) ?_
    show Steps p.tables e below (s₁.setTop (mkF m 3 #[.val (.int p1)] [(.int (-128 : Int32)), (.int p1)])) _
    refine XS.icmpNo X0.here hx rfl (hb hby d_jdk_33_method_22_code_3) rfl (flt rl0).1 ?_
    show Steps p.tables e below (s₁.setTop (mkF m 6 #[.val (.int p1)] [])) _
    refine XS.iloadN X0.here hx rfl (hb hby d_jdk_33_method_22_code_6) rfl ?_
    show Steps p.tables e below (s₁.setTop (mkF m 7 #[.val (.int p1)] [(.int p1)])) _
    refine st94 _ ?_
    show Steps p.tables e below (T94.setTop (mkF m 10 #[.val (.int p1)] [(.int (127 : Int32)), (.int p1)])) _
    refine XS.icmpNo X94.here hx rfl (hb hby d_jdk_33_method_22_code_10) rfl (flt rl1).2.2.1 ?_
    show Steps p.tables e below (T94.setTop (mkF m 13 #[.val (.int p1)] [])) _
    refine st95 _ ?_
    show Steps p.tables e below (T95.setTop (mkF m 16 #[.val (.int p1)] [(.ref wc)])) _
    refine XS.iloadN X95.here hx rfl (hb hby d_jdk_33_method_22_code_16) rfl ?_
    show Steps p.tables e below (T95.setTop (mkF m 17 #[.val (.int p1)] [(.int p1), (.ref wc)])) _
    refine XS.sipush X95.here hx rfl (hb hby d_jdk_33_method_22_code_17) ?_
    show Steps p.tables e below (T95.setTop (mkF m 20 #[.val (.int p1)] [(.int (128 : Int32)), (.int p1), (.ref wc)])) _
    refine XS.iadd X95.here hx rfl (hb hby d_jdk_33_method_22_code_20) rfl ?_
    show Steps p.tables e below (T95.setTop (mkF m 21 #[.val (.int p1)] [(.int (p1 + (128 : Int32))), (.ref wc)])) _
    refine X95.aaload hx (j := (p1 + (128 : Int32))) (v := (.ref bx96)) (by rw [e95]; exact (hB96.1.ext O0.2).1) (State.isArrayOf_alike hZ.alike hB96.1.2.1) rfl hB96.1.2.2 hin96 hat96 (g := (mkF m 21 #[.val (.int p1)] [(.int (p1 + (128 : Int32))), (.ref wc)])) rfl rfl (hb hby d_jdk_33_method_22_code_21) _ ?_
    show Steps p.tables e below (T95.setTop (mkF m 22 #[.val (.int p1)] [(.ref bx96)])) _
    exact retOut X95 hx (t := (.object "java/lang/Integer")) (i := .areturn) Bd.returns rfl (Or.inr (Or.inr (Or.inr (Or.inr ⟨rfl, rfl, rfl⟩)))) (hb hby d_jdk_33_method_22_code_22) hr
  · show Qerm17 Z wc p1 h0 n0 _ T95.heap _
    rw [e95]
    exact ⟨bx96, rfl, N0, (Keep.refl h0 []), O0, (Eb96.ext O0.2)⟩
set_option maxRecDepth 65536 in
set_option maxHeartbeats 40000000 in
theorem rm18 (l : Launch) (Z : State) (a0 : Array Value) (hw : ∀ d ∈ tables_1, d.before a0 Z = true) (ws : List Jvm.Cond) (wc : Addr) (p1 p2 : Int32) (a1 a2 : Addr) (h0 : Heap) (n0 : Nat) (hWd : Wd Z wc) (O0 : Old Z n0 h0) (rl0 : ¬ (p2 < (-128 : Int32))) (rl1 : ¬ ((127 : Int32) < p2)) (E_a1 : Exa Z h0 a1 "com/example/vestwright/vestwright/model/VestingDay") (F_a1_vestingStartDay : Fld Z h0 a1 "com/example/vestwright/vestwright/model/VestingDay" "vestingStartDay" "Z" (.int p1)) (F_a1_day : Fld Z h0 a1 "com/example/vestwright/vestwright/model/VestingDay" "day" "I" (.int p2)) (g_a1 : n0 ≤ a1) (E_a2 : Exa Z h0 a2 "java/lang/Integer") :
    MetFree l (⟨"com/example/vestwright/vestwright/model/VestingDay", "equals", "(Ljava/lang/Object;)Z"⟩ : MethodName) (head1 (Jvm.Cond.code (⟨"com/example/vestwright/vestwright/model/VestingDay", "equals", "(Ljava/lang/Object;)Z"⟩ : MethodName) prog_87_method_7_code 3 (some .boolean) :: ws) ({ frames := 0, cells := 0, slots := 0, locals := 0 } : Room)) (fun a U => a = #[(.ref a1), (.ref a2)] ∧ Z.Warmed39 U.vm ∧ U.heap = h0) (fun _ _ _ _ _ => True) (fun _ U o U' => ∃ v L, o = .returned v ∧ Qp (some (.int (0 : Int32))) h0 n0 v U'.heap L ∧ FrameEnd U o U' L ({ frames := 0, cells := 0, slots := 0, locals := 0 } : Room).cells ({ frames := 0, cells := 0, slots := 0, locals := 0 } : Room).slots) := by
  refine MetFree.of_bodySF (plainFor_of_name pn1) hisR ?_
  intro p e s m args below meth c s₁ Bd hml0 hP hK
  obtain ⟨rfl, hZ, hh⟩ := hP
  have hx := Bd.exec
  have hby := Bd.bytes
  have hml : c.maxLocals = 3 := hml0
  have hown : s.vm.findClass "com/example/vestwright/vestwright/model/VestingDay" = some m.cls := findClass_of_methodNamed Bd.named
  have hnm := (name_of_methodNamed Bd.named Bd.method).1
  have X0 : Stand p l e ({ frames := 0, cells := 0, slots := 0, locals := 0 } : Room) s m #[(.ref a1), (.ref a2)] below meth c s₁ [] 0 0 := Stand.of_body Bd
  have e0 : s₁.heap = h0 := by rw [← hh, Bd.state]; rfl
  have N0 := Fr.nil n0
  have hlk := Bd.notSynchronized
  obtain ⟨wSh, wSc, wB, -⟩ := id hWd
  have pre0 : ∀ t, Steps p.tables e below (s₁.setTop (mkF m 0 #[.val (.ref a1), .val (.ref a2), .unset] [])) t → Steps p.tables e below (s₁.setTop (entryFrame m #[(.ref a1), (.ref a2)] 3)) t := fun t k => castTop (ef2 m a1 a2) k
  obtain ⟨T98, X98, e98, st98⟩ := instNo X0 hx hZ hown (hw _ (List.mem_of_getElem? (i := 30) rfl)) e0 E_a2 (own_ns_no (hw _ (List.mem_of_getElem? (i := 31) rfl)) (own_cls_inst (hw _ (List.mem_of_getElem? (i := 1) rfl))) (NS.step (hw _ (List.mem_of_getElem? (i := 31) rfl)) (NS.step (hw _ (List.mem_of_getElem? (i := 32) rfl)) (own_ns_root (hw _ (List.mem_of_getElem? (i := 33) rfl)) (own_cls_inst (hw _ (List.mem_of_getElem? (i := 1) rfl))) (by decide)) (by decide)) (by decide)) (by decide)) (g := (mkF m 1 #[.val (.ref a1), .val (.ref a2), .unset] [(.ref a2)])) rfl rfl (hb hby d_prog_87_method_7_code_1)
  obtain ⟨fs, hr, hrun, hended, hWr, hsame⟩ := X98.leave (v := some (.int (0 : Int32))) (fun h => by rw [Bd.returns] at h; cases h) hlk
  refine ⟨_, _, pre0 _ ?_, hrun, hended, _, _, rfl, ?_, ⟨_, rfl⟩, hWr, hsame.mono (Nat.le_of_ble_eq_true rfl) (Nat.le_of_ble_eq_true rfl)⟩
  · show Steps p.tables e below (s₁.setTop (mkF m 0 #[.val (.ref a1), .val (.ref a2), .unset] [])) _
    refine XS.aloadN X0.here hx rfl (hb hby d_prog_87_method_7_code_0) rfl rfl ?_
    show Steps p.tables e below (s₁.setTop (mkF m 1 #[.val (.ref a1), .val (.ref a2), .unset] [(.ref a2)])) _
    refine st98 _ ?_
    show Steps p.tables e below (T98.setTop (mkF m 4 #[.val (.ref a1), .val (.ref a2), .unset] [(.int (0 : Int32))])) _
    refine XS.ifYes X98.here hx rfl (pc0 := 4) (pc' := 38) rfl (hb hby d_prog_87_method_7_code_4) rfl (by decide) (by decide) (by decide) ?_
    show Steps p.tables e below (T98.setTop (mkF m 38 #[.val (.ref a1), .val (.ref a2), .unset] [])) _
    refine XS.iconst X98.here hx rfl (hb hby d_prog_87_method_7_code_38) ?_
    show Steps p.tables e below (T98.setTop (mkF m 39 #[.val (.ref a1), .val (.ref a2), .unset] [(.int (0 : Int32))])) _
    exact retN X98 hx (t := .boolean) Bd.returns (by simp) (hb hby d_prog_87_method_7_code_39) hr
  · show Qp (some (.int (0 : Int32))) h0 n0 _ T98.heap _
    rw [e98]
    exact ⟨rfl, N0, rfl⟩
theorem ef6 (m : MethodId)   (a1 : Addr) : entryFrame m #[(.ref a1), (.ref a1)] 3 = mkF m 0 #[.val (.ref a1), .val (.ref a1), .unset] [] := by first | (simp [entryFrame, mkF, argsToLocals, Value.category]; done) | rfl
set_option maxRecDepth 65536 in
set_option maxHeartbeats 40000000 in
theorem rm19 (l : Launch) (Z : State) (a0 : Array Value) (hw : ∀ d ∈ tables_1, d.before a0 Z = true) (ws : List Jvm.Cond) (wc : Addr) (p1 p2 : Int32) (a1 : Addr) (h0 : Heap) (n0 : Nat) (hWd : Wd Z wc) (O0 : Old Z n0 h0) (E_a1 : Exa Z h0 a1 "com/example/vestwright/vestwright/model/VestingDay") (F_a1_vestingStartDay : Fld Z h0 a1 "com/example/vestwright/vestwright/model/VestingDay" "vestingStartDay" "Z" (.int p1)) (F_a1_day : Fld Z h0 a1 "com/example/vestwright/vestwright/model/VestingDay" "day" "I" (.int p2)) (g_a1 : n0 ≤ a1) :
    MetFree l (⟨"com/example/vestwright/vestwright/model/VestingDay", "equals", "(Ljava/lang/Object;)Z"⟩ : MethodName) (head1 (Jvm.Cond.code (⟨"com/example/vestwright/vestwright/model/VestingDay", "equals", "(Ljava/lang/Object;)Z"⟩ : MethodName) prog_87_method_7_code 3 (some .boolean) :: ws) ({ frames := 0, cells := 0, slots := 0, locals := 0 } : Room)) (fun a U => a = #[(.ref a1), (.ref a1)] ∧ Z.Warmed39 U.vm ∧ U.heap = h0) (fun _ _ _ _ _ => True) (fun _ U o U' => ∃ v L, o = .returned v ∧ Qp (some (.int (1 : Int32))) h0 n0 v U'.heap L ∧ FrameEnd U o U' L ({ frames := 0, cells := 0, slots := 0, locals := 0 } : Room).cells ({ frames := 0, cells := 0, slots := 0, locals := 0 } : Room).slots) := by
  refine MetFree.of_bodySF (plainFor_of_name pn1) hisR ?_
  intro p e s m args below meth c s₁ Bd hml0 hP hK
  obtain ⟨rfl, hZ, hh⟩ := hP
  have hx := Bd.exec
  have hby := Bd.bytes
  have hml : c.maxLocals = 3 := hml0
  have hown : s.vm.findClass "com/example/vestwright/vestwright/model/VestingDay" = some m.cls := findClass_of_methodNamed Bd.named
  have hnm := (name_of_methodNamed Bd.named Bd.method).1
  have X0 : Stand p l e ({ frames := 0, cells := 0, slots := 0, locals := 0 } : Room) s m #[(.ref a1), (.ref a1)] below meth c s₁ [] 0 0 := Stand.of_body Bd
  have e0 : s₁.heap = h0 := by rw [← hh, Bd.state]; rfl
  have N0 := Fr.nil n0
  have hlk := Bd.notSynchronized
  obtain ⟨wSh, wSc, wB, -⟩ := id hWd
  have pre0 : ∀ t, Steps p.tables e below (s₁.setTop (mkF m 0 #[.val (.ref a1), .val (.ref a1), .unset] [])) t → Steps p.tables e below (s₁.setTop (entryFrame m #[(.ref a1), (.ref a1)] 3)) t := fun t k => castTop (ef6 m a1) k
  obtain ⟨T100, X100, e100, st100⟩ := instY X0 hx hZ hown (hw _ (List.mem_of_getElem? (i := 30) rfl)) e0 (Ins.self E_a1) (g := (mkF m 1 #[.val (.ref a1), .val (.ref a1), .unset] [(.ref a1)])) rfl rfl (hb hby d_prog_87_method_7_code_1)
  obtain ⟨T101, X101, e101, st101⟩ := castY X100 hx hZ hown (hw _ (List.mem_of_getElem? (i := 30) rfl)) e100 (Ins.self E_a1) (g := (mkF m 8 #[.val (.ref a1), .val (.ref a1), .unset] [(.ref a1)])) rfl rfl (hb hby d_prog_87_method_7_code_8)
  obtain ⟨T102, X102, e102, st102⟩ := getF X101 hx hZ hown (host := "") (Or.inl (hw _ (List.mem_of_getElem? (i := 14) rfl))) Via.refl e101 F_a1_vestingStartDay (g := (mkF m 13 #[.val (.ref a1), .val (.ref a1), .val (.ref a1)] [(.ref a1)])) rfl rfl (hb hby d_prog_87_method_7_code_13)
  obtain ⟨T103, X103, e103, st103⟩ := getF X102 hx hZ hown (host := "") (Or.inl (hw _ (List.mem_of_getElem? (i := 14) rfl))) Via.refl e102 F_a1_vestingStartDay (g := (mkF m 17 #[.val (.ref a1), .val (.ref a1), .val (.ref a1)] [(.ref a1), (.int p1)])) rfl rfl (hb hby d_prog_87_method_7_code_17)
  obtain ⟨T104, X104, e104, st104⟩ := getF X103 hx hZ hown (host := "") (Or.inl (hw _ (List.mem_of_getElem? (i := 16) rfl))) Via.refl e103 F_a1_day (g := (mkF m 24 #[.val (.ref a1), .val (.ref a1), .val (.ref a1)] [(.ref a1)])) rfl rfl (hb hby d_prog_87_method_7_code_24)
  obtain ⟨T105, X105, e105, st105⟩ := getF X104 hx hZ hown (host := "") (Or.inl (hw _ (List.mem_of_getElem? (i := 16) rfl))) Via.refl e104 F_a1_day (g := (mkF m 28 #[.val (.ref a1), .val (.ref a1), .val (.ref a1)] [(.ref a1), (.int p2)])) rfl rfl (hb hby d_prog_87_method_7_code_28)
  obtain ⟨fs, hr, hrun, hended, hWr, hsame⟩ := X105.leave (v := some (.int (1 : Int32))) (fun h => by rw [Bd.returns] at h; cases h) hlk
  refine ⟨_, _, pre0 _ ?_, hrun, hended, _, _, rfl, ?_, ⟨_, rfl⟩, hWr, hsame.mono (Nat.le_of_ble_eq_true rfl) (Nat.le_of_ble_eq_true rfl)⟩
  · show Steps p.tables e below (s₁.setTop (mkF m 0 #[.val (.ref a1), .val (.ref a1), .unset] [])) _
    refine XS.aloadN X0.here hx rfl (hb hby d_prog_87_method_7_code_0) rfl rfl ?_
    show Steps p.tables e below (s₁.setTop (mkF m 1 #[.val (.ref a1), .val (.ref a1), .unset] [(.ref a1)])) _
    refine st100 _ ?_
    show Steps p.tables e below (T100.setTop (mkF m 4 #[.val (.ref a1), .val (.ref a1), .unset] [(.int (1 : Int32))])) _
    refine XS.ifNo X100.here hx rfl (hb hby d_prog_87_method_7_code_4) rfl (by decide) ?_
    show Steps p.tables e below (T100.setTop (mkF m 7 #[.val (.ref a1), .val (.ref a1), .unset] [])) _
    refine XS.aloadN X100.here hx rfl (hb hby d_prog_87_method_7_code_7) rfl rfl ?_
    show Steps p.tables e below (T100.setTop (mkF m 8 #[.val (.ref a1), .val (.ref a1), .unset] [(.ref a1)])) _
    refine st101 _ ?_
    show Steps p.tables e below (T101.setTop (mkF m 11 #[.val (.ref a1), .val (.ref a1), .unset] [(.ref a1)])) _
    refine XS.astoreN X101.here hx rfl (hb hby d_prog_87_method_7_code_11) rfl rfl (l' := #[.val (.ref a1), .val (.ref a1), .val (.ref a1)]) rfl ?_
    show Steps p.tables e below (T101.setTop (mkF m 12 #[.val (.ref a1), .val (.ref a1), .val (.ref a1)] [])) _
    refine XS.aloadN X101.here hx rfl (hb hby d_prog_87_method_7_code_12) rfl rfl ?_
    show Steps p.tables e below (T101.setTop (mkF m 13 #[.val (.ref a1), .val (.ref a1), .val (.ref a1)] [(.ref a1)])) _
    refine st102 _ ?_
    show Steps p.tables e below (T102.setTop (mkF m 16 #[.val (.ref a1), .val (.ref a1), .val (.ref a1)] [(.int p1)])) _
    refine XS.aloadN X102.here hx rfl (hb hby d_prog_87_method_7_code_16) rfl rfl ?_
    show Steps p.tables e below (T102.setTop (mkF m 17 #[.val (.ref a1), .val (.ref a1), .val (.ref a1)] [(.ref a1), (.int p1)])) _
    refine st103 _ ?_
    show Steps p.tables e below (T103.setTop (mkF m 20 #[.val (.ref a1), .val (.ref a1), .val (.ref a1)] [(.int p1), (.int p1)])) _
    refine XS.icmpNo X103.here hx rfl (hb hby d_prog_87_method_7_code_20) rfl (teq (rfl : p1 = p1)).2 ?_
    show Steps p.tables e below (T103.setTop (mkF m 23 #[.val (.ref a1), .val (.ref a1), .val (.ref a1)] [])) _
    refine XS.aloadN X103.here hx rfl (hb hby d_prog_87_method_7_code_23) rfl rfl ?_
    show Steps p.tables e below (T103.setTop (mkF m 24 #[.val (.ref a1), .val (.ref a1), .val (.ref a1)] [(.ref a1)])) _
    refine st104 _ ?_
    show Steps p.tables e below (T104.setTop (mkF m 27 #[.val (.ref a1), .val (.ref a1), .val (.ref a1)] [(.int p2)])) _
    refine XS.aloadN X104.here hx rfl (hb hby d_prog_87_method_7_code_27) rfl rfl ?_
    show Steps p.tables e below (T104.setTop (mkF m 28 #[.val (.ref a1), .val (.ref a1), .val (.ref a1)] [(.ref a1), (.int p2)])) _
    refine st105 _ ?_
    show Steps p.tables e below (T105.setTop (mkF m 31 #[.val (.ref a1), .val (.ref a1), .val (.ref a1)] [(.int p2), (.int p2)])) _
    refine XS.icmpNo X105.here hx rfl (hb hby d_prog_87_method_7_code_31) rfl (teq (rfl : p2 = p2)).2 ?_
    show Steps p.tables e below (T105.setTop (mkF m 34 #[.val (.ref a1), .val (.ref a1), .val (.ref a1)] [])) _
    refine XS.iconst X105.here hx rfl (hb hby d_prog_87_method_7_code_34) ?_
    show Steps p.tables e below (T105.setTop (mkF m 35 #[.val (.ref a1), .val (.ref a1), .val (.ref a1)] [(.int (1 : Int32))])) _
    refine XS.goto X105.here hx rfl (pc0 := 35) (pc' := 39) rfl (hb hby d_prog_87_method_7_code_35) (by decide) (by decide) ?_
    show Steps p.tables e below (T105.setTop (mkF m 39 #[.val (.ref a1), .val (.ref a1), .val (.ref a1)] [(.int (1 : Int32))])) _
    exact retN X105 hx (t := .boolean) Bd.returns (by simp) (hb hby d_prog_87_method_7_code_39) hr
  · show Qp (some (.int (1 : Int32))) h0 n0 _ T105.heap _
    rw [e105]
    exact ⟨rfl, N0, rfl⟩
theorem pn4 : plainName "com/example/vestwright/vestwright/model/VestingDayEqualsPinLaw" = true := by first | (simp [plainName, overriddenIn]; done) | decide +kernel
theorem ef7 (m : MethodId) (i0 : Int32) (i1 : Int32) (i2 : Int32) (i3 : Int32)   : entryFrame m #[(.int i0), (.int i1), (.int i2), (.int i3)] maxLocals = mkF m 0 #[.val (.int i0), .val (.int i1), .val (.int i2), .val (.int i3), .unset, .unset, .unset, .unset, .unset, .unset, .unset] [] := by first | (simp [entryFrame, mkF, argsToLocals, Value.category, maxLocals]; done) | rfl
set_option maxRecDepth 65536 in
set_option maxHeartbeats 40000000 in
theorem rm0 (l : Launch) (Z : State) (a0 : Array Value) (hw : ∀ d ∈ tables_1, d.before a0 Z = true) (ws : List Jvm.Cond) (wc : Addr) (i0 i1 i2 i3 : Int32) (h0 : Heap) (n0 : Nat) (hWd : Wd Z wc) (O0 : Old Z n0 h0) :
    MetFree l x (head1 (Jvm.Cond.code x code maxLocals ret :: ws) room_1) (fun a U => a = #[(.int i0), (.int i1), (.int i2), (.int i3)] ∧ Z.Warmed39 U.vm ∧ U.heap = h0) (fun _ _ _ _ _ => True) (fun _ U o U' => ∃ v L, o = .returned v ∧ Ql n0 v U'.heap L ∧ FrameEnd U o U' L room_1.cells room_1.slots) := by
  refine MetFree.of_bodySF (plainFor_of_name pn4) hisR ?_
  intro p e s m args below meth c s₁ Bd hml0 hP hK
  obtain ⟨rfl, hZ, hh⟩ := hP
  have hx := Bd.exec
  have hby := Bd.bytes
  have hml : c.maxLocals = 11 := hml0
  have hown : s.vm.findClass "com/example/vestwright/vestwright/model/VestingDayEqualsPinLaw" = some m.cls := findClass_of_methodNamed Bd.named
  have hnm := (name_of_methodNamed Bd.named Bd.method).1
  have X0 : Stand p l e room_1 s m #[(.int i0), (.int i1), (.int i2), (.int i3)] below meth c s₁ [] 0 0 := Stand.of_body Bd
  have e0 : s₁.heap = h0 := by rw [← hh, Bd.state]; rfl
  have N0 := Fr.nil n0
  have hlk := Bd.notSynchronized
  obtain ⟨wSh, wSc, wB, -⟩ := id hWd
  have pre0 : ∀ t, Steps p.tables e below (s₁.setTop (mkF m 0 #[.val (.int i0), .val (.int i1), .val (.int i2), .val (.int i3), .unset, .unset, .unset, .unset, .unset, .unset, .unset] [])) t → Steps p.tables e below (s₁.setTop (entryFrame m #[(.int i0), (.int i1), (.int i2), (.int i3)] maxLocals)) t := fun t k => castTop (ef7 m i0 i1 i2 i3) k
  obtain ⟨j1, hj1, pre1⟩ : ∃ j : Int32, (j = (0 : Int32) ∨ j = (1 : Int32)) ∧ ∀ t, Steps p.tables e below (s₁.setTop (mkF m 11 #[.val (.int i0), .val (.int i1), .val (.int i2), .val (.int i3), .unset, .unset, .unset, .unset, .unset, .unset, .unset] [(.int j)])) t → Steps p.tables e below (s₁.setTop (entryFrame m #[(.int i0), (.int i1), (.int i2), (.int i3)] maxLocals)) t := by
    have pre2 : ∀ t, Steps p.tables e below (s₁.setTop (mkF m 2 #[.val (.int i0), .val (.int i1), .val (.int i2), .val (.int i3), .unset, .unset, .unset, .unset, .unset, .unset, .unset] [(.int (1 : Int32)), (.int i0)])) t → Steps p.tables e below (s₁.setTop (entryFrame m #[(.int i0), (.int i1), (.int i2), (.int i3)] maxLocals)) t := by
      intro t k
      refine pre0 _ ?_
      show Steps p.tables e below (s₁.setTop (mkF m 0 #[.val (.int i0), .val (.int i1), .val (.int i2), .val (.int i3), .unset, .unset, .unset, .unset, .unset, .unset, .unset] [])) _
      refine XS.iloadN X0.here hx rfl (hb hby at_0) rfl ?_
      show Steps p.tables e below (s₁.setTop (mkF m 1 #[.val (.int i0), .val (.int i1), .val (.int i2), .val (.int i3), .unset, .unset, .unset, .unset, .unset, .unset, .unset] [(.int i0)])) _
      refine XS.iconst X0.here hx rfl (hb hby at_1) ?_
      show Steps p.tables e below (s₁.setTop (mkF m 2 #[.val (.int i0), .val (.int i1), .val (.int i2), .val (.int i3), .unset, .unset, .unset, .unset, .unset, .unset, .unset] [(.int (1 : Int32)), (.int i0)])) _
      exact k
    rcases own_and_1 i0 with hk3 | hk4
    · refine ⟨(0 : Int32), Or.inl rfl, fun t k => ?_⟩
      refine pre2 _ ?_
      show Steps p.tables e below (s₁.setTop (mkF m 2 #[.val (.int i0), .val (.int i1), .val (.int i2), .val (.int i3), .unset, .unset, .unset, .unset, .unset, .unset, .unset] [(.int (1 : Int32)), (.int i0)])) _
      refine XS.iand X0.here hx rfl (hb hby at_2) rfl ?_
      show Steps p.tables e below (s₁.setTop (mkF m 3 #[.val (.int i0), .val (.int i1), .val (.int i2), .val (.int i3), .unset, .unset, .unset, .unset, .unset, .unset, .unset] [(.int (i0 &&& (1 : Int32)))])) _
      rw [hk3]
      show Steps p.tables e below (s₁.setTop (mkF m 3 #[.val (.int i0), .val (.int i1), .val (.int i2), .val (.int i3), .unset, .unset, .unset, .unset, .unset, .unset, .unset] [(.int (0 : Int32))])) _
      refine XS.ifYes X0.here hx rfl (pc0 := 3) (pc' := 10) rfl (hb hby at_3) rfl (by decide) (by decide) (by decide) ?_
      show Steps p.tables e below (s₁.setTop (mkF m 10 #[.val (.int i0), .val (.int i1), .val (.int i2), .val (.int i3), .unset, .unset, .unset, .unset, .unset, .unset, .unset] [])) _
      refine XS.iconst X0.here hx rfl (hb hby at_10) ?_
      show Steps p.tables e below (s₁.setTop (mkF m 11 #[.val (.int i0), .val (.int i1), .val (.int i2), .val (.int i3), .unset, .unset, .unset, .unset, .unset, .unset, .unset] [(.int (0 : Int32))])) _
      exact k
    · refine ⟨(1 : Int32), Or.inr rfl, fun t k => ?_⟩
      refine pre2 _ ?_
      show Steps p.tables e below (s₁.setTop (mkF m 2 #[.val (.int i0), .val (.int i1), .val (.int i2), .val (.int i3), .unset, .unset, .unset, .unset, .unset, .unset, .unset] [(.int (1 : Int32)), (.int i0)])) _
      refine XS.iand X0.here hx rfl (hb hby at_2) rfl ?_
      show Steps p.tables e below (s₁.setTop (mkF m 3 #[.val (.int i0), .val (.int i1), .val (.int i2), .val (.int i3), .unset, .unset, .unset, .unset, .unset, .unset, .unset] [(.int (i0 &&& (1 : Int32)))])) _
      rw [hk4]
      show Steps p.tables e below (s₁.setTop (mkF m 3 #[.val (.int i0), .val (.int i1), .val (.int i2), .val (.int i3), .unset, .unset, .unset, .unset, .unset, .unset, .unset] [(.int (1 : Int32))])) _
      refine XS.ifNo X0.here hx rfl (hb hby at_3) rfl (by decide) ?_
      show Steps p.tables e below (s₁.setTop (mkF m 6 #[.val (.int i0), .val (.int i1), .val (.int i2), .val (.int i3), .unset, .unset, .unset, .unset, .unset, .unset, .unset] [])) _
      refine XS.iconst X0.here hx rfl (hb hby at_6) ?_
      show Steps p.tables e below (s₁.setTop (mkF m 7 #[.val (.int i0), .val (.int i1), .val (.int i2), .val (.int i3), .unset, .unset, .unset, .unset, .unset, .unset, .unset] [(.int (1 : Int32))])) _
      refine XS.goto X0.here hx rfl (pc0 := 7) (pc' := 11) rfl (hb hby at_7) (by decide) (by decide) ?_
      show Steps p.tables e below (s₁.setTop (mkF m 11 #[.val (.int i0), .val (.int i1), .val (.int i2), .val (.int i3), .unset, .unset, .unset, .unset, .unset, .unset, .unset] [(.int (1 : Int32))])) _
      exact k
  have pre5 : ∀ t, Steps p.tables e below (s₁.setTop (mkF m 13 #[.val (.int i0), .val (.int i1), .val (.int i2), .val (.int i3), .val (.int j1), .unset, .unset, .unset, .unset, .unset, .unset] [])) t → Steps p.tables e below (s₁.setTop (entryFrame m #[(.int i0), (.int i1), (.int i2), (.int i3)] maxLocals)) t := by
    intro t k
    refine pre1 _ ?_
    show Steps p.tables e below (s₁.setTop (mkF m 11 #[.val (.int i0), .val (.int i1), .val (.int i2), .val (.int i3), .unset, .unset, .unset, .unset, .unset, .unset, .unset] [(.int j1)])) _
    refine XS.istore X0.here hx rfl (hb hby at_11) rfl (l' := #[.val (.int i0), .val (.int i1), .val (.int i2), .val (.int i3), .val (.int j1), .unset, .unset, .unset, .unset, .unset, .unset]) rfl ?_
    show Steps p.tables e below (s₁.setTop (mkF m 13 #[.val (.int i0), .val (.int i1), .val (.int i2), .val (.int i3), .val (.int j1), .unset, .unset, .unset, .unset, .unset, .unset] [])) _
    exact k
  obtain ⟨j6, hj6, pre6⟩ : ∃ j : Int32, (j = (0 : Int32) ∨ j = (1 : Int32)) ∧ ∀ t, Steps p.tables e below (s₁.setTop (mkF m 24 #[.val (.int i0), .val (.int i1), .val (.int i2), .val (.int i3), .val (.int j1), .unset, .unset, .unset, .unset, .unset, .unset] [(.int j)])) t → Steps p.tables e below (s₁.setTop (entryFrame m #[(.int i0), (.int i1), (.int i2), (.int i3)] maxLocals)) t := by
    have pre7 : ∀ t, Steps p.tables e below (s₁.setTop (mkF m 15 #[.val (.int i0), .val (.int i1), .val (.int i2), .val (.int i3), .val (.int j1), .unset, .unset, .unset, .unset, .unset, .unset] [(.int (2 : Int32)), (.int i0)])) t → Steps p.tables e below (s₁.setTop (entryFrame m #[(.int i0), (.int i1), (.int i2), (.int i3)] maxLocals)) t := by
      intro t k
      refine pre5 _ ?_
      show Steps p.tables e below (s₁.setTop (mkF m 13 #[.val (.int i0), .val (.int i1), .val (.int i2), .val (.int i3), .val (.int j1), .unset, .unset, .unset, .unset, .unset, .unset] [])) _
      refine XS.iloadN X0.here hx rfl (hb hby at_13) rfl ?_
      show Steps p.tables e below (s₁.setTop (mkF m 14 #[.val (.int i0), .val (.int i1), .val (.int i2), .val (.int i3), .val (.int j1), .unset, .unset, .unset, .unset, .unset, .unset] [(.int i0)])) _
      refine XS.iconst X0.here hx rfl (hb hby at_14) ?_
      show Steps p.tables e below (s₁.setTop (mkF m 15 #[.val (.int i0), .val (.int i1), .val (.int i2), .val (.int i3), .val (.int j1), .unset, .unset, .unset, .unset, .unset, .unset] [(.int (2 : Int32)), (.int i0)])) _
      exact k
    rcases own_and_2 i0 with hk8 | hk9
    · refine ⟨(0 : Int32), Or.inl rfl, fun t k => ?_⟩
      refine pre7 _ ?_
      show Steps p.tables e below (s₁.setTop (mkF m 15 #[.val (.int i0), .val (.int i1), .val (.int i2), .val (.int i3), .val (.int j1), .unset, .unset, .unset, .unset, .unset, .unset] [(.int (2 : Int32)), (.int i0)])) _
      refine XS.iand X0.here hx rfl (hb hby at_15) rfl ?_
      show Steps p.tables e below (s₁.setTop (mkF m 16 #[.val (.int i0), .val (.int i1), .val (.int i2), .val (.int i3), .val (.int j1), .unset, .unset, .unset, .unset, .unset, .unset] [(.int (i0 &&& (2 : Int32)))])) _
      rw [hk8]
      show Steps p.tables e below (s₁.setTop (mkF m 16 #[.val (.int i0), .val (.int i1), .val (.int i2), .val (.int i3), .val (.int j1), .unset, .unset, .unset, .unset, .unset, .unset] [(.int (0 : Int32))])) _
      refine XS.ifYes X0.here hx rfl (pc0 := 16) (pc' := 23) rfl (hb hby at_16) rfl (by decide) (by decide) (by decide) ?_
      show Steps p.tables e below (s₁.setTop (mkF m 23 #[.val (.int i0), .val (.int i1), .val (.int i2), .val (.int i3), .val (.int j1), .unset, .unset, .unset, .unset, .unset, .unset] [])) _
      refine XS.iconst X0.here hx rfl (hb hby at_23) ?_
      show Steps p.tables e below (s₁.setTop (mkF m 24 #[.val (.int i0), .val (.int i1), .val (.int i2), .val (.int i3), .val (.int j1), .unset, .unset, .unset, .unset, .unset, .unset] [(.int (0 : Int32))])) _
      exact k
    · refine ⟨(1 : Int32), Or.inr rfl, fun t k => ?_⟩
      refine pre7 _ ?_
      show Steps p.tables e below (s₁.setTop (mkF m 15 #[.val (.int i0), .val (.int i1), .val (.int i2), .val (.int i3), .val (.int j1), .unset, .unset, .unset, .unset, .unset, .unset] [(.int (2 : Int32)), (.int i0)])) _
      refine XS.iand X0.here hx rfl (hb hby at_15) rfl ?_
      show Steps p.tables e below (s₁.setTop (mkF m 16 #[.val (.int i0), .val (.int i1), .val (.int i2), .val (.int i3), .val (.int j1), .unset, .unset, .unset, .unset, .unset, .unset] [(.int (i0 &&& (2 : Int32)))])) _
      rw [hk9]
      show Steps p.tables e below (s₁.setTop (mkF m 16 #[.val (.int i0), .val (.int i1), .val (.int i2), .val (.int i3), .val (.int j1), .unset, .unset, .unset, .unset, .unset, .unset] [(.int (2 : Int32))])) _
      refine XS.ifNo X0.here hx rfl (hb hby at_16) rfl (by decide) ?_
      show Steps p.tables e below (s₁.setTop (mkF m 19 #[.val (.int i0), .val (.int i1), .val (.int i2), .val (.int i3), .val (.int j1), .unset, .unset, .unset, .unset, .unset, .unset] [])) _
      refine XS.iconst X0.here hx rfl (hb hby at_19) ?_
      show Steps p.tables e below (s₁.setTop (mkF m 20 #[.val (.int i0), .val (.int i1), .val (.int i2), .val (.int i3), .val (.int j1), .unset, .unset, .unset, .unset, .unset, .unset] [(.int (1 : Int32))])) _
      refine XS.goto X0.here hx rfl (pc0 := 20) (pc' := 24) rfl (hb hby at_20) (by decide) (by decide) ?_
      show Steps p.tables e below (s₁.setTop (mkF m 24 #[.val (.int i0), .val (.int i1), .val (.int i2), .val (.int i3), .val (.int j1), .unset, .unset, .unset, .unset, .unset, .unset] [(.int (1 : Int32))])) _
      exact k
  have pre10 : ∀ t, Steps p.tables e below (s₁.setTop (mkF m 26 #[.val (.int i0), .val (.int i1), .val (.int i2), .val (.int i3), .val (.int j1), .val (.int j6), .unset, .unset, .unset, .unset, .unset] [])) t → Steps p.tables e below (s₁.setTop (entryFrame m #[(.int i0), (.int i1), (.int i2), (.int i3)] maxLocals)) t := by
    intro t k
    refine pre6 _ ?_
    show Steps p.tables e below (s₁.setTop (mkF m 24 #[.val (.int i0), .val (.int i1), .val (.int i2), .val (.int i3), .val (.int j1), .unset, .unset, .unset, .unset, .unset, .unset] [(.int j6)])) _
    refine XS.istore X0.here hx rfl (hb hby at_24) rfl (l' := #[.val (.int i0), .val (.int i1), .val (.int i2), .val (.int i3), .val (.int j1), .val (.int j6), .unset, .unset, .unset, .unset, .unset]) rfl ?_
    show Steps p.tables e below (s₁.setTop (mkF m 26 #[.val (.int i0), .val (.int i1), .val (.int i2), .val (.int i3), .val (.int j1), .val (.int j6), .unset, .unset, .unset, .unset, .unset] [])) _
    exact k
  obtain ⟨j11, hj11, pre11⟩ : ∃ j : Int32, True ∧ ∀ t, Steps p.tables e below (s₁.setTop (mkF m 37 #[.val (.int i0), .val (.int i1), .val (.int i2), .val (.int i3), .val (.int j1), .val (.int j6), .unset, .unset, .unset, .unset, .unset] [(.int j)])) t → Steps p.tables e below (s₁.setTop (entryFrame m #[(.int i0), (.int i1), (.int i2), (.int i3)] maxLocals)) t := by
    have pre12 : ∀ t, Steps p.tables e below (s₁.setTop (mkF m 28 #[.val (.int i0), .val (.int i1), .val (.int i2), .val (.int i3), .val (.int j1), .val (.int j6), .unset, .unset, .unset, .unset, .unset] [(.int (4 : Int32)), (.int i3)])) t → Steps p.tables e below (s₁.setTop (entryFrame m #[(.int i0), (.int i1), (.int i2), (.int i3)] maxLocals)) t := by
      intro t k
      refine pre10 _ ?_
      show Steps p.tables e below (s₁.setTop (mkF m 26 #[.val (.int i0), .val (.int i1), .val (.int i2), .val (.int i3), .val (.int j1), .val (.int j6), .unset, .unset, .unset, .unset, .unset] [])) _
      refine XS.iloadN X0.here hx rfl (hb hby at_26) rfl ?_
      show Steps p.tables e below (s₁.setTop (mkF m 27 #[.val (.int i0), .val (.int i1), .val (.int i2), .val (.int i3), .val (.int j1), .val (.int j6), .unset, .unset, .unset, .unset, .unset] [(.int i3)])) _
      refine XS.iconst X0.here hx rfl (hb hby at_27) ?_
      show Steps p.tables e below (s₁.setTop (mkF m 28 #[.val (.int i0), .val (.int i1), .val (.int i2), .val (.int i3), .val (.int j1), .val (.int j6), .unset, .unset, .unset, .unset, .unset] [(.int (4 : Int32)), (.int i3)])) _
      exact k
    rcases own_and_4 i3 with hk13 | hk14
    · refine ⟨i2, trivial, fun t k => ?_⟩
      refine pre12 _ ?_
      show Steps p.tables e below (s₁.setTop (mkF m 28 #[.val (.int i0), .val (.int i1), .val (.int i2), .val (.int i3), .val (.int j1), .val (.int j6), .unset, .unset, .unset, .unset, .unset] [(.int (4 : Int32)), (.int i3)])) _
      refine XS.iand X0.here hx rfl (hb hby at_28) rfl ?_
      show Steps p.tables e below (s₁.setTop (mkF m 29 #[.val (.int i0), .val (.int i1), .val (.int i2), .val (.int i3), .val (.int j1), .val (.int j6), .unset, .unset, .unset, .unset, .unset] [(.int (i3 &&& (4 : Int32)))])) _
      rw [hk13]
      show Steps p.tables e below (s₁.setTop (mkF m 29 #[.val (.int i0), .val (.int i1), .val (.int i2), .val (.int i3), .val (.int j1), .val (.int j6), .unset, .unset, .unset, .unset, .unset] [(.int (0 : Int32))])) _
      refine XS.ifYes X0.here hx rfl (pc0 := 29) (pc' := 36) rfl (hb hby at_29) rfl (by decide) (by decide) (by decide) ?_
      show Steps p.tables e below (s₁.setTop (mkF m 36 #[.val (.int i0), .val (.int i1), .val (.int i2), .val (.int i3), .val (.int j1), .val (.int j6), .unset, .unset, .unset, .unset, .unset] [])) _
      refine XS.iloadN X0.here hx rfl (hb hby at_36) rfl ?_
      show Steps p.tables e below (s₁.setTop (mkF m 37 #[.val (.int i0), .val (.int i1), .val (.int i2), .val (.int i3), .val (.int j1), .val (.int j6), .unset, .unset, .unset, .unset, .unset] [(.int i2)])) _
      exact k
    · refine ⟨i1, trivial, fun t k => ?_⟩
      refine pre12 _ ?_
      show Steps p.tables e below (s₁.setTop (mkF m 28 #[.val (.int i0), .val (.int i1), .val (.int i2), .val (.int i3), .val (.int j1), .val (.int j6), .unset, .unset, .unset, .unset, .unset] [(.int (4 : Int32)), (.int i3)])) _
      refine XS.iand X0.here hx rfl (hb hby at_28) rfl ?_
      show Steps p.tables e below (s₁.setTop (mkF m 29 #[.val (.int i0), .val (.int i1), .val (.int i2), .val (.int i3), .val (.int j1), .val (.int j6), .unset, .unset, .unset, .unset, .unset] [(.int (i3 &&& (4 : Int32)))])) _
      rw [hk14]
      show Steps p.tables e below (s₁.setTop (mkF m 29 #[.val (.int i0), .val (.int i1), .val (.int i2), .val (.int i3), .val (.int j1), .val (.int j6), .unset, .unset, .unset, .unset, .unset] [(.int (4 : Int32))])) _
      refine XS.ifNo X0.here hx rfl (hb hby at_29) rfl (by decide) ?_
      show Steps p.tables e below (s₁.setTop (mkF m 32 #[.val (.int i0), .val (.int i1), .val (.int i2), .val (.int i3), .val (.int j1), .val (.int j6), .unset, .unset, .unset, .unset, .unset] [])) _
      refine XS.iloadN X0.here hx rfl (hb hby at_32) rfl ?_
      show Steps p.tables e below (s₁.setTop (mkF m 33 #[.val (.int i0), .val (.int i1), .val (.int i2), .val (.int i3), .val (.int j1), .val (.int j6), .unset, .unset, .unset, .unset, .unset] [(.int i1)])) _
      refine XS.goto X0.here hx rfl (pc0 := 33) (pc' := 37) rfl (hb hby at_33) (by decide) (by decide) ?_
      show Steps p.tables e below (s₁.setTop (mkF m 37 #[.val (.int i0), .val (.int i1), .val (.int i2), .val (.int i3), .val (.int j1), .val (.int j6), .unset, .unset, .unset, .unset, .unset] [(.int i1)])) _
      exact k
  obtain ⟨T15, h15, X15, e15, E15, A15, D15, -, st15⟩ := newO X0 hx hZ hown (hw _ (List.mem_of_getElem? (i := 0) rfl)) (hw _ (List.mem_of_getElem? (i := 1) rfl)) (hw _ (List.mem_of_getElem? (i := 2) rfl)) e0 (g := (mkF m 39 #[.val (.int i0), .val (.int i1), .val (.int i2), .val (.int i3), .val (.int j1), .val (.int j6), .val (.int j11), .unset, .unset, .unset, .unset] [])) rfl (hb hby at_39) (by decide) (by decide)
  obtain ⟨b15, g15⟩ : ∃ z, z = h0.size := ⟨_, rfl⟩
  rw [← g15] at A15 D15 st15
  have g_b15 : n0 ≤ b15 := Nat.le_trans (Nat.le_trans (Nat.le_of_eq O0.1.symm) O0.2.1) (Nat.le_of_eq g15.symm)
  have O_15 : Old Z n0 h15 := O0.ext E15
  have F_b15_vestingStartDay : Fld Z h15 b15 "com/example/vestwright/vestwright/model/VestingDay" "vestingStartDay" "Z" (.int (0 : Int32)) := D15 (Or.inr (hw _ (List.mem_of_getElem? (i := 15) rfl))) (ty := .boolean) (by decide)
  have F_b15_day : Fld Z h15 b15 "com/example/vestwright/vestwright/model/VestingDay" "day" "I" (.int (0 : Int32)) := D15 (Or.inr (hw _ (List.mem_of_getElem? (i := 17) rfl))) (ty := .int) (by decide)
  obtain ⟨_, _, ⟨T20, L20, k20, n20⟩, -, X20, ⟨Lc20, hQ20, l20, y20, z20⟩, st20⟩ := X15.specialBack hx (y := (⟨"com/example/vestwright/vestwright/model/VestingDay", "<init>", "(ZI)V"⟩ : MethodName)) rfl hown (mvT hZ (hw _ (List.mem_of_getElem? (i := 3) rfl))) (mvT hZ (hw _ (List.mem_of_getElem? (i := 4) rfl))) (mvT hZ (hw _ (List.mem_of_getElem? (i := 5) rfl))) (by decide) (backOf (W := 1) (rm1 l Z a0 hw [] wc j1 i1 b15 h15 n0 hWd O_15 hj1 A15 F_b15_vestingStartDay F_b15_day g_b15) hZ (hw _ (List.mem_of_getElem? (i := 5) rfl)) (hw _ (List.mem_of_getElem? (i := 2) rfl)) (by decide) (by decide)) (g := (mkF m 46 #[.val (.int i0), .val (.int i1), .val (.int i2), .val (.int i3), .val (.int j1), .val (.int j6), .val (.int j11), .unset, .unset, .unset, .unset] [(.int i1), (.int j1), (.ref b15), (.ref b15)])) rfl (by rw [hml]; rfl) (Steps.refl _) (a := b15) (argsL := [(.int j1), (.int i1)]) (rest := [(.ref b15)]) (lenOf pd1 rfl) rfl (by show 2 * 0 + _ ≤ _; exact Nat.le_of_eq rfl) (hb hby at_46) (fun _ _ => ⟨rfl, e15, (by decide : 1 + 0 ≤ _), (by decide : 2 + 0 ≤ _)⟩)
  dsimp only [Pt.U, Pt.locs, Pt.cells, Pt.slots] at X20 l20 y20 z20 st20 hQ20
  subst l20 y20 z20
  obtain ⟨rfl, N20q, K20, O_20, E_b15_20, F_b15_vestingStartDay_20, F_b15_day_20⟩ := hQ20
  have N20 := Fr.app N0 N20q
  obtain ⟨T21, h21, X21, e21, E21, A21, D21, -, st21⟩ := newO X20 hx hZ hown (hw _ (List.mem_of_getElem? (i := 0) rfl)) (hw _ (List.mem_of_getElem? (i := 1) rfl)) (hw _ (List.mem_of_getElem? (i := 2) rfl)) rfl (g := (mkF m 51 #[.val (.int i0), .val (.int i1), .val (.int i2), .val (.int i3), .val (.int j1), .val (.int j6), .val (.int j11), .val (.ref b15), .unset, .unset, .unset] [])) rfl (hb hby at_51) (by decide) (by decide)
  obtain ⟨b21, g21⟩ : ∃ z, z = T20.heap.size := ⟨_, rfl⟩
  rw [← g21] at A21 D21 st21
  have ne_b15_b21 : b15 ≠ b21 := Nat.ne_of_lt (Nat.lt_of_lt_of_le E_b15_20.lt (Nat.le_of_eq g21.symm))
  have g_b21 : n0 ≤ b21 := Nat.le_trans (Nat.le_trans (Nat.le_of_eq O_20.1.symm) O_20.2.1) (Nat.le_of_eq g21.symm)
  have E_b15_21 : Exa Z h21 b15 "com/example/vestwright/vestwright/model/VestingDay" := E_b15_20.ext E21
  have F_b15_vestingStartDay_21 : Fld Z h21 b15 "com/example/vestwright/vestwright/model/VestingDay" "vestingStartDay" "Z" (.int j1) := F_b15_vestingStartDay_20.ext E21
  have F_b15_day_21 : Fld Z h21 b15 "com/example/vestwright/vestwright/model/VestingDay" "day" "I" (.int i1) := F_b15_day_20.ext E21
  have O_21 : Old Z n0 h21 := O_20.ext E21
  have F_b21_vestingStartDay : Fld Z h21 b21 "com/example/vestwright/vestwright/model/VestingDay" "vestingStartDay" "Z" (.int (0 : Int32)) := D21 (Or.inr (hw _ (List.mem_of_getElem? (i := 15) rfl))) (ty := .boolean) (by decide)
  have F_b21_day : Fld Z h21 b21 "com/example/vestwright/vestwright/model/VestingDay" "day" "I" (.int (0 : Int32)) := D21 (Or.inr (hw _ (List.mem_of_getElem? (i := 17) rfl))) (ty := .int) (by decide)
  obtain ⟨_, _, ⟨T22, L22, k22, n22⟩, -, X22, ⟨Lc22, hQ22, l22, y22, z22⟩, st22⟩ := X21.specialBack hx (y := (⟨"com/example/vestwright/vestwright/model/VestingDay", "<init>", "(ZI)V"⟩ : MethodName)) rfl hown (mvT hZ (hw _ (List.mem_of_getElem? (i := 3) rfl))) (mvT hZ (hw _ (List.mem_of_getElem? (i := 4) rfl))) (mvT hZ (hw _ (List.mem_of_getElem? (i := 5) rfl))) (by decide) (backOf (W := 1) (rm1 l Z a0 hw [] wc j6 j11 b21 h21 n0 hWd O_21 hj6 A21 F_b21_vestingStartDay F_b21_day g_b21) hZ (hw _ (List.mem_of_getElem? (i := 5) rfl)) (hw _ (List.mem_of_getElem? (i := 2) rfl)) (by decide) (by decide)) (g := (mkF m 59 #[.val (.int i0), .val (.int i1), .val (.int i2), .val (.int i3), .val (.int j1), .val (.int j6), .val (.int j11), .val (.ref b15), .unset, .unset, .unset] [(.int j11), (.int j6), (.ref b21), (.ref b21)])) rfl (by rw [hml]; rfl) (Steps.refl _) (a := b21) (argsL := [(.int j6), (.int j11)]) (rest := [(.ref b21)]) (lenOf pd1 rfl) rfl (by show 2 * 0 + _ ≤ _; exact Nat.le_of_eq rfl) (hb hby at_59) (fun _ _ => ⟨rfl, e21, (by decide : 2 + 0 ≤ _), (by decide : 4 + 0 ≤ _)⟩)
  dsimp only [Pt.U, Pt.locs, Pt.cells, Pt.slots] at X22 l22 y22 z22 st22 hQ22
  subst l22 y22 z22
  obtain ⟨rfl, N22q, K22, O_22, E_b21_22, F_b21_vestingStartDay_22, F_b21_day_22⟩ := hQ22
  have N22 := Fr.app N20 N22q
  have E_b15_22 : Exa Z T22.heap b15 "com/example/vestwright/vestwright/model/VestingDay" := E_b15_21.keep K22
  have F_b15_vestingStartDay_22 : Fld Z T22.heap b15 "com/example/vestwright/vestwright/model/VestingDay" "vestingStartDay" "Z" (.int j1) := F_b15_vestingStartDay_21.keep K22 (ninS ne_b15_b21 nin0)
  have F_b15_day_22 : Fld Z T22.heap b15 "com/example/vestwright/vestwright/model/VestingDay" "day" "I" (.int i1) := F_b15_day_21.keep K22 (ninS ne_b15_b21 nin0)
  have pre23 : ∀ t, Steps p.tables e below (T22.setTop (mkF m 66 #[.val (.int i0), .val (.int i1), .val (.int i2), .val (.int i3), .val (.int j1), .val (.int j6), .val (.int j11), .val (.ref b15), .val (.ref b21), .unset, .unset] [(.int (3 : Int32)), (.int i3)])) t → Steps p.tables e below (s₁.setTop (entryFrame m #[(.int i0), (.int i1), (.int i2), (.int i3)] maxLocals)) t := by
    intro t k
    refine pre11 _ ?_
    show Steps p.tables e below (s₁.setTop (mkF m 37 #[.val (.int i0), .val (.int i1), .val (.int i2), .val (.int i3), .val (.int j1), .val (.int j6), .unset, .unset, .unset, .unset, .unset] [(.int j11)])) _
    refine XS.istore X0.here hx rfl (hb hby at_37) rfl (l' := #[.val (.int i0), .val (.int i1), .val (.int i2), .val (.int i3), .val (.int j1), .val (.int j6), .val (.int j11), .unset, .unset, .unset, .unset]) rfl ?_
    show Steps p.tables e below (s₁.setTop (mkF m 39 #[.val (.int i0), .val (.int i1), .val (.int i2), .val (.int i3), .val (.int j1), .val (.int j6), .val (.int j11), .unset, .unset, .unset, .unset] [])) _
    refine st15 _ ?_
    show Steps p.tables e below (T15.setTop (mkF m 42 #[.val (.int i0), .val (.int i1), .val (.int i2), .val (.int i3), .val (.int j1), .val (.int j6), .val (.int j11), .unset, .unset, .unset, .unset] [(.ref b15)])) _
    refine XS.dup X15.here hx rfl (hb hby at_42) rfl rfl ?_
    show Steps p.tables e below (T15.setTop (mkF m 43 #[.val (.int i0), .val (.int i1), .val (.int i2), .val (.int i3), .val (.int j1), .val (.int j6), .val (.int j11), .unset, .unset, .unset, .unset] [(.ref b15), (.ref b15)])) _
    refine XS.iload X15.here hx rfl (hb hby at_43) rfl ?_
    show Steps p.tables e below (T15.setTop (mkF m 45 #[.val (.int i0), .val (.int i1), .val (.int i2), .val (.int i3), .val (.int j1), .val (.int j6), .val (.int j11), .unset, .unset, .unset, .unset] [(.int j1), (.ref b15), (.ref b15)])) _
    refine XS.iloadN X15.here hx rfl (hb hby at_45) rfl ?_
    show Steps p.tables e below (T15.setTop (mkF m 46 #[.val (.int i0), .val (.int i1), .val (.int i2), .val (.int i3), .val (.int j1), .val (.int j6), .val (.int j11), .unset, .unset, .unset, .unset] [(.int i1), (.int j1), (.ref b15), (.ref b15)])) _
    refine st20.trans ?_
    show Steps p.tables e below (T20.setTop (mkF m 49 #[.val (.int i0), .val (.int i1), .val (.int i2), .val (.int i3), .val (.int j1), .val (.int j6), .val (.int j11), .unset, .unset, .unset, .unset] [(.ref b15)])) _
    refine XS.astore X20.here hx rfl (hb hby at_49) rfl rfl (l' := #[.val (.int i0), .val (.int i1), .val (.int i2), .val (.int i3), .val (.int j1), .val (.int j6), .val (.int j11), .val (.ref b15), .unset, .unset, .unset]) rfl ?_
    show Steps p.tables e below (T20.setTop (mkF m 51 #[.val (.int i0), .val (.int i1), .val (.int i2), .val (.int i3), .val (.int j1), .val (.int j6), .val (.int j11), .val (.ref b15), .unset, .unset, .unset] [])) _
    refine st21 _ ?_
    show Steps p.tables e below (T21.setTop (mkF m 54 #[.val (.int i0), .val (.int i1), .val (.int i2), .val (.int i3), .val (.int j1), .val (.int j6), .val (.int j11), .val (.ref b15), .unset, .unset, .unset] [(.ref b21)])) _
    refine XS.dup X21.here hx rfl (hb hby at_54) rfl rfl ?_
    show Steps p.tables e below (T21.setTop (mkF m 55 #[.val (.int i0), .val (.int i1), .val (.int i2), .val (.int i3), .val (.int j1), .val (.int j6), .val (.int j11), .val (.ref b15), .unset, .unset, .unset] [(.ref b21), (.ref b21)])) _
    refine XS.iload X21.here hx rfl (hb hby at_55) rfl ?_
    show Steps p.tables e below (T21.setTop (mkF m 57 #[.val (.int i0), .val (.int i1), .val (.int i2), .val (.int i3), .val (.int j1), .val (.int j6), .val (.int j11), .val (.ref b15), .unset, .unset, .unset] [(.int j6), (.ref b21), (.ref b21)])) _
    refine XS.iload X21.here hx rfl (hb hby at_57) rfl ?_
    show Steps p.tables e below (T21.setTop (mkF m 59 #[.val (.int i0), .val (.int i1), .val (.int i2), .val (.int i3), .val (.int j1), .val (.int j6), .val (.int j11), .val (.ref b15), .unset, .unset, .unset] [(.int j11), (.int j6), (.ref b21), (.ref b21)])) _
    refine st22.trans ?_
    show Steps p.tables e below (T22.setTop (mkF m 62 #[.val (.int i0), .val (.int i1), .val (.int i2), .val (.int i3), .val (.int j1), .val (.int j6), .val (.int j11), .val (.ref b15), .unset, .unset, .unset] [(.ref b21)])) _
    refine XS.astore X22.here hx rfl (hb hby at_62) rfl rfl (l' := #[.val (.int i0), .val (.int i1), .val (.int i2), .val (.int i3), .val (.int j1), .val (.int j6), .val (.int j11), .val (.ref b15), .val (.ref b21), .unset, .unset]) rfl ?_
    show Steps p.tables e below (T22.setTop (mkF m 64 #[.val (.int i0), .val (.int i1), .val (.int i2), .val (.int i3), .val (.int j1), .val (.int j6), .val (.int j11), .val (.ref b15), .val (.ref b21), .unset, .unset] [])) _
    refine XS.iloadN X22.here hx rfl (hb hby at_64) rfl ?_
    show Steps p.tables e below (T22.setTop (mkF m 65 #[.val (.int i0), .val (.int i1), .val (.int i2), .val (.int i3), .val (.int j1), .val (.int j6), .val (.int j11), .val (.ref b15), .val (.ref b21), .unset, .unset] [(.int i3)])) _
    refine XS.iconst X22.here hx rfl (hb hby at_65) ?_
    show Steps p.tables e below (T22.setTop (mkF m 66 #[.val (.int i0), .val (.int i1), .val (.int i2), .val (.int i3), .val (.int j1), .val (.int j6), .val (.int j11), .val (.ref b15), .val (.ref b21), .unset, .unset] [(.int (3 : Int32)), (.int i3)])) _
    exact k
  rcases own_and_3 i3 with hk24 | hk25 | hk26 | hk27
  · have pre28 : ∀ t, Steps p.tables e below (T22.setTop (mkF m 78 #[.val (.int i0), .val (.int i1), .val (.int i2), .val (.int i3), .val (.int j1), .val (.int j6), .val (.int j11), .val (.ref b15), .val (.ref b21), .val (.int (0 : Int32)), .unset] [(.int j6), (.int j1)])) t → Steps p.tables e below (s₁.setTop (entryFrame m #[(.int i0), (.int i1), (.int i2), (.int i3)] maxLocals)) t := by
      intro t k
      refine pre23 _ ?_
      show Steps p.tables e below (T22.setTop (mkF m 66 #[.val (.int i0), .val (.int i1), .val (.int i2), .val (.int i3), .val (.int j1), .val (.int j6), .val (.int j11), .val (.ref b15), .val (.ref b21), .unset, .unset] [(.int (3 : Int32)), (.int i3)])) _
      refine XS.iand X22.here hx rfl (hb hby at_66) rfl ?_
      show Steps p.tables e below (T22.setTop (mkF m 67 #[.val (.int i0), .val (.int i1), .val (.int i2), .val (.int i3), .val (.int j1), .val (.int j6), .val (.int j11), .val (.ref b15), .val (.ref b21), .unset, .unset] [(.int (i3 &&& (3 : Int32)))])) _
      rw [hk24]
      show Steps p.tables e below (T22.setTop (mkF m 67 #[.val (.int i0), .val (.int i1), .val (.int i2), .val (.int i3), .val (.int j1), .val (.int j6), .val (.int j11), .val (.ref b15), .val (.ref b21), .unset, .unset] [(.int (0 : Int32))])) _
      refine XS.istore X22.here hx rfl (hb hby at_67) rfl (l' := #[.val (.int i0), .val (.int i1), .val (.int i2), .val (.int i3), .val (.int j1), .val (.int j6), .val (.int j11), .val (.ref b15), .val (.ref b21), .val (.int (0 : Int32)), .unset]) rfl ?_
      show Steps p.tables e below (T22.setTop (mkF m 69 #[.val (.int i0), .val (.int i1), .val (.int i2), .val (.int i3), .val (.int j1), .val (.int j6), .val (.int j11), .val (.ref b15), .val (.ref b21), .val (.int (0 : Int32)), .unset] [])) _
      refine XS.iload X22.here hx rfl (hb hby at_69) rfl ?_
      show Steps p.tables e below (T22.setTop (mkF m 71 #[.val (.int i0), .val (.int i1), .val (.int i2), .val (.int i3), .val (.int j1), .val (.int j6), .val (.int j11), .val (.ref b15), .val (.ref b21), .val (.int (0 : Int32)), .unset] [(.int (0 : Int32))])) _
      refine XS.ifNo X22.here hx rfl (hb hby at_71) rfl (by decide) ?_
      show Steps p.tables e below (T22.setTop (mkF m 74 #[.val (.int i0), .val (.int i1), .val (.int i2), .val (.int i3), .val (.int j1), .val (.int j6), .val (.int j11), .val (.ref b15), .val (.ref b21), .val (.int (0 : Int32)), .unset] [])) _
      refine XS.iload X22.here hx rfl (hb hby at_74) rfl ?_
      show Steps p.tables e below (T22.setTop (mkF m 76 #[.val (.int i0), .val (.int i1), .val (.int i2), .val (.int i3), .val (.int j1), .val (.int j6), .val (.int j11), .val (.ref b15), .val (.ref b21), .val (.int (0 : Int32)), .unset] [(.int j1)])) _
      refine XS.iload X22.here hx rfl (hb hby at_76) rfl ?_
      show Steps p.tables e below (T22.setTop (mkF m 78 #[.val (.int i0), .val (.int i1), .val (.int i2), .val (.int i3), .val (.int j1), .val (.int j6), .val (.int j11), .val (.ref b15), .val (.ref b21), .val (.int (0 : Int32)), .unset] [(.int j6), (.int j1)])) _
      exact k
    rcases Classical.em (j1 = j6) with hd29 | hd30
    · have pre31 : ∀ t, Steps p.tables e below (T22.setTop (mkF m 84 #[.val (.int i0), .val (.int i1), .val (.int i2), .val (.int i3), .val (.int j1), .val (.int j6), .val (.int j11), .val (.ref b15), .val (.ref b21), .val (.int (0 : Int32)), .unset] [(.int j11), (.int i1)])) t → Steps p.tables e below (s₁.setTop (entryFrame m #[(.int i0), (.int i1), (.int i2), (.int i3)] maxLocals)) t := by
        intro t k
        refine pre28 _ ?_
        show Steps p.tables e below (T22.setTop (mkF m 78 #[.val (.int i0), .val (.int i1), .val (.int i2), .val (.int i3), .val (.int j1), .val (.int j6), .val (.int j11), .val (.ref b15), .val (.ref b21), .val (.int (0 : Int32)), .unset] [(.int j6), (.int j1)])) _
        refine XS.icmpNo X22.here hx rfl (hb hby at_78) rfl (teq hd29).2 ?_
        show Steps p.tables e below (T22.setTop (mkF m 81 #[.val (.int i0), .val (.int i1), .val (.int i2), .val (.int i3), .val (.int j1), .val (.int j6), .val (.int j11), .val (.ref b15), .val (.ref b21), .val (.int (0 : Int32)), .unset] [])) _
        refine XS.iloadN X22.here hx rfl (hb hby at_81) rfl ?_
        show Steps p.tables e below (T22.setTop (mkF m 82 #[.val (.int i0), .val (.int i1), .val (.int i2), .val (.int i3), .val (.int j1), .val (.int j6), .val (.int j11), .val (.ref b15), .val (.ref b21), .val (.int (0 : Int32)), .unset] [(.int i1)])) _
        refine XS.iload X22.here hx rfl (hb hby at_82) rfl ?_
        show Steps p.tables e below (T22.setTop (mkF m 84 #[.val (.int i0), .val (.int i1), .val (.int i2), .val (.int i3), .val (.int j1), .val (.int j6), .val (.int j11), .val (.ref b15), .val (.ref b21), .val (.int (0 : Int32)), .unset] [(.int j11), (.int i1)])) _
        exact k
      rcases Classical.em (i1 = j11) with hd32 | hd33
      · obtain ⟨cq40, kq40, q40a, q40b, q40c⟩ := isOf hZ rfl E_b15_22
        obtain ⟨_, _, ⟨T40, L40, k40, n40⟩, -, X40, ⟨Lc40, hQ40, l40, y40, z40⟩, st40⟩ := X22.virtualBack hx (y := (⟨"com/example/vestwright/vestwright/model/VestingDay", "equals", "(Ljava/lang/Object;)Z"⟩ : MethodName)) (z := (⟨"com/example/vestwright/vestwright/model/VestingDay", "equals", "(Ljava/lang/Object;)Z"⟩ : MethodName)) hown (mvT hZ (hw _ (List.mem_of_getElem? (i := 18) rfl))) (mvT hZ (hw _ (List.mem_of_getElem? (i := 19) rfl))) (notFace_of_selects (args := #[]) (mvT hZ (hw _ (List.mem_of_getElem? (i := 21) rfl)))) (mvT hZ (hw _ (List.mem_of_getElem? (i := 21) rfl))) (mvT hZ (hw _ (List.mem_of_getElem? (i := 20) rfl))) (by decide) (backOf (W := 0) (rm3 l Z a0 hw [] wc j1 i1 j6 j11 b15 b21 T22.heap n0 hWd O_22 hd29 hd32 E_b15_22 F_b15_vestingStartDay_22 F_b15_day_22 g_b15 E_b21_22 F_b21_vestingStartDay_22 F_b21_day_22 g_b21) hZ (hw _ (List.mem_of_getElem? (i := 22) rfl)) (hw _ (List.mem_of_getElem? (i := 2) rfl)) (by decide) (by decide)) q40a q40c (g := (mkF m 98 #[.val (.int i0), .val (.int i1), .val (.int i2), .val (.int i3), .val (.int j1), .val (.int j6), .val (.int j11), .val (.ref b15), .val (.ref b21), .val (.int (0 : Int32)), .val (.int (1 : Int32))] [(.ref b21), (.ref b15)])) rfl (by rw [hml]; rfl) (Steps.refl _) (argsL := [(.ref b21)]) (rest := []) (lenOf pd2 rfl) rfl (by show 2 * 0 + _ ≤ _; exact Nat.le_of_eq rfl) (hb hby at_98) (fun _ _ => ⟨rfl, rfl, (by decide : 2 + 0 ≤ _), (by decide : 4 + 0 ≤ _)⟩)
        dsimp only [Pt.U, Pt.locs, Pt.cells, Pt.slots] at X40 l40 y40 z40 st40 hQ40
        subst l40 y40 z40
        obtain ⟨rfl, N40q, e40⟩ := hQ40
        have N40 := Fr.app N22 N40q
        obtain ⟨cq47, kq47, q47a, q47b, q47c⟩ := isOf hZ e40 E_b21_22
        obtain ⟨_, _, ⟨T47, L47, k47, n47⟩, -, X47, ⟨Lc47, hQ47, l47, y47, z47⟩, st47⟩ := X40.virtualBack hx (y := (⟨"com/example/vestwright/vestwright/model/VestingDay", "equals", "(Ljava/lang/Object;)Z"⟩ : MethodName)) (z := (⟨"com/example/vestwright/vestwright/model/VestingDay", "equals", "(Ljava/lang/Object;)Z"⟩ : MethodName)) hown (mvT hZ (hw _ (List.mem_of_getElem? (i := 18) rfl))) (mvT hZ (hw _ (List.mem_of_getElem? (i := 19) rfl))) (notFace_of_selects (args := #[]) (mvT hZ (hw _ (List.mem_of_getElem? (i := 21) rfl)))) (mvT hZ (hw _ (List.mem_of_getElem? (i := 21) rfl))) (mvT hZ (hw _ (List.mem_of_getElem? (i := 20) rfl))) (by decide) (backOf (W := 0) (rm4 l Z a0 hw [] wc j6 j11 j1 i1 b21 b15 T22.heap n0 hWd O_22 hd29 hd32 E_b21_22 F_b21_vestingStartDay_22 F_b21_day_22 g_b21 E_b15_22 F_b15_vestingStartDay_22 F_b15_day_22 g_b15) hZ (hw _ (List.mem_of_getElem? (i := 22) rfl)) (hw _ (List.mem_of_getElem? (i := 2) rfl)) (by decide) (by decide)) q47a q47c (g := (mkF m 110 #[.val (.int i0), .val (.int i1), .val (.int i2), .val (.int i3), .val (.int j1), .val (.int j6), .val (.int j11), .val (.ref b15), .val (.ref b21), .val (.int (0 : Int32)), .val (.int (1 : Int32))] [(.ref b15), (.ref b21)])) rfl (by rw [hml]; rfl) (Steps.refl _) (argsL := [(.ref b15)]) (rest := []) (lenOf pd2 rfl) rfl (by show 2 * 0 + _ ≤ _; exact Nat.le_of_eq rfl) (hb hby at_110) (fun _ _ => ⟨rfl, e40, (by decide : 2 + 0 ≤ _), (by decide : 4 + 0 ≤ _)⟩)
        dsimp only [Pt.U, Pt.locs, Pt.cells, Pt.slots] at X47 l47 y47 z47 st47 hQ47
        subst l47 y47 z47
        obtain ⟨rfl, N47q, e47⟩ := hQ47
        have N47 := Fr.app N40 N47q
        obtain ⟨fs, hr, hrun, hended, hWr, hsame⟩ := X47.leave (v := some (.int (1 : Int32))) (fun h => by rw [Bd.returns] at h; cases h) hlk
        refine ⟨_, _, pre31 _ ?_, hrun, hended, _, _, rfl, ?_, ⟨_, rfl⟩, hWr, hsame.mono (Nat.le_of_ble_eq_true rfl) (Nat.le_of_ble_eq_true rfl)⟩
        · show Steps p.tables e below (T22.setTop (mkF m 84 #[.val (.int i0), .val (.int i1), .val (.int i2), .val (.int i3), .val (.int j1), .val (.int j6), .val (.int j11), .val (.ref b15), .val (.ref b21), .val (.int (0 : Int32)), .unset] [(.int j11), (.int i1)])) _
          refine XS.icmpNo X22.here hx rfl (hb hby at_84) rfl (teq hd32).2 ?_
          show Steps p.tables e below (T22.setTop (mkF m 87 #[.val (.int i0), .val (.int i1), .val (.int i2), .val (.int i3), .val (.int j1), .val (.int j6), .val (.int j11), .val (.ref b15), .val (.ref b21), .val (.int (0 : Int32)), .unset] [])) _
          refine XS.iconst X22.here hx rfl (hb hby at_87) ?_
          show Steps p.tables e below (T22.setTop (mkF m 88 #[.val (.int i0), .val (.int i1), .val (.int i2), .val (.int i3), .val (.int j1), .val (.int j6), .val (.int j11), .val (.ref b15), .val (.ref b21), .val (.int (0 : Int32)), .unset] [(.int (1 : Int32))])) _
          refine XS.goto X22.here hx rfl (pc0 := 88) (pc' := 92) rfl (hb hby at_88) (by decide) (by decide) ?_
          show Steps p.tables e below (T22.setTop (mkF m 92 #[.val (.int i0), .val (.int i1), .val (.int i2), .val (.int i3), .val (.int j1), .val (.int j6), .val (.int j11), .val (.ref b15), .val (.ref b21), .val (.int (0 : Int32)), .unset] [(.int (1 : Int32))])) _
          refine XS.istore X22.here hx rfl (hb hby at_92) rfl (l' := #[.val (.int i0), .val (.int i1), .val (.int i2), .val (.int i3), .val (.int j1), .val (.int j6), .val (.int j11), .val (.ref b15), .val (.ref b21), .val (.int (0 : Int32)), .val (.int (1 : Int32))]) rfl ?_
          show Steps p.tables e below (T22.setTop (mkF m 94 #[.val (.int i0), .val (.int i1), .val (.int i2), .val (.int i3), .val (.int j1), .val (.int j6), .val (.int j11), .val (.ref b15), .val (.ref b21), .val (.int (0 : Int32)), .val (.int (1 : Int32))] [])) _
          refine XS.aload X22.here hx rfl (hb hby at_94) rfl rfl ?_
          show Steps p.tables e below (T22.setTop (mkF m 96 #[.val (.int i0), .val (.int i1), .val (.int i2), .val (.int i3), .val (.int j1), .val (.int j6), .val (.int j11), .val (.ref b15), .val (.ref b21), .val (.int (0 : Int32)), .val (.int (1 : Int32))] [(.ref b15)])) _
          refine XS.aload X22.here hx rfl (hb hby at_96) rfl rfl ?_
          show Steps p.tables e below (T22.setTop (mkF m 98 #[.val (.int i0), .val (.int i1), .val (.int i2), .val (.int i3), .val (.int j1), .val (.int j6), .val (.int j11), .val (.ref b15), .val (.ref b21), .val (.int (0 : Int32)), .val (.int (1 : Int32))] [(.ref b21), (.ref b15)])) _
          refine st40.trans ?_
          show Steps p.tables e below (T40.setTop (mkF m 101 #[.val (.int i0), .val (.int i1), .val (.int i2), .val (.int i3), .val (.int j1), .val (.int j6), .val (.int j11), .val (.ref b15), .val (.ref b21), .val (.int (0 : Int32)), .val (.int (1 : Int32))] [(.int (1 : Int32))])) _
          refine XS.iload X40.here hx rfl (hb hby at_101) rfl ?_
          show Steps p.tables e below (T40.setTop (mkF m 103 #[.val (.int i0), .val (.int i1), .val (.int i2), .val (.int i3), .val (.int j1), .val (.int j6), .val (.int j11), .val (.ref b15), .val (.ref b21), .val (.int (0 : Int32)), .val (.int (1 : Int32))] [(.int (1 : Int32)), (.int (1 : Int32))])) _
          refine XS.icmpNo X40.here hx rfl (hb hby at_103) rfl (by decide) ?_
          show Steps p.tables e below (T40.setTop (mkF m 106 #[.val (.int i0), .val (.int i1), .val (.int i2), .val (.int i3), .val (.int j1), .val (.int j6), .val (.int j11), .val (.ref b15), .val (.ref b21), .val (.int (0 : Int32)), .val (.int (1 : Int32))] [])) _
          refine XS.aload X40.here hx rfl (hb hby at_106) rfl rfl ?_
          show Steps p.tables e below (T40.setTop (mkF m 108 #[.val (.int i0), .val (.int i1), .val (.int i2), .val (.int i3), .val (.int j1), .val (.int j6), .val (.int j11), .val (.ref b15), .val (.ref b21), .val (.int (0 : Int32)), .val (.int (1 : Int32))] [(.ref b21)])) _
          refine XS.aload X40.here hx rfl (hb hby at_108) rfl rfl ?_
          show Steps p.tables e below (T40.setTop (mkF m 110 #[.val (.int i0), .val (.int i1), .val (.int i2), .val (.int i3), .val (.int j1), .val (.int j6), .val (.int j11), .val (.ref b15), .val (.ref b21), .val (.int (0 : Int32)), .val (.int (1 : Int32))] [(.ref b15), (.ref b21)])) _
          refine st47.trans ?_
          show Steps p.tables e below (T47.setTop (mkF m 113 #[.val (.int i0), .val (.int i1), .val (.int i2), .val (.int i3), .val (.int j1), .val (.int j6), .val (.int j11), .val (.ref b15), .val (.ref b21), .val (.int (0 : Int32)), .val (.int (1 : Int32))] [(.int (1 : Int32))])) _
          refine XS.iload X47.here hx rfl (hb hby at_113) rfl ?_
          show Steps p.tables e below (T47.setTop (mkF m 115 #[.val (.int i0), .val (.int i1), .val (.int i2), .val (.int i3), .val (.int j1), .val (.int j6), .val (.int j11), .val (.ref b15), .val (.ref b21), .val (.int (0 : Int32)), .val (.int (1 : Int32))] [(.int (1 : Int32)), (.int (1 : Int32))])) _
          refine XS.icmpNo X47.here hx rfl (hb hby at_115) rfl (by decide) ?_
          show Steps p.tables e below (T47.setTop (mkF m 118 #[.val (.int i0), .val (.int i1), .val (.int i2), .val (.int i3), .val (.int j1), .val (.int j6), .val (.int j11), .val (.ref b15), .val (.ref b21), .val (.int (0 : Int32)), .val (.int (1 : Int32))] [])) _
          refine XS.iconst X47.here hx rfl (hb hby at_118) ?_
          show Steps p.tables e below (T47.setTop (mkF m 119 #[.val (.int i0), .val (.int i1), .val (.int i2), .val (.int i3), .val (.int j1), .val (.int j6), .val (.int j11), .val (.ref b15), .val (.ref b21), .val (.int (0 : Int32)), .val (.int (1 : Int32))] [(.int (1 : Int32))])) _
          refine XS.goto X47.here hx rfl (pc0 := 119) (pc' := 123) rfl (hb hby at_119) (by decide) (by decide) ?_
          show Steps p.tables e below (T47.setTop (mkF m 123 #[.val (.int i0), .val (.int i1), .val (.int i2), .val (.int i3), .val (.int j1), .val (.int j6), .val (.int j11), .val (.ref b15), .val (.ref b21), .val (.int (0 : Int32)), .val (.int (1 : Int32))] [(.int (1 : Int32))])) _
          exact retN X47 hx (t := .boolean) Bd.returns (by simp) (hb hby at_123) hr
        · show Ql n0 _ T47.heap _
          exact ⟨rfl, N47⟩
      · obtain ⟨cq54, kq54, q54a, q54b, q54c⟩ := isOf hZ rfl E_b15_22
        obtain ⟨_, _, ⟨T54, L54, k54, n54⟩, -, X54, ⟨Lc54, hQ54, l54, y54, z54⟩, st54⟩ := X22.virtualBack hx (y := (⟨"com/example/vestwright/vestwright/model/VestingDay", "equals", "(Ljava/lang/Object;)Z"⟩ : MethodName)) (z := (⟨"com/example/vestwright/vestwright/model/VestingDay", "equals", "(Ljava/lang/Object;)Z"⟩ : MethodName)) hown (mvT hZ (hw _ (List.mem_of_getElem? (i := 18) rfl))) (mvT hZ (hw _ (List.mem_of_getElem? (i := 19) rfl))) (notFace_of_selects (args := #[]) (mvT hZ (hw _ (List.mem_of_getElem? (i := 21) rfl)))) (mvT hZ (hw _ (List.mem_of_getElem? (i := 21) rfl))) (mvT hZ (hw _ (List.mem_of_getElem? (i := 20) rfl))) (by decide) (backOf (W := 0) (rm5 l Z a0 hw [] wc j1 i1 j6 j11 b15 b21 T22.heap n0 hWd O_22 hd29 hd33 E_b15_22 F_b15_vestingStartDay_22 F_b15_day_22 g_b15 E_b21_22 F_b21_vestingStartDay_22 F_b21_day_22 g_b21) hZ (hw _ (List.mem_of_getElem? (i := 22) rfl)) (hw _ (List.mem_of_getElem? (i := 2) rfl)) (by decide) (by decide)) q54a q54c (g := (mkF m 98 #[.val (.int i0), .val (.int i1), .val (.int i2), .val (.int i3), .val (.int j1), .val (.int j6), .val (.int j11), .val (.ref b15), .val (.ref b21), .val (.int (0 : Int32)), .val (.int (0 : Int32))] [(.ref b21), (.ref b15)])) rfl (by rw [hml]; rfl) (Steps.refl _) (argsL := [(.ref b21)]) (rest := []) (lenOf pd2 rfl) rfl (by show 2 * 0 + _ ≤ _; exact Nat.le_of_eq rfl) (hb hby at_98) (fun _ _ => ⟨rfl, rfl, (by decide : 2 + 0 ≤ _), (by decide : 4 + 0 ≤ _)⟩)
        dsimp only [Pt.U, Pt.locs, Pt.cells, Pt.slots] at X54 l54 y54 z54 st54 hQ54
        subst l54 y54 z54
        obtain ⟨rfl, N54q, e54⟩ := hQ54
        have N54 := Fr.app N22 N54q
        obtain ⟨cq61, kq61, q61a, q61b, q61c⟩ := isOf hZ e54 E_b21_22
        obtain ⟨_, _, ⟨T61, L61, k61, n61⟩, -, X61, ⟨Lc61, hQ61, l61, y61, z61⟩, st61⟩ := X54.virtualBack hx (y := (⟨"com/example/vestwright/vestwright/model/VestingDay", "equals", "(Ljava/lang/Object;)Z"⟩ : MethodName)) (z := (⟨"com/example/vestwright/vestwright/model/VestingDay", "equals", "(Ljava/lang/Object;)Z"⟩ : MethodName)) hown (mvT hZ (hw _ (List.mem_of_getElem? (i := 18) rfl))) (mvT hZ (hw _ (List.mem_of_getElem? (i := 19) rfl))) (notFace_of_selects (args := #[]) (mvT hZ (hw _ (List.mem_of_getElem? (i := 21) rfl)))) (mvT hZ (hw _ (List.mem_of_getElem? (i := 21) rfl))) (mvT hZ (hw _ (List.mem_of_getElem? (i := 20) rfl))) (by decide) (backOf (W := 0) (rm6 l Z a0 hw [] wc j6 j11 j1 i1 b21 b15 T22.heap n0 hWd O_22 hd29 hd33 E_b21_22 F_b21_vestingStartDay_22 F_b21_day_22 g_b21 E_b15_22 F_b15_vestingStartDay_22 F_b15_day_22 g_b15) hZ (hw _ (List.mem_of_getElem? (i := 22) rfl)) (hw _ (List.mem_of_getElem? (i := 2) rfl)) (by decide) (by decide)) q61a q61c (g := (mkF m 110 #[.val (.int i0), .val (.int i1), .val (.int i2), .val (.int i3), .val (.int j1), .val (.int j6), .val (.int j11), .val (.ref b15), .val (.ref b21), .val (.int (0 : Int32)), .val (.int (0 : Int32))] [(.ref b15), (.ref b21)])) rfl (by rw [hml]; rfl) (Steps.refl _) (argsL := [(.ref b15)]) (rest := []) (lenOf pd2 rfl) rfl (by show 2 * 0 + _ ≤ _; exact Nat.le_of_eq rfl) (hb hby at_110) (fun _ _ => ⟨rfl, e54, (by decide : 2 + 0 ≤ _), (by decide : 4 + 0 ≤ _)⟩)
        dsimp only [Pt.U, Pt.locs, Pt.cells, Pt.slots] at X61 l61 y61 z61 st61 hQ61
        subst l61 y61 z61
        obtain ⟨rfl, N61q, e61⟩ := hQ61
        have N61 := Fr.app N54 N61q
        obtain ⟨fs, hr, hrun, hended, hWr, hsame⟩ := X61.leave (v := some (.int (1 : Int32))) (fun h => by rw [Bd.returns] at h; cases h) hlk
        refine ⟨_, _, pre31 _ ?_, hrun, hended, _, _, rfl, ?_, ⟨_, rfl⟩, hWr, hsame.mono (Nat.le_of_ble_eq_true rfl) (Nat.le_of_ble_eq_true rfl)⟩
        · show Steps p.tables e below (T22.setTop (mkF m 84 #[.val (.int i0), .val (.int i1), .val (.int i2), .val (.int i3), .val (.int j1), .val (.int j6), .val (.int j11), .val (.ref b15), .val (.ref b21), .val (.int (0 : Int32)), .unset] [(.int j11), (.int i1)])) _
          refine XS.icmpYes X22.here hx rfl (pc0 := 84) (pc' := 91) rfl (hb hby at_84) rfl (feq hd33).2 (by decide) (by decide) ?_
          show Steps p.tables e below (T22.setTop (mkF m 91 #[.val (.int i0), .val (.int i1), .val (.int i2), .val (.int i3), .val (.int j1), .val (.int j6), .val (.int j11), .val (.ref b15), .val (.ref b21), .val (.int (0 : Int32)), .unset] [])) _
          refine XS.iconst X22.here hx rfl (hb hby at_91) ?_
          show Steps p.tables e below (T22.setTop (mkF m 92 #[.val (.int i0), .val (.int i1), .val (.int i2), .val (.int i3), .val (.int j1), .val (.int j6), .val (.int j11), .val (.ref b15), .val (.ref b21), .val (.int (0 : Int32)), .unset] [(.int (0 : Int32))])) _
          refine XS.istore X22.here hx rfl (hb hby at_92) rfl (l' := #[.val (.int i0), .val (.int i1), .val (.int i2), .val (.int i3), .val (.int j1), .val (.int j6), .val (.int j11), .val (.ref b15), .val (.ref b21), .val (.int (0 : Int32)), .val (.int (0 : Int32))]) rfl ?_
          show Steps p.tables e below (T22.setTop (mkF m 94 #[.val (.int i0), .val (.int i1), .val (.int i2), .val (.int i3), .val (.int j1), .val (.int j6), .val (.int j11), .val (.ref b15), .val (.ref b21), .val (.int (0 : Int32)), .val (.int (0 : Int32))] [])) _
          refine XS.aload X22.here hx rfl (hb hby at_94) rfl rfl ?_
          show Steps p.tables e below (T22.setTop (mkF m 96 #[.val (.int i0), .val (.int i1), .val (.int i2), .val (.int i3), .val (.int j1), .val (.int j6), .val (.int j11), .val (.ref b15), .val (.ref b21), .val (.int (0 : Int32)), .val (.int (0 : Int32))] [(.ref b15)])) _
          refine XS.aload X22.here hx rfl (hb hby at_96) rfl rfl ?_
          show Steps p.tables e below (T22.setTop (mkF m 98 #[.val (.int i0), .val (.int i1), .val (.int i2), .val (.int i3), .val (.int j1), .val (.int j6), .val (.int j11), .val (.ref b15), .val (.ref b21), .val (.int (0 : Int32)), .val (.int (0 : Int32))] [(.ref b21), (.ref b15)])) _
          refine st54.trans ?_
          show Steps p.tables e below (T54.setTop (mkF m 101 #[.val (.int i0), .val (.int i1), .val (.int i2), .val (.int i3), .val (.int j1), .val (.int j6), .val (.int j11), .val (.ref b15), .val (.ref b21), .val (.int (0 : Int32)), .val (.int (0 : Int32))] [(.int (0 : Int32))])) _
          refine XS.iload X54.here hx rfl (hb hby at_101) rfl ?_
          show Steps p.tables e below (T54.setTop (mkF m 103 #[.val (.int i0), .val (.int i1), .val (.int i2), .val (.int i3), .val (.int j1), .val (.int j6), .val (.int j11), .val (.ref b15), .val (.ref b21), .val (.int (0 : Int32)), .val (.int (0 : Int32))] [(.int (0 : Int32)), (.int (0 : Int32))])) _
          refine XS.icmpNo X54.here hx rfl (hb hby at_103) rfl (by decide) ?_
          show Steps p.tables e below (T54.setTop (mkF m 106 #[.val (.int i0), .val (.int i1), .val (.int i2), .val (.int i3), .val (.int j1), .val (.int j6), .val (.int j11), .val (.ref b15), .val (.ref b21), .val (.int (0 : Int32)), .val (.int (0 : Int32))] [])) _
          refine XS.aload X54.here hx rfl (hb hby at_106) rfl rfl ?_
          show Steps p.tables e below (T54.setTop (mkF m 108 #[.val (.int i0), .val (.int i1), .val (.int i2), .val (.int i3), .val (.int j1), .val (.int j6), .val (.int j11), .val (.ref b15), .val (.ref b21), .val (.int (0 : Int32)), .val (.int (0 : Int32))] [(.ref b21)])) _
          refine XS.aload X54.here hx rfl (hb hby at_108) rfl rfl ?_
          show Steps p.tables e below (T54.setTop (mkF m 110 #[.val (.int i0), .val (.int i1), .val (.int i2), .val (.int i3), .val (.int j1), .val (.int j6), .val (.int j11), .val (.ref b15), .val (.ref b21), .val (.int (0 : Int32)), .val (.int (0 : Int32))] [(.ref b15), (.ref b21)])) _
          refine st61.trans ?_
          show Steps p.tables e below (T61.setTop (mkF m 113 #[.val (.int i0), .val (.int i1), .val (.int i2), .val (.int i3), .val (.int j1), .val (.int j6), .val (.int j11), .val (.ref b15), .val (.ref b21), .val (.int (0 : Int32)), .val (.int (0 : Int32))] [(.int (0 : Int32))])) _
          refine XS.iload X61.here hx rfl (hb hby at_113) rfl ?_
          show Steps p.tables e below (T61.setTop (mkF m 115 #[.val (.int i0), .val (.int i1), .val (.int i2), .val (.int i3), .val (.int j1), .val (.int j6), .val (.int j11), .val (.ref b15), .val (.ref b21), .val (.int (0 : Int32)), .val (.int (0 : Int32))] [(.int (0 : Int32)), (.int (0 : Int32))])) _
          refine XS.icmpNo X61.here hx rfl (hb hby at_115) rfl (by decide) ?_
          show Steps p.tables e below (T61.setTop (mkF m 118 #[.val (.int i0), .val (.int i1), .val (.int i2), .val (.int i3), .val (.int j1), .val (.int j6), .val (.int j11), .val (.ref b15), .val (.ref b21), .val (.int (0 : Int32)), .val (.int (0 : Int32))] [])) _
          refine XS.iconst X61.here hx rfl (hb hby at_118) ?_
          show Steps p.tables e below (T61.setTop (mkF m 119 #[.val (.int i0), .val (.int i1), .val (.int i2), .val (.int i3), .val (.int j1), .val (.int j6), .val (.int j11), .val (.ref b15), .val (.ref b21), .val (.int (0 : Int32)), .val (.int (0 : Int32))] [(.int (1 : Int32))])) _
          refine XS.goto X61.here hx rfl (pc0 := 119) (pc' := 123) rfl (hb hby at_119) (by decide) (by decide) ?_
          show Steps p.tables e below (T61.setTop (mkF m 123 #[.val (.int i0), .val (.int i1), .val (.int i2), .val (.int i3), .val (.int j1), .val (.int j6), .val (.int j11), .val (.ref b15), .val (.ref b21), .val (.int (0 : Int32)), .val (.int (0 : Int32))] [(.int (1 : Int32))])) _
          exact retN X61 hx (t := .boolean) Bd.returns (by simp) (hb hby at_123) hr
        · show Ql n0 _ T61.heap _
          exact ⟨rfl, N61⟩
    · obtain ⟨cq66, kq66, q66a, q66b, q66c⟩ := isOf hZ rfl E_b15_22
      obtain ⟨_, _, ⟨T66, L66, k66, n66⟩, -, X66, ⟨Lc66, hQ66, l66, y66, z66⟩, st66⟩ := X22.virtualBack hx (y := (⟨"com/example/vestwright/vestwright/model/VestingDay", "equals", "(Ljava/lang/Object;)Z"⟩ : MethodName)) (z := (⟨"com/example/vestwright/vestwright/model/VestingDay", "equals", "(Ljava/lang/Object;)Z"⟩ : MethodName)) hown (mvT hZ (hw _ (List.mem_of_getElem? (i := 18) rfl))) (mvT hZ (hw _ (List.mem_of_getElem? (i := 19) rfl))) (notFace_of_selects (args := #[]) (mvT hZ (hw _ (List.mem_of_getElem? (i := 21) rfl)))) (mvT hZ (hw _ (List.mem_of_getElem? (i := 21) rfl))) (mvT hZ (hw _ (List.mem_of_getElem? (i := 20) rfl))) (by decide) (backOf (W := 0) (rm7 l Z a0 hw [] wc j1 i1 j6 j11 b15 b21 T22.heap n0 hWd O_22 hd30 E_b15_22 F_b15_vestingStartDay_22 F_b15_day_22 g_b15 E_b21_22 F_b21_vestingStartDay_22 F_b21_day_22 g_b21) hZ (hw _ (List.mem_of_getElem? (i := 22) rfl)) (hw _ (List.mem_of_getElem? (i := 2) rfl)) (by decide) (by decide)) q66a q66c (g := (mkF m 98 #[.val (.int i0), .val (.int i1), .val (.int i2), .val (.int i3), .val (.int j1), .val (.int j6), .val (.int j11), .val (.ref b15), .val (.ref b21), .val (.int (0 : Int32)), .val (.int (0 : Int32))] [(.ref b21), (.ref b15)])) rfl (by rw [hml]; rfl) (Steps.refl _) (argsL := [(.ref b21)]) (rest := []) (lenOf pd2 rfl) rfl (by show 2 * 0 + _ ≤ _; exact Nat.le_of_eq rfl) (hb hby at_98) (fun _ _ => ⟨rfl, rfl, (by decide : 2 + 0 ≤ _), (by decide : 4 + 0 ≤ _)⟩)
      dsimp only [Pt.U, Pt.locs, Pt.cells, Pt.slots] at X66 l66 y66 z66 st66 hQ66
      subst l66 y66 z66
      obtain ⟨rfl, N66q, e66⟩ := hQ66
      have N66 := Fr.app N22 N66q
      obtain ⟨cq71, kq71, q71a, q71b, q71c⟩ := isOf hZ e66 E_b21_22
      obtain ⟨_, _, ⟨T71, L71, k71, n71⟩, -, X71, ⟨Lc71, hQ71, l71, y71, z71⟩, st71⟩ := X66.virtualBack hx (y := (⟨"com/example/vestwright/vestwright/model/VestingDay", "equals", "(Ljava/lang/Object;)Z"⟩ : MethodName)) (z := (⟨"com/example/vestwright/vestwright/model/VestingDay", "equals", "(Ljava/lang/Object;)Z"⟩ : MethodName)) hown (mvT hZ (hw _ (List.mem_of_getElem? (i := 18) rfl))) (mvT hZ (hw _ (List.mem_of_getElem? (i := 19) rfl))) (notFace_of_selects (args := #[]) (mvT hZ (hw _ (List.mem_of_getElem? (i := 21) rfl)))) (mvT hZ (hw _ (List.mem_of_getElem? (i := 21) rfl))) (mvT hZ (hw _ (List.mem_of_getElem? (i := 20) rfl))) (by decide) (backOf (W := 0) (rm8 l Z a0 hw [] wc j6 j11 j1 i1 b21 b15 T22.heap n0 hWd O_22 hd30 E_b21_22 F_b21_vestingStartDay_22 F_b21_day_22 g_b21 E_b15_22 F_b15_vestingStartDay_22 F_b15_day_22 g_b15) hZ (hw _ (List.mem_of_getElem? (i := 22) rfl)) (hw _ (List.mem_of_getElem? (i := 2) rfl)) (by decide) (by decide)) q71a q71c (g := (mkF m 110 #[.val (.int i0), .val (.int i1), .val (.int i2), .val (.int i3), .val (.int j1), .val (.int j6), .val (.int j11), .val (.ref b15), .val (.ref b21), .val (.int (0 : Int32)), .val (.int (0 : Int32))] [(.ref b15), (.ref b21)])) rfl (by rw [hml]; rfl) (Steps.refl _) (argsL := [(.ref b15)]) (rest := []) (lenOf pd2 rfl) rfl (by show 2 * 0 + _ ≤ _; exact Nat.le_of_eq rfl) (hb hby at_110) (fun _ _ => ⟨rfl, e66, (by decide : 2 + 0 ≤ _), (by decide : 4 + 0 ≤ _)⟩)
      dsimp only [Pt.U, Pt.locs, Pt.cells, Pt.slots] at X71 l71 y71 z71 st71 hQ71
      subst l71 y71 z71
      obtain ⟨rfl, N71q, e71⟩ := hQ71
      have N71 := Fr.app N66 N71q
      obtain ⟨fs, hr, hrun, hended, hWr, hsame⟩ := X71.leave (v := some (.int (1 : Int32))) (fun h => by rw [Bd.returns] at h; cases h) hlk
      refine ⟨_, _, pre28 _ ?_, hrun, hended, _, _, rfl, ?_, ⟨_, rfl⟩, hWr, hsame.mono (Nat.le_of_ble_eq_true rfl) (Nat.le_of_ble_eq_true rfl)⟩
      · show Steps p.tables e below (T22.setTop (mkF m 78 #[.val (.int i0), .val (.int i1), .val (.int i2), .val (.int i3), .val (.int j1), .val (.int j6), .val (.int j11), .val (.ref b15), .val (.ref b21), .val (.int (0 : Int32)), .unset] [(.int j6), (.int j1)])) _
        refine XS.icmpYes X22.here hx rfl (pc0 := 78) (pc' := 91) rfl (hb hby at_78) rfl (feq hd30).2 (by decide) (by decide) ?_
        show Steps p.tables e below (T22.setTop (mkF m 91 #[.val (.int i0), .val (.int i1), .val (.int i2), .val (.int i3), .val (.int j1), .val (.int j6), .val (.int j11), .val (.ref b15), .val (.ref b21), .val (.int (0 : Int32)), .unset] [])) _
        refine XS.iconst X22.here hx rfl (hb hby at_91) ?_
        show Steps p.tables e below (T22.setTop (mkF m 92 #[.val (.int i0), .val (.int i1), .val (.int i2), .val (.int i3), .val (.int j1), .val (.int j6), .val (.int j11), .val (.ref b15), .val (.ref b21), .val (.int (0 : Int32)), .unset] [(.int (0 : Int32))])) _
        refine XS.istore X22.here hx rfl (hb hby at_92) rfl (l' := #[.val (.int i0), .val (.int i1), .val (.int i2), .val (.int i3), .val (.int j1), .val (.int j6), .val (.int j11), .val (.ref b15), .val (.ref b21), .val (.int (0 : Int32)), .val (.int (0 : Int32))]) rfl ?_
        show Steps p.tables e below (T22.setTop (mkF m 94 #[.val (.int i0), .val (.int i1), .val (.int i2), .val (.int i3), .val (.int j1), .val (.int j6), .val (.int j11), .val (.ref b15), .val (.ref b21), .val (.int (0 : Int32)), .val (.int (0 : Int32))] [])) _
        refine XS.aload X22.here hx rfl (hb hby at_94) rfl rfl ?_
        show Steps p.tables e below (T22.setTop (mkF m 96 #[.val (.int i0), .val (.int i1), .val (.int i2), .val (.int i3), .val (.int j1), .val (.int j6), .val (.int j11), .val (.ref b15), .val (.ref b21), .val (.int (0 : Int32)), .val (.int (0 : Int32))] [(.ref b15)])) _
        refine XS.aload X22.here hx rfl (hb hby at_96) rfl rfl ?_
        show Steps p.tables e below (T22.setTop (mkF m 98 #[.val (.int i0), .val (.int i1), .val (.int i2), .val (.int i3), .val (.int j1), .val (.int j6), .val (.int j11), .val (.ref b15), .val (.ref b21), .val (.int (0 : Int32)), .val (.int (0 : Int32))] [(.ref b21), (.ref b15)])) _
        refine st66.trans ?_
        show Steps p.tables e below (T66.setTop (mkF m 101 #[.val (.int i0), .val (.int i1), .val (.int i2), .val (.int i3), .val (.int j1), .val (.int j6), .val (.int j11), .val (.ref b15), .val (.ref b21), .val (.int (0 : Int32)), .val (.int (0 : Int32))] [(.int (0 : Int32))])) _
        refine XS.iload X66.here hx rfl (hb hby at_101) rfl ?_
        show Steps p.tables e below (T66.setTop (mkF m 103 #[.val (.int i0), .val (.int i1), .val (.int i2), .val (.int i3), .val (.int j1), .val (.int j6), .val (.int j11), .val (.ref b15), .val (.ref b21), .val (.int (0 : Int32)), .val (.int (0 : Int32))] [(.int (0 : Int32)), (.int (0 : Int32))])) _
        refine XS.icmpNo X66.here hx rfl (hb hby at_103) rfl (by decide) ?_
        show Steps p.tables e below (T66.setTop (mkF m 106 #[.val (.int i0), .val (.int i1), .val (.int i2), .val (.int i3), .val (.int j1), .val (.int j6), .val (.int j11), .val (.ref b15), .val (.ref b21), .val (.int (0 : Int32)), .val (.int (0 : Int32))] [])) _
        refine XS.aload X66.here hx rfl (hb hby at_106) rfl rfl ?_
        show Steps p.tables e below (T66.setTop (mkF m 108 #[.val (.int i0), .val (.int i1), .val (.int i2), .val (.int i3), .val (.int j1), .val (.int j6), .val (.int j11), .val (.ref b15), .val (.ref b21), .val (.int (0 : Int32)), .val (.int (0 : Int32))] [(.ref b21)])) _
        refine XS.aload X66.here hx rfl (hb hby at_108) rfl rfl ?_
        show Steps p.tables e below (T66.setTop (mkF m 110 #[.val (.int i0), .val (.int i1), .val (.int i2), .val (.int i3), .val (.int j1), .val (.int j6), .val (.int j11), .val (.ref b15), .val (.ref b21), .val (.int (0 : Int32)), .val (.int (0 : Int32))] [(.ref b15), (.ref b21)])) _
        refine st71.trans ?_
        show Steps p.tables e below (T71.setTop (mkF m 113 #[.val (.int i0), .val (.int i1), .val (.int i2), .val (.int i3), .val (.int j1), .val (.int j6), .val (.int j11), .val (.ref b15), .val (.ref b21), .val (.int (0 : Int32)), .val (.int (0 : Int32))] [(.int (0 : Int32))])) _
        refine XS.iload X71.here hx rfl (hb hby at_113) rfl ?_
        show Steps p.tables e below (T71.setTop (mkF m 115 #[.val (.int i0), .val (.int i1), .val (.int i2), .val (.int i3), .val (.int j1), .val (.int j6), .val (.int j11), .val (.ref b15), .val (.ref b21), .val (.int (0 : Int32)), .val (.int (0 : Int32))] [(.int (0 : Int32)), (.int (0 : Int32))])) _
        refine XS.icmpNo X71.here hx rfl (hb hby at_115) rfl (by decide) ?_
        show Steps p.tables e below (T71.setTop (mkF m 118 #[.val (.int i0), .val (.int i1), .val (.int i2), .val (.int i3), .val (.int j1), .val (.int j6), .val (.int j11), .val (.ref b15), .val (.ref b21), .val (.int (0 : Int32)), .val (.int (0 : Int32))] [])) _
        refine XS.iconst X71.here hx rfl (hb hby at_118) ?_
        show Steps p.tables e below (T71.setTop (mkF m 119 #[.val (.int i0), .val (.int i1), .val (.int i2), .val (.int i3), .val (.int j1), .val (.int j6), .val (.int j11), .val (.ref b15), .val (.ref b21), .val (.int (0 : Int32)), .val (.int (0 : Int32))] [(.int (1 : Int32))])) _
        refine XS.goto X71.here hx rfl (pc0 := 119) (pc' := 123) rfl (hb hby at_119) (by decide) (by decide) ?_
        show Steps p.tables e below (T71.setTop (mkF m 123 #[.val (.int i0), .val (.int i1), .val (.int i2), .val (.int i3), .val (.int j1), .val (.int j6), .val (.int j11), .val (.ref b15), .val (.ref b21), .val (.int (0 : Int32)), .val (.int (0 : Int32))] [(.int (1 : Int32))])) _
        exact retN X71 hx (t := .boolean) Bd.returns (by simp) (hb hby at_123) hr
      · show Ql n0 _ T71.heap _
        exact ⟨rfl, N71⟩
  · obtain ⟨cq72, kq72, q72a, q72b, q72c⟩ := isOf hZ rfl E_b15_22
    obtain ⟨_, _, ⟨T72, L72, k72, n72⟩, -, X72, ⟨Lc72, hQ72, l72, y72, z72⟩, st72⟩ := X22.virtualBack hx (y := (⟨"com/example/vestwright/vestwright/model/VestingDay", "equals", "(Ljava/lang/Object;)Z"⟩ : MethodName)) (z := (⟨"com/example/vestwright/vestwright/model/VestingDay", "equals", "(Ljava/lang/Object;)Z"⟩ : MethodName)) hown (mvT hZ (hw _ (List.mem_of_getElem? (i := 18) rfl))) (mvT hZ (hw _ (List.mem_of_getElem? (i := 19) rfl))) (notFace_of_selects (args := #[]) (mvT hZ (hw _ (List.mem_of_getElem? (i := 21) rfl)))) (mvT hZ (hw _ (List.mem_of_getElem? (i := 21) rfl))) (mvT hZ (hw _ (List.mem_of_getElem? (i := 20) rfl))) (by decide) (backOf (W := 0) (rm9 l Z a0 hw [] wc j1 i1 b15 T22.heap n0 hWd O_22 E_b15_22 F_b15_vestingStartDay_22 F_b15_day_22 g_b15) hZ (hw _ (List.mem_of_getElem? (i := 22) rfl)) (hw _ (List.mem_of_getElem? (i := 2) rfl)) (by decide) (by decide)) q72a q72c (g := (mkF m 137 #[.val (.int i0), .val (.int i1), .val (.int i2), .val (.int i3), .val (.int j1), .val (.int j6), .val (.int j11), .val (.ref b15), .val (.ref b21), .val (.int (1 : Int32)), .val .null] [.null, (.ref b15)])) rfl (by rw [hml]; rfl) (Steps.refl _) (argsL := [.null]) (rest := []) (lenOf pd2 rfl) rfl (by show 2 * 0 + _ ≤ _; exact Nat.le_of_eq rfl) (hb hby at_137) (fun _ _ => ⟨rfl, rfl, (by decide : 2 + 0 ≤ _), (by decide : 4 + 0 ≤ _)⟩)
    dsimp only [Pt.U, Pt.locs, Pt.cells, Pt.slots] at X72 l72 y72 z72 st72 hQ72
    subst l72 y72 z72
    obtain ⟨rfl, N72q, e72⟩ := hQ72
    have N72 := Fr.app N22 N72q
    obtain ⟨fs, hr, hrun, hended, hWr, hsame⟩ := X72.leave (v := some (.int (1 : Int32))) (fun h => by rw [Bd.returns] at h; cases h) hlk
    refine ⟨_, _, pre23 _ ?_, hrun, hended, _, _, rfl, ?_, ⟨_, rfl⟩, hWr, hsame.mono (Nat.le_of_ble_eq_true rfl) (Nat.le_of_ble_eq_true rfl)⟩
    · show Steps p.tables e below (T22.setTop (mkF m 66 #[.val (.int i0), .val (.int i1), .val (.int i2), .val (.int i3), .val (.int j1), .val (.int j6), .val (.int j11), .val (.ref b15), .val (.ref b21), .unset, .unset] [(.int (3 : Int32)), (.int i3)])) _
      refine XS.iand X22.here hx rfl (hb hby at_66) rfl ?_
      show Steps p.tables e below (T22.setTop (mkF m 67 #[.val (.int i0), .val (.int i1), .val (.int i2), .val (.int i3), .val (.int j1), .val (.int j6), .val (.int j11), .val (.ref b15), .val (.ref b21), .unset, .unset] [(.int (i3 &&& (3 : Int32)))])) _
      rw [hk25]
      show Steps p.tables e below (T22.setTop (mkF m 67 #[.val (.int i0), .val (.int i1), .val (.int i2), .val (.int i3), .val (.int j1), .val (.int j6), .val (.int j11), .val (.ref b15), .val (.ref b21), .unset, .unset] [(.int (1 : Int32))])) _
      refine XS.istore X22.here hx rfl (hb hby at_67) rfl (l' := #[.val (.int i0), .val (.int i1), .val (.int i2), .val (.int i3), .val (.int j1), .val (.int j6), .val (.int j11), .val (.ref b15), .val (.ref b21), .val (.int (1 : Int32)), .unset]) rfl ?_
      show Steps p.tables e below (T22.setTop (mkF m 69 #[.val (.int i0), .val (.int i1), .val (.int i2), .val (.int i3), .val (.int j1), .val (.int j6), .val (.int j11), .val (.ref b15), .val (.ref b21), .val (.int (1 : Int32)), .unset] [])) _
      refine XS.iload X22.here hx rfl (hb hby at_69) rfl ?_
      show Steps p.tables e below (T22.setTop (mkF m 71 #[.val (.int i0), .val (.int i1), .val (.int i2), .val (.int i3), .val (.int j1), .val (.int j6), .val (.int j11), .val (.ref b15), .val (.ref b21), .val (.int (1 : Int32)), .unset] [(.int (1 : Int32))])) _
      refine XS.ifYes X22.here hx rfl (pc0 := 71) (pc' := 124) rfl (hb hby at_71) rfl (by decide) (by decide) (by decide) ?_
      show Steps p.tables e below (T22.setTop (mkF m 124 #[.val (.int i0), .val (.int i1), .val (.int i2), .val (.int i3), .val (.int j1), .val (.int j6), .val (.int j11), .val (.ref b15), .val (.ref b21), .val (.int (1 : Int32)), .unset] [])) _
      refine XS.iload X22.here hx rfl (hb hby at_124) rfl ?_
      show Steps p.tables e below (T22.setTop (mkF m 126 #[.val (.int i0), .val (.int i1), .val (.int i2), .val (.int i3), .val (.int j1), .val (.int j6), .val (.int j11), .val (.ref b15), .val (.ref b21), .val (.int (1 : Int32)), .unset] [(.int (1 : Int32))])) _
      refine XS.iconst X22.here hx rfl (hb hby at_126) ?_
      show Steps p.tables e below (T22.setTop (mkF m 127 #[.val (.int i0), .val (.int i1), .val (.int i2), .val (.int i3), .val (.int j1), .val (.int j6), .val (.int j11), .val (.ref b15), .val (.ref b21), .val (.int (1 : Int32)), .unset] [(.int (1 : Int32)), (.int (1 : Int32))])) _
      refine XS.icmpNo X22.here hx rfl (hb hby at_127) rfl (by decide) ?_
      show Steps p.tables e below (T22.setTop (mkF m 130 #[.val (.int i0), .val (.int i1), .val (.int i2), .val (.int i3), .val (.int j1), .val (.int j6), .val (.int j11), .val (.ref b15), .val (.ref b21), .val (.int (1 : Int32)), .unset] [])) _
      refine XS.aconstNull X22.here hx rfl (hb hby at_130) ?_
      show Steps p.tables e below (T22.setTop (mkF m 131 #[.val (.int i0), .val (.int i1), .val (.int i2), .val (.int i3), .val (.int j1), .val (.int j6), .val (.int j11), .val (.ref b15), .val (.ref b21), .val (.int (1 : Int32)), .unset] [.null])) _
      refine XS.astore X22.here hx rfl (hb hby at_131) rfl rfl (l' := #[.val (.int i0), .val (.int i1), .val (.int i2), .val (.int i3), .val (.int j1), .val (.int j6), .val (.int j11), .val (.ref b15), .val (.ref b21), .val (.int (1 : Int32)), .val .null]) rfl ?_
      show Steps p.tables e below (T22.setTop (mkF m 133 #[.val (.int i0), .val (.int i1), .val (.int i2), .val (.int i3), .val (.int j1), .val (.int j6), .val (.int j11), .val (.ref b15), .val (.ref b21), .val (.int (1 : Int32)), .val .null] [])) _
      refine XS.aload X22.here hx rfl (hb hby at_133) rfl rfl ?_
      show Steps p.tables e below (T22.setTop (mkF m 135 #[.val (.int i0), .val (.int i1), .val (.int i2), .val (.int i3), .val (.int j1), .val (.int j6), .val (.int j11), .val (.ref b15), .val (.ref b21), .val (.int (1 : Int32)), .val .null] [(.ref b15)])) _
      refine XS.aload X22.here hx rfl (hb hby at_135) rfl rfl ?_
      show Steps p.tables e below (T22.setTop (mkF m 137 #[.val (.int i0), .val (.int i1), .val (.int i2), .val (.int i3), .val (.int j1), .val (.int j6), .val (.int j11), .val (.ref b15), .val (.ref b21), .val (.int (1 : Int32)), .val .null] [.null, (.ref b15)])) _
      refine st72.trans ?_
      show Steps p.tables e below (T72.setTop (mkF m 140 #[.val (.int i0), .val (.int i1), .val (.int i2), .val (.int i3), .val (.int j1), .val (.int j6), .val (.int j11), .val (.ref b15), .val (.ref b21), .val (.int (1 : Int32)), .val .null] [(.int (0 : Int32))])) _
      refine XS.ifNo X72.here hx rfl (hb hby at_140) rfl (by decide) ?_
      show Steps p.tables e below (T72.setTop (mkF m 143 #[.val (.int i0), .val (.int i1), .val (.int i2), .val (.int i3), .val (.int j1), .val (.int j6), .val (.int j11), .val (.ref b15), .val (.ref b21), .val (.int (1 : Int32)), .val .null] [])) _
      refine XS.iconst X72.here hx rfl (hb hby at_143) ?_
      show Steps p.tables e below (T72.setTop (mkF m 144 #[.val (.int i0), .val (.int i1), .val (.int i2), .val (.int i3), .val (.int j1), .val (.int j6), .val (.int j11), .val (.ref b15), .val (.ref b21), .val (.int (1 : Int32)), .val .null] [(.int (1 : Int32))])) _
      refine XS.goto X72.here hx rfl (pc0 := 144) (pc' := 148) rfl (hb hby at_144) (by decide) (by decide) ?_
      show Steps p.tables e below (T72.setTop (mkF m 148 #[.val (.int i0), .val (.int i1), .val (.int i2), .val (.int i3), .val (.int j1), .val (.int j6), .val (.int j11), .val (.ref b15), .val (.ref b21), .val (.int (1 : Int32)), .val .null] [(.int (1 : Int32))])) _
      exact retN X72 hx (t := .boolean) Bd.returns (by simp) (hb hby at_148) hr
    · show Ql n0 _ T72.heap _
      exact ⟨rfl, N72⟩
  · have pre73 : ∀ t, Steps p.tables e below (T22.setTop (mkF m 156 #[.val (.int i0), .val (.int i1), .val (.int i2), .val (.int i3), .val (.int j1), .val (.int j6), .val (.int j11), .val (.ref b15), .val (.ref b21), .val (.int (2 : Int32)), .unset] [(.int i1)])) t → Steps p.tables e below (s₁.setTop (entryFrame m #[(.int i0), (.int i1), (.int i2), (.int i3)] maxLocals)) t := by
      intro t k
      refine pre23 _ ?_
      show Steps p.tables e below (T22.setTop (mkF m 66 #[.val (.int i0), .val (.int i1), .val (.int i2), .val (.int i3), .val (.int j1), .val (.int j6), .val (.int j11), .val (.ref b15), .val (.ref b21), .unset, .unset] [(.int (3 : Int32)), (.int i3)])) _
      refine XS.iand X22.here hx rfl (hb hby at_66) rfl ?_
      show Steps p.tables e below (T22.setTop (mkF m 67 #[.val (.int i0), .val (.int i1), .val (.int i2), .val (.int i3), .val (.int j1), .val (.int j6), .val (.int j11), .val (.ref b15), .val (.ref b21), .unset, .unset] [(.int (i3 &&& (3 : Int32)))])) _
      rw [hk26]
      show Steps p.tables e below (T22.setTop (mkF m 67 #[.val (.int i0), .val (.int i1), .val (.int i2), .val (.int i3), .val (.int j1), .val (.int j6), .val (.int j11), .val (.ref b15), .val (.ref b21), .unset, .unset] [(.int (2 : Int32))])) _
      refine XS.istore X22.here hx rfl (hb hby at_67) rfl (l' := #[.val (.int i0), .val (.int i1), .val (.int i2), .val (.int i3), .val (.int j1), .val (.int j6), .val (.int j11), .val (.ref b15), .val (.ref b21), .val (.int (2 : Int32)), .unset]) rfl ?_
      show Steps p.tables e below (T22.setTop (mkF m 69 #[.val (.int i0), .val (.int i1), .val (.int i2), .val (.int i3), .val (.int j1), .val (.int j6), .val (.int j11), .val (.ref b15), .val (.ref b21), .val (.int (2 : Int32)), .unset] [])) _
      refine XS.iload X22.here hx rfl (hb hby at_69) rfl ?_
      show Steps p.tables e below (T22.setTop (mkF m 71 #[.val (.int i0), .val (.int i1), .val (.int i2), .val (.int i3), .val (.int j1), .val (.int j6), .val (.int j11), .val (.ref b15), .val (.ref b21), .val (.int (2 : Int32)), .unset] [(.int (2 : Int32))])) _
      refine XS.ifYes X22.here hx rfl (pc0 := 71) (pc' := 124) rfl (hb hby at_71) rfl (by decide) (by decide) (by decide) ?_
      show Steps p.tables e below (T22.setTop (mkF m 124 #[.val (.int i0), .val (.int i1), .val (.int i2), .val (.int i3), .val (.int j1), .val (.int j6), .val (.int j11), .val (.ref b15), .val (.ref b21), .val (.int (2 : Int32)), .unset] [])) _
      refine XS.iload X22.here hx rfl (hb hby at_124) rfl ?_
      show Steps p.tables e below (T22.setTop (mkF m 126 #[.val (.int i0), .val (.int i1), .val (.int i2), .val (.int i3), .val (.int j1), .val (.int j6), .val (.int j11), .val (.ref b15), .val (.ref b21), .val (.int (2 : Int32)), .unset] [(.int (2 : Int32))])) _
      refine XS.iconst X22.here hx rfl (hb hby at_126) ?_
      show Steps p.tables e below (T22.setTop (mkF m 127 #[.val (.int i0), .val (.int i1), .val (.int i2), .val (.int i3), .val (.int j1), .val (.int j6), .val (.int j11), .val (.ref b15), .val (.ref b21), .val (.int (2 : Int32)), .unset] [(.int (1 : Int32)), (.int (2 : Int32))])) _
      refine XS.icmpYes X22.here hx rfl (pc0 := 127) (pc' := 149) rfl (hb hby at_127) rfl (by decide) (by decide) (by decide) ?_
      show Steps p.tables e below (T22.setTop (mkF m 149 #[.val (.int i0), .val (.int i1), .val (.int i2), .val (.int i3), .val (.int j1), .val (.int j6), .val (.int j11), .val (.ref b15), .val (.ref b21), .val (.int (2 : Int32)), .unset] [])) _
      refine XS.iload X22.here hx rfl (hb hby at_149) rfl ?_
      show Steps p.tables e below (T22.setTop (mkF m 151 #[.val (.int i0), .val (.int i1), .val (.int i2), .val (.int i3), .val (.int j1), .val (.int j6), .val (.int j11), .val (.ref b15), .val (.ref b21), .val (.int (2 : Int32)), .unset] [(.int (2 : Int32))])) _
      refine XS.iconst X22.here hx rfl (hb hby at_151) ?_
      show Steps p.tables e below (T22.setTop (mkF m 152 #[.val (.int i0), .val (.int i1), .val (.int i2), .val (.int i3), .val (.int j1), .val (.int j6), .val (.int j11), .val (.ref b15), .val (.ref b21), .val (.int (2 : Int32)), .unset] [(.int (2 : Int32)), (.int (2 : Int32))])) _
      refine XS.icmpNo X22.here hx rfl (hb hby at_152) rfl (by decide) ?_
      show Steps p.tables e below (T22.setTop (mkF m 155 #[.val (.int i0), .val (.int i1), .val (.int i2), .val (.int i3), .val (.int j1), .val (.int j6), .val (.int j11), .val (.ref b15), .val (.ref b21), .val (.int (2 : Int32)), .unset] [])) _
      refine XS.iloadN X22.here hx rfl (hb hby at_155) rfl ?_
      show Steps p.tables e below (T22.setTop (mkF m 156 #[.val (.int i0), .val (.int i1), .val (.int i2), .val (.int i3), .val (.int j1), .val (.int j6), .val (.int j11), .val (.ref b15), .val (.ref b21), .val (.int (2 : Int32)), .unset] [(.int i1)])) _
      exact k
    rcases Classical.em (i1 < (-128 : Int32)) with hd74 | hd75
    · obtain ⟨_, _, ⟨T81, L81, k81, n81⟩, -, X81, ⟨Lc81, hQ81, l81, y81, z81⟩, st81⟩ := Jvm.LawKit.callS X22 hx (y := (⟨"java/lang/Integer", "valueOf", "(I)Ljava/lang/Integer;"⟩ : MethodName)) hown (mvT hZ (hw _ (List.mem_of_getElem? (i := 23) rfl))) (mvT hZ (hw _ (List.mem_of_getElem? (i := 24) rfl))) (mvT hZ (hw _ (List.mem_of_getElem? (i := 25) rfl))) (mvT hZ (hw _ (List.mem_of_getElem? (i := 26) rfl))) (by decide) (backOf (W := 0) (rm10 l Z a0 hw [] wc i1 T22.heap n0 hWd O_22 hd74) hZ (hw _ (List.mem_of_getElem? (i := 26) rfl)) (hw _ (List.mem_of_getElem? (i := 25) rfl)) (by decide) (by decide)) (g := (mkF m 156 #[.val (.int i0), .val (.int i1), .val (.int i2), .val (.int i3), .val (.int j1), .val (.int j6), .val (.int j11), .val (.ref b15), .val (.ref b21), .val (.int (2 : Int32)), .unset] [(.int i1)])) rfl (by rw [hml]; rfl) (argsL := [(.int i1)]) (rest := []) (lenOf pd4 rfl) rfl (by show 2 * 0 + _ ≤ _; exact Nat.le_of_eq rfl) (hb hby at_156) (fun _ _ => ⟨rfl, rfl, (by decide : 2 + 1 ≤ _), (by decide : 4 + 1 ≤ _)⟩)
      dsimp only [Pt.U, Pt.locs, Pt.cells, Pt.slots] at X81 l81 y81 z81 st81 hQ81
      subst l81 y81 z81
      obtain ⟨r81, rfl, N81q, K81, O_81, E_r81_81, F_r81_value_81, g_r81⟩ := hQ81
      have N81 := Fr.app N22 N81q
      have E_b15_81 : Exa Z T81.heap b15 "com/example/vestwright/vestwright/model/VestingDay" := E_b15_22.keep K81
      have F_b15_vestingStartDay_81 : Fld Z T81.heap b15 "com/example/vestwright/vestwright/model/VestingDay" "vestingStartDay" "Z" (.int j1) := F_b15_vestingStartDay_22.keep K81 nin0
      have F_b15_day_81 : Fld Z T81.heap b15 "com/example/vestwright/vestwright/model/VestingDay" "day" "I" (.int i1) := F_b15_day_22.keep K81 nin0
      have E_b21_81 : Exa Z T81.heap b21 "com/example/vestwright/vestwright/model/VestingDay" := E_b21_22.keep K81
      have F_b21_vestingStartDay_81 : Fld Z T81.heap b21 "com/example/vestwright/vestwright/model/VestingDay" "vestingStartDay" "Z" (.int j6) := F_b21_vestingStartDay_22.keep K81 nin0
      have F_b21_day_81 : Fld Z T81.heap b21 "com/example/vestwright/vestwright/model/VestingDay" "day" "I" (.int j11) := F_b21_day_22.keep K81 nin0
      obtain ⟨cq83, kq83, q83a, q83b, q83c⟩ := isOf hZ rfl E_b15_81
      obtain ⟨_, _, ⟨T83, L83, k83, n83⟩, -, X83, ⟨Lc83, hQ83, l83, y83, z83⟩, st83⟩ := X81.virtualBack hx (y := (⟨"com/example/vestwright/vestwright/model/VestingDay", "equals", "(Ljava/lang/Object;)Z"⟩ : MethodName)) (z := (⟨"com/example/vestwright/vestwright/model/VestingDay", "equals", "(Ljava/lang/Object;)Z"⟩ : MethodName)) hown (mvT hZ (hw _ (List.mem_of_getElem? (i := 18) rfl))) (mvT hZ (hw _ (List.mem_of_getElem? (i := 19) rfl))) (notFace_of_selects (args := #[]) (mvT hZ (hw _ (List.mem_of_getElem? (i := 21) rfl)))) (mvT hZ (hw _ (List.mem_of_getElem? (i := 21) rfl))) (mvT hZ (hw _ (List.mem_of_getElem? (i := 20) rfl))) (by decide) (backOf (W := 0) (rm13 l Z a0 hw [] wc j1 i1 b15 r81 T81.heap n0 hWd O_81 hd74 E_b15_81 F_b15_vestingStartDay_81 F_b15_day_81 g_b15 E_r81_81 F_r81_value_81 g_r81) hZ (hw _ (List.mem_of_getElem? (i := 22) rfl)) (hw _ (List.mem_of_getElem? (i := 2) rfl)) (by decide) (by decide)) q83a q83c (g := (mkF m 165 #[.val (.int i0), .val (.int i1), .val (.int i2), .val (.int i3), .val (.int j1), .val (.int j6), .val (.int j11), .val (.ref b15), .val (.ref b21), .val (.int (2 : Int32)), .val (.ref r81)] [(.ref r81), (.ref b15)])) rfl (by rw [hml]; rfl) (Steps.refl _) (argsL := [(.ref r81)]) (rest := []) (lenOf pd2 rfl) rfl (by show 2 * 0 + _ ≤ _; exact Nat.le_of_eq rfl) (hb hby at_165) (fun _ _ => ⟨rfl, rfl, (by decide : 3 + 0 ≤ _), (by decide : 5 + 0 ≤ _)⟩)
      dsimp only [Pt.U, Pt.locs, Pt.cells, Pt.slots] at X83 l83 y83 z83 st83 hQ83
      subst l83 y83 z83
      obtain ⟨rfl, N83q, e83⟩ := hQ83
      have N83 := Fr.app N81 N83q
      obtain ⟨fs, hr, hrun, hended, hWr, hsame⟩ := X83.leave (v := some (.int (1 : Int32))) (fun h => by rw [Bd.returns] at h; cases h) hlk
      refine ⟨_, _, pre73 _ ?_, hrun, hended, _, _, rfl, ?_, ⟨_, rfl⟩, hWr, hsame.mono (Nat.le_of_ble_eq_true rfl) (Nat.le_of_ble_eq_true rfl)⟩
      · show Steps p.tables e below (T22.setTop (mkF m 156 #[.val (.int i0), .val (.int i1), .val (.int i2), .val (.int i3), .val (.int j1), .val (.int j6), .val (.int j11), .val (.ref b15), .val (.ref b21), .val (.int (2 : Int32)), .unset] [(.int i1)])) _
        refine st81 _ ?_
        show Steps p.tables e below (T81.setTop (mkF m 159 #[.val (.int i0), .val (.int i1), .val (.int i2), .val (.int i3), .val (.int j1), .val (.int j6), .val (.int j11), .val (.ref b15), .val (.ref b21), .val (.int (2 : Int32)), .unset] [(.ref r81)])) _
        refine XS.astore X81.here hx rfl (hb hby at_159) rfl rfl (l' := #[.val (.int i0), .val (.int i1), .val (.int i2), .val (.int i3), .val (.int j1), .val (.int j6), .val (.int j11), .val (.ref b15), .val (.ref b21), .val (.int (2 : Int32)), .val (.ref r81)]) rfl ?_
        show Steps p.tables e below (T81.setTop (mkF m 161 #[.val (.int i0), .val (.int i1), .val (.int i2), .val (.int i3), .val (.int j1), .val (.int j6), .val (.int j11), .val (.ref b15), .val (.ref b21), .val (.int (2 : Int32)), .val (.ref r81)] [])) _
        refine XS.aload X81.here hx rfl (hb hby at_161) rfl rfl ?_
        show Steps p.tables e below (T81.setTop (mkF m 163 #[.val (.int i0), .val (.int i1), .val (.int i2), .val (.int i3), .val (.int j1), .val (.int j6), .val (.int j11), .val (.ref b15), .val (.ref b21), .val (.int (2 : Int32)), .val (.ref r81)] [(.ref b15)])) _
        refine XS.aload X81.here hx rfl (hb hby at_163) rfl rfl ?_
        show Steps p.tables e below (T81.setTop (mkF m 165 #[.val (.int i0), .val (.int i1), .val (.int i2), .val (.int i3), .val (.int j1), .val (.int j6), .val (.int j11), .val (.ref b15), .val (.ref b21), .val (.int (2 : Int32)), .val (.ref r81)] [(.ref r81), (.ref b15)])) _
        refine st83.trans ?_
        show Steps p.tables e below (T83.setTop (mkF m 168 #[.val (.int i0), .val (.int i1), .val (.int i2), .val (.int i3), .val (.int j1), .val (.int j6), .val (.int j11), .val (.ref b15), .val (.ref b21), .val (.int (2 : Int32)), .val (.ref r81)] [(.int (0 : Int32))])) _
        refine XS.ifNo X83.here hx rfl (hb hby at_168) rfl (by decide) ?_
        show Steps p.tables e below (T83.setTop (mkF m 171 #[.val (.int i0), .val (.int i1), .val (.int i2), .val (.int i3), .val (.int j1), .val (.int j6), .val (.int j11), .val (.ref b15), .val (.ref b21), .val (.int (2 : Int32)), .val (.ref r81)] [])) _
        refine XS.iconst X83.here hx rfl (hb hby at_171) ?_
        show Steps p.tables e below (T83.setTop (mkF m 172 #[.val (.int i0), .val (.int i1), .val (.int i2), .val (.int i3), .val (.int j1), .val (.int j6), .val (.int j11), .val (.ref b15), .val (.ref b21), .val (.int (2 : Int32)), .val (.ref r81)] [(.int (1 : Int32))])) _
        refine XS.goto X83.here hx rfl (pc0 := 172) (pc' := 176) rfl (hb hby at_172) (by decide) (by decide) ?_
        show Steps p.tables e below (T83.setTop (mkF m 176 #[.val (.int i0), .val (.int i1), .val (.int i2), .val (.int i3), .val (.int j1), .val (.int j6), .val (.int j11), .val (.ref b15), .val (.ref b21), .val (.int (2 : Int32)), .val (.ref r81)] [(.int (1 : Int32))])) _
        exact retN X83 hx (t := .boolean) Bd.returns (by simp) (hb hby at_176) hr
      · show Ql n0 _ T83.heap _
        exact ⟨rfl, N83⟩
    · rcases Classical.em ((127 : Int32) < i1) with hd84 | hd85
      · obtain ⟨_, _, ⟨T91, L91, k91, n91⟩, -, X91, ⟨Lc91, hQ91, l91, y91, z91⟩, st91⟩ := Jvm.LawKit.callS X22 hx (y := (⟨"java/lang/Integer", "valueOf", "(I)Ljava/lang/Integer;"⟩ : MethodName)) hown (mvT hZ (hw _ (List.mem_of_getElem? (i := 23) rfl))) (mvT hZ (hw _ (List.mem_of_getElem? (i := 24) rfl))) (mvT hZ (hw _ (List.mem_of_getElem? (i := 25) rfl))) (mvT hZ (hw _ (List.mem_of_getElem? (i := 26) rfl))) (by decide) (backOf (W := 0) (rm14 l Z a0 hw [] wc i1 T22.heap n0 hWd O_22 hd75 hd84) hZ (hw _ (List.mem_of_getElem? (i := 26) rfl)) (hw _ (List.mem_of_getElem? (i := 25) rfl)) (by decide) (by decide)) (g := (mkF m 156 #[.val (.int i0), .val (.int i1), .val (.int i2), .val (.int i3), .val (.int j1), .val (.int j6), .val (.int j11), .val (.ref b15), .val (.ref b21), .val (.int (2 : Int32)), .unset] [(.int i1)])) rfl (by rw [hml]; rfl) (argsL := [(.int i1)]) (rest := []) (lenOf pd4 rfl) rfl (by show 2 * 0 + _ ≤ _; exact Nat.le_of_eq rfl) (hb hby at_156) (fun _ _ => ⟨rfl, rfl, (by decide : 2 + 1 ≤ _), (by decide : 4 + 1 ≤ _)⟩)
        dsimp only [Pt.U, Pt.locs, Pt.cells, Pt.slots] at X91 l91 y91 z91 st91 hQ91
        subst l91 y91 z91
        obtain ⟨r91, rfl, N91q, K91, O_91, E_r91_91, F_r91_value_91, g_r91⟩ := hQ91
        have N91 := Fr.app N22 N91q
        have E_b15_91 : Exa Z T91.heap b15 "com/example/vestwright/vestwright/model/VestingDay" := E_b15_22.keep K91
        have F_b15_vestingStartDay_91 : Fld Z T91.heap b15 "com/example/vestwright/vestwright/model/VestingDay" "vestingStartDay" "Z" (.int j1) := F_b15_vestingStartDay_22.keep K91 nin0
        have F_b15_day_91 : Fld Z T91.heap b15 "com/example/vestwright/vestwright/model/VestingDay" "day" "I" (.int i1) := F_b15_day_22.keep K91 nin0
        have E_b21_91 : Exa Z T91.heap b21 "com/example/vestwright/vestwright/model/VestingDay" := E_b21_22.keep K91
        have F_b21_vestingStartDay_91 : Fld Z T91.heap b21 "com/example/vestwright/vestwright/model/VestingDay" "vestingStartDay" "Z" (.int j6) := F_b21_vestingStartDay_22.keep K91 nin0
        have F_b21_day_91 : Fld Z T91.heap b21 "com/example/vestwright/vestwright/model/VestingDay" "day" "I" (.int j11) := F_b21_day_22.keep K91 nin0
        obtain ⟨cq93, kq93, q93a, q93b, q93c⟩ := isOf hZ rfl E_b15_91
        obtain ⟨_, _, ⟨T93, L93, k93, n93⟩, -, X93, ⟨Lc93, hQ93, l93, y93, z93⟩, st93⟩ := X91.virtualBack hx (y := (⟨"com/example/vestwright/vestwright/model/VestingDay", "equals", "(Ljava/lang/Object;)Z"⟩ : MethodName)) (z := (⟨"com/example/vestwright/vestwright/model/VestingDay", "equals", "(Ljava/lang/Object;)Z"⟩ : MethodName)) hown (mvT hZ (hw _ (List.mem_of_getElem? (i := 18) rfl))) (mvT hZ (hw _ (List.mem_of_getElem? (i := 19) rfl))) (notFace_of_selects (args := #[]) (mvT hZ (hw _ (List.mem_of_getElem? (i := 21) rfl)))) (mvT hZ (hw _ (List.mem_of_getElem? (i := 21) rfl))) (mvT hZ (hw _ (List.mem_of_getElem? (i := 20) rfl))) (by decide) (backOf (W := 0) (rm16 l Z a0 hw [] wc j1 i1 b15 r91 T91.heap n0 hWd O_91 hd75 hd84 E_b15_91 F_b15_vestingStartDay_91 F_b15_day_91 g_b15 E_r91_91 F_r91_value_91 g_r91) hZ (hw _ (List.mem_of_getElem? (i := 22) rfl)) (hw _ (List.mem_of_getElem? (i := 2) rfl)) (by decide) (by decide)) q93a q93c (g := (mkF m 165 #[.val (.int i0), .val (.int i1), .val (.int i2), .val (.int i3), .val (.int j1), .val (.int j6), .val (.int j11), .val (.ref b15), .val (.ref b21), .val (.int (2 : Int32)), .val (.ref r91)] [(.ref r91), (.ref b15)])) rfl (by rw [hml]; rfl) (Steps.refl _) (argsL := [(.ref r91)]) (rest := []) (lenOf pd2 rfl) rfl (by show 2 * 0 + _ ≤ _; exact Nat.le_of_eq rfl) (hb hby at_165) (fun _ _ => ⟨rfl, rfl, (by decide : 3 + 0 ≤ _), (by decide : 5 + 0 ≤ _)⟩)
        dsimp only [Pt.U, Pt.locs, Pt.cells, Pt.slots] at X93 l93 y93 z93 st93 hQ93
        subst l93 y93 z93
        obtain ⟨rfl, N93q, e93⟩ := hQ93
        have N93 := Fr.app N91 N93q
        obtain ⟨fs, hr, hrun, hended, hWr, hsame⟩ := X93.leave (v := some (.int (1 : Int32))) (fun h => by rw [Bd.returns] at h; cases h) hlk
        refine ⟨_, _, pre73 _ ?_, hrun, hended, _, _, rfl, ?_, ⟨_, rfl⟩, hWr, hsame.mono (Nat.le_of_ble_eq_true rfl) (Nat.le_of_ble_eq_true rfl)⟩
        · show Steps p.tables e below (T22.setTop (mkF m 156 #[.val (.int i0), .val (.int i1), .val (.int i2), .val (.int i3), .val (.int j1), .val (.int j6), .val (.int j11), .val (.ref b15), .val (.ref b21), .val (.int (2 : Int32)), .unset] [(.int i1)])) _
          refine st91 _ ?_
          show Steps p.tables e below (T91.setTop (mkF m 159 #[.val (.int i0), .val (.int i1), .val (.int i2), .val (.int i3), .val (.int j1), .val (.int j6), .val (.int j11), .val (.ref b15), .val (.ref b21), .val (.int (2 : Int32)), .unset] [(.ref r91)])) _
          refine XS.astore X91.here hx rfl (hb hby at_159) rfl rfl (l' := #[.val (.int i0), .val (.int i1), .val (.int i2), .val (.int i3), .val (.int j1), .val (.int j6), .val (.int j11), .val (.ref b15), .val (.ref b21), .val (.int (2 : Int32)), .val (.ref r91)]) rfl ?_
          show Steps p.tables e below (T91.setTop (mkF m 161 #[.val (.int i0), .val (.int i1), .val (.int i2), .val (.int i3), .val (.int j1), .val (.int j6), .val (.int j11), .val (.ref b15), .val (.ref b21), .val (.int (2 : Int32)), .val (.ref r91)] [])) _
          refine XS.aload X91.here hx rfl (hb hby at_161) rfl rfl ?_
          show Steps p.tables e below (T91.setTop (mkF m 163 #[.val (.int i0), .val (.int i1), .val (.int i2), .val (.int i3), .val (.int j1), .val (.int j6), .val (.int j11), .val (.ref b15), .val (.ref b21), .val (.int (2 : Int32)), .val (.ref r91)] [(.ref b15)])) _
          refine XS.aload X91.here hx rfl (hb hby at_163) rfl rfl ?_
          show Steps p.tables e below (T91.setTop (mkF m 165 #[.val (.int i0), .val (.int i1), .val (.int i2), .val (.int i3), .val (.int j1), .val (.int j6), .val (.int j11), .val (.ref b15), .val (.ref b21), .val (.int (2 : Int32)), .val (.ref r91)] [(.ref r91), (.ref b15)])) _
          refine st93.trans ?_
          show Steps p.tables e below (T93.setTop (mkF m 168 #[.val (.int i0), .val (.int i1), .val (.int i2), .val (.int i3), .val (.int j1), .val (.int j6), .val (.int j11), .val (.ref b15), .val (.ref b21), .val (.int (2 : Int32)), .val (.ref r91)] [(.int (0 : Int32))])) _
          refine XS.ifNo X93.here hx rfl (hb hby at_168) rfl (by decide) ?_
          show Steps p.tables e below (T93.setTop (mkF m 171 #[.val (.int i0), .val (.int i1), .val (.int i2), .val (.int i3), .val (.int j1), .val (.int j6), .val (.int j11), .val (.ref b15), .val (.ref b21), .val (.int (2 : Int32)), .val (.ref r91)] [])) _
          refine XS.iconst X93.here hx rfl (hb hby at_171) ?_
          show Steps p.tables e below (T93.setTop (mkF m 172 #[.val (.int i0), .val (.int i1), .val (.int i2), .val (.int i3), .val (.int j1), .val (.int j6), .val (.int j11), .val (.ref b15), .val (.ref b21), .val (.int (2 : Int32)), .val (.ref r91)] [(.int (1 : Int32))])) _
          refine XS.goto X93.here hx rfl (pc0 := 172) (pc' := 176) rfl (hb hby at_172) (by decide) (by decide) ?_
          show Steps p.tables e below (T93.setTop (mkF m 176 #[.val (.int i0), .val (.int i1), .val (.int i2), .val (.int i3), .val (.int j1), .val (.int j6), .val (.int j11), .val (.ref b15), .val (.ref b21), .val (.int (2 : Int32)), .val (.ref r91)] [(.int (1 : Int32))])) _
          exact retN X93 hx (t := .boolean) Bd.returns (by simp) (hb hby at_176) hr
        · show Ql n0 _ T93.heap _
          exact ⟨rfl, N93⟩
      · obtain ⟨_, _, ⟨T97, L97, k97, n97⟩, -, X97, ⟨Lc97, hQ97, l97, y97, z97⟩, st97⟩ := Jvm.LawKit.callS X22 hx (y := (⟨"java/lang/Integer", "valueOf", "(I)Ljava/lang/Integer;"⟩ : MethodName)) hown (mvT hZ (hw _ (List.mem_of_getElem? (i := 23) rfl))) (mvT hZ (hw _ (List.mem_of_getElem? (i := 24) rfl))) (mvT hZ (hw _ (List.mem_of_getElem? (i := 25) rfl))) (mvT hZ (hw _ (List.mem_of_getElem? (i := 26) rfl))) (by decide) (backOf (W := 0) (rm17 l Z a0 hw [] wc i1 T22.heap n0 hWd O_22 hd75 hd85) hZ (hw _ (List.mem_of_getElem? (i := 26) rfl)) (hw _ (List.mem_of_getElem? (i := 25) rfl)) (by decide) (by decide)) (g := (mkF m 156 #[.val (.int i0), .val (.int i1), .val (.int i2), .val (.int i3), .val (.int j1), .val (.int j6), .val (.int j11), .val (.ref b15), .val (.ref b21), .val (.int (2 : Int32)), .unset] [(.int i1)])) rfl (by rw [hml]; rfl) (argsL := [(.int i1)]) (rest := []) (lenOf pd4 rfl) rfl (by show 2 * 0 + _ ≤ _; exact Nat.le_of_eq rfl) (hb hby at_156) (fun _ _ => ⟨rfl, rfl, (by decide : 2 + 0 ≤ _), (by decide : 4 + 0 ≤ _)⟩)
        dsimp only [Pt.U, Pt.locs, Pt.cells, Pt.slots] at X97 l97 y97 z97 st97 hQ97
        subst l97 y97 z97
        obtain ⟨r97, rfl, N97q, K97, O_97, E_r97_97⟩ := hQ97
        have N97 := Fr.app N22 N97q
        have E_b15_97 : Exa Z T97.heap b15 "com/example/vestwright/vestwright/model/VestingDay" := E_b15_22.keep K97
        have F_b15_vestingStartDay_97 : Fld Z T97.heap b15 "com/example/vestwright/vestwright/model/VestingDay" "vestingStartDay" "Z" (.int j1) := F_b15_vestingStartDay_22.keep K97 nin0
        have F_b15_day_97 : Fld Z T97.heap b15 "com/example/vestwright/vestwright/model/VestingDay" "day" "I" (.int i1) := F_b15_day_22.keep K97 nin0
        have E_b21_97 : Exa Z T97.heap b21 "com/example/vestwright/vestwright/model/VestingDay" := E_b21_22.keep K97
        have F_b21_vestingStartDay_97 : Fld Z T97.heap b21 "com/example/vestwright/vestwright/model/VestingDay" "vestingStartDay" "Z" (.int j6) := F_b21_vestingStartDay_22.keep K97 nin0
        have F_b21_day_97 : Fld Z T97.heap b21 "com/example/vestwright/vestwright/model/VestingDay" "day" "I" (.int j11) := F_b21_day_22.keep K97 nin0
        obtain ⟨cq99, kq99, q99a, q99b, q99c⟩ := isOf hZ rfl E_b15_97
        obtain ⟨_, _, ⟨T99, L99, k99, n99⟩, -, X99, ⟨Lc99, hQ99, l99, y99, z99⟩, st99⟩ := X97.virtualBack hx (y := (⟨"com/example/vestwright/vestwright/model/VestingDay", "equals", "(Ljava/lang/Object;)Z"⟩ : MethodName)) (z := (⟨"com/example/vestwright/vestwright/model/VestingDay", "equals", "(Ljava/lang/Object;)Z"⟩ : MethodName)) hown (mvT hZ (hw _ (List.mem_of_getElem? (i := 18) rfl))) (mvT hZ (hw _ (List.mem_of_getElem? (i := 19) rfl))) (notFace_of_selects (args := #[]) (mvT hZ (hw _ (List.mem_of_getElem? (i := 21) rfl)))) (mvT hZ (hw _ (List.mem_of_getElem? (i := 21) rfl))) (mvT hZ (hw _ (List.mem_of_getElem? (i := 20) rfl))) (by decide) (backOf (W := 0) (rm18 l Z a0 hw [] wc j1 i1 b15 r97 T97.heap n0 hWd O_97 hd75 hd85 E_b15_97 F_b15_vestingStartDay_97 F_b15_day_97 g_b15 E_r97_97) hZ (hw _ (List.mem_of_getElem? (i := 22) rfl)) (hw _ (List.mem_of_getElem? (i := 2) rfl)) (by decide) (by decide)) q99a q99c (g := (mkF m 165 #[.val (.int i0), .val (.int i1), .val (.int i2), .val (.int i3), .val (.int j1), .val (.int j6), .val (.int j11), .val (.ref b15), .val (.ref b21), .val (.int (2 : Int32)), .val (.ref r97)] [(.ref r97), (.ref b15)])) rfl (by rw [hml]; rfl) (Steps.refl _) (argsL := [(.ref r97)]) (rest := []) (lenOf pd2 rfl) rfl (by show 2 * 0 + _ ≤ _; exact Nat.le_of_eq rfl) (hb hby at_165) (fun _ _ => ⟨rfl, rfl, (by decide : 2 + 0 ≤ _), (by decide : 4 + 0 ≤ _)⟩)
        dsimp only [Pt.U, Pt.locs, Pt.cells, Pt.slots] at X99 l99 y99 z99 st99 hQ99
        subst l99 y99 z99
        obtain ⟨rfl, N99q, e99⟩ := hQ99
        have N99 := Fr.app N97 N99q
        obtain ⟨fs, hr, hrun, hended, hWr, hsame⟩ := X99.leave (v := some (.int (1 : Int32))) (fun h => by rw [Bd.returns] at h; cases h) hlk
        refine ⟨_, _, pre73 _ ?_, hrun, hended, _, _, rfl, ?_, ⟨_, rfl⟩, hWr, hsame.mono (Nat.le_of_ble_eq_true rfl) (Nat.le_of_ble_eq_true rfl)⟩
        · show Steps p.tables e below (T22.setTop (mkF m 156 #[.val (.int i0), .val (.int i1), .val (.int i2), .val (.int i3), .val (.int j1), .val (.int j6), .val (.int j11), .val (.ref b15), .val (.ref b21), .val (.int (2 : Int32)), .unset] [(.int i1)])) _
          refine st97 _ ?_
          show Steps p.tables e below (T97.setTop (mkF m 159 #[.val (.int i0), .val (.int i1), .val (.int i2), .val (.int i3), .val (.int j1), .val (.int j6), .val (.int j11), .val (.ref b15), .val (.ref b21), .val (.int (2 : Int32)), .unset] [(.ref r97)])) _
          refine XS.astore X97.here hx rfl (hb hby at_159) rfl rfl (l' := #[.val (.int i0), .val (.int i1), .val (.int i2), .val (.int i3), .val (.int j1), .val (.int j6), .val (.int j11), .val (.ref b15), .val (.ref b21), .val (.int (2 : Int32)), .val (.ref r97)]) rfl ?_
          show Steps p.tables e below (T97.setTop (mkF m 161 #[.val (.int i0), .val (.int i1), .val (.int i2), .val (.int i3), .val (.int j1), .val (.int j6), .val (.int j11), .val (.ref b15), .val (.ref b21), .val (.int (2 : Int32)), .val (.ref r97)] [])) _
          refine XS.aload X97.here hx rfl (hb hby at_161) rfl rfl ?_
          show Steps p.tables e below (T97.setTop (mkF m 163 #[.val (.int i0), .val (.int i1), .val (.int i2), .val (.int i3), .val (.int j1), .val (.int j6), .val (.int j11), .val (.ref b15), .val (.ref b21), .val (.int (2 : Int32)), .val (.ref r97)] [(.ref b15)])) _
          refine XS.aload X97.here hx rfl (hb hby at_163) rfl rfl ?_
          show Steps p.tables e below (T97.setTop (mkF m 165 #[.val (.int i0), .val (.int i1), .val (.int i2), .val (.int i3), .val (.int j1), .val (.int j6), .val (.int j11), .val (.ref b15), .val (.ref b21), .val (.int (2 : Int32)), .val (.ref r97)] [(.ref r97), (.ref b15)])) _
          refine st99.trans ?_
          show Steps p.tables e below (T99.setTop (mkF m 168 #[.val (.int i0), .val (.int i1), .val (.int i2), .val (.int i3), .val (.int j1), .val (.int j6), .val (.int j11), .val (.ref b15), .val (.ref b21), .val (.int (2 : Int32)), .val (.ref r97)] [(.int (0 : Int32))])) _
          refine XS.ifNo X99.here hx rfl (hb hby at_168) rfl (by decide) ?_
          show Steps p.tables e below (T99.setTop (mkF m 171 #[.val (.int i0), .val (.int i1), .val (.int i2), .val (.int i3), .val (.int j1), .val (.int j6), .val (.int j11), .val (.ref b15), .val (.ref b21), .val (.int (2 : Int32)), .val (.ref r97)] [])) _
          refine XS.iconst X99.here hx rfl (hb hby at_171) ?_
          show Steps p.tables e below (T99.setTop (mkF m 172 #[.val (.int i0), .val (.int i1), .val (.int i2), .val (.int i3), .val (.int j1), .val (.int j6), .val (.int j11), .val (.ref b15), .val (.ref b21), .val (.int (2 : Int32)), .val (.ref r97)] [(.int (1 : Int32))])) _
          refine XS.goto X99.here hx rfl (pc0 := 172) (pc' := 176) rfl (hb hby at_172) (by decide) (by decide) ?_
          show Steps p.tables e below (T99.setTop (mkF m 176 #[.val (.int i0), .val (.int i1), .val (.int i2), .val (.int i3), .val (.int j1), .val (.int j6), .val (.int j11), .val (.ref b15), .val (.ref b21), .val (.int (2 : Int32)), .val (.ref r97)] [(.int (1 : Int32))])) _
          exact retN X99 hx (t := .boolean) Bd.returns (by simp) (hb hby at_176) hr
        · show Ql n0 _ T99.heap _
          exact ⟨rfl, N99⟩
  · obtain ⟨cq106, kq106, q106a, q106b, q106c⟩ := isOf hZ rfl E_b15_22
    obtain ⟨_, _, ⟨T106, L106, k106, n106⟩, -, X106, ⟨Lc106, hQ106, l106, y106, z106⟩, st106⟩ := X22.virtualBack hx (y := (⟨"com/example/vestwright/vestwright/model/VestingDay", "equals", "(Ljava/lang/Object;)Z"⟩ : MethodName)) (z := (⟨"com/example/vestwright/vestwright/model/VestingDay", "equals", "(Ljava/lang/Object;)Z"⟩ : MethodName)) hown (mvT hZ (hw _ (List.mem_of_getElem? (i := 18) rfl))) (mvT hZ (hw _ (List.mem_of_getElem? (i := 19) rfl))) (notFace_of_selects (args := #[]) (mvT hZ (hw _ (List.mem_of_getElem? (i := 21) rfl)))) (mvT hZ (hw _ (List.mem_of_getElem? (i := 21) rfl))) (mvT hZ (hw _ (List.mem_of_getElem? (i := 20) rfl))) (by decide) (backOf (W := 0) (rm19 l Z a0 hw [] wc j1 i1 b15 T22.heap n0 hWd O_22 E_b15_22 F_b15_vestingStartDay_22 F_b15_day_22 g_b15) hZ (hw _ (List.mem_of_getElem? (i := 22) rfl)) (hw _ (List.mem_of_getElem? (i := 2) rfl)) (by decide) (by decide)) q106a q106c (g := (mkF m 185 #[.val (.int i0), .val (.int i1), .val (.int i2), .val (.int i3), .val (.int j1), .val (.int j6), .val (.int j11), .val (.ref b15), .val (.ref b21), .val (.int (3 : Int32)), .val (.ref b15)] [(.ref b15), (.ref b15)])) rfl (by rw [hml]; rfl) (Steps.refl _) (argsL := [(.ref b15)]) (rest := []) (lenOf pd2 rfl) rfl (by show 2 * 0 + _ ≤ _; exact Nat.le_of_eq rfl) (hb hby at_185) (fun _ _ => ⟨rfl, rfl, (by decide : 2 + 0 ≤ _), (by decide : 4 + 0 ≤ _)⟩)
    dsimp only [Pt.U, Pt.locs, Pt.cells, Pt.slots] at X106 l106 y106 z106 st106 hQ106
    subst l106 y106 z106
    obtain ⟨rfl, N106q, e106⟩ := hQ106
    have N106 := Fr.app N22 N106q
    obtain ⟨fs, hr, hrun, hended, hWr, hsame⟩ := X106.leave (v := some (.int (1 : Int32))) (fun h => by rw [Bd.returns] at h; cases h) hlk
    refine ⟨_, _, pre23 _ ?_, hrun, hended, _, _, rfl, ?_, ⟨_, rfl⟩, hWr, hsame.mono (Nat.le_of_ble_eq_true rfl) (Nat.le_of_ble_eq_true rfl)⟩
    · show Steps p.tables e below (T22.setTop (mkF m 66 #[.val (.int i0), .val (.int i1), .val (.int i2), .val (.int i3), .val (.int j1), .val (.int j6), .val (.int j11), .val (.ref b15), .val (.ref b21), .unset, .unset] [(.int (3 : Int32)), (.int i3)])) _
      refine XS.iand X22.here hx rfl (hb hby at_66) rfl ?_
      show Steps p.tables e below (T22.setTop (mkF m 67 #[.val (.int i0), .val (.int i1), .val (.int i2), .val (.int i3), .val (.int j1), .val (.int j6), .val (.int j11), .val (.ref b15), .val (.ref b21), .unset, .unset] [(.int (i3 &&& (3 : Int32)))])) _
      rw [hk27]
      show Steps p.tables e below (T22.setTop (mkF m 67 #[.val (.int i0), .val (.int i1), .val (.int i2), .val (.int i3), .val (.int j1), .val (.int j6), .val (.int j11), .val (.ref b15), .val (.ref b21), .unset, .unset] [(.int (3 : Int32))])) _
      refine XS.istore X22.here hx rfl (hb hby at_67) rfl (l' := #[.val (.int i0), .val (.int i1), .val (.int i2), .val (.int i3), .val (.int j1), .val (.int j6), .val (.int j11), .val (.ref b15), .val (.ref b21), .val (.int (3 : Int32)), .unset]) rfl ?_
      show Steps p.tables e below (T22.setTop (mkF m 69 #[.val (.int i0), .val (.int i1), .val (.int i2), .val (.int i3), .val (.int j1), .val (.int j6), .val (.int j11), .val (.ref b15), .val (.ref b21), .val (.int (3 : Int32)), .unset] [])) _
      refine XS.iload X22.here hx rfl (hb hby at_69) rfl ?_
      show Steps p.tables e below (T22.setTop (mkF m 71 #[.val (.int i0), .val (.int i1), .val (.int i2), .val (.int i3), .val (.int j1), .val (.int j6), .val (.int j11), .val (.ref b15), .val (.ref b21), .val (.int (3 : Int32)), .unset] [(.int (3 : Int32))])) _
      refine XS.ifYes X22.here hx rfl (pc0 := 71) (pc' := 124) rfl (hb hby at_71) rfl (by decide) (by decide) (by decide) ?_
      show Steps p.tables e below (T22.setTop (mkF m 124 #[.val (.int i0), .val (.int i1), .val (.int i2), .val (.int i3), .val (.int j1), .val (.int j6), .val (.int j11), .val (.ref b15), .val (.ref b21), .val (.int (3 : Int32)), .unset] [])) _
      refine XS.iload X22.here hx rfl (hb hby at_124) rfl ?_
      show Steps p.tables e below (T22.setTop (mkF m 126 #[.val (.int i0), .val (.int i1), .val (.int i2), .val (.int i3), .val (.int j1), .val (.int j6), .val (.int j11), .val (.ref b15), .val (.ref b21), .val (.int (3 : Int32)), .unset] [(.int (3 : Int32))])) _
      refine XS.iconst X22.here hx rfl (hb hby at_126) ?_
      show Steps p.tables e below (T22.setTop (mkF m 127 #[.val (.int i0), .val (.int i1), .val (.int i2), .val (.int i3), .val (.int j1), .val (.int j6), .val (.int j11), .val (.ref b15), .val (.ref b21), .val (.int (3 : Int32)), .unset] [(.int (1 : Int32)), (.int (3 : Int32))])) _
      refine XS.icmpYes X22.here hx rfl (pc0 := 127) (pc' := 149) rfl (hb hby at_127) rfl (by decide) (by decide) (by decide) ?_
      show Steps p.tables e below (T22.setTop (mkF m 149 #[.val (.int i0), .val (.int i1), .val (.int i2), .val (.int i3), .val (.int j1), .val (.int j6), .val (.int j11), .val (.ref b15), .val (.ref b21), .val (.int (3 : Int32)), .unset] [])) _
      refine XS.iload X22.here hx rfl (hb hby at_149) rfl ?_
      show Steps p.tables e below (T22.setTop (mkF m 151 #[.val (.int i0), .val (.int i1), .val (.int i2), .val (.int i3), .val (.int j1), .val (.int j6), .val (.int j11), .val (.ref b15), .val (.ref b21), .val (.int (3 : Int32)), .unset] [(.int (3 : Int32))])) _
      refine XS.iconst X22.here hx rfl (hb hby at_151) ?_
      show Steps p.tables e below (T22.setTop (mkF m 152 #[.val (.int i0), .val (.int i1), .val (.int i2), .val (.int i3), .val (.int j1), .val (.int j6), .val (.int j11), .val (.ref b15), .val (.ref b21), .val (.int (3 : Int32)), .unset] [(.int (2 : Int32)), (.int (3 : Int32))])) _
      refine XS.icmpYes X22.here hx rfl (pc0 := 152) (pc' := 177) rfl (hb hby at_152) rfl (by decide) (by decide) (by decide) ?_
      show Steps p.tables e below (T22.setTop (mkF m 177 #[.val (.int i0), .val (.int i1), .val (.int i2), .val (.int i3), .val (.int j1), .val (.int j6), .val (.int j11), .val (.ref b15), .val (.ref b21), .val (.int (3 : Int32)), .unset] [])) _
      refine XS.aload X22.here hx rfl (hb hby at_177) rfl rfl ?_
      show Steps p.tables e below (T22.setTop (mkF m 179 #[.val (.int i0), .val (.int i1), .val (.int i2), .val (.int i3), .val (.int j1), .val (.int j6), .val (.int j11), .val (.ref b15), .val (.ref b21), .val (.int (3 : Int32)), .unset] [(.ref b15)])) _
      refine XS.astore X22.here hx rfl (hb hby at_179) rfl rfl (l' := #[.val (.int i0), .val (.int i1), .val (.int i2), .val (.int i3), .val (.int j1), .val (.int j6), .val (.int j11), .val (.ref b15), .val (.ref b21), .val (.int (3 : Int32)), .val (.ref b15)]) rfl ?_
      show Steps p.tables e below (T22.setTop (mkF m 181 #[.val (.int i0), .val (.int i1), .val (.int i2), .val (.int i3), .val (.int j1), .val (.int j6), .val (.int j11), .val (.ref b15), .val (.ref b21), .val (.int (3 : Int32)), .val (.ref b15)] [])) _
      refine XS.aload X22.here hx rfl (hb hby at_181) rfl rfl ?_
      show Steps p.tables e below (T22.setTop (mkF m 183 #[.val (.int i0), .val (.int i1), .val (.int i2), .val (.int i3), .val (.int j1), .val (.int j6), .val (.int j11), .val (.ref b15), .val (.ref b21), .val (.int (3 : Int32)), .val (.ref b15)] [(.ref b15)])) _
      refine XS.aload X22.here hx rfl (hb hby at_183) rfl rfl ?_
      show Steps p.tables e below (T22.setTop (mkF m 185 #[.val (.int i0), .val (.int i1), .val (.int i2), .val (.int i3), .val (.int j1), .val (.int j6), .val (.int j11), .val (.ref b15), .val (.ref b21), .val (.int (3 : Int32)), .val (.ref b15)] [(.ref b15), (.ref b15)])) _
      refine st106.trans ?_
      show Steps p.tables e below (T106.setTop (mkF m 188 #[.val (.int i0), .val (.int i1), .val (.int i2), .val (.int i3), .val (.int j1), .val (.int j6), .val (.int j11), .val (.ref b15), .val (.ref b21), .val (.int (3 : Int32)), .val (.ref b15)] [(.int (1 : Int32))])) _
      exact retN X106 hx (t := .boolean) Bd.returns (by simp) (hb hby at_188) hr
    · show Ql n0 _ T106.heap _
      exact ⟨rfl, N106⟩
set_option maxRecDepth 65536 in
set_option maxHeartbeats 40000000 in
theorem comes_1 {Post : Tables → Env → Array Value → State → Outcome → State → Prop} (hpost : ∀ tb e args s v u, (limb_1_1.after args s (.returned v) u = true ∧ limb_1_2.after args s (.returned v) u = true ∧ True) → FrameEnd s (.returned v) u (Jvm.fieldLocs frame_1_writes args s ++ Jvm.arrayLocs frame_1_arrays args s ++ Jvm.staticLocs frame_1_statics s) 16 128 → Post tb e args s (.returned v) u) :
    ArmFor flags0 classFile x code maxLocals ret World_1 tables_1 room_1 Calls_1 rest_1 Pre_1 Post := by
  intro l hfl _ _ p e ha hc hk s m args below hf hA hF happ hP
  obtain ⟨hcalls, hrest, hpre⟩ := hP
  obtain ⟨-, -, -, hnamed, -, -, -, hat⟩ := (Spec.applies_iff hf).mp happ
  obtain ⟨hg, hn⟩ := and_e (Cond.before_iff.mp (show (Jvm.Cond.and given_1 narrow_1).before args s = true from hpre))
  obtain ⟨gc, g0⟩ := and_e hg
  obtain ⟨ga0, g1⟩ := and_e g0
  obtain ⟨ga1, g2⟩ := and_e g1
  obtain ⟨ga2, g3⟩ := and_e g2
  obtain ⟨x0, x1, x2, x3, rfl⟩ : ∃ x0 x1 x2 x3 : Value, args = #[x0, x1, x2, x3] := by
    have hs : args.size = 4 := by simpa [Cond.value, given_1] using gc
    obtain ⟨L⟩ := args
    match L, hs with
    | [x0, x1, x2, x3], _ => exact ⟨x0, x1, x2, x3, rfl⟩
  have hw := fun d (hd : d ∈ tables_1) => atoms_spec (ws := Jvm.Cond.code x code maxLocals ret :: tables_1) hat d (List.mem_cons_of_mem _ hd)
  have hfit : Fit s := fun {y c} hc i hi => by
    obtain ⟨ha, rfl⟩ := Array.getElem?_eq_some_iff.mp hc
    have q := List.all_eq_true.mp ((Array.all_eq_true_iff_forall_mem.mp hF) _ (Array.getElem_mem ha)) i (List.mem_range.mpr hi)
    simpa [Array.getElem?_eq_getElem hi] using q
  obtain ⟨hsets, hown0⟩ := atoms_of _ (rest_1_c_eq ▸ (show rest_1_c.before _ s = true from hrest))
  obtain ⟨i0, ei0⟩ := is_v ga0
  obtain rfl : x0 = (.int i0) := Option.some.inj ei0
  obtain ⟨i1, ei1⟩ := is_v ga1
  obtain rfl : x1 = (.int i1) := Option.some.inj ei1
  obtain ⟨i2, ei2⟩ := is_v ga2
  obtain rfl : x2 = (.int i2) := Option.some.inj ei2
  obtain ⟨i3, ei3⟩ := is_v g3
  obtain rfl : x3 = (.int i3) := Option.some.inj ei3
  have wSh : Sta s s.heap "java/lang/Integer$IntegerCache" "high" "I" (.int (127 : Int32)) := Sta.start (eqv_i (Term.int_eval _) (Cond.before_iff.mp (hsets _ (List.mem_of_getElem? (i := 3) rfl)))) (Or.inl (hsets _ (List.mem_of_getElem? (i := 1) rfl)))
  obtain ⟨wc, evc⟩ := exa_v (Cond.before_iff.mp (hsets _ (List.mem_of_getElem? (i := 5) rfl)))
  have wSc : Sta s s.heap "java/lang/Integer$IntegerCache" "cache" "[Ljava/lang/Integer;" (.ref wc) := Sta.start evc (Or.inr ⟨(hw _ (List.mem_of_getElem? (i := 28) rfl)), (hsets _ (List.mem_of_getElem? (i := 2) rfl))⟩)
  obtain ⟨cl, hA⟩ := Arr.start evc (Cond.before_iff.mp (hsets _ (List.mem_of_getElem? (i := 4) rfl)))
  have hlen := eqv_i (Term.int_eval _) (Cond.before_iff.mp (hsets _ (List.mem_of_getElem? (i := 6) rfl)))
  have hfin := hA.fin (Vm.Alike.refl _)
  obtain ⟨hsz, hzz⟩ : cl.slots.size < 2 ^ 31 ∧ cl.slots.size.toInt32 = (256 : Int32) := own_len evc hfin hlen
  have wB : ∃ cl, Bxs s wc cl "java/lang/Integer" "I" (256 : Int32) (fun j => .int (j - 128)) := ⟨cl, Bxs.start (fun idx => (Term.eval_closed none idx _ s rfl).trans evc) hA hsz hzz (by decide) (Cond.before_iff.mp (hsets _ (List.mem_of_getElem? (i := 7) rfl))) (fun X j hj hX => eqv_i (own_sub (idx_at hj)) hX)⟩
  have hWd : Wd s wc := ⟨wSh, wSc, wB, trivial⟩
  obtain ⟨n, o, h1, h2, h3, _, L, rfl, ⟨rfl, N⟩, hq⟩ := rm0 l s _ hw tables_1 wc i0 i1 i2 i3 s.heap s.heap.size hWd (Old.start s) p e ha hc hk s m _ below hf ((Spec.applies_iff_loose hf).mp happ).1 ⟨rfl, State.Warmed39.refl s, rfl⟩ trivial
  exact ⟨n, _, h1, h2, h3, hpost _ _ _ _ _ _ ⟨Cond.after_iff.mpr rfl, Cond.after_iff.mpr (eq_i res_at (Term.int_eval (1)) rfl), trivial⟩ ⟨hq.1, hq.2.1, (hq.2.2.sift fun y hy => Or.inr (N y hy)).mono (by decide) (by decide)⟩⟩
theorem main_1_1 : Claimed_1_1 := comes_1 fun _ _ _ _ _ _ h hF => ⟨h.1, hF⟩
theorem main_1_2 : Claimed_1_2 := comes_1 fun _ _ _ _ _ _ h hF => ⟨h.2.1, hF⟩
end Jvm.Pilot.@@N@@
namespace Jvm.Pilot.@@N@@
open Jvm Jvm.ClassFile Sem Op Lib Jvm.Free Jvm.Stand Jvm.Pilot.@@N@@.Jvm.D
/-! MADE BY PROGRAM (witnessworld.py) out of the Statement's table words and the real class files: 17 classes; the members and pool entries that the words name. The judged class is class 1, her method 1. -/
namespace start1
open Jvm.ClassFile
def u (s : String) : CpInfo := .utf8 (stringToUtf16 s)
/-- a pool by its gaps: so many unusable entries, then the entry; so many at the end -/
def gap : Nat → List CpInfo → List CpInfo
  | 0, r => r
  | n + 1, r => .unusable :: gap n r
def poolList (es : List (Nat × CpInfo)) (last : Nat) : List CpInfo := es.foldr (fun e r => gap e.1 (e.2 :: r)) (gap last [])
def pool (es : List (Nat × CpInfo)) (last : Nat) : Array CpInfo := ⟨poolList es last⟩
def fileOf (pool : Array CpInfo) (this : Nat) (attrs : Array Attribute := #[]) (ms : Array MethodInfo := #[]) (fl : Nat := 33) (sup : Nat := 0) (ifs : Array Nat := #[]) (fds : Array FieldInfo := #[]) : ClassFile where
  minorVersion := 0
  majorVersion := 65
  constantPool := pool
  accessFlags := fl
  thisClass := this
  superClass := sup
  interfaces := ifs
  fields := fds
  methods := ms
  attributes := attrs
def plain (name : String) (sup : Option ClassId) : Class where
  name := name
  kind := .ordinary
  loader := none
  accessFlags := 33
  super := sup
  interfaces := #[]
  cf := none
  fields := #[]
  methods := #[]
  instanceTypes := #[]
  staticTypes := #[]
  resolved := #[]
  callSites := []
  init := .initialized
  statics := none
  mirror := none

def pool0 : Array CpInfo := pool [(5, u "<init>"), (0, u "()V"), (1, .class_ 10), (1, u "java/lang/Object")] 113

def k0c0 : Code := { maxStack := 0, maxLocals := 1, code := object_method_1_code, exceptionTable := #[], attributes := #[] }
def k0m0 : Method := { name := "<init>", desc := "()V", sig := { parameters := [], returnType := none }, accessFlags := 1, code := some k0c0 }
/-- java/lang/Object -/
def k0 : Class := { plain "java/lang/Object" none with
  accessFlags := 33
  interfaces := #[]
  cf := some (fileOf pool0 8 #[] #[{ accessFlags := 1, nameIndex := 5, descriptorIndex := 6, attributes := #[] }] 33 0 #[] #[])
  fields := #[]
  methods := #[k0m0]
  instanceTypes := #[]
  staticTypes := #[]
  resolved := Array.replicate 124 none
  statics := none }

def pool1 : Array CpInfo := pool [(2, .class_ 4), (1, u "java/lang/Object"), (0, u "<init>"), (0, u "()V"), (0, .class_ 8), (0, u "com/example/vestwright/vestwright/model/VestingDay"), (0, .methodref 7 10), (0, .nameAndType 5 11), (0, u "(ZI)V"), (0, .methodref 7 13), (0, .nameAndType 14 15), (0, u "equals"), (0, u "(Ljava/lang/Object;)Z"), (0, .methodref 17 18), (0, .class_ 19), (0, .nameAndType 20 21), (0, u "java/lang/Integer"), (0, u "valueOf"), (0, u "(I)Ljava/lang/Integer;"), (0, .class_ 23), (0, u "com/example/vestwright/vestwright/model/VestingDayEqualsPinLaw"), (2, u "law"), (0, u "(IIII)Z")] 3

def k1m0 : Method := { name := "<init>", desc := "()V", sig := { parameters := [], returnType := none }, accessFlags := 1, code := none }
def k1c1 : Code := { maxStack := 4, maxLocals := 11, code := code, exceptionTable := #[], attributes := #[] }
def k1m1 : Method := { name := "law", desc := "(IIII)Z", sig := { parameters := [.int, .int, .int, .int], returnType := some .boolean }, accessFlags := 9, code := some k1c1 }
/-- com/example/vestwright/vestwright/model/VestingDayEqualsPinLaw -/
def k1 : Class := { plain "com/example/vestwright/vestwright/model/VestingDayEqualsPinLaw" (some 0) with
  accessFlags := 49
  interfaces := #[]
  cf := some (fileOf pool1 22 #[] #[{ accessFlags := 1, nameIndex := 5, descriptorIndex := 6, attributes := #[] }, { accessFlags := 9, nameIndex := 26, descriptorIndex := 27, attributes := #[] }] 49 2 #[] #[])
  fields := #[]
  methods := #[k1m0, k1m1]
  instanceTypes := #[]
  staticTypes := #[]
  resolved := Array.replicate 31 none
  statics := none }

def pool2 : Array CpInfo := pool [(1, .methodref 2 3), (0, .class_ 4), (0, .nameAndType 5 6), (0, u "java/lang/Object"), (0, u "<init>"), (0, u "()V"), (0, .class_ 8), (0, u "java/lang/Record")] 13

def k2c0 : Code := { maxStack := 1, maxLocals := 1, code := jdk_30_method_1_code, exceptionTable := #[], attributes := #[] }
def k2m0 : Method := { name := "<init>", desc := "()V", sig := { parameters := [], returnType := none }, accessFlags := 4, code := some k2c0 }
/-- java/lang/Record -/
def k2 : Class := { plain "java/lang/Record" (some 0) with
  accessFlags := 1057
  interfaces := #[]
  cf := some (fileOf pool2 7 #[] #[{ accessFlags := 4, nameIndex := 5, descriptorIndex := 6, attributes := #[] }] 1057 2 #[] #[])
  fields := #[]
  methods := #[k2m0]
  instanceTypes := #[]
  staticTypes := #[]
  resolved := Array.replicate 22 none
  statics := none }

def pool3 : Array CpInfo := pool [(1, .methodref 2 3), (0, .class_ 4), (0, .nameAndType 5 6), (0, u "java/lang/Record"), (0, u "<init>"), (0, u "()V"), (0, .fieldref 8 9), (0, .class_ 10), (0, .nameAndType 11 12), (0, u "com/example/vestwright/vestwright/model/VestingDay"), (0, u "vestingStartDay"), (0, u "Z"), (0, .fieldref 8 14), (0, .nameAndType 15 16), (0, u "day"), (0, u "I"), (6, u "equals"), (0, u "(Ljava/lang/Object;)Z"), (2, u "(ZI)V"), (78, u "VESTING_START_DAY"), (0, u "Ljava/lang/String;"), (1, u "OR_LAST_DAY")] 39

def k3c0 : Code := { maxStack := 2, maxLocals := 3, code := prog_87_method_1_code, exceptionTable := #[], attributes := #[] }
def k3m0 : Method := { name := "<init>", desc := "(ZI)V", sig := { parameters := [.boolean, .int], returnType := none }, accessFlags := 1, code := some k3c0 }
def k3c1 : Code := { maxStack := 2, maxLocals := 3, code := prog_87_method_7_code, exceptionTable := #[], attributes := #[] }
def k3m1 : Method := { name := "equals", desc := "(Ljava/lang/Object;)Z", sig := { parameters := [(.object "java/lang/Object")], returnType := some .boolean }, accessFlags := 1, code := some k3c1 }
/-- com/example/vestwright/vestwright/model/VestingDay -/
def k3 : Class := { plain "com/example/vestwright/vestwright/model/VestingDay" (some 2) with
  accessFlags := 49
  interfaces := #[]
  cf := some (fileOf pool3 8 #[] #[{ accessFlags := 1, nameIndex := 5, descriptorIndex := 27, attributes := #[] }, { accessFlags := 1, nameIndex := 23, descriptorIndex := 24, attributes := #[] }] 49 2 #[] #[{ accessFlags := 18, nameIndex := 11, descriptorIndex := 12, attributes := #[] }, { accessFlags := 18, nameIndex := 15, descriptorIndex := 16, attributes := #[] }, { accessFlags := 26, nameIndex := 106, descriptorIndex := 107, attributes := #[] }, { accessFlags := 26, nameIndex := 109, descriptorIndex := 107, attributes := #[] }])
  fields := #[{ name := "vestingStartDay", type := .boolean, accessFlags := 18, slot := 0, constantValue := 0 }, { name := "day", type := .int, accessFlags := 18, slot := 1, constantValue := 0 }, { name := "VESTING_START_DAY", type := (.object "java/lang/String"), accessFlags := 26, slot := 0, constantValue := 0 }, { name := "OR_LAST_DAY", type := (.object "java/lang/String"), accessFlags := 26, slot := 1, constantValue := 0 }]
  methods := #[k3m0, k3m1]
  instanceTypes := #[.boolean, .int]
  staticTypes := #[(.object "java/lang/String"), (.object "java/lang/String")]
  resolved := Array.replicate 149 none
  statics := none }

def pool4 : Array CpInfo := pool [(1, .class_ 2), (0, u "java/io/Serializable"), (0, .class_ 4), (0, u "java/lang/Object")] 2

/-- java/io/Serializable -/
def k4 : Class := { plain "java/io/Serializable" (some 0) with
  accessFlags := 1537
  interfaces := #[]
  cf := some (fileOf pool4 1 #[] #[] 1537 3 #[] #[])
  fields := #[]
  methods := #[]
  instanceTypes := #[]
  staticTypes := #[]
  resolved := Array.replicate 7 none
  statics := none }

def pool5 : Array CpInfo := pool [(1, .methodref 2 3), (0, .class_ 4), (0, .nameAndType 5 6), (0, u "java/lang/Object"), (0, u "<init>"), (0, u "()V"), (1, .class_ 10), (1, u "java/lang/Number"), (2, .class_ 14), (0, u "java/io/Serializable"), (0, u "serialVersionUID"), (0, u "J")] 20

def k5c0 : Code := { maxStack := 1, maxLocals := 1, code := jdk_18_method_1_code, exceptionTable := #[], attributes := #[] }
def k5m0 : Method := { name := "<init>", desc := "()V", sig := { parameters := [], returnType := none }, accessFlags := 1, code := some k5c0 }
/-- java/lang/Number -/
def k5 : Class := { plain "java/lang/Number" (some 0) with
  accessFlags := 1057
  interfaces := #[4]
  cf := some (fileOf pool5 8 #[] #[{ accessFlags := 1, nameIndex := 5, descriptorIndex := 6, attributes := #[] }] 1057 2 #[13] #[{ accessFlags := 26, nameIndex := 15, descriptorIndex := 16, attributes := #[] }])
  fields := #[{ name := "serialVersionUID", type := .long, accessFlags := 26, slot := 0, constantValue := 0 }]
  methods := #[k5m0]
  instanceTypes := #[]
  staticTypes := #[.long]
  resolved := Array.replicate 37 none
  statics := none }

def pool6 : Array CpInfo := pool [(1, .class_ 2), (0, u "java/lang/Comparable"), (0, .class_ 4), (0, u "java/lang/Object")] 7

/-- java/lang/Comparable -/
def k6 : Class := { plain "java/lang/Comparable" (some 0) with
  accessFlags := 1537
  interfaces := #[]
  cf := some (fileOf pool6 1 #[] #[] 1537 3 #[] #[])
  fields := #[]
  methods := #[]
  instanceTypes := #[]
  staticTypes := #[]
  resolved := Array.replicate 12 none
  statics := none }

def pool7 : Array CpInfo := pool [(1, .class_ 2), (0, u "java/lang/constant/Constable"), (0, .class_ 4), (0, u "java/lang/Object")] 6

/-- java/lang/constant/Constable -/
def k7 : Class := { plain "java/lang/constant/Constable" (some 0) with
  accessFlags := 1537
  interfaces := #[]
  cf := some (fileOf pool7 1 #[] #[] 1537 3 #[] #[])
  fields := #[]
  methods := #[]
  instanceTypes := #[]
  staticTypes := #[]
  resolved := Array.replicate 11 none
  statics := none }

def pool8 : Array CpInfo := pool [(1, .class_ 2), (0, u "java/lang/constant/ConstantDesc"), (0, .class_ 4), (0, u "java/lang/Object")] 32

/-- java/lang/constant/ConstantDesc -/
def k8 : Class := { plain "java/lang/constant/ConstantDesc" (some 0) with
  accessFlags := 1537
  interfaces := #[]
  cf := some (fileOf pool8 1 #[] #[] 1537 3 #[] #[])
  fields := #[]
  methods := #[]
  instanceTypes := #[]
  staticTypes := #[]
  resolved := Array.replicate 37 none
  statics := none }

def pool9 : Array CpInfo := pool [(1, .class_ 2), (0, u "java/lang/Integer"), (16, u "digits"), (0, u "[C"), (46, u "<init>"), (17, u "DigitOnes"), (0, u "[B"), (2, u "DigitTens"), (10, .nameAndType 67 101), (0, u "()V"), (85, u "valueOf"), (0, u "(I)Ljava/lang/Integer;"), (0, .class_ 190), (0, u "java/lang/Integer$IntegerCache"), (0, .fieldref 189 192), (0, .nameAndType 193 194), (0, u "high"), (0, u "I"), (0, .fieldref 189 196), (0, .nameAndType 197 198), (0, u "cache"), (0, u "[Ljava/lang/Integer;"), (0, .methodref 1 200), (0, .nameAndType 67 201), (0, u "(I)V"), (0, .methodref 203 100), (0, .class_ 204), (0, u "java/lang/Number"), (0, .fieldref 1 206), (0, .nameAndType 207 194), (0, u "value"), (94, u "TYPE"), (0, u "Ljava/lang/Class;"), (0, .class_ 305), (0, u "java/lang/Comparable"), (0, .class_ 307), (0, u "java/lang/constant/Constable"), (0, .class_ 309), (0, u "java/lang/constant/ConstantDesc"), (0, u "MIN_VALUE"), (1, u "MAX_VALUE"), (3, u "SIZE"), (1, u "BYTES"), (1, u "serialVersionUID"), (0, u "J")] 131

def k9c0 : Code := { maxStack := 3, maxLocals := 1, code := jdk_33_method_22_code, exceptionTable := #[], attributes := #[] }
def k9m0 : Method := { name := "valueOf", desc := "(I)Ljava/lang/Integer;", sig := { parameters := [.int], returnType := some (.object "java/lang/Integer") }, accessFlags := 9, code := some k9c0 }
def k9c1 : Code := { maxStack := 2, maxLocals := 2, code := jdk_33_method_23_code, exceptionTable := #[], attributes := #[] }
def k9m1 : Method := { name := "<init>", desc := "(I)V", sig := { parameters := [.int], returnType := none }, accessFlags := 1, code := some k9c1 }
/-- java/lang/Integer -/
def k9 : Class := { plain "java/lang/Integer" (some 5) with
  accessFlags := 49
  interfaces := #[6, 7, 8]
  cf := some (fileOf pool9 1 #[.nestMembers #[189]] #[{ accessFlags := 9, nameIndex := 187, descriptorIndex := 188, attributes := #[] }, { accessFlags := 1, nameIndex := 67, descriptorIndex := 201, attributes := #[] }] 49 203 #[304, 306, 308] #[{ accessFlags := 25, nameIndex := 310, descriptorIndex := 194, attributes := #[] }, { accessFlags := 25, nameIndex := 312, descriptorIndex := 194, attributes := #[] }, { accessFlags := 25, nameIndex := 302, descriptorIndex := 303, attributes := #[] }, { accessFlags := 24, nameIndex := 19, descriptorIndex := 20, attributes := #[] }, { accessFlags := 24, nameIndex := 89, descriptorIndex := 86, attributes := #[] }, { accessFlags := 24, nameIndex := 85, descriptorIndex := 86, attributes := #[] }, { accessFlags := 18, nameIndex := 207, descriptorIndex := 194, attributes := #[] }, { accessFlags := 25, nameIndex := 316, descriptorIndex := 194, attributes := #[] }, { accessFlags := 25, nameIndex := 318, descriptorIndex := 194, attributes := #[] }, { accessFlags := 26, nameIndex := 320, descriptorIndex := 321, attributes := #[] }])
  fields := #[{ name := "MIN_VALUE", type := .int, accessFlags := 25, slot := 0, constantValue := 0 }, { name := "MAX_VALUE", type := .int, accessFlags := 25, slot := 1, constantValue := 0 }, { name := "TYPE", type := (.object "java/lang/Class"), accessFlags := 25, slot := 2, constantValue := 0 }, { name := "digits", type := (.array .char), accessFlags := 24, slot := 3, constantValue := 0 }, { name := "DigitTens", type := (.array .byte), accessFlags := 24, slot := 4, constantValue := 0 }, { name := "DigitOnes", type := (.array .byte), accessFlags := 24, slot := 5, constantValue := 0 }, { name := "value", type := .int, accessFlags := 18, slot := 0, constantValue := 0 }, { name := "SIZE", type := .int, accessFlags := 25, slot := 6, constantValue := 0 }, { name := "BYTES", type := .int, accessFlags := 25, slot := 7, constantValue := 0 }, { name := "serialVersionUID", type := .long, accessFlags := 26, slot := 8, constantValue := 0 }]
  methods := #[k9m0, k9m1]
  instanceTypes := #[.int]
  staticTypes := #[.int, .int, (.object "java/lang/Class"), (.array .char), (.array .byte), (.array .byte), .int, .int, .long]
  resolved := Array.replicate 453 none
  statics := none }

def pool10 : Array CpInfo := pool [(2, .class_ 4), (1, u "java/lang/Object"), (0, u "<init>"), (0, u "()V"), (0, .class_ 8), (0, u "java/lang/Integer"), (7, .class_ 18), (1, u "java/lang/Integer$IntegerCache"), (0, u "$assertionsDisabled"), (0, u "Z"), (26, u "high"), (0, u "I"), (8, u "archivedCache"), (0, u "[Ljava/lang/Integer;"), (12, u "cache"), (0, u "low")] 27

def k10m0 : Method := { name := "<init>", desc := "()V", sig := { parameters := [], returnType := none }, accessFlags := 2, code := none }
/-- java/lang/Integer$IntegerCache -/
def k10 : Class := { plain "java/lang/Integer$IntegerCache" (some 0) with
  accessFlags := 48
  interfaces := #[]
  cf := some (fileOf pool10 16 #[.nestHost 7] #[{ accessFlags := 2, nameIndex := 5, descriptorIndex := 6, attributes := #[] }] 48 2 #[] #[{ accessFlags := 24, nameIndex := 72, descriptorIndex := 48, attributes := #[] }, { accessFlags := 24, nameIndex := 47, descriptorIndex := 48, attributes := #[] }, { accessFlags := 24, nameIndex := 71, descriptorIndex := 58, attributes := #[] }, { accessFlags := 8, nameIndex := 57, descriptorIndex := 58, attributes := #[] }, { accessFlags := 4120, nameIndex := 19, descriptorIndex := 20, attributes := #[] }])
  fields := #[{ name := "low", type := .int, accessFlags := 24, slot := 0, constantValue := 0 }, { name := "high", type := .int, accessFlags := 24, slot := 1, constantValue := 0 }, { name := "cache", type := (.array (.object "java/lang/Integer")), accessFlags := 24, slot := 2, constantValue := 0 }, { name := "archivedCache", type := (.array (.object "java/lang/Integer")), accessFlags := 8, slot := 3, constantValue := 0 }, { name := "$assertionsDisabled", type := .boolean, accessFlags := 4120, slot := 4, constantValue := 0 }]
  methods := #[k10m0]
  instanceTypes := #[]
  staticTypes := #[.int, .int, (.array (.object "java/lang/Integer")), (.array (.object "java/lang/Integer")), .boolean]
  resolved := Array.replicate 100 none
  statics := some 0 }

def pool11 : Array CpInfo := pool [(1, u "java/lang/Cloneable"), (0, .class_ 1), (0, u "java/lang/Object"), (0, .class_ 3)] 3

/-- java/lang/Cloneable -/
def k11 : Class := { plain "java/lang/Cloneable" (some 0) with
  accessFlags := 1537
  interfaces := #[]
  cf := some (fileOf pool11 2 #[] #[] 1537 4 #[] #[])
  fields := #[]
  methods := #[]
  instanceTypes := #[]
  staticTypes := #[]
  resolved := Array.replicate 8 none
  statics := none }

/-- the primitive byte -/
def k12 : Class := { plain "byte" none with kind := .primitive 'B', accessFlags := 0x411 }
/-- [B -/
def k13 : Class := { plain "[B" (some 0) with kind := .array 12 .byte, interfaces := #[11, 4], accessFlags := 1041 }

/-- the primitive int -/
def k14 : Class := { plain "int" none with kind := .primitive 'I', accessFlags := 0x411 }
/-- [I -/
def k15 : Class := { plain "[I" (some 0) with kind := .array 14 .int, interfaces := #[11, 4], accessFlags := 1041 }

/-- [Ljava/lang/Integer; -/
def k16 : Class := { plain "[Ljava/lang/Integer;" (some 0) with kind := .array 9 (.object "java/lang/Integer"), interfaces := #[11, 4], accessFlags := 1041 }

def heap : Heap := #[{ cls := 10, slots := #[.int 0, .int 127, .ref 1, .null, .int 0], vm := .statics 10 },
  { cls := 16, slots := #[.ref 2, .ref 3, .ref 4, .ref 5, .ref 6, .ref 7, .ref 8, .ref 9, .ref 10, .ref 11, .ref 12, .ref 13, .ref 14, .ref 15, .ref 16, .ref 17, .ref 18, .ref 19, .ref 20, .ref 21, .ref 22, .ref 23, .ref 24, .ref 25, .ref 26, .ref 27, .ref 28, .ref 29, .ref 30, .ref 31, .ref 32, .ref 33, .ref 34, .ref 35, .ref 36, .ref 37, .ref 38, .ref 39, .ref 40, .ref 41, .ref 42, .ref 43, .ref 44, .ref 45, .ref 46, .ref 47, .ref 48, .ref 49, .ref 50, .ref 51, .ref 52, .ref 53, .ref 54, .ref 55, .ref 56, .ref 57, .ref 58, .ref 59, .ref 60, .ref 61, .ref 62, .ref 63, .ref 64, .ref 65, .ref 66, .ref 67, .ref 68, .ref 69, .ref 70, .ref 71, .ref 72, .ref 73, .ref 74, .ref 75, .ref 76, .ref 77, .ref 78, .ref 79, .ref 80, .ref 81, .ref 82, .ref 83, .ref 84, .ref 85, .ref 86, .ref 87, .ref 88, .ref 89, .ref 90, .ref 91, .ref 92, .ref 93, .ref 94, .ref 95, .ref 96, .ref 97, .ref 98, .ref 99, .ref 100, .ref 101, .ref 102, .ref 103, .ref 104, .ref 105, .ref 106, .ref 107, .ref 108, .ref 109, .ref 110, .ref 111, .ref 112, .ref 113, .ref 114, .ref 115, .ref 116, .ref 117, .ref 118, .ref 119, .ref 120, .ref 121, .ref 122, .ref 123, .ref 124, .ref 125, .ref 126, .ref 127, .ref 128, .ref 129, .ref 130, .ref 131, .ref 132, .ref 133, .ref 134, .ref 135, .ref 136, .ref 137, .ref 138, .ref 139, .ref 140, .ref 141, .ref 142, .ref 143, .ref 144, .ref 145, .ref 146, .ref 147, .ref 148, .ref 149, .ref 150, .ref 151, .ref 152, .ref 153, .ref 154, .ref 155, .ref 156, .ref 157, .ref 158, .ref 159, .ref 160, .ref 161, .ref 162, .ref 163, .ref 164, .ref 165, .ref 166, .ref 167, .ref 168, .ref 169, .ref 170, .ref 171, .ref 172, .ref 173, .ref 174, .ref 175, .ref 176, .ref 177, .ref 178, .ref 179, .ref 180, .ref 181, .ref 182, .ref 183, .ref 184, .ref 185, .ref 186, .ref 187, .ref 188, .ref 189, .ref 190, .ref 191, .ref 192, .ref 193, .ref 194, .ref 195, .ref 196, .ref 197, .ref 198, .ref 199, .ref 200, .ref 201, .ref 202, .ref 203, .ref 204, .ref 205, .ref 206, .ref 207, .ref 208, .ref 209, .ref 210, .ref 211, .ref 212, .ref 213, .ref 214, .ref 215, .ref 216, .ref 217, .ref 218, .ref 219, .ref 220, .ref 221, .ref 222, .ref 223, .ref 224, .ref 225, .ref 226, .ref 227, .ref 228, .ref 229, .ref 230, .ref 231, .ref 232, .ref 233, .ref 234, .ref 235, .ref 236, .ref 237, .ref 238, .ref 239, .ref 240, .ref 241, .ref 242, .ref 243, .ref 244, .ref 245, .ref 246, .ref 247, .ref 248, .ref 249, .ref 250, .ref 251, .ref 252, .ref 253, .ref 254, .ref 255, .ref 256, .ref 257], vm := .none },
  { cls := 9, slots := #[.int (-128)], vm := .none },
  { cls := 9, slots := #[.int (-127)], vm := .none },
  { cls := 9, slots := #[.int (-126)], vm := .none },
  { cls := 9, slots := #[.int (-125)], vm := .none },
  { cls := 9, slots := #[.int (-124)], vm := .none },
  { cls := 9, slots := #[.int (-123)], vm := .none },
  { cls := 9, slots := #[.int (-122)], vm := .none },
  { cls := 9, slots := #[.int (-121)], vm := .none },
  { cls := 9, slots := #[.int (-120)], vm := .none },
  { cls := 9, slots := #[.int (-119)], vm := .none },
  { cls := 9, slots := #[.int (-118)], vm := .none },
  { cls := 9, slots := #[.int (-117)], vm := .none },
  { cls := 9, slots := #[.int (-116)], vm := .none },
  { cls := 9, slots := #[.int (-115)], vm := .none },
  { cls := 9, slots := #[.int (-114)], vm := .none },
  { cls := 9, slots := #[.int (-113)], vm := .none },
  { cls := 9, slots := #[.int (-112)], vm := .none },
  { cls := 9, slots := #[.int (-111)], vm := .none },
  { cls := 9, slots := #[.int (-110)], vm := .none },
  { cls := 9, slots := #[.int (-109)], vm := .none },
  { cls := 9, slots := #[.int (-108)], vm := .none },
  { cls := 9, slots := #[.int (-107)], vm := .none },
  { cls := 9, slots := #[.int (-106)], vm := .none },
  { cls := 9, slots := #[.int (-105)], vm := .none },
  { cls := 9, slots := #[.int (-104)], vm := .none },
  { cls := 9, slots := #[.int (-103)], vm := .none },
  { cls := 9, slots := #[.int (-102)], vm := .none },
  { cls := 9, slots := #[.int (-101)], vm := .none },
  { cls := 9, slots := #[.int (-100)], vm := .none },
  { cls := 9, slots := #[.int (-99)], vm := .none },
  { cls := 9, slots := #[.int (-98)], vm := .none },
  { cls := 9, slots := #[.int (-97)], vm := .none },
  { cls := 9, slots := #[.int (-96)], vm := .none },
  { cls := 9, slots := #[.int (-95)], vm := .none },
  { cls := 9, slots := #[.int (-94)], vm := .none },
  { cls := 9, slots := #[.int (-93)], vm := .none },
  { cls := 9, slots := #[.int (-92)], vm := .none },
  { cls := 9, slots := #[.int (-91)], vm := .none },
  { cls := 9, slots := #[.int (-90)], vm := .none },
  { cls := 9, slots := #[.int (-89)], vm := .none },
  { cls := 9, slots := #[.int (-88)], vm := .none },
  { cls := 9, slots := #[.int (-87)], vm := .none },
  { cls := 9, slots := #[.int (-86)], vm := .none },
  { cls := 9, slots := #[.int (-85)], vm := .none },
  { cls := 9, slots := #[.int (-84)], vm := .none },
  { cls := 9, slots := #[.int (-83)], vm := .none },
  { cls := 9, slots := #[.int (-82)], vm := .none },
  { cls := 9, slots := #[.int (-81)], vm := .none },
  { cls := 9, slots := #[.int (-80)], vm := .none },
  { cls := 9, slots := #[.int (-79)], vm := .none },
  { cls := 9, slots := #[.int (-78)], vm := .none },
  { cls := 9, slots := #[.int (-77)], vm := .none },
  { cls := 9, slots := #[.int (-76)], vm := .none },
  { cls := 9, slots := #[.int (-75)], vm := .none },
  { cls := 9, slots := #[.int (-74)], vm := .none },
  { cls := 9, slots := #[.int (-73)], vm := .none },
  { cls := 9, slots := #[.int (-72)], vm := .none },
  { cls := 9, slots := #[.int (-71)], vm := .none },
  { cls := 9, slots := #[.int (-70)], vm := .none },
  { cls := 9, slots := #[.int (-69)], vm := .none },
  { cls := 9, slots := #[.int (-68)], vm := .none },
  { cls := 9, slots := #[.int (-67)], vm := .none },
  { cls := 9, slots := #[.int (-66)], vm := .none },
  { cls := 9, slots := #[.int (-65)], vm := .none },
  { cls := 9, slots := #[.int (-64)], vm := .none },
  { cls := 9, slots := #[.int (-63)], vm := .none },
  { cls := 9, slots := #[.int (-62)], vm := .none },
  { cls := 9, slots := #[.int (-61)], vm := .none },
  { cls := 9, slots := #[.int (-60)], vm := .none },
  { cls := 9, slots := #[.int (-59)], vm := .none },
  { cls := 9, slots := #[.int (-58)], vm := .none },
  { cls := 9, slots := #[.int (-57)], vm := .none },
  { cls := 9, slots := #[.int (-56)], vm := .none },
  { cls := 9, slots := #[.int (-55)], vm := .none },
  { cls := 9, slots := #[.int (-54)], vm := .none },
  { cls := 9, slots := #[.int (-53)], vm := .none },
  { cls := 9, slots := #[.int (-52)], vm := .none },
  { cls := 9, slots := #[.int (-51)], vm := .none },
  { cls := 9, slots := #[.int (-50)], vm := .none },
  { cls := 9, slots := #[.int (-49)], vm := .none },
  { cls := 9, slots := #[.int (-48)], vm := .none },
  { cls := 9, slots := #[.int (-47)], vm := .none },
  { cls := 9, slots := #[.int (-46)], vm := .none },
  { cls := 9, slots := #[.int (-45)], vm := .none },
  { cls := 9, slots := #[.int (-44)], vm := .none },
  { cls := 9, slots := #[.int (-43)], vm := .none },
  { cls := 9, slots := #[.int (-42)], vm := .none },
  { cls := 9, slots := #[.int (-41)], vm := .none },
  { cls := 9, slots := #[.int (-40)], vm := .none },
  { cls := 9, slots := #[.int (-39)], vm := .none },
  { cls := 9, slots := #[.int (-38)], vm := .none },
  { cls := 9, slots := #[.int (-37)], vm := .none },
  { cls := 9, slots := #[.int (-36)], vm := .none },
  { cls := 9, slots := #[.int (-35)], vm := .none },
  { cls := 9, slots := #[.int (-34)], vm := .none },
  { cls := 9, slots := #[.int (-33)], vm := .none },
  { cls := 9, slots := #[.int (-32)], vm := .none },
  { cls := 9, slots := #[.int (-31)], vm := .none },
  { cls := 9, slots := #[.int (-30)], vm := .none },
  { cls := 9, slots := #[.int (-29)], vm := .none },
  { cls := 9, slots := #[.int (-28)], vm := .none },
  { cls := 9, slots := #[.int (-27)], vm := .none },
  { cls := 9, slots := #[.int (-26)], vm := .none },
  { cls := 9, slots := #[.int (-25)], vm := .none },
  { cls := 9, slots := #[.int (-24)], vm := .none },
  { cls := 9, slots := #[.int (-23)], vm := .none },
  { cls := 9, slots := #[.int (-22)], vm := .none },
  { cls := 9, slots := #[.int (-21)], vm := .none },
  { cls := 9, slots := #[.int (-20)], vm := .none },
  { cls := 9, slots := #[.int (-19)], vm := .none },
  { cls := 9, slots := #[.int (-18)], vm := .none },
  { cls := 9, slots := #[.int (-17)], vm := .none },
  { cls := 9, slots := #[.int (-16)], vm := .none },
  { cls := 9, slots := #[.int (-15)], vm := .none },
  { cls := 9, slots := #[.int (-14)], vm := .none },
  { cls := 9, slots := #[.int (-13)], vm := .none },
  { cls := 9, slots := #[.int (-12)], vm := .none },
  { cls := 9, slots := #[.int (-11)], vm := .none },
  { cls := 9, slots := #[.int (-10)], vm := .none },
  { cls := 9, slots := #[.int (-9)], vm := .none },
  { cls := 9, slots := #[.int (-8)], vm := .none },
  { cls := 9, slots := #[.int (-7)], vm := .none },
  { cls := 9, slots := #[.int (-6)], vm := .none },
  { cls := 9, slots := #[.int (-5)], vm := .none },
  { cls := 9, slots := #[.int (-4)], vm := .none },
  { cls := 9, slots := #[.int (-3)], vm := .none },
  { cls := 9, slots := #[.int (-2)], vm := .none },
  { cls := 9, slots := #[.int (-1)], vm := .none },
  { cls := 9, slots := #[.int 0], vm := .none },
  { cls := 9, slots := #[.int 1], vm := .none },
  { cls := 9, slots := #[.int 2], vm := .none },
  { cls := 9, slots := #[.int 3], vm := .none },
  { cls := 9, slots := #[.int 4], vm := .none },
  { cls := 9, slots := #[.int 5], vm := .none },
  { cls := 9, slots := #[.int 6], vm := .none },
  { cls := 9, slots := #[.int 7], vm := .none },
  { cls := 9, slots := #[.int 8], vm := .none },
  { cls := 9, slots := #[.int 9], vm := .none },
  { cls := 9, slots := #[.int 10], vm := .none },
  { cls := 9, slots := #[.int 11], vm := .none },
  { cls := 9, slots := #[.int 12], vm := .none },
  { cls := 9, slots := #[.int 13], vm := .none },
  { cls := 9, slots := #[.int 14], vm := .none },
  { cls := 9, slots := #[.int 15], vm := .none },
  { cls := 9, slots := #[.int 16], vm := .none },
  { cls := 9, slots := #[.int 17], vm := .none },
  { cls := 9, slots := #[.int 18], vm := .none },
  { cls := 9, slots := #[.int 19], vm := .none },
  { cls := 9, slots := #[.int 20], vm := .none },
  { cls := 9, slots := #[.int 21], vm := .none },
  { cls := 9, slots := #[.int 22], vm := .none },
  { cls := 9, slots := #[.int 23], vm := .none },
  { cls := 9, slots := #[.int 24], vm := .none },
  { cls := 9, slots := #[.int 25], vm := .none },
  { cls := 9, slots := #[.int 26], vm := .none },
  { cls := 9, slots := #[.int 27], vm := .none },
  { cls := 9, slots := #[.int 28], vm := .none },
  { cls := 9, slots := #[.int 29], vm := .none },
  { cls := 9, slots := #[.int 30], vm := .none },
  { cls := 9, slots := #[.int 31], vm := .none },
  { cls := 9, slots := #[.int 32], vm := .none },
  { cls := 9, slots := #[.int 33], vm := .none },
  { cls := 9, slots := #[.int 34], vm := .none },
  { cls := 9, slots := #[.int 35], vm := .none },
  { cls := 9, slots := #[.int 36], vm := .none },
  { cls := 9, slots := #[.int 37], vm := .none },
  { cls := 9, slots := #[.int 38], vm := .none },
  { cls := 9, slots := #[.int 39], vm := .none },
  { cls := 9, slots := #[.int 40], vm := .none },
  { cls := 9, slots := #[.int 41], vm := .none },
  { cls := 9, slots := #[.int 42], vm := .none },
  { cls := 9, slots := #[.int 43], vm := .none },
  { cls := 9, slots := #[.int 44], vm := .none },
  { cls := 9, slots := #[.int 45], vm := .none },
  { cls := 9, slots := #[.int 46], vm := .none },
  { cls := 9, slots := #[.int 47], vm := .none },
  { cls := 9, slots := #[.int 48], vm := .none },
  { cls := 9, slots := #[.int 49], vm := .none },
  { cls := 9, slots := #[.int 50], vm := .none },
  { cls := 9, slots := #[.int 51], vm := .none },
  { cls := 9, slots := #[.int 52], vm := .none },
  { cls := 9, slots := #[.int 53], vm := .none },
  { cls := 9, slots := #[.int 54], vm := .none },
  { cls := 9, slots := #[.int 55], vm := .none },
  { cls := 9, slots := #[.int 56], vm := .none },
  { cls := 9, slots := #[.int 57], vm := .none },
  { cls := 9, slots := #[.int 58], vm := .none },
  { cls := 9, slots := #[.int 59], vm := .none },
  { cls := 9, slots := #[.int 60], vm := .none },
  { cls := 9, slots := #[.int 61], vm := .none },
  { cls := 9, slots := #[.int 62], vm := .none },
  { cls := 9, slots := #[.int 63], vm := .none },
  { cls := 9, slots := #[.int 64], vm := .none },
  { cls := 9, slots := #[.int 65], vm := .none },
  { cls := 9, slots := #[.int 66], vm := .none },
  { cls := 9, slots := #[.int 67], vm := .none },
  { cls := 9, slots := #[.int 68], vm := .none },
  { cls := 9, slots := #[.int 69], vm := .none },
  { cls := 9, slots := #[.int 70], vm := .none },
  { cls := 9, slots := #[.int 71], vm := .none },
  { cls := 9, slots := #[.int 72], vm := .none },
  { cls := 9, slots := #[.int 73], vm := .none },
  { cls := 9, slots := #[.int 74], vm := .none },
  { cls := 9, slots := #[.int 75], vm := .none },
  { cls := 9, slots := #[.int 76], vm := .none },
  { cls := 9, slots := #[.int 77], vm := .none },
  { cls := 9, slots := #[.int 78], vm := .none },
  { cls := 9, slots := #[.int 79], vm := .none },
  { cls := 9, slots := #[.int 80], vm := .none },
  { cls := 9, slots := #[.int 81], vm := .none },
  { cls := 9, slots := #[.int 82], vm := .none },
  { cls := 9, slots := #[.int 83], vm := .none },
  { cls := 9, slots := #[.int 84], vm := .none },
  { cls := 9, slots := #[.int 85], vm := .none },
  { cls := 9, slots := #[.int 86], vm := .none },
  { cls := 9, slots := #[.int 87], vm := .none },
  { cls := 9, slots := #[.int 88], vm := .none },
  { cls := 9, slots := #[.int 89], vm := .none },
  { cls := 9, slots := #[.int 90], vm := .none },
  { cls := 9, slots := #[.int 91], vm := .none },
  { cls := 9, slots := #[.int 92], vm := .none },
  { cls := 9, slots := #[.int 93], vm := .none },
  { cls := 9, slots := #[.int 94], vm := .none },
  { cls := 9, slots := #[.int 95], vm := .none },
  { cls := 9, slots := #[.int 96], vm := .none },
  { cls := 9, slots := #[.int 97], vm := .none },
  { cls := 9, slots := #[.int 98], vm := .none },
  { cls := 9, slots := #[.int 99], vm := .none },
  { cls := 9, slots := #[.int 100], vm := .none },
  { cls := 9, slots := #[.int 101], vm := .none },
  { cls := 9, slots := #[.int 102], vm := .none },
  { cls := 9, slots := #[.int 103], vm := .none },
  { cls := 9, slots := #[.int 104], vm := .none },
  { cls := 9, slots := #[.int 105], vm := .none },
  { cls := 9, slots := #[.int 106], vm := .none },
  { cls := 9, slots := #[.int 107], vm := .none },
  { cls := 9, slots := #[.int 108], vm := .none },
  { cls := 9, slots := #[.int 109], vm := .none },
  { cls := 9, slots := #[.int 110], vm := .none },
  { cls := 9, slots := #[.int 111], vm := .none },
  { cls := 9, slots := #[.int 112], vm := .none },
  { cls := 9, slots := #[.int 113], vm := .none },
  { cls := 9, slots := #[.int 114], vm := .none },
  { cls := 9, slots := #[.int 115], vm := .none },
  { cls := 9, slots := #[.int 116], vm := .none },
  { cls := 9, slots := #[.int 117], vm := .none },
  { cls := 9, slots := #[.int 118], vm := .none },
  { cls := 9, slots := #[.int 119], vm := .none },
  { cls := 9, slots := #[.int 120], vm := .none },
  { cls := 9, slots := #[.int 121], vm := .none },
  { cls := 9, slots := #[.int 122], vm := .none },
  { cls := 9, slots := #[.int 123], vm := .none },
  { cls := 9, slots := #[.int 124], vm := .none },
  { cls := 9, slots := #[.int 125], vm := .none },
  { cls := 9, slots := #[.int 126], vm := .none },
  { cls := 9, slots := #[.int 127], vm := .none }]
def classes : Array Class := #[k0, k1, k2, k3, k4, k5, k6, k7, k8, k9, k10, k11, k12, k13, k14, k15, k16]
def interned : List (Array UInt16 × Addr) := []
def slotsUsed : Nat := 517
def theMethod : MethodId := ⟨1, 1⟩
def args0 : Array Value := #[.int 5, .int 5, .int 5, .int 5]
def aboutOver (below : List Frame) : State where
  vm := { classes := classes, interned := interned.toArray }
  heap := heap
  slotsUsed := slotsUsed
  threads := #[{ frames := .invoking theMethod args0 :: below }]
def below0 : List Frame := [.native { method := ⟨0, 0⟩, args := #[] }]
def about1 : State := aboutOver below0
def p0 : Program := .bare "" "" ""
def e0 : Env := launch0.env 0 0 0
theorem w_frames : about1.frames = Frame.invoking theMethod args0 :: below0 := rfl
set_option maxRecDepth 65536 in
theorem w_args : argsFit about1.vm theMethod args0 = true := by decide +kernel
set_option maxRecDepth 65536 in
theorem w_heap : heapFits about1 = true := by decide +kernel
set_option maxRecDepth 65536 in
theorem w_runnable : about1.curStatus? = some .runnable := by decide +kernel
set_option maxRecDepth 65536 in
theorem w_alone : about1.alone = true := by decide +kernel
set_option maxRecDepth 65536 in
theorem w_named : about1.methodNamed? x = some theMethod := by decide +kernel
set_option maxRecDepth 65536 in
theorem w_hears : about1.hears theMethod below0 = true := by decide +kernel
set_option maxRecDepth 65536 in
theorem w_ripe : about1.ripe theMethod args0 below0 = true := by decide +kernel
theorem w_running : about1.status = .running := rfl
set_option maxRecDepth 65536 in
theorem w_room : about1.hasRoom e0.platform room_1 = true :=
  launch0.hasRoom_least _ room_1 (by decide +kernel) (by decide +kernel) (by decide +kernel) (by decide +kernel) (by decide +kernel) (by decide +kernel)
theorem allAtoms_all (ts : List Jvm.Cond) (a : Array Jvm.Value) (st : Jvm.State) : (allAtoms ts).before a st = ts.all (fun c => c.before a st) := by
  induction ts with
  | nil => rfl
  | cons c t ih =>
    show (Jvm.Cond.and c (allAtoms t)).before a st = _
    rw [Jvm.Cond.before_and, ih, List.all_cons]
def words1 : List Jvm.Cond := Jvm.Cond.code x code maxLocals ret :: tables_1
/-- a 'code' word, met by the world's own term for the bytes: nothing is compared byte by byte -/
theorem code_word {y : MethodName} {bytes : ByteArray} {mx : Nat} {rt : Option FieldType} {a : Array Value} {s : State} {m : MethodId} {meth : Method} {c : Code} (h1 : s.methodNamed? y = some m) (h2 : s.vm.method? m = some meth) (h3 : meth.code = some c) (h4 : c.code = bytes)
    (h5 : (c.maxLocals == mx && c.exceptionTable.isEmpty && decide (c.maxStack ≤ mostOperands) && decide (meth.sig.returnType = rt) && !meth.locks && decide (parseMethodDescriptor y.desc = some meth.sig)) = true) : (Jvm.Cond.code y bytes mx rt).before a s = true := by
  simp only [Bool.and_eq_true, beq_iff_eq, Bool.not_eq_true', decide_eq_true_eq] at h5
  obtain ⟨⟨⟨⟨⟨g1, g2⟩, g3⟩, g4⟩, g5⟩, g6⟩ := h5
  simp [Cond.before, Cond.holds, Cond.value, h1, h2, h3, h4, g1, g2, g3, g4, g5, g6]
def isCode : Jvm.Cond → Bool
  | .code _ _ _ _ => true
  | _ => false
theorem all_split {L : List Jvm.Cond} {P : Jvm.Cond → Bool} (h1 : L.all (fun c => isCode c || P c) = true) (h2 : ∀ c ∈ L.filter isCode, P c = true) : L.all P = true := by
  refine List.all_eq_true.mpr fun c hc => ?_
  have h := List.all_eq_true.mp h1 c hc
  rcases Bool.eq_false_or_eq_true (isCode c) with hi | hi
  · exact h2 c (List.mem_filter.mpr ⟨hc, hi⟩)
  · simpa [hi] using h
set_option maxRecDepth 65536 in
theorem w_c0 : (Jvm.Cond.code x code maxLocals ret).before args0 about1 = true := code_word (m := ⟨1, 1⟩) (meth := k1m1) (c := k1c1) (by decide +kernel) rfl rfl rfl (by decide +kernel)
set_option maxRecDepth 65536 in
theorem w_c1 : (Jvm.Cond.code ({ cls := "com/example/vestwright/vestwright/model/VestingDay", name := "<init>", desc := "(ZI)V" } : Jvm.MethodName) prog_87_method_1_code (3 : Nat) (Option.none : Option Jvm.ClassFile.FieldType)).before args0 about1 = true := code_word (m := ⟨3, 0⟩) (meth := k3m0) (c := k3c0) (by decide +kernel) rfl rfl rfl (by decide +kernel)
set_option maxRecDepth 65536 in
theorem w_c2 : (Jvm.Cond.code ({ cls := "java/lang/Record", name := "<init>", desc := "()V" } : Jvm.MethodName) jdk_30_method_1_code (1 : Nat) (Option.none : Option Jvm.ClassFile.FieldType)).before args0 about1 = true := code_word (m := ⟨2, 0⟩) (meth := k2m0) (c := k2c0) (by decide +kernel) rfl rfl rfl (by decide +kernel)
set_option maxRecDepth 65536 in
theorem w_c3 : (Jvm.Cond.code ({ cls := "java/lang/Object", name := "<init>", desc := "()V" } : Jvm.MethodName) object_method_1_code (1 : Nat) (Option.none : Option Jvm.ClassFile.FieldType)).before args0 about1 = true := code_word (m := ⟨0, 0⟩) (meth := k0m0) (c := k0c0) (by decide +kernel) rfl rfl rfl (by decide +kernel)
set_option maxRecDepth 65536 in
theorem w_c4 : (Jvm.Cond.code ({ cls := "com/example/vestwright/vestwright/model/VestingDay", name := "equals", desc := "(Ljava/lang/Object;)Z" } : Jvm.MethodName) prog_87_method_7_code (3 : Nat) (Option.some Jvm.ClassFile.FieldType.boolean)).before args0 about1 = true := code_word (m := ⟨3, 1⟩) (meth := k3m1) (c := k3c1) (by decide +kernel) rfl rfl rfl (by decide +kernel)
set_option maxRecDepth 65536 in
theorem w_c5 : (Jvm.Cond.code ({ cls := "java/lang/Integer", name := "valueOf", desc := "(I)Ljava/lang/Integer;" } : Jvm.MethodName) jdk_33_method_22_code (1 : Nat) (Option.some (Jvm.ClassFile.FieldType.object "java/lang/Integer"))).before args0 about1 = true := code_word (m := ⟨9, 0⟩) (meth := k9m0) (c := k9c0) (by decide +kernel) rfl rfl rfl (by decide +kernel)
set_option maxRecDepth 65536 in
theorem w_c6 : (Jvm.Cond.code ({ cls := "java/lang/Integer", name := "<init>", desc := "(I)V" } : Jvm.MethodName) jdk_33_method_23_code (2 : Nat) (Option.none : Option Jvm.ClassFile.FieldType)).before args0 about1 = true := code_word (m := ⟨9, 1⟩) (meth := k9m1) (c := k9c1) (by decide +kernel) rfl rfl rfl (by decide +kernel)
set_option maxRecDepth 65536 in
theorem w_c7 : (Jvm.Cond.code ({ cls := "java/lang/Number", name := "<init>", desc := "()V" } : Jvm.MethodName) jdk_18_method_1_code (1 : Nat) (Option.none : Option Jvm.ClassFile.FieldType)).before args0 about1 = true := code_word (m := ⟨5, 0⟩) (meth := k5m0) (c := k5c0) (by decide +kernel) rfl rfl rfl (by decide +kernel)
def codes1 : List Jvm.Cond := [Jvm.Cond.code x code maxLocals ret, Jvm.Cond.code ({ cls := "com/example/vestwright/vestwright/model/VestingDay", name := "<init>", desc := "(ZI)V" } : Jvm.MethodName) prog_87_method_1_code (3 : Nat) (Option.none : Option Jvm.ClassFile.FieldType), Jvm.Cond.code ({ cls := "java/lang/Record", name := "<init>", desc := "()V" } : Jvm.MethodName) jdk_30_method_1_code (1 : Nat) (Option.none : Option Jvm.ClassFile.FieldType), Jvm.Cond.code ({ cls := "java/lang/Object", name := "<init>", desc := "()V" } : Jvm.MethodName) object_method_1_code (1 : Nat) (Option.none : Option Jvm.ClassFile.FieldType), Jvm.Cond.code ({ cls := "com/example/vestwright/vestwright/model/VestingDay", name := "equals", desc := "(Ljava/lang/Object;)Z" } : Jvm.MethodName) prog_87_method_7_code (3 : Nat) (Option.some Jvm.ClassFile.FieldType.boolean), Jvm.Cond.code ({ cls := "java/lang/Integer", name := "valueOf", desc := "(I)Ljava/lang/Integer;" } : Jvm.MethodName) jdk_33_method_22_code (1 : Nat) (Option.some (Jvm.ClassFile.FieldType.object "java/lang/Integer")), Jvm.Cond.code ({ cls := "java/lang/Integer", name := "<init>", desc := "(I)V" } : Jvm.MethodName) jdk_33_method_23_code (2 : Nat) (Option.none : Option Jvm.ClassFile.FieldType), Jvm.Cond.code ({ cls := "java/lang/Number", name := "<init>", desc := "()V" } : Jvm.MethodName) jdk_18_method_1_code (1 : Nat) (Option.none : Option Jvm.ClassFile.FieldType)]
set_option maxRecDepth 65536 in
theorem codes_eq : words1.filter isCode = codes1 := rfl
theorem w_codes : ∀ c ∈ words1.filter isCode, c.before args0 about1 = true := by
  rw [codes_eq]
  intro c hc
  simp only [codes1, List.mem_cons, List.not_mem_nil, or_false] at hc
  rcases hc with rfl | rfl | rfl | rfl | rfl | rfl | rfl | rfl
  · exact w_c0
  · exact w_c1
  · exact w_c2
  · exact w_c3
  · exact w_c4
  · exact w_c5
  · exact w_c6
  · exact w_c7
set_option maxRecDepth 65536 in
theorem w_t1 : (words1.take 24).all (fun c => isCode c || c.before args0 about1) = true := by decide +kernel
set_option maxRecDepth 65536 in
theorem w_t2 : ((words1.drop 24).take 24).all (fun c => isCode c || c.before args0 about1) = true := by decide +kernel
set_option maxRecDepth 65536 in
theorem w_t3 : ((words1.drop 24).drop 24).all (fun c => isCode c || c.before args0 about1) = true := by decide +kernel
theorem w_tables : (allAtoms (Jvm.Cond.code x code maxLocals ret :: tables_1)).before args0 about1 = true := by
  rw [allAtoms_all]
  show words1.all (fun c => c.before args0 about1) = true
  refine all_split ?_ w_codes
  rw [← List.take_append_drop 24 words1, List.all_append, w_t1, ← List.take_append_drop 24 (words1.drop 24), List.all_append, w_t2, w_t3]
  rfl
set_option maxRecDepth 65536 in
theorem w_rest : rest_1_c.before args0 about1 = true := by decide +kernel
set_option maxRecDepth 65536 in
theorem w_case : (Jvm.Cond.and given_1 narrow_1).before args0 about1 = true := by decide +kernel
theorem w_applies : (headSpec (Jvm.Cond.code x code maxLocals ret :: tables_1) room_1).applies x e0.platform about1 = true :=
  (Spec.applies_iff w_frames).mpr ⟨w_running, w_runnable, w_alone, w_named, w_hears, w_ripe, w_room, w_tables⟩
theorem atStart : AtStart classFile x code maxLocals ret World_1 tables_1 room_1 Calls_1 rest_1 Pre_1 launch0 p0 e0 about1 theMethod args0 below0 :=
  ⟨lists_1, trivial, launch0.admits_env _ _ _, launch0.least_env, fairChoices_fair.cas, fairChoices_fair.clock, w_frames, w_args, w_heap, w_applies, trivial, w_rest, w_case⟩
end start1
theorem witness_1 : WitnessClaimed_1 := ⟨start1.p0, start1.e0, start1.about1, start1.theMethod, start1.args0, start1.below0, start1.atStart⟩
end Jvm.Pilot.@@N@@
