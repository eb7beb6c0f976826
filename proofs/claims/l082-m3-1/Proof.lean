import JvmDerived
import JvmDerived.Pilot.@@N@@Statement
import JvmDerived.Pilot.@@N@@Code
set_option linter.unusedVariables false
set_option linter.unusedSimpArgs false
namespace Jvm.Pilot.@@N@@
open Jvm Jvm.ClassFile Sem Op Lib Jvm.Free Jvm.Stand Jvm.LawKit Jvm.RoadKit Bundle Jvm.Pilot.@@N@@.Jvm.D
theorem own_ofNat {y : Int32} {n : Nat} (h : y.toBitVec.toNat = n) : y = Int32.ofNat n := by
  subst h
  apply Int32.toBitVec_inj.mp
  apply BitVec.eq_of_toNat_eq
  simp
theorem own_and_le (x m : Int32) : (x &&& m).toBitVec.toNat ≤ m.toBitVec.toNat := by
  rw [Int32.toBitVec_and, BitVec.toNat_and]; exact Nat.and_le_right
theorem own_nonneg (x : Int32) : 0 ≤ (x &&& (2147483647 : Int32)).toInt := by
  have h := own_and_le x 2147483647
  have e : (2147483647 : Int32).toBitVec.toNat = 2147483647 := by decide
  rw [e] at h
  have : (x &&& (2147483647 : Int32)).toInt = (x &&& (2147483647 : Int32)).toBitVec.toInt := rfl
  rw [this, BitVec.toInt_eq_toNat_cond, if_pos (by omega)]
  omega
theorem own_rem_11 (x : Int32) : ((x &&& (2147483647 : Int32)) % (11 : Int32)) = (0 : Int32) ∨ ((x &&& (2147483647 : Int32)) % (11 : Int32)) = (1 : Int32) ∨ ((x &&& (2147483647 : Int32)) % (11 : Int32)) = (2 : Int32) ∨ ((x &&& (2147483647 : Int32)) % (11 : Int32)) = (3 : Int32) ∨ ((x &&& (2147483647 : Int32)) % (11 : Int32)) = (4 : Int32) ∨ ((x &&& (2147483647 : Int32)) % (11 : Int32)) = (5 : Int32) ∨ ((x &&& (2147483647 : Int32)) % (11 : Int32)) = (6 : Int32) ∨ ((x &&& (2147483647 : Int32)) % (11 : Int32)) = (7 : Int32) ∨ ((x &&& (2147483647 : Int32)) % (11 : Int32)) = (8 : Int32) ∨ ((x &&& (2147483647 : Int32)) % (11 : Int32)) = (9 : Int32) ∨ ((x &&& (2147483647 : Int32)) % (11 : Int32)) = (10 : Int32) := by
  have h := own_nonneg x
  generalize x &&& (2147483647 : Int32) = y at h ⊢
  have e : (y % (11 : Int32)).toInt = y.toInt.tmod 11 := by rw [Int32.toInt_mod]; rfl
  have e1 : y.toInt.tmod 11 = y.toInt % 11 := Int.tmod_eq_emod_of_nonneg h
  have q : (y % (11 : Int32)).toInt = 0 ∨ (y % (11 : Int32)).toInt = 1 ∨ (y % (11 : Int32)).toInt = 2 ∨ (y % (11 : Int32)).toInt = 3 ∨ (y % (11 : Int32)).toInt = 4 ∨ (y % (11 : Int32)).toInt = 5 ∨ (y % (11 : Int32)).toInt = 6 ∨ (y % (11 : Int32)).toInt = 7 ∨ (y % (11 : Int32)).toInt = 8 ∨ (y % (11 : Int32)).toInt = 9 ∨ (y % (11 : Int32)).toInt = 10 := by omega
  rcases q with q | q | q | q | q | q | q | q | q | q | q
  · exact Or.inl (Int32.toInt_inj.mp (q.trans (by decide)))
  · exact Or.inr (Or.inl (Int32.toInt_inj.mp (q.trans (by decide))))
  · exact Or.inr (Or.inr (Or.inl (Int32.toInt_inj.mp (q.trans (by decide)))))
  · exact Or.inr (Or.inr (Or.inr (Or.inl (Int32.toInt_inj.mp (q.trans (by decide))))))
  · exact Or.inr (Or.inr (Or.inr (Or.inr (Or.inl (Int32.toInt_inj.mp (q.trans (by decide)))))))
  · exact Or.inr (Or.inr (Or.inr (Or.inr (Or.inr (Or.inl (Int32.toInt_inj.mp (q.trans (by decide))))))))
  · exact Or.inr (Or.inr (Or.inr (Or.inr (Or.inr (Or.inr (Or.inl (Int32.toInt_inj.mp (q.trans (by decide)))))))))
  · exact Or.inr (Or.inr (Or.inr (Or.inr (Or.inr (Or.inr (Or.inr (Or.inl (Int32.toInt_inj.mp (q.trans (by decide))))))))))
  · exact Or.inr (Or.inr (Or.inr (Or.inr (Or.inr (Or.inr (Or.inr (Or.inr (Or.inl (Int32.toInt_inj.mp (q.trans (by decide)))))))))))
  · exact Or.inr (Or.inr (Or.inr (Or.inr (Or.inr (Or.inr (Or.inr (Or.inr (Or.inr (Or.inl (Int32.toInt_inj.mp (q.trans (by decide))))))))))))
  · exact Or.inr (Or.inr (Or.inr (Or.inr (Or.inr (Or.inr (Or.inr (Or.inr (Or.inr (Or.inr (Int32.toInt_inj.mp (q.trans (by decide))))))))))))
theorem own_eqv_r {Z : State} {args : Array Value} {X F : Term} {idx : List Nat} {y : Addr} (hF : F.eval args Z none idx Z = some (.ref y)) (h : (Cond.eq X F).value args Z none Z idx = some true) : X.eval args Z none idx Z = some (.ref y) := by
  obtain ⟨x, y', e1, e2, k1, k2⟩ := cmp_v (Or.inl h)
  cases hF.symm.trans e2
  have hx : x.isRef = true := k2.2
  exact e1.trans (congrArg some (gotT (eq_R e1 hF hx rfl) h))
theorem own_len {s : State} {args : Array Value} {t : Term} {a : Addr} {cl : Cell} {n : Int32} (ev : t.eval args s none [] s = some (.ref a)) (hf : s.arrayAt? a = some cl) (h : (Term.length t).eval args s none [] s = some (.int n)) : cl.slots.size < 2 ^ 31 ∧ cl.slots.size.toInt32 = n := by
  simp only [Term.eval, ev, Option.bind_eq_bind, Option.bind_some, hf] at h
  split at h
  · rename_i q; exact ⟨q, Value.int.inj (Option.some.inj h)⟩
  · cases h
theorem own_sub {s : State} {args : Array Value} {t : Term} {idx : List Nat} {j : Int32} (h : t.eval args s none idx s = some (.int j)) : (Term.sub t (Term.int (128 : Int32))).eval args s none idx s = some (.int (j - 128)) := by
  simp [Term.eval, h]
def Wd (Z : State) (w0 w1 w2 w3 w4 w5 w6 w7 w8 w9 w10 w11 w12 w13 w14 w15 w16 w17 : Addr) : Prop := (Sta Z Z.heap "com/example/weaverbird/weaverbird/codes/CommandType" "START" "Lcom/example/weaverbird/weaverbird/codes/CommandType;" (.ref w0)) ∧ (Exa Z Z.heap w0 "com/example/weaverbird/weaverbird/codes/CommandType") ∧ (Sta Z Z.heap "com/example/weaverbird/weaverbird/queues/RunAction" "$VALUES" "[Lcom/example/weaverbird/weaverbird/queues/RunAction;" (.ref w1)) ∧ (Exa Z Z.heap w1 "[Lcom/example/weaverbird/weaverbird/queues/RunAction;") ∧ (Sta Z Z.heap "com/example/weaverbird/weaverbird/queues/RunAction" "PAUSE" "Lcom/example/weaverbird/weaverbird/queues/RunAction;" (.ref w2)) ∧ (Exa Z Z.heap w2 "com/example/weaverbird/weaverbird/queues/RunAction") ∧ (Sta Z Z.heap "com/example/weaverbird/weaverbird/queues/RunAction" "RESUME" "Lcom/example/weaverbird/weaverbird/queues/RunAction;" (.ref w3)) ∧ (Exa Z Z.heap w3 "com/example/weaverbird/weaverbird/queues/RunAction") ∧ (Sta Z Z.heap "com/example/weaverbird/weaverbird/queues/RunAction" "STOP" "Lcom/example/weaverbird/weaverbird/queues/RunAction;" (.ref w4)) ∧ (Exa Z Z.heap w4 "com/example/weaverbird/weaverbird/queues/RunAction") ∧ (Sta Z Z.heap "com/example/weaverbird/weaverbird/queues/RunAction" "RERUN" "Lcom/example/weaverbird/weaverbird/queues/RunAction;" (.ref w5)) ∧ (Exa Z Z.heap w5 "com/example/weaverbird/weaverbird/queues/RunAction") ∧ (Sta Z Z.heap "com/example/weaverbird/weaverbird/queues/RunAction" "RESUME_FAILED" "Lcom/example/weaverbird/weaverbird/queues/RunAction;" (.ref w6)) ∧ (Exa Z Z.heap w6 "com/example/weaverbird/weaverbird/queues/RunAction") ∧ (Sta Z Z.heap "com/example/weaverbird/weaverbird/codes/CommandType" "PAUSE" "Lcom/example/weaverbird/weaverbird/codes/CommandType;" (.ref w7)) ∧ (Exa Z Z.heap w7 "com/example/weaverbird/weaverbird/codes/CommandType") ∧ (Sta Z Z.heap "com/example/weaverbird/weaverbird/codes/CommandType" "RESUME_PAUSED" "Lcom/example/weaverbird/weaverbird/codes/CommandType;" (.ref w8)) ∧ (Exa Z Z.heap w8 "com/example/weaverbird/weaverbird/codes/CommandType") ∧ (Sta Z Z.heap "com/example/weaverbird/weaverbird/codes/CommandType" "STOP" "Lcom/example/weaverbird/weaverbird/codes/CommandType;" (.ref w9)) ∧ (Exa Z Z.heap w9 "com/example/weaverbird/weaverbird/codes/CommandType") ∧ (Sta Z Z.heap "com/example/weaverbird/weaverbird/codes/CommandType" "RERUN" "Lcom/example/weaverbird/weaverbird/codes/CommandType;" (.ref w10)) ∧ (Exa Z Z.heap w10 "com/example/weaverbird/weaverbird/codes/CommandType") ∧ (Sta Z Z.heap "com/example/weaverbird/weaverbird/codes/CommandType" "START_FAILED_NODE" "Lcom/example/weaverbird/weaverbird/codes/CommandType;" (.ref w11)) ∧ (Exa Z Z.heap w11 "com/example/weaverbird/weaverbird/codes/CommandType") ∧ (Sta Z Z.heap "com/example/weaverbird/weaverbird/codes/CommandType" "RESUME_FAILOVER" "Lcom/example/weaverbird/weaverbird/codes/CommandType;" (.ref w12)) ∧ (Exa Z Z.heap w12 "com/example/weaverbird/weaverbird/codes/CommandType") ∧ (Sta Z Z.heap "com/example/weaverbird/weaverbird/codes/CommandType" "RESUME_WAITING_THREAD" "Lcom/example/weaverbird/weaverbird/codes/CommandType;" (.ref w13)) ∧ (Exa Z Z.heap w13 "com/example/weaverbird/weaverbird/codes/CommandType") ∧ (Sta Z Z.heap "com/example/weaverbird/weaverbird/codes/CommandType" "START_CURRENT_NODE" "Lcom/example/weaverbird/weaverbird/codes/CommandType;" (.ref w14)) ∧ (Exa Z Z.heap w14 "com/example/weaverbird/weaverbird/codes/CommandType") ∧ (Sta Z Z.heap "com/example/weaverbird/weaverbird/codes/CommandType" "COMPLEMENT" "Lcom/example/weaverbird/weaverbird/codes/CommandType;" (.ref w15)) ∧ (Exa Z Z.heap w15 "com/example/weaverbird/weaverbird/codes/CommandType") ∧ (Sta Z Z.heap "com/example/weaverbird/weaverbird/codes/CommandType" "SCHEDULE" "Lcom/example/weaverbird/weaverbird/codes/CommandType;" (.ref w16)) ∧ (Exa Z Z.heap w16 "com/example/weaverbird/weaverbird/codes/CommandType") ∧ (Sta Z Z.heap "java/util/Optional" "EMPTY" "Ljava/util/Optional;" (.ref w17)) ∧ (Exa Z Z.heap w17 "java/util/Optional") ∧ (Fld Z Z.heap w2 "com/example/weaverbird/weaverbird/queues/RunAction" "type" "Lcom/example/weaverbird/weaverbird/codes/CommandType;" (.ref w7)) ∧ (Fld Z Z.heap w7 "java/lang/Enum" "ordinal" "I" (.int (8 : Int32))) ∧ (Fld Z Z.heap w0 "java/lang/Enum" "ordinal" "I" (.int (0 : Int32))) ∧ (Fld Z Z.heap w3 "com/example/weaverbird/weaverbird/queues/RunAction" "type" "Lcom/example/weaverbird/weaverbird/codes/CommandType;" (.ref w8)) ∧ (Fld Z Z.heap w8 "java/lang/Enum" "ordinal" "I" (.int (3 : Int32))) ∧ (Fld Z Z.heap w4 "com/example/weaverbird/weaverbird/queues/RunAction" "type" "Lcom/example/weaverbird/weaverbird/codes/CommandType;" (.ref w9)) ∧ (Fld Z Z.heap w9 "java/lang/Enum" "ordinal" "I" (.int (9 : Int32))) ∧ (Fld Z Z.heap w5 "com/example/weaverbird/weaverbird/queues/RunAction" "type" "Lcom/example/weaverbird/weaverbird/codes/CommandType;" (.ref w10)) ∧ (Fld Z Z.heap w10 "java/lang/Enum" "ordinal" "I" (.int (7 : Int32))) ∧ (Fld Z Z.heap w6 "com/example/weaverbird/weaverbird/queues/RunAction" "type" "Lcom/example/weaverbird/weaverbird/codes/CommandType;" (.ref w11)) ∧ (Fld Z Z.heap w11 "java/lang/Enum" "ordinal" "I" (.int (4 : Int32))) ∧ (Fld Z Z.heap w12 "java/lang/Enum" "ordinal" "I" (.int (2 : Int32))) ∧ (Fld Z Z.heap w13 "java/lang/Enum" "ordinal" "I" (.int (10 : Int32))) ∧ (Fld Z Z.heap w14 "java/lang/Enum" "ordinal" "I" (.int (1 : Int32))) ∧ (Fld Z Z.heap w15 "java/lang/Enum" "ordinal" "I" (.int (5 : Int32))) ∧ (Fld Z Z.heap w16 "java/lang/Enum" "ordinal" "I" (.int (6 : Int32))) ∧ (Fld Z Z.heap w17 "java/util/Optional" "value" "Ljava/lang/Object;" .null) ∧ (∃ cl : Cell, Arr Z Z.heap w1 cl (.object "com/example/weaverbird/weaverbird/queues/RunAction") ∧ FitC Z cl ∧ cl.slots.size = (5 : Int32).toNatClampNeg ∧ Has cl [(.ref w2), (.ref w3), (.ref w4), (.ref w5), (.ref w6)] .null ∧ ∀ i, i < cl.slots.size → fits (.object "com/example/weaverbird/weaverbird/queues/RunAction") (([(.ref w2), (.ref w3), (.ref w4), (.ref w5), (.ref w6)] : List Value).getD i .null) = true) ∧ True
def Qp (r : Option Value) (h0 : Heap) (n0 : Nat) (v : Option Value) (h : Heap) (L : List Loc) : Prop := v = r ∧ Fr n0 L ∧ h = h0
def Ql (n0 : Nat) (v : Option Value) (h : Heap) (L : List Loc) : Prop := v = some (.int (1 : Int32)) ∧ Fr n0 L
theorem d_method_3_code_0 : decode method_3_code 0 = .ok (.iload_n 0, 1) := by decide +kernel
theorem d_method_3_code_1 : decode method_3_code 1 = .ok (.ifCond .ne 7, 3) := by decide +kernel
theorem d_method_3_code_4 : decode method_3_code 4 = .ok (.getstatic 30, 3) := by decide +kernel
theorem d_method_3_code_7 : decode method_3_code 7 = .ok (.areturn, 1) := by decide +kernel
theorem pn0 : plainName "com/example/weaverbird/weaverbird/queues/RunActionOfPinLaw" = true := by first | (simp [plainName, overriddenIn]; done) | decide +kernel
theorem ef0 (m : MethodId)    : entryFrame m #[(.int (0 : Int32))] 1 = mkF m 0 #[.val (.int (0 : Int32))] [] := by first | (simp [entryFrame, mkF, argsToLocals, Value.category]; done) | rfl
set_option maxRecDepth 65536 in
set_option maxHeartbeats 40000000 in
theorem rm1 (l : Launch) (Z : State) (a0 : Array Value) (hw : ∀ d ∈ tables_1, d.before a0 Z = true) (ws : List Jvm.Cond) (w0 w1 w2 w3 w4 w5 w6 w7 w8 w9 w10 w11 w12 w13 w14 w15 w16 w17 : Addr) (h0 : Heap) (n0 : Nat) (hWd : Wd Z w0 w1 w2 w3 w4 w5 w6 w7 w8 w9 w10 w11 w12 w13 w14 w15 w16 w17) (O0 : Old Z n0 h0) :
    MetFree l (⟨"com/example/weaverbird/weaverbird/queues/RunActionOfPinLaw", "typeAt", "(I)Lcom/example/weaverbird/weaverbird/codes/CommandType;"⟩ : MethodName) (head1 (Jvm.Cond.code (⟨"com/example/weaverbird/weaverbird/queues/RunActionOfPinLaw", "typeAt", "(I)Lcom/example/weaverbird/weaverbird/codes/CommandType;"⟩ : MethodName) method_3_code 1 (some (.object "com/example/weaverbird/weaverbird/codes/CommandType")) :: ws) ({ frames := 0, cells := 0, slots := 0, locals := 0 } : Room)) (fun a U => a = #[(.int (0 : Int32))] ∧ Z.Warmed39 U.vm ∧ U.heap = h0) (fun _ _ _ _ _ => True) (fun _ U o U' => ∃ v L, o = .returned v ∧ Qp (some (.ref w0)) h0 n0 v U'.heap L ∧ FrameEnd U o U' L ({ frames := 0, cells := 0, slots := 0, locals := 0 } : Room).cells ({ frames := 0, cells := 0, slots := 0, locals := 0 } : Room).slots) := by
  refine MetFree.of_bodySF (plainFor_of_name pn0) hisR ?_
  intro p e s m args below meth c s₁ Bd hml0 hP hK
  obtain ⟨rfl, hZ, hh⟩ := hP
  have hx := Bd.exec
  have hby := Bd.bytes
  have hml : c.maxLocals = 1 := hml0
  have hown : s.vm.findClass "com/example/weaverbird/weaverbird/queues/RunActionOfPinLaw" = some m.cls := findClass_of_methodNamed Bd.named
  have hnm := (name_of_methodNamed Bd.named Bd.method).1
  have X0 : Stand p l e ({ frames := 0, cells := 0, slots := 0, locals := 0 } : Room) s m #[(.int (0 : Int32))] below meth c s₁ [] 0 0 := Stand.of_body Bd
  have e0 : s₁.heap = h0 := by rw [← hh, Bd.state]; rfl
  have N0 := Fr.nil n0
  have hlk := Bd.notSynchronized
  obtain ⟨wS0, wE0, wS1, wE1, wS2, wE2, wS3, wE3, wS4, wE4, wS5, wE5, wS6, wE6, wS7, wE7, wS8, wE8, wS9, wE9, wS10, wE10, wS11, wE11, wS12, wE12, wS13, wE13, wS14, wE14, wS15, wE15, wS16, wE16, wS17, wE17, wF2_type, wF7_ordinal, wF0_ordinal, wF3_type, wF8_ordinal, wF4_type, wF9_ordinal, wF5_type, wF10_ordinal, wF6_type, wF11_ordinal, wF12_ordinal, wF13_ordinal, wF14_ordinal, wF15_ordinal, wF16_ordinal, wF17_value, wA, -⟩ := id hWd
  have pre0 : ∀ t, Steps p.tables e below (s₁.setTop (mkF m 0 #[.val (.int (0 : Int32))] [])) t → Steps p.tables e below (s₁.setTop (entryFrame m #[(.int (0 : Int32))] 1)) t := fun t k => castTop (ef0 m ) k
  obtain ⟨T13, X13, e13, st13⟩ := getS2 X0 hx hZ hown (host := "") (Or.inl (hw _ (List.mem_of_getElem? (i := 5) rfl))) Via.refl e0 (wS0.ext O0.2) (g := (mkF m 4 #[.val (.int (0 : Int32))] [])) rfl (hb hby d_method_3_code_4)
  obtain ⟨fs, hr, hrun, hended, hWr, hsame⟩ := X13.leave (v := some (.ref w0)) (fun h => by rw [Bd.returns] at h; cases h) hlk
  refine ⟨_, _, pre0 _ ?_, hrun, hended, _, _, rfl, ?_, ⟨_, rfl⟩, hWr, hsame.mono (Nat.le_of_ble_eq_true rfl) (Nat.le_of_ble_eq_true rfl)⟩
  · show Steps p.tables e below (s₁.setTop (mkF m 0 #[.val (.int (0 : Int32))] [])) _
    refine XS.iloadN X0.here hx rfl (hb hby d_method_3_code_0) rfl ?_
    show Steps p.tables e below (s₁.setTop (mkF m 1 #[.val (.int (0 : Int32))] [(.int (0 : Int32))])) _
    refine XS.ifNo X0.here hx rfl (hb hby d_method_3_code_1) rfl (by decide) ?_
    show Steps p.tables e below (s₁.setTop (mkF m 4 #[.val (.int (0 : Int32))] [])) _
    refine st13 _ ?_
    show Steps p.tables e below (T13.setTop (mkF m 7 #[.val (.int (0 : Int32))] [(.ref w0)])) _
    exact retOut X13 hx (t := (.object "com/example/weaverbird/weaverbird/codes/CommandType")) (i := .areturn) Bd.returns rfl (Or.inr (Or.inr (Or.inr (Or.inr ⟨rfl, rfl, rfl⟩)))) (hb hby d_method_3_code_7) hr
  · show Qp (some (.ref w0)) h0 n0 _ T13.heap _
    rw [e13]
    exact ⟨rfl, N0, rfl⟩
theorem pd0 : parseMethodDescriptor "(I)Lcom/example/weaverbird/weaverbird/codes/CommandType;" = some ⟨[.int], some (.object "com/example/weaverbird/weaverbird/codes/CommandType")⟩ := by decide +kernel
theorem d_method_4_code_0 : decode method_4_code 0 = .ok (.iload_n 0, 1) := by decide +kernel
theorem d_method_4_code_1 : decode method_4_code 1 = .ok (.iconst 3, 1) := by decide +kernel
theorem d_method_4_code_2 : decode method_4_code 2 = .ok (.if_icmp .ne 7, 3) := by decide +kernel
theorem d_method_4_code_9 : decode method_4_code 9 = .ok (.iload_n 0, 1) := by decide +kernel
theorem d_method_4_code_10 : decode method_4_code 10 = .ok (.iconst 4, 1) := by decide +kernel
theorem d_method_4_code_11 : decode method_4_code 11 = .ok (.if_icmp .ne 7, 3) := by decide +kernel
theorem d_method_4_code_18 : decode method_4_code 18 = .ok (.iload_n 0, 1) := by decide +kernel
theorem d_method_4_code_19 : decode method_4_code 19 = .ok (.bipush 7, 2) := by decide +kernel
theorem d_method_4_code_21 : decode method_4_code 21 = .ok (.if_icmp .ne 7, 3) := by decide +kernel
theorem d_method_4_code_28 : decode method_4_code 28 = .ok (.iload_n 0, 1) := by decide +kernel
theorem d_method_4_code_29 : decode method_4_code 29 = .ok (.bipush 8, 2) := by decide +kernel
theorem d_method_4_code_31 : decode method_4_code 31 = .ok (.if_icmp .ne 7, 3) := by decide +kernel
theorem d_method_4_code_38 : decode method_4_code 38 = .ok (.iload_n 0, 1) := by decide +kernel
theorem d_method_4_code_39 : decode method_4_code 39 = .ok (.bipush 9, 2) := by decide +kernel
theorem d_method_4_code_41 : decode method_4_code 41 = .ok (.if_icmp .ne 7, 3) := by decide +kernel
theorem d_method_4_code_48 : decode method_4_code 48 = .ok (.aconst_null, 1) := by decide +kernel
theorem d_method_4_code_49 : decode method_4_code 49 = .ok (.areturn, 1) := by decide +kernel
set_option maxRecDepth 65536 in
set_option maxHeartbeats 40000000 in
theorem rm2 (l : Launch) (Z : State) (a0 : Array Value) (hw : ∀ d ∈ tables_1, d.before a0 Z = true) (ws : List Jvm.Cond) (w0 w1 w2 w3 w4 w5 w6 w7 w8 w9 w10 w11 w12 w13 w14 w15 w16 w17 : Addr) (h0 : Heap) (n0 : Nat) (hWd : Wd Z w0 w1 w2 w3 w4 w5 w6 w7 w8 w9 w10 w11 w12 w13 w14 w15 w16 w17) (O0 : Old Z n0 h0) :
    MetFree l (⟨"com/example/weaverbird/weaverbird/queues/RunActionOfPinLaw", "expectedFor", "(I)Lcom/example/weaverbird/weaverbird/queues/RunAction;"⟩ : MethodName) (head1 (Jvm.Cond.code (⟨"com/example/weaverbird/weaverbird/queues/RunActionOfPinLaw", "expectedFor", "(I)Lcom/example/weaverbird/weaverbird/queues/RunAction;"⟩ : MethodName) method_4_code 1 (some (.object "com/example/weaverbird/weaverbird/queues/RunAction")) :: ws) ({ frames := 0, cells := 0, slots := 0, locals := 0 } : Room)) (fun a U => a = #[(.int (0 : Int32))] ∧ Z.Warmed39 U.vm ∧ U.heap = h0) (fun _ _ _ _ _ => True) (fun _ U o U' => ∃ v L, o = .returned v ∧ Qp (some .null) h0 n0 v U'.heap L ∧ FrameEnd U o U' L ({ frames := 0, cells := 0, slots := 0, locals := 0 } : Room).cells ({ frames := 0, cells := 0, slots := 0, locals := 0 } : Room).slots) := by
  refine MetFree.of_bodySF (plainFor_of_name pn0) hisR ?_
  intro p e s m args below meth c s₁ Bd hml0 hP hK
  obtain ⟨rfl, hZ, hh⟩ := hP
  have hx := Bd.exec
  have hby := Bd.bytes
  have hml : c.maxLocals = 1 := hml0
  have hown : s.vm.findClass "com/example/weaverbird/weaverbird/queues/RunActionOfPinLaw" = some m.cls := findClass_of_methodNamed Bd.named
  have hnm := (name_of_methodNamed Bd.named Bd.method).1
  have X0 : Stand p l e ({ frames := 0, cells := 0, slots := 0, locals := 0 } : Room) s m #[(.int (0 : Int32))] below meth c s₁ [] 0 0 := Stand.of_body Bd
  have e0 : s₁.heap = h0 := by rw [← hh, Bd.state]; rfl
  have N0 := Fr.nil n0
  have hlk := Bd.notSynchronized
  obtain ⟨wS0, wE0, wS1, wE1, wS2, wE2, wS3, wE3, wS4, wE4, wS5, wE5, wS6, wE6, wS7, wE7, wS8, wE8, wS9, wE9, wS10, wE10, wS11, wE11, wS12, wE12, wS13, wE13, wS14, wE14, wS15, wE15, wS16, wE16, wS17, wE17, wF2_type, wF7_ordinal, wF0_ordinal, wF3_type, wF8_ordinal, wF4_type, wF9_ordinal, wF5_type, wF10_ordinal, wF6_type, wF11_ordinal, wF12_ordinal, wF13_ordinal, wF14_ordinal, wF15_ordinal, wF16_ordinal, wF17_value, wA, -⟩ := id hWd
  have pre0 : ∀ t, Steps p.tables e below (s₁.setTop (mkF m 0 #[.val (.int (0 : Int32))] [])) t → Steps p.tables e below (s₁.setTop (entryFrame m #[(.int (0 : Int32))] 1)) t := fun t k => castTop (ef0 m ) k
  obtain ⟨fs, hr, hrun, hended, hWr, hsame⟩ := X0.leave (v := some .null) (fun h => by rw [Bd.returns] at h; cases h) hlk
  refine ⟨_, _, pre0 _ ?_, hrun, hended, _, _, rfl, ?_, ⟨_, rfl⟩, hWr, hsame.mono (Nat.le_of_ble_eq_true rfl) (Nat.le_of_ble_eq_true rfl)⟩
  · show Steps p.tables e below (s₁.setTop (mkF m 0 #[.val (.int (0 : Int32))] [])) _
    refine XS.iloadN X0.here hx rfl (hb hby d_method_4_code_0) rfl ?_
    show Steps p.tables e below (s₁.setTop (mkF m 1 #[.val (.int (0 : Int32))] [(.int (0 : Int32))])) _
    refine XS.iconst X0.here hx rfl (hb hby d_method_4_code_1) ?_
    show Steps p.tables e below (s₁.setTop (mkF m 2 #[.val (.int (0 : Int32))] [(.int (3 : Int32)), (.int (0 : Int32))])) _
    refine XS.icmpYes X0.here hx rfl (pc0 := 2) (pc' := 9) rfl (hb hby d_method_4_code_2) rfl (by decide) (by decide) (by decide) ?_
    show Steps p.tables e below (s₁.setTop (mkF m 9 #[.val (.int (0 : Int32))] [])) _
    refine XS.iloadN X0.here hx rfl (hb hby d_method_4_code_9) rfl ?_
    show Steps p.tables e below (s₁.setTop (mkF m 10 #[.val (.int (0 : Int32))] [(.int (0 : Int32))])) _
    refine XS.iconst X0.here hx rfl (hb hby d_method_4_code_10) ?_
    show Steps p.tables e below (s₁.setTop (mkF m 11 #[.val (.int (0 : Int32))] [(.int (4 : Int32)), (.int (0 : Int32))])) _
    refine XS.icmpYes X0.here hx rfl (pc0 := 11) (pc' := 18) rfl (hb hby d_method_4_code_11) rfl (by decide) (by decide) (by decide) ?_
    show Steps p.tables e below (s₁.setTop (mkF m 18 #[.val (.int (0 : Int32))] [])) _
    refine XS.iloadN X0.here hx rfl (hb hby d_method_4_code_18) rfl ?_
    show Steps p.tables e below (s₁.setTop (mkF m 19 #[.val (.int (0 : Int32))] [(.int (0 : Int32))])) _
    refine XS.bipush X0.here hx rfl (hb hby d_method_4_code_19) ?_
    show Steps p.tables e below (s₁.setTop (mkF m 21 #[.val (.int (0 : Int32))] [(.int (7 : Int32)), (.int (0 : Int32))])) _
    refine XS.icmpYes X0.here hx rfl (pc0 := 21) (pc' := 28) rfl (hb hby d_method_4_code_21) rfl (by decide) (by decide) (by decide) ?_
    show Steps p.tables e below (s₁.setTop (mkF m 28 #[.val (.int (0 : Int32))] [])) _
    refine XS.iloadN X0.here hx rfl (hb hby d_method_4_code_28) rfl ?_
    show Steps p.tables e below (s₁.setTop (mkF m 29 #[.val (.int (0 : Int32))] [(.int (0 : Int32))])) _
    refine XS.bipush X0.here hx rfl (hb hby d_method_4_code_29) ?_
    show Steps p.tables e below (s₁.setTop (mkF m 31 #[.val (.int (0 : Int32))] [(.int (8 : Int32)), (.int (0 : Int32))])) _
    refine XS.icmpYes X0.here hx rfl (pc0 := 31) (pc' := 38) rfl (hb hby d_method_4_code_31) rfl (by decide) (by decide) (by decide) ?_
    show Steps p.tables e below (s₁.setTop (mkF m 38 #[.val (.int (0 : Int32))] [])) _
    refine XS.iloadN X0.here hx rfl (hb hby d_method_4_code_38) rfl ?_
    show Steps p.tables e below (s₁.setTop (mkF m 39 #[.val (.int (0 : Int32))] [(.int (0 : Int32))])) _
    refine XS.bipush X0.here hx rfl (hb hby d_method_4_code_39) ?_
    show Steps p.tables e below (s₁.setTop (mkF m 41 #[.val (.int (0 : Int32))] [(.int (9 : Int32)), (.int (0 : Int32))])) _
    refine XS.icmpYes X0.here hx rfl (pc0 := 41) (pc' := 48) rfl (hb hby d_method_4_code_41) rfl (by decide) (by decide) (by decide) ?_
    show Steps p.tables e below (s₁.setTop (mkF m 48 #[.val (.int (0 : Int32))] [])) _
    refine XS.aconstNull X0.here hx rfl (hb hby d_method_4_code_48) ?_
    show Steps p.tables e below (s₁.setTop (mkF m 49 #[.val (.int (0 : Int32))] [.null])) _
    exact retOut X0 hx (t := (.object "com/example/weaverbird/weaverbird/queues/RunAction")) (i := .areturn) Bd.returns rfl (Or.inr (Or.inr (Or.inr (Or.inr ⟨rfl, rfl, rfl⟩)))) (hb hby d_method_4_code_49) hr
  · show Qp (some .null) h0 n0 _ s₁.heap _
    rw [e0]
    exact ⟨rfl, N0, rfl⟩
theorem pd1 : parseMethodDescriptor "(I)Lcom/example/weaverbird/weaverbird/queues/RunAction;" = some ⟨[.int], some (.object "com/example/weaverbird/weaverbird/queues/RunAction")⟩ := by decide +kernel
theorem d_prog_16_method_4_code_0 : decode prog_16_method_4_code 0 = .ok (.invokestatic 56, 3) := by decide +kernel
theorem d_prog_16_method_1_code_0 : decode prog_16_method_1_code 0 = .ok (.getstatic 19, 3) := by decide +kernel
theorem d_prog_16_method_1_code_3 : decode prog_16_method_1_code 3 = .ok (.invokevirtual 23, 3) := by decide +kernel
theorem d_prog_16_method_1_code_6 : decode prog_16_method_1_code 6 = .ok (.checkcast 24, 3) := by decide +kernel
theorem d_prog_16_method_1_code_9 : decode prog_16_method_1_code 9 = .ok (.areturn, 1) := by decide +kernel
theorem pn1 : plainName "com/example/weaverbird/weaverbird/queues/RunAction" = true := by first | (simp [plainName, overriddenIn]; done) | decide +kernel
theorem ef1 (m : MethodId)    : entryFrame m #[] 0 = mkF m 0 #[] [] := by first | (simp [entryFrame, mkF, argsToLocals, Value.category]; done) | rfl
def Qerm4 (Z : State) (w0 w1 w2 w3 w4 w5 w6 w7 w8 w9 w10 w11 w12 w13 w14 w15 w16 w17 : Addr) (h0 : Heap) (n0 : Nat) (v : Option Value) (h : Heap) (L : List Loc) : Prop := ∃ (r : Addr) (k : ClassId), v = some (.ref r) ∧ Fr n0 L ∧ Keep h0 h [] ∧ Old Z n0 h ∧ Arv Z h r k (.object "com/example/weaverbird/weaverbird/queues/RunAction") (5 : Int32) [(.ref w2), (.ref w3), (.ref w4), (.ref w5), (.ref w6)] .null ∧ n0 ≤ r
set_option maxRecDepth 65536 in
set_option maxHeartbeats 40000000 in
theorem rm4 (l : Launch) (Z : State) (a0 : Array Value) (hw : ∀ d ∈ tables_1, d.before a0 Z = true) (ws : List Jvm.Cond) (w0 w1 w2 w3 w4 w5 w6 w7 w8 w9 w10 w11 w12 w13 w14 w15 w16 w17 : Addr) (h0 : Heap) (n0 : Nat) (hWd : Wd Z w0 w1 w2 w3 w4 w5 w6 w7 w8 w9 w10 w11 w12 w13 w14 w15 w16 w17) (O0 : Old Z n0 h0) :
    MetFree l (⟨"com/example/weaverbird/weaverbird/queues/RunAction", "values", "()[Lcom/example/weaverbird/weaverbird/queues/RunAction;"⟩ : MethodName) (head1 (Jvm.Cond.code (⟨"com/example/weaverbird/weaverbird/queues/RunAction", "values", "()[Lcom/example/weaverbird/weaverbird/queues/RunAction;"⟩ : MethodName) prog_16_method_1_code 0 (some (.array (.object "com/example/weaverbird/weaverbird/queues/RunAction"))) :: ws) ({ frames := 1, cells := 1, slots := 5, locals := 14 } : Room)) (fun a U => a = #[] ∧ Z.Warmed39 U.vm ∧ U.heap = h0) (fun _ _ _ _ _ => True) (fun _ U o U' => ∃ v L, o = .returned v ∧ Qerm4 Z w0 w1 w2 w3 w4 w5 w6 w7 w8 w9 w10 w11 w12 w13 w14 w15 w16 w17 h0 n0 v U'.heap L ∧ FrameEnd U o U' L ({ frames := 1, cells := 1, slots := 5, locals := 14 } : Room).cells ({ frames := 1, cells := 1, slots := 5, locals := 14 } : Room).slots) := by
  refine MetFree.of_bodySF (plainFor_of_name pn1) hisR ?_
  intro p e s m args below meth c s₁ Bd hml0 hP hK
  obtain ⟨rfl, hZ, hh⟩ := hP
  have hx := Bd.exec
  have hby := Bd.bytes
  have hml : c.maxLocals = 0 := hml0
  have hown : s.vm.findClass "com/example/weaverbird/weaverbird/queues/RunAction" = some m.cls := findClass_of_methodNamed Bd.named
  have hnm := (name_of_methodNamed Bd.named Bd.method).1
  have X0 : Stand p l e ({ frames := 1, cells := 1, slots := 5, locals := 14 } : Room) s m #[] below meth c s₁ [] 0 0 := Stand.of_body Bd
  have e0 : s₁.heap = h0 := by rw [← hh, Bd.state]; rfl
  have N0 := Fr.nil n0
  have hlk := Bd.notSynchronized
  obtain ⟨wS0, wE0, wS1, wE1, wS2, wE2, wS3, wE3, wS4, wE4, wS5, wE5, wS6, wE6, wS7, wE7, wS8, wE8, wS9, wE9, wS10, wE10, wS11, wE11, wS12, wE12, wS13, wE13, wS14, wE14, wS15, wE15, wS16, wE16, wS17, wE17, wF2_type, wF7_ordinal, wF0_ordinal, wF3_type, wF8_ordinal, wF4_type, wF9_ordinal, wF5_type, wF10_ordinal, wF6_type, wF11_ordinal, wF12_ordinal, wF13_ordinal, wF14_ordinal, wF15_ordinal, wF16_ordinal, wF17_value, wA, -⟩ := id hWd
  have pre0 : ∀ t, Steps p.tables e below (s₁.setTop (mkF m 0 #[] [])) t → Steps p.tables e below (s₁.setTop (entryFrame m #[] 0)) t := fun t k => castTop (ef1 m ) k
  obtain ⟨T16, X16, e16, st16⟩ := getS2 X0 hx hZ hown (host := "") (Or.inl (hw _ (List.mem_of_getElem? (i := 18) rfl))) Via.refl e0 (wS1.ext O0.2) (g := (mkF m 0 #[] [])) rfl (hb hby d_prog_16_method_1_code_0)
  obtain ⟨cl17, hA17, hF17, hS17, hH17, hG17⟩ := wA
  obtain ⟨T17, h17, X17, e17, E17, A17, Q17, st17⟩ := cloneA X16 hx hZ hown (hw _ (List.mem_of_getElem? (i := 20) rfl)) (hw _ (List.mem_of_getElem? (i := 21) rfl)) (hw _ (List.mem_of_getElem? (i := 25) rfl)) (hw _ (List.mem_of_getElem? (i := 23) rfl)) (hw _ (List.mem_of_getElem? (i := 24) rfl)) (hw _ (List.mem_of_getElem? (i := 26) rfl)) e16 (hA17.ext O0.2) (wE1.ext O0.2) hF17 (g := (mkF m 3 #[] [(.ref w1)])) rfl (by rw [hml]; rfl) rfl (hb hby d_prog_16_method_1_code_3) (by decide) (W := 0) (cap := 5) (by show 2 * 0 + _ ≤ _; exact Nat.le_of_eq rfl) (by decide) (Nat.le_of_eq hS17) (by decide) (by decide)
  obtain ⟨b17, g17⟩ : ∃ z, z = h0.size := ⟨_, rfl⟩
  rw [← g17] at A17 Q17 st17
  have g_b17 : n0 ≤ b17 := Nat.le_trans (Nat.le_trans (Nat.le_of_eq O0.1.symm) O0.2.1) (Nat.le_of_eq g17.symm)
  have sz_b17 : h0.size ≤ b17 := Nat.le_trans (Keep.refl h0 []).1 (Nat.le_of_eq g17.symm)
  have Kp17 : Keep h0 h17 [] := (Keep.refl h0 []).ext E17
  have O_17 : Old Z n0 h17 := O0.ext E17
  have V17 : Arv Z h17 b17 cl17.cls (.object "com/example/weaverbird/weaverbird/queues/RunAction") (5 : Int32) [(.ref w2), (.ref w3), (.ref w4), (.ref w5), (.ref w6)] .null := ⟨cloneOf cl17, A17, rfl, hS17, by decide, hH17, hG17⟩
  obtain ⟨T18, X18, e18, st18⟩ := castY X17 hx hZ hown (hw _ (List.mem_of_getElem? (i := 33) rfl)) e17 (Ins.self Q17) (g := (mkF m 6 #[] [(.ref b17)])) rfl rfl (hb hby d_prog_16_method_1_code_6)
  obtain ⟨fs, hr, hrun, hended, hWr, hsame⟩ := X18.leave (v := some (.ref b17)) (fun h => by rw [Bd.returns] at h; cases h) hlk
  refine ⟨_, _, pre0 _ ?_, hrun, hended, _, _, rfl, ?_, ⟨_, rfl⟩, hWr, hsame.mono (Nat.le_of_ble_eq_true rfl) (Nat.le_of_ble_eq_true rfl)⟩
  · show Steps p.tables e below (s₁.setTop (mkF m 0 #[] [])) _
    refine st16 _ ?_
    show Steps p.tables e below (T16.setTop (mkF m 3 #[] [(.ref w1)])) _
    refine st17 _ ?_
    show Steps p.tables e below (T17.setTop (mkF m 6 #[] [(.ref b17)])) _
    refine st18 _ ?_
    show Steps p.tables e below (T18.setTop (mkF m 9 #[] [(.ref b17)])) _
    exact retOut X18 hx (t := (.array (.object "com/example/weaverbird/weaverbird/queues/RunAction"))) (i := .areturn) Bd.returns rfl (Or.inr (Or.inr (Or.inr (Or.inr ⟨rfl, rfl, rfl⟩)))) (hb hby d_prog_16_method_1_code_9) hr
  · show Qerm4 Z w0 w1 w2 w3 w4 w5 w6 w7 w8 w9 w10 w11 w12 w13 w14 w15 w16 w17 h0 n0 _ T18.heap _
    rw [e18]
    exact ⟨b17, _, rfl, N0, Kp17, O_17, V17, g_b17⟩
theorem pd2 : parseMethodDescriptor "()[Lcom/example/weaverbird/weaverbird/queues/RunAction;" = some ⟨[], some (.array (.object "com/example/weaverbird/weaverbird/queues/RunAction"))⟩ := by decide +kernel
theorem d_prog_16_method_4_code_3 : decode prog_16_method_4_code 3 = .ok (.astore_n 1, 1) := by decide +kernel
theorem d_prog_16_method_4_code_4 : decode prog_16_method_4_code 4 = .ok (.aload_n 1, 1) := by decide +kernel
theorem d_prog_16_method_4_code_5 : decode prog_16_method_4_code 5 = .ok (.arraylength, 1) := by decide +kernel
theorem d_prog_16_method_4_code_6 : decode prog_16_method_4_code 6 = .ok (.istore_n 2, 1) := by decide +kernel
theorem d_prog_16_method_4_code_7 : decode prog_16_method_4_code 7 = .ok (.iconst 0, 1) := by decide +kernel
theorem d_prog_16_method_4_code_8 : decode prog_16_method_4_code 8 = .ok (.istore_n 3, 1) := by decide +kernel
theorem d_prog_16_method_4_code_9 : decode prog_16_method_4_code 9 = .ok (.iload_n 3, 1) := by decide +kernel
theorem d_prog_16_method_4_code_10 : decode prog_16_method_4_code 10 = .ok (.iload_n 2, 1) := by decide +kernel
theorem d_prog_16_method_4_code_11 : decode prog_16_method_4_code 11 = .ok (.if_icmp .ge 29, 3) := by decide +kernel
theorem d_prog_16_method_4_code_14 : decode prog_16_method_4_code 14 = .ok (.aload_n 1, 1) := by decide +kernel
theorem d_prog_16_method_4_code_15 : decode prog_16_method_4_code 15 = .ok (.iload_n 3, 1) := by decide +kernel
theorem d_prog_16_method_4_code_16 : decode prog_16_method_4_code 16 = .ok (.aaload, 1) := by decide +kernel
theorem d_prog_16_method_4_code_17 : decode prog_16_method_4_code 17 = .ok (.astore 4, 2) := by decide +kernel
theorem d_prog_16_method_4_code_19 : decode prog_16_method_4_code 19 = .ok (.aload 4, 2) := by decide +kernel
theorem d_prog_16_method_4_code_21 : decode prog_16_method_4_code 21 = .ok (.getfield 38, 3) := by decide +kernel
theorem d_prog_16_method_4_code_24 : decode prog_16_method_4_code 24 = .ok (.aload_n 0, 1) := by decide +kernel
theorem d_prog_16_method_4_code_25 : decode prog_16_method_4_code 25 = .ok (.if_acmp .ne 9, 3) := by decide +kernel
theorem d_prog_16_method_4_code_34 : decode prog_16_method_4_code 34 = .ok (.iinc 3 1, 3) := by decide +kernel
theorem d_prog_16_method_4_code_37 : decode prog_16_method_4_code 37 = .ok (.goto (-28), 3) := by decide +kernel
theorem d_prog_16_method_4_code_40 : decode prog_16_method_4_code 40 = .ok (.invokestatic 65, 3) := by decide +kernel
theorem d_jdk_32_method_1_code_0 : decode jdk_32_method_1_code 0 = .ok (.getstatic 1, 3) := by decide +kernel
theorem d_jdk_32_method_1_code_3 : decode jdk_32_method_1_code 3 = .ok (.astore_n 0, 1) := by decide +kernel
theorem d_jdk_32_method_1_code_4 : decode jdk_32_method_1_code 4 = .ok (.aload_n 0, 1) := by decide +kernel
theorem d_jdk_32_method_1_code_5 : decode jdk_32_method_1_code 5 = .ok (.areturn, 1) := by decide +kernel
theorem pn2 : plainName "java/util/Optional" = true := by first | (simp [plainName, overriddenIn]; done) | decide +kernel
theorem ef2 (m : MethodId)    : entryFrame m #[] 1 = mkF m 0 #[.unset] [] := by first | (simp [entryFrame, mkF, argsToLocals, Value.category]; done) | rfl
set_option maxRecDepth 65536 in
set_option maxHeartbeats 40000000 in
theorem rm5 (l : Launch) (Z : State) (a0 : Array Value) (hw : ∀ d ∈ tables_1, d.before a0 Z = true) (ws : List Jvm.Cond) (w0 w1 w2 w3 w4 w5 w6 w7 w8 w9 w10 w11 w12 w13 w14 w15 w16 w17 : Addr) (h0 : Heap) (n0 : Nat) (hWd : Wd Z w0 w1 w2 w3 w4 w5 w6 w7 w8 w9 w10 w11 w12 w13 w14 w15 w16 w17) (O0 : Old Z n0 h0) :
    MetFree l (⟨"java/util/Optional", "empty", "()Ljava/util/Optional;"⟩ : MethodName) (head1 (Jvm.Cond.code (⟨"java/util/Optional", "empty", "()Ljava/util/Optional;"⟩ : MethodName) jdk_32_method_1_code 1 (some (.object "java/util/Optional")) :: ws) ({ frames := 0, cells := 0, slots := 0, locals := 0 } : Room)) (fun a U => a = #[] ∧ Z.Warmed39 U.vm ∧ U.heap = h0) (fun _ _ _ _ _ => True) (fun _ U o U' => ∃ v L, o = .returned v ∧ Qp (some (.ref w17)) h0 n0 v U'.heap L ∧ FrameEnd U o U' L ({ frames := 0, cells := 0, slots := 0, locals := 0 } : Room).cells ({ frames := 0, cells := 0, slots := 0, locals := 0 } : Room).slots) := by
  refine MetFree.of_bodySF (plainFor_of_name pn2) hisR ?_
  intro p e s m args below meth c s₁ Bd hml0 hP hK
  obtain ⟨rfl, hZ, hh⟩ := hP
  have hx := Bd.exec
  have hby := Bd.bytes
  have hml : c.maxLocals = 1 := hml0
  have hown : s.vm.findClass "java/util/Optional" = some m.cls := findClass_of_methodNamed Bd.named
  have hnm := (name_of_methodNamed Bd.named Bd.method).1
  have X0 : Stand p l e ({ frames := 0, cells := 0, slots := 0, locals := 0 } : Room) s m #[] below meth c s₁ [] 0 0 := Stand.of_body Bd
  have e0 : s₁.heap = h0 := by rw [← hh, Bd.state]; rfl
  have N0 := Fr.nil n0
  have hlk := Bd.notSynchronized
  obtain ⟨wS0, wE0, wS1, wE1, wS2, wE2, wS3, wE3, wS4, wE4, wS5, wE5, wS6, wE6, wS7, wE7, wS8, wE8, wS9, wE9, wS10, wE10, wS11, wE11, wS12, wE12, wS13, wE13, wS14, wE14, wS15, wE15, wS16, wE16, wS17, wE17, wF2_type, wF7_ordinal, wF0_ordinal, wF3_type, wF8_ordinal, wF4_type, wF9_ordinal, wF5_type, wF10_ordinal, wF6_type, wF11_ordinal, wF12_ordinal, wF13_ordinal, wF14_ordinal, wF15_ordinal, wF16_ordinal, wF17_value, wA, -⟩ := id hWd
  have pre0 : ∀ t, Steps p.tables e below (s₁.setTop (mkF m 0 #[.unset] [])) t → Steps p.tables e below (s₁.setTop (entryFrame m #[] 1)) t := fun t k => castTop (ef2 m ) k
  obtain ⟨T31, X31, e31, st31⟩ := getS2 X0 hx hZ hown (host := "") (Or.inl (hw _ (List.mem_of_getElem? (i := 46) rfl))) Via.refl e0 (wS17.ext O0.2) (g := (mkF m 0 #[.unset] [])) rfl (hb hby d_jdk_32_method_1_code_0)
  obtain ⟨fs, hr, hrun, hended, hWr, hsame⟩ := X31.leave (v := some (.ref w17)) (fun h => by rw [Bd.returns] at h; cases h) hlk
  refine ⟨_, _, pre0 _ ?_, hrun, hended, _, _, rfl, ?_, ⟨_, rfl⟩, hWr, hsame.mono (Nat.le_of_ble_eq_true rfl) (Nat.le_of_ble_eq_true rfl)⟩
  · show Steps p.tables e below (s₁.setTop (mkF m 0 #[.unset] [])) _
    refine st31 _ ?_
    show Steps p.tables e below (T31.setTop (mkF m 3 #[.unset] [(.ref w17)])) _
    refine XS.astoreN X31.here hx rfl (hb hby d_jdk_32_method_1_code_3) rfl rfl (l' := #[.val (.ref w17)]) rfl ?_
    show Steps p.tables e below (T31.setTop (mkF m 4 #[.val (.ref w17)] [])) _
    refine XS.aloadN X31.here hx rfl (hb hby d_jdk_32_method_1_code_4) rfl rfl ?_
    show Steps p.tables e below (T31.setTop (mkF m 5 #[.val (.ref w17)] [(.ref w17)])) _
    exact retOut X31 hx (t := (.object "java/util/Optional")) (i := .areturn) Bd.returns rfl (Or.inr (Or.inr (Or.inr (Or.inr ⟨rfl, rfl, rfl⟩)))) (hb hby d_jdk_32_method_1_code_5) hr
  · show Qp (some (.ref w17)) h0 n0 _ T31.heap _
    rw [e31]
    exact ⟨rfl, N0, rfl⟩
theorem pd3 : parseMethodDescriptor "()Ljava/util/Optional;" = some ⟨[], some (.object "java/util/Optional")⟩ := by decide +kernel
theorem d_prog_16_method_4_code_43 : decode prog_16_method_4_code 43 = .ok (.areturn, 1) := by decide +kernel
theorem ef3 (m : MethodId)   (w0 : Addr) : entryFrame m #[(.ref w0)] 5 = mkF m 0 #[.val (.ref w0), .unset, .unset, .unset, .unset] [] := by first | (simp [entryFrame, mkF, argsToLocals, Value.category]; done) | rfl
def Qerm3 (Z : State) (w0 w1 w2 w3 w4 w5 w6 w7 w8 w9 w10 w11 w12 w13 w14 w15 w16 w17 : Addr) (h0 : Heap) (n0 : Nat) (v : Option Value) (h : Heap) (L : List Loc) : Prop := v = some (.ref w17) ∧ Fr n0 L ∧ Keep h0 h [] ∧ Old Z n0 h
set_option maxRecDepth 65536 in
set_option maxHeartbeats 40000000 in
theorem rm3 (l : Launch) (Z : State) (a0 : Array Value) (hw : ∀ d ∈ tables_1, d.before a0 Z = true) (ws : List Jvm.Cond) (w0 w1 w2 w3 w4 w5 w6 w7 w8 w9 w10 w11 w12 w13 w14 w15 w16 w17 : Addr) (h0 : Heap) (n0 : Nat) (hWd : Wd Z w0 w1 w2 w3 w4 w5 w6 w7 w8 w9 w10 w11 w12 w13 w14 w15 w16 w17) (O0 : Old Z n0 h0) :
    MetFree l (⟨"com/example/weaverbird/weaverbird/queues/RunAction", "of", "(Lcom/example/weaverbird/weaverbird/codes/CommandType;)Ljava/util/Optional;"⟩ : MethodName) (head1 (Jvm.Cond.code (⟨"com/example/weaverbird/weaverbird/queues/RunAction", "of", "(Lcom/example/weaverbird/weaverbird/codes/CommandType;)Ljava/util/Optional;"⟩ : MethodName) prog_16_method_4_code 5 (some (.object "java/util/Optional")) :: ws) ({ frames := 2, cells := 1, slots := 5, locals := 25 } : Room)) (fun a U => a = #[(.ref w0)] ∧ Z.Warmed39 U.vm ∧ U.heap = h0) (fun _ _ _ _ _ => True) (fun _ U o U' => ∃ v L, o = .returned v ∧ Qerm3 Z w0 w1 w2 w3 w4 w5 w6 w7 w8 w9 w10 w11 w12 w13 w14 w15 w16 w17 h0 n0 v U'.heap L ∧ FrameEnd U o U' L ({ frames := 2, cells := 1, slots := 5, locals := 25 } : Room).cells ({ frames := 2, cells := 1, slots := 5, locals := 25 } : Room).slots) := by
  refine MetFree.of_bodySF (plainFor_of_name pn1) hisR ?_
  intro p e s m args below meth c s₁ Bd hml0 hP hK
  obtain ⟨rfl, hZ, hh⟩ := hP
  have hx := Bd.exec
  have hby := Bd.bytes
  have hml : c.maxLocals = 5 := hml0
  have hown : s.vm.findClass "com/example/weaverbird/weaverbird/queues/RunAction" = some m.cls := findClass_of_methodNamed Bd.named
  have hnm := (name_of_methodNamed Bd.named Bd.method).1
  have X0 : Stand p l e ({ frames := 2, cells := 1, slots := 5, locals := 25 } : Room) s m #[(.ref w0)] below meth c s₁ [] 0 0 := Stand.of_body Bd
  have e0 : s₁.heap = h0 := by rw [← hh, Bd.state]; rfl
  have N0 := Fr.nil n0
  have hlk := Bd.notSynchronized
  obtain ⟨wS0, wE0, wS1, wE1, wS2, wE2, wS3, wE3, wS4, wE4, wS5, wE5, wS6, wE6, wS7, wE7, wS8, wE8, wS9, wE9, wS10, wE10, wS11, wE11, wS12, wE12, wS13, wE13, wS14, wE14, wS15, wE15, wS16, wE16, wS17, wE17, wF2_type, wF7_ordinal, wF0_ordinal, wF3_type, wF8_ordinal, wF4_type, wF9_ordinal, wF5_type, wF10_ordinal, wF6_type, wF11_ordinal, wF12_ordinal, wF13_ordinal, wF14_ordinal, wF15_ordinal, wF16_ordinal, wF17_value, wA, -⟩ := id hWd
  have pre0 : ∀ t, Steps p.tables e below (s₁.setTop (mkF m 0 #[.val (.ref w0), .unset, .unset, .unset, .unset] [])) t → Steps p.tables e below (s₁.setTop (entryFrame m #[(.ref w0)] 5)) t := fun t k => castTop (ef3 m w0) k
  obtain ⟨_, _, ⟨T19, L19, k19, n19⟩, -, X19, ⟨Lc19, hQ19, l19, y19, z19⟩, st19⟩ := Jvm.LawKit.callS X0 hx (y := (⟨"com/example/weaverbird/weaverbird/queues/RunAction", "values", "()[Lcom/example/weaverbird/weaverbird/queues/RunAction;"⟩ : MethodName)) hown (mvT hZ (hw _ (List.mem_of_getElem? (i := 15) rfl))) (mvT hZ (hw _ (List.mem_of_getElem? (i := 16) rfl))) (mvT hZ (hw _ (List.mem_of_getElem? (i := 13) rfl))) (mvT hZ (hw _ (List.mem_of_getElem? (i := 17) rfl))) (by decide) (backOf (W := 0) (rm4 l Z a0 hw [] w0 w1 w2 w3 w4 w5 w6 w7 w8 w9 w10 w11 w12 w13 w14 w15 w16 w17 h0 n0 hWd O0) hZ (hw _ (List.mem_of_getElem? (i := 17) rfl)) (hw _ (List.mem_of_getElem? (i := 13) rfl)) (by decide) (by decide)) (g := (mkF m 0 #[.val (.ref w0), .unset, .unset, .unset, .unset] [])) rfl (by rw [hml]; rfl) (argsL := []) (rest := []) (lenOf pd2 rfl) rfl (by show 2 * 0 + _ ≤ _; exact Nat.le_of_eq rfl) (hb hby d_prog_16_method_4_code_0) (fun _ _ => ⟨rfl, e0, (by decide : 0 + 1 ≤ _), (by decide : 0 + 5 ≤ _)⟩)
  dsimp only [Pt.U, Pt.locs, Pt.cells, Pt.slots] at X19 l19 y19 z19 st19 hQ19
  subst l19 y19 z19
  obtain ⟨r19, ka19, rfl, N19q, K19, O_19, V19, g_r19⟩ := hQ19
  have N19 := Fr.app N0 N19q
  have Kp19 : Keep h0 T19.heap [] := (Keep.refl h0 []).trans K19 all0
  obtain ⟨cl20, Ar20, q20, S20, M20, H20, G20⟩ := id V19
  obtain ⟨cl21, Ar21, q21, S21, M21, H21, G21⟩ := id V19
  have hin21 : ¬ ((0 : Int32) < 0 ∨ cl21.slots.size ≤ ((0 : Int32)).toNatClampNeg) := inb_of S21 ⟨by decide, by decide⟩
  have hat21 : cl21.slots[((0 : Int32)).toNatClampNeg]? = some (.ref w2) := Has.at H21 hin21 rfl
  obtain ⟨T22, X22, e22, st22⟩ := getF X19 hx hZ hown (host := "") (Or.inl (hw _ (List.mem_of_getElem? (i := 35) rfl))) Via.refl rfl (wF2_type.ext O_19.2) (g := (mkF m 21 #[.val (.ref w0), .val (.ref r19), .val (.int (5 : Int32)), .val (.int (0 : Int32)), .val (.ref w2)] [(.ref w2)])) rfl rfl (hb hby d_prog_16_method_4_code_21)
  obtain ⟨cl23, Ar23, q23, S23, M23, H23, G23⟩ := id V19
  have hin23 : ¬ ((1 : Int32) < 0 ∨ cl23.slots.size ≤ ((1 : Int32)).toNatClampNeg) := inb_of S23 ⟨by decide, by decide⟩
  have hat23 : cl23.slots[((1 : Int32)).toNatClampNeg]? = some (.ref w3) := Has.at H23 hin23 rfl
  obtain ⟨T24, X24, e24, st24⟩ := getF X22 hx hZ hown (host := "") (Or.inl (hw _ (List.mem_of_getElem? (i := 35) rfl))) Via.refl e22 (wF3_type.ext O_19.2) (g := (mkF m 21 #[.val (.ref w0), .val (.ref r19), .val (.int (5 : Int32)), .val (.int (1 : Int32)), .val (.ref w3)] [(.ref w3)])) rfl rfl (hb hby d_prog_16_method_4_code_21)
  obtain ⟨cl25, Ar25, q25, S25, M25, H25, G25⟩ := id V19
  have hin25 : ¬ ((2 : Int32) < 0 ∨ cl25.slots.size ≤ ((2 : Int32)).toNatClampNeg) := inb_of S25 ⟨by decide, by decide⟩
  have hat25 : cl25.slots[((2 : Int32)).toNatClampNeg]? = some (.ref w4) := Has.at H25 hin25 rfl
  obtain ⟨T26, X26, e26, st26⟩ := getF X24 hx hZ hown (host := "") (Or.inl (hw _ (List.mem_of_getElem? (i := 35) rfl))) Via.refl e24 (wF4_type.ext O_19.2) (g := (mkF m 21 #[.val (.ref w0), .val (.ref r19), .val (.int (5 : Int32)), .val (.int (2 : Int32)), .val (.ref w4)] [(.ref w4)])) rfl rfl (hb hby d_prog_16_method_4_code_21)
  obtain ⟨cl27, Ar27, q27, S27, M27, H27, G27⟩ := id V19
  have hin27 : ¬ ((3 : Int32) < 0 ∨ cl27.slots.size ≤ ((3 : Int32)).toNatClampNeg) := inb_of S27 ⟨by decide, by decide⟩
  have hat27 : cl27.slots[((3 : Int32)).toNatClampNeg]? = some (.ref w5) := Has.at H27 hin27 rfl
  obtain ⟨T28, X28, e28, st28⟩ := getF X26 hx hZ hown (host := "") (Or.inl (hw _ (List.mem_of_getElem? (i := 35) rfl))) Via.refl e26 (wF5_type.ext O_19.2) (g := (mkF m 21 #[.val (.ref w0), .val (.ref r19), .val (.int (5 : Int32)), .val (.int (3 : Int32)), .val (.ref w5)] [(.ref w5)])) rfl rfl (hb hby d_prog_16_method_4_code_21)
  obtain ⟨cl29, Ar29, q29, S29, M29, H29, G29⟩ := id V19
  have hin29 : ¬ ((4 : Int32) < 0 ∨ cl29.slots.size ≤ ((4 : Int32)).toNatClampNeg) := inb_of S29 ⟨by decide, by decide⟩
  have hat29 : cl29.slots[((4 : Int32)).toNatClampNeg]? = some (.ref w6) := Has.at H29 hin29 rfl
  obtain ⟨T30, X30, e30, st30⟩ := getF X28 hx hZ hown (host := "") (Or.inl (hw _ (List.mem_of_getElem? (i := 35) rfl))) Via.refl e28 (wF6_type.ext O_19.2) (g := (mkF m 21 #[.val (.ref w0), .val (.ref r19), .val (.int (5 : Int32)), .val (.int (4 : Int32)), .val (.ref w6)] [(.ref w6)])) rfl rfl (hb hby d_prog_16_method_4_code_21)
  obtain ⟨_, _, ⟨T32, L32, k32, n32⟩, -, X32, ⟨Lc32, hQ32, l32, y32, z32⟩, st32⟩ := Jvm.LawKit.callS X30 hx (y := (⟨"java/util/Optional", "empty", "()Ljava/util/Optional;"⟩ : MethodName)) hown (mvT hZ (hw _ (List.mem_of_getElem? (i := 42) rfl))) (mvT hZ (hw _ (List.mem_of_getElem? (i := 43) rfl))) (mvT hZ (hw _ (List.mem_of_getElem? (i := 44) rfl))) (mvT hZ (hw _ (List.mem_of_getElem? (i := 45) rfl))) (by decide) (backOf (W := 0) (rm5 l Z a0 hw [] w0 w1 w2 w3 w4 w5 w6 w7 w8 w9 w10 w11 w12 w13 w14 w15 w16 w17 T19.heap n0 hWd O_19) hZ (hw _ (List.mem_of_getElem? (i := 45) rfl)) (hw _ (List.mem_of_getElem? (i := 44) rfl)) (by decide) (by decide)) (g := (mkF m 40 #[.val (.ref w0), .val (.ref r19), .val (.int (5 : Int32)), .val (.int (5 : Int32)), .val (.ref w6)] [])) rfl (by rw [hml]; rfl) (argsL := []) (rest := []) (lenOf pd3 rfl) rfl (by show 2 * 0 + _ ≤ _; exact Nat.le_of_eq rfl) (hb hby d_prog_16_method_4_code_40) (fun _ _ => ⟨rfl, e30, (by decide : 1 + 0 ≤ _), (by decide : 5 + 0 ≤ _)⟩)
  dsimp only [Pt.U, Pt.locs, Pt.cells, Pt.slots] at X32 l32 y32 z32 st32 hQ32
  subst l32 y32 z32
  obtain ⟨rfl, N32q, e32⟩ := hQ32
  have N32 := Fr.app N19 N32q
  obtain ⟨fs, hr, hrun, hended, hWr, hsame⟩ := X32.leave (v := some (.ref w17)) (fun h => by rw [Bd.returns] at h; cases h) hlk
  refine ⟨_, _, pre0 _ ?_, hrun, hended, _, _, rfl, ?_, ⟨_, rfl⟩, hWr, hsame.mono (Nat.le_of_ble_eq_true rfl) (Nat.le_of_ble_eq_true rfl)⟩
  · show Steps p.tables e below (s₁.setTop (mkF m 0 #[.val (.ref w0), .unset, .unset, .unset, .unset] [])) _
    refine st19 _ ?_
    show Steps p.tables e below (T19.setTop (mkF m 3 #[.val (.ref w0), .unset, .unset, .unset, .unset] [(.ref r19)])) _
    refine XS.astoreN X19.here hx rfl (hb hby d_prog_16_method_4_code_3) rfl rfl (l' := #[.val (.ref w0), .val (.ref r19), .unset, .unset, .unset]) rfl ?_
    show Steps p.tables e below (T19.setTop (mkF m 4 #[.val (.ref w0), .val (.ref r19), .unset, .unset, .unset] [])) _
    refine XS.aloadN X19.here hx rfl (hb hby d_prog_16_method_4_code_4) rfl rfl ?_
    show Steps p.tables e below (T19.setTop (mkF m 5 #[.val (.ref w0), .val (.ref r19), .unset, .unset, .unset] [(.ref r19)])) _
    refine X19.arraylength hx Ar20.1 (State.isArrayOf_alike hZ.alike Ar20.2.1) (g := (mkF m 5 #[.val (.ref w0), .val (.ref r19), .unset, .unset, .unset] [(.ref r19)])) rfl rfl (hb hby d_prog_16_method_4_code_5) _ ?_
    rw [len_of S20 M20]
    show Steps p.tables e below (T19.setTop (mkF m 6 #[.val (.ref w0), .val (.ref r19), .unset, .unset, .unset] [(.int (5 : Int32))])) _
    refine XS.istoreN X19.here hx rfl (hb hby d_prog_16_method_4_code_6) rfl (l' := #[.val (.ref w0), .val (.ref r19), .val (.int (5 : Int32)), .unset, .unset]) rfl ?_
    show Steps p.tables e below (T19.setTop (mkF m 7 #[.val (.ref w0), .val (.ref r19), .val (.int (5 : Int32)), .unset, .unset] [])) _
    refine XS.iconst X19.here hx rfl (hb hby d_prog_16_method_4_code_7) ?_
    show Steps p.tables e below (T19.setTop (mkF m 8 #[.val (.ref w0), .val (.ref r19), .val (.int (5 : Int32)), .unset, .unset] [(.int (0 : Int32))])) _
    refine XS.istoreN X19.here hx rfl (hb hby d_prog_16_method_4_code_8) rfl (l' := #[.val (.ref w0), .val (.ref r19), .val (.int (5 : Int32)), .val (.int (0 : Int32)), .unset]) rfl ?_
    show Steps p.tables e below (T19.setTop (mkF m 9 #[.val (.ref w0), .val (.ref r19), .val (.int (5 : Int32)), .val (.int (0 : Int32)), .unset] [])) _
    refine XS.iloadN X19.here hx rfl (hb hby d_prog_16_method_4_code_9) rfl ?_
    show Steps p.tables e below (T19.setTop (mkF m 10 #[.val (.ref w0), .val (.ref r19), .val (.int (5 : Int32)), .val (.int (0 : Int32)), .unset] [(.int (0 : Int32))])) _
    refine XS.iloadN X19.here hx rfl (hb hby d_prog_16_method_4_code_10) rfl ?_
    show Steps p.tables e below (T19.setTop (mkF m 11 #[.val (.ref w0), .val (.ref r19), .val (.int (5 : Int32)), .val (.int (0 : Int32)), .unset] [(.int (5 : Int32)), (.int (0 : Int32))])) _
    refine XS.icmpNo X19.here hx rfl (hb hby d_prog_16_method_4_code_11) rfl (by decide) ?_
    show Steps p.tables e below (T19.setTop (mkF m 14 #[.val (.ref w0), .val (.ref r19), .val (.int (5 : Int32)), .val (.int (0 : Int32)), .unset] [])) _
    refine XS.aloadN X19.here hx rfl (hb hby d_prog_16_method_4_code_14) rfl rfl ?_
    show Steps p.tables e below (T19.setTop (mkF m 15 #[.val (.ref w0), .val (.ref r19), .val (.int (5 : Int32)), .val (.int (0 : Int32)), .unset] [(.ref r19)])) _
    refine XS.iloadN X19.here hx rfl (hb hby d_prog_16_method_4_code_15) rfl ?_
    show Steps p.tables e below (T19.setTop (mkF m 16 #[.val (.ref w0), .val (.ref r19), .val (.int (5 : Int32)), .val (.int (0 : Int32)), .unset] [(.int (0 : Int32)), (.ref r19)])) _
    refine X19.aaload hx (j := (0 : Int32)) (v := (.ref w2)) Ar21.1 (State.isArrayOf_alike hZ.alike Ar21.2.1) rfl Ar21.2.2 hin21 hat21 (g := (mkF m 16 #[.val (.ref w0), .val (.ref r19), .val (.int (5 : Int32)), .val (.int (0 : Int32)), .unset] [(.int (0 : Int32)), (.ref r19)])) rfl rfl (hb hby d_prog_16_method_4_code_16) _ ?_
    show Steps p.tables e below (T19.setTop (mkF m 17 #[.val (.ref w0), .val (.ref r19), .val (.int (5 : Int32)), .val (.int (0 : Int32)), .unset] [(.ref w2)])) _
    refine XS.astore X19.here hx rfl (hb hby d_prog_16_method_4_code_17) rfl rfl (l' := #[.val (.ref w0), .val (.ref r19), .val (.int (5 : Int32)), .val (.int (0 : Int32)), .val (.ref w2)]) rfl ?_
    show Steps p.tables e below (T19.setTop (mkF m 19 #[.val (.ref w0), .val (.ref r19), .val (.int (5 : Int32)), .val (.int (0 : Int32)), .val (.ref w2)] [])) _
    refine XS.aload X19.here hx rfl (hb hby d_prog_16_method_4_code_19) rfl rfl ?_
    show Steps p.tables e below (T19.setTop (mkF m 21 #[.val (.ref w0), .val (.ref r19), .val (.int (5 : Int32)), .val (.int (0 : Int32)), .val (.ref w2)] [(.ref w2)])) _
    refine st22 _ ?_
    show Steps p.tables e below (T22.setTop (mkF m 24 #[.val (.ref w0), .val (.ref r19), .val (.int (5 : Int32)), .val (.int (0 : Int32)), .val (.ref w2)] [(.ref w7)])) _
    refine XS.aloadN X22.here hx rfl (hb hby d_prog_16_method_4_code_24) rfl rfl ?_
    show Steps p.tables e below (T22.setTop (mkF m 25 #[.val (.ref w0), .val (.ref r19), .val (.int (5 : Int32)), .val (.int (0 : Int32)), .val (.ref w2)] [(.ref w0), (.ref w7)])) _
    refine Jvm.RoadKit.acmp (g := (mkF m 25 #[.val (.ref w0), .val (.ref r19), .val (.int (5 : Int32)), .val (.int (0 : Int32)), .val (.ref w2)] [(.ref w0), (.ref w7)])) X22 hx rfl rfl rfl (pc0 := 25) (pc' := 34) (same := false) rfl (hb hby d_prog_16_method_4_code_25) rfl (decide_eq_false fun q => (Fld.ne wF7_ordinal wF0_ordinal (fun q => absurd (Value.int.inj q) (by decide))) (Value.ref.inj q)) (by decide) (by decide) ?_
    show Steps p.tables e below (T22.setTop (mkF m 34 #[.val (.ref w0), .val (.ref r19), .val (.int (5 : Int32)), .val (.int (0 : Int32)), .val (.ref w2)] [])) _
    refine XS.iinc X22.here hx rfl (hb hby d_prog_16_method_4_code_34) rfl (l' := #[.val (.ref w0), .val (.ref r19), .val (.int (5 : Int32)), .val (.int (1 : Int32)), .val (.ref w2)]) rfl ?_
    show Steps p.tables e below (T22.setTop (mkF m 37 #[.val (.ref w0), .val (.ref r19), .val (.int (5 : Int32)), .val (.int (1 : Int32)), .val (.ref w2)] [])) _
    refine XS.goto X22.here hx rfl (pc0 := 37) (pc' := 9) rfl (hb hby d_prog_16_method_4_code_37) (by decide) (by decide) ?_
    show Steps p.tables e below (T22.setTop (mkF m 9 #[.val (.ref w0), .val (.ref r19), .val (.int (5 : Int32)), .val (.int (1 : Int32)), .val (.ref w2)] [])) _
    refine XS.iloadN X22.here hx rfl (hb hby d_prog_16_method_4_code_9) rfl ?_
    show Steps p.tables e below (T22.setTop (mkF m 10 #[.val (.ref w0), .val (.ref r19), .val (.int (5 : Int32)), .val (.int (1 : Int32)), .val (.ref w2)] [(.int (1 : Int32))])) _
    refine XS.iloadN X22.here hx rfl (hb hby d_prog_16_method_4_code_10) rfl ?_
    show Steps p.tables e below (T22.setTop (mkF m 11 #[.val (.ref w0), .val (.ref r19), .val (.int (5 : Int32)), .val (.int (1 : Int32)), .val (.ref w2)] [(.int (5 : Int32)), (.int (1 : Int32))])) _
    refine XS.icmpNo X22.here hx rfl (hb hby d_prog_16_method_4_code_11) rfl (by decide) ?_
    show Steps p.tables e below (T22.setTop (mkF m 14 #[.val (.ref w0), .val (.ref r19), .val (.int (5 : Int32)), .val (.int (1 : Int32)), .val (.ref w2)] [])) _
    refine XS.aloadN X22.here hx rfl (hb hby d_prog_16_method_4_code_14) rfl rfl ?_
    show Steps p.tables e below (T22.setTop (mkF m 15 #[.val (.ref w0), .val (.ref r19), .val (.int (5 : Int32)), .val (.int (1 : Int32)), .val (.ref w2)] [(.ref r19)])) _
    refine XS.iloadN X22.here hx rfl (hb hby d_prog_16_method_4_code_15) rfl ?_
    show Steps p.tables e below (T22.setTop (mkF m 16 #[.val (.ref w0), .val (.ref r19), .val (.int (5 : Int32)), .val (.int (1 : Int32)), .val (.ref w2)] [(.int (1 : Int32)), (.ref r19)])) _
    refine X22.aaload hx (j := (1 : Int32)) (v := (.ref w3)) (by rw [e22]; exact Ar23.1) (State.isArrayOf_alike hZ.alike Ar23.2.1) rfl Ar23.2.2 hin23 hat23 (g := (mkF m 16 #[.val (.ref w0), .val (.ref r19), .val (.int (5 : Int32)), .val (.int (1 : Int32)), .val (.ref w2)] [(.int (1 : Int32)), (.ref r19)])) rfl rfl (hb hby d_prog_16_method_4_code_16) _ ?_
    show Steps p.tables e below (T22.setTop (mkF m 17 #[.val (.ref w0), .val (.ref r19), .val (.int (5 : Int32)), .val (.int (1 : Int32)), .val (.ref w2)] [(.ref w3)])) _
    refine XS.astore X22.here hx rfl (hb hby d_prog_16_method_4_code_17) rfl rfl (l' := #[.val (.ref w0), .val (.ref r19), .val (.int (5 : Int32)), .val (.int (1 : Int32)), .val (.ref w3)]) rfl ?_
    show Steps p.tables e below (T22.setTop (mkF m 19 #[.val (.ref w0), .val (.ref r19), .val (.int (5 : Int32)), .val (.int (1 : Int32)), .val (.ref w3)] [])) _
    refine XS.aload X22.here hx rfl (hb hby d_prog_16_method_4_code_19) rfl rfl ?_
    show Steps p.tables e below (T22.setTop (mkF m 21 #[.val (.ref w0), .val (.ref r19), .val (.int (5 : Int32)), .val (.int (1 : Int32)), .val (.ref w3)] [(.ref w3)])) _
    refine st24 _ ?_
    show Steps p.tables e below (T24.setTop (mkF m 24 #[.val (.ref w0), .val (.ref r19), .val (.int (5 : Int32)), .val (.int (1 : Int32)), .val (.ref w3)] [(.ref w8)])) _
    refine XS.aloadN X24.here hx rfl (hb hby d_prog_16_method_4_code_24) rfl rfl ?_
    show Steps p.tables e below (T24.setTop (mkF m 25 #[.val (.ref w0), .val (.ref r19), .val (.int (5 : Int32)), .val (.int (1 : Int32)), .val (.ref w3)] [(.ref w0), (.ref w8)])) _
    refine Jvm.RoadKit.acmp (g := (mkF m 25 #[.val (.ref w0), .val (.ref r19), .val (.int (5 : Int32)), .val (.int (1 : Int32)), .val (.ref w3)] [(.ref w0), (.ref w8)])) X24 hx rfl rfl rfl (pc0 := 25) (pc' := 34) (same := false) rfl (hb hby d_prog_16_method_4_code_25) rfl (decide_eq_false fun q => (Fld.ne wF8_ordinal wF0_ordinal (fun q => absurd (Value.int.inj q) (by decide))) (Value.ref.inj q)) (by decide) (by decide) ?_
    show Steps p.tables e below (T24.setTop (mkF m 34 #[.val (.ref w0), .val (.ref r19), .val (.int (5 : Int32)), .val (.int (1 : Int32)), .val (.ref w3)] [])) _
    refine XS.iinc X24.here hx rfl (hb hby d_prog_16_method_4_code_34) rfl (l' := #[.val (.ref w0), .val (.ref r19), .val (.int (5 : Int32)), .val (.int (2 : Int32)), .val (.ref w3)]) rfl ?_
    show Steps p.tables e below (T24.setTop (mkF m 37 #[.val (.ref w0), .val (.ref r19), .val (.int (5 : Int32)), .val (.int (2 : Int32)), .val (.ref w3)] [])) _
    refine XS.goto X24.here hx rfl (pc0 := 37) (pc' := 9) rfl (hb hby d_prog_16_method_4_code_37) (by decide) (by decide) ?_
    show Steps p.tables e below (T24.setTop (mkF m 9 #[.val (.ref w0), .val (.ref r19), .val (.int (5 : Int32)), .val (.int (2 : Int32)), .val (.ref w3)] [])) _
    refine XS.iloadN X24.here hx rfl (hb hby d_prog_16_method_4_code_9) rfl ?_
    show Steps p.tables e below (T24.setTop (mkF m 10 #[.val (.ref w0), .val (.ref r19), .val (.int (5 : Int32)), .val (.int (2 : Int32)), .val (.ref w3)] [(.int (2 : Int32))])) _
    refine XS.iloadN X24.here hx rfl (hb hby d_prog_16_method_4_code_10) rfl ?_
    show Steps p.tables e below (T24.setTop (mkF m 11 #[.val (.ref w0), .val (.ref r19), .val (.int (5 : Int32)), .val (.int (2 : Int32)), .val (.ref w3)] [(.int (5 : Int32)), (.int (2 : Int32))])) _
    refine XS.icmpNo X24.here hx rfl (hb hby d_prog_16_method_4_code_11) rfl (by decide) ?_
    show Steps p.tables e below (T24.setTop (mkF m 14 #[.val (.ref w0), .val (.ref r19), .val (.int (5 : Int32)), .val (.int (2 : Int32)), .val (.ref w3)] [])) _
    refine XS.aloadN X24.here hx rfl (hb hby d_prog_16_method_4_code_14) rfl rfl ?_
    show Steps p.tables e below (T24.setTop (mkF m 15 #[.val (.ref w0), .val (.ref r19), .val (.int (5 : Int32)), .val (.int (2 : Int32)), .val (.ref w3)] [(.ref r19)])) _
    refine XS.iloadN X24.here hx rfl (hb hby d_prog_16_method_4_code_15) rfl ?_
    show Steps p.tables e below (T24.setTop (mkF m 16 #[.val (.ref w0), .val (.ref r19), .val (.int (5 : Int32)), .val (.int (2 : Int32)), .val (.ref w3)] [(.int (2 : Int32)), (.ref r19)])) _
    refine X24.aaload hx (j := (2 : Int32)) (v := (.ref w4)) (by rw [e24]; exact Ar25.1) (State.isArrayOf_alike hZ.alike Ar25.2.1) rfl Ar25.2.2 hin25 hat25 (g := (mkF m 16 #[.val (.ref w0), .val (.ref r19), .val (.int (5 : Int32)), .val (.int (2 : Int32)), .val (.ref w3)] [(.int (2 : Int32)), (.ref r19)])) rfl rfl (hb hby d_prog_16_method_4_code_16) _ ?_
    show Steps p.tables e below (T24.setTop (mkF m 17 #[.val (.ref w0), .val (.ref r19), .val (.int (5 : Int32)), .val (.int (2 : Int32)), .val (.ref w3)] [(.ref w4)])) _
    refine XS.astore X24.here hx rfl (hb hby d_prog_16_method_4_code_17) rfl rfl (l' := #[.val (.ref w0), .val (.ref r19), .val (.int (5 : Int32)), .val (.int (2 : Int32)), .val (.ref w4)]) rfl ?_
    show Steps p.tables e below (T24.setTop (mkF m 19 #[.val (.ref w0), .val (.ref r19), .val (.int (5 : Int32)), .val (.int (2 : Int32)), .val (.ref w4)] [])) _
    refine XS.aload X24.here hx rfl (hb hby d_prog_16_method_4_code_19) rfl rfl ?_
    show Steps p.tables e below (T24.setTop (mkF m 21 #[.val (.ref w0), .val (.ref r19), .val (.int (5 : Int32)), .val (.int (2 : Int32)), .val (.ref w4)] [(.ref w4)])) _
    refine st26 _ ?_
    show Steps p.tables e below (T26.setTop (mkF m 24 #[.val (.ref w0), .val (.ref r19), .val (.int (5 : Int32)), .val (.int (2 : Int32)), .val (.ref w4)] [(.ref w9)])) _
    refine XS.aloadN X26.here hx rfl (hb hby d_prog_16_method_4_code_24) rfl rfl ?_
    show Steps p.tables e below (T26.setTop (mkF m 25 #[.val (.ref w0), .val (.ref r19), .val (.int (5 : Int32)), .val (.int (2 : Int32)), .val (.ref w4)] [(.ref w0), (.ref w9)])) _
    refine Jvm.RoadKit.acmp (g := (mkF m 25 #[.val (.ref w0), .val (.ref r19), .val (.int (5 : Int32)), .val (.int (2 : Int32)), .val (.ref w4)] [(.ref w0), (.ref w9)])) X26 hx rfl rfl rfl (pc0 := 25) (pc' := 34) (same := false) rfl (hb hby d_prog_16_method_4_code_25) rfl (decide_eq_false fun q => (Fld.ne wF9_ordinal wF0_ordinal (fun q => absurd (Value.int.inj q) (by decide))) (Value.ref.inj q)) (by decide) (by decide) ?_
    show Steps p.tables e below (T26.setTop (mkF m 34 #[.val (.ref w0), .val (.ref r19), .val (.int (5 : Int32)), .val (.int (2 : Int32)), .val (.ref w4)] [])) _
    refine XS.iinc X26.here hx rfl (hb hby d_prog_16_method_4_code_34) rfl (l' := #[.val (.ref w0), .val (.ref r19), .val (.int (5 : Int32)), .val (.int (3 : Int32)), .val (.ref w4)]) rfl ?_
    show Steps p.tables e below (T26.setTop (mkF m 37 #[.val (.ref w0), .val (.ref r19), .val (.int (5 : Int32)), .val (.int (3 : Int32)), .val (.ref w4)] [])) _
    refine XS.goto X26.here hx rfl (pc0 := 37) (pc' := 9) rfl (hb hby d_prog_16_method_4_code_37) (by decide) (by decide) ?_
    show Steps p.tables e below (T26.setTop (mkF m 9 #[.val (.ref w0), .val (.ref r19), .val (.int (5 : Int32)), .val (.int (3 : Int32)), .val (.ref w4)] [])) _
    refine XS.iloadN X26.here hx rfl (hb hby d_prog_16_method_4_code_9) rfl ?_
    show Steps p.tables e below (T26.setTop (mkF m 10 #[.val (.ref w0), .val (.ref r19), .val (.int (5 : Int32)), .val (.int (3 : Int32)), .val (.ref w4)] [(.int (3 : Int32))])) _
    refine XS.iloadN X26.here hx rfl (hb hby d_prog_16_method_4_code_10) rfl ?_
    show Steps p.tables e below (T26.setTop (mkF m 11 #[.val (.ref w0), .val (.ref r19), .val (.int (5 : Int32)), .val (.int (3 : Int32)), .val (.ref w4)] [(.int (5 : Int32)), (.int (3 : Int32))])) _
    refine XS.icmpNo X26.here hx rfl (hb hby d_prog_16_method_4_code_11) rfl (by decide) ?_
    show Steps p.tables e below (T26.setTop (mkF m 14 #[.val (.ref w0), .val (.ref r19), .val (.int (5 : Int32)), .val (.int (3 : Int32)), .val (.ref w4)] [])) _
    refine XS.aloadN X26.here hx rfl (hb hby d_prog_16_method_4_code_14) rfl rfl ?_
    show Steps p.tables e below (T26.setTop (mkF m 15 #[.val (.ref w0), .val (.ref r19), .val (.int (5 : Int32)), .val (.int (3 : Int32)), .val (.ref w4)] [(.ref r19)])) _
    refine XS.iloadN X26.here hx rfl (hb hby d_prog_16_method_4_code_15) rfl ?_
    show Steps p.tables e below (T26.setTop (mkF m 16 #[.val (.ref w0), .val (.ref r19), .val (.int (5 : Int32)), .val (.int (3 : Int32)), .val (.ref w4)] [(.int (3 : Int32)), (.ref r19)])) _
    refine X26.aaload hx (j := (3 : Int32)) (v := (.ref w5)) (by rw [e26]; exact Ar27.1) (State.isArrayOf_alike hZ.alike Ar27.2.1) rfl Ar27.2.2 hin27 hat27 (g := (mkF m 16 #[.val (.ref w0), .val (.ref r19), .val (.int (5 : Int32)), .val (.int (3 : Int32)), .val (.ref w4)] [(.int (3 : Int32)), (.ref r19)])) rfl rfl (hb hby d_prog_16_method_4_code_16) _ ?_
    show Steps p.tables e below (T26.setTop (mkF m 17 #[.val (.ref w0), .val (.ref r19), .val (.int (5 : Int32)), .val (.int (3 : Int32)), .val (.ref w4)] [(.ref w5)])) _
    refine XS.astore X26.here hx rfl (hb hby d_prog_16_method_4_code_17) rfl rfl (l' := #[.val (.ref w0), .val (.ref r19), .val (.int (5 : Int32)), .val (.int (3 : Int32)), .val (.ref w5)]) rfl ?_
    show Steps p.tables e below (T26.setTop (mkF m 19 #[.val (.ref w0), .val (.ref r19), .val (.int (5 : Int32)), .val (.int (3 : Int32)), .val (.ref w5)] [])) _
    refine XS.aload X26.here hx rfl (hb hby d_prog_16_method_4_code_19) rfl rfl ?_
    show Steps p.tables e below (T26.setTop (mkF m 21 #[.val (.ref w0), .val (.ref r19), .val (.int (5 : Int32)), .val (.int (3 : Int32)), .val (.ref w5)] [(.ref w5)])) _
    refine st28 _ ?_
    show Steps p.tables e below (T28.setTop (mkF m 24 #[.val (.ref w0), .val (.ref r19), .val (.int (5 : Int32)), .val (.int (3 : Int32)), .val (.ref w5)] [(.ref w10)])) _
    refine XS.aloadN X28.here hx rfl (hb hby d_prog_16_method_4_code_24) rfl rfl ?_
    show Steps p.tables e below (T28.setTop (mkF m 25 #[.val (.ref w0), .val (.ref r19), .val (.int (5 : Int32)), .val (.int (3 : Int32)), .val (.ref w5)] [(.ref w0), (.ref w10)])) _
    refine Jvm.RoadKit.acmp (g := (mkF m 25 #[.val (.ref w0), .val (.ref r19), .val (.int (5 : Int32)), .val (.int (3 : Int32)), .val (.ref w5)] [(.ref w0), (.ref w10)])) X28 hx rfl rfl rfl (pc0 := 25) (pc' := 34) (same := false) rfl (hb hby d_prog_16_method_4_code_25) rfl (decide_eq_false fun q => (Fld.ne wF10_ordinal wF0_ordinal (fun q => absurd (Value.int.inj q) (by decide))) (Value.ref.inj q)) (by decide) (by decide) ?_
    show Steps p.tables e below (T28.setTop (mkF m 34 #[.val (.ref w0), .val (.ref r19), .val (.int (5 : Int32)), .val (.int (3 : Int32)), .val (.ref w5)] [])) _
    refine XS.iinc X28.here hx rfl (hb hby d_prog_16_method_4_code_34) rfl (l' := #[.val (.ref w0), .val (.ref r19), .val (.int (5 : Int32)), .val (.int (4 : Int32)), .val (.ref w5)]) rfl ?_
    show Steps p.tables e below (T28.setTop (mkF m 37 #[.val (.ref w0), .val (.ref r19), .val (.int (5 : Int32)), .val (.int (4 : Int32)), .val (.ref w5)] [])) _
    refine XS.goto X28.here hx rfl (pc0 := 37) (pc' := 9) rfl (hb hby d_prog_16_method_4_code_37) (by decide) (by decide) ?_
    show Steps p.tables e below (T28.setTop (mkF m 9 #[.val (.ref w0), .val (.ref r19), .val (.int (5 : Int32)), .val (.int (4 : Int32)), .val (.ref w5)] [])) _
    refine XS.iloadN X28.here hx rfl (hb hby d_prog_16_method_4_code_9) rfl ?_
    show Steps p.tables e below (T28.setTop (mkF m 10 #[.val (.ref w0), .val (.ref r19), .val (.int (5 : Int32)), .val (.int (4 : Int32)), .val (.ref w5)] [(.int (4 : Int32))])) _
    refine XS.iloadN X28.here hx rfl (hb hby d_prog_16_method_4_code_10) rfl ?_
    show Steps p.tables e below (T28.setTop (mkF m 11 #[.val (.ref w0), .val (.ref r19), .val (.int (5 : Int32)), .val (.int (4 : Int32)), .val (.ref w5)] [(.int (5 : Int32)), (.int (4 : Int32))])) _
    refine XS.icmpNo X28.here hx rfl (hb hby d_prog_16_method_4_code_11) rfl (by decide) ?_
    show Steps p.tables e below (T28.setTop (mkF m 14 #[.val (.ref w0), .val (.ref r19), .val (.int (5 : Int32)), .val (.int (4 : Int32)), .val (.ref w5)] [])) _
    refine XS.aloadN X28.here hx rfl (hb hby d_prog_16_method_4_code_14) rfl rfl ?_
    show Steps p.tables e below (T28.setTop (mkF m 15 #[.val (.ref w0), .val (.ref r19), .val (.int (5 : Int32)), .val (.int (4 : Int32)), .val (.ref w5)] [(.ref r19)])) _
    refine XS.iloadN X28.here hx rfl (hb hby d_prog_16_method_4_code_15) rfl ?_
    show Steps p.tables e below (T28.setTop (mkF m 16 #[.val (.ref w0), .val (.ref r19), .val (.int (5 : Int32)), .val (.int (4 : Int32)), .val (.ref w5)] [(.int (4 : Int32)), (.ref r19)])) _
    refine X28.aaload hx (j := (4 : Int32)) (v := (.ref w6)) (by rw [e28]; exact Ar29.1) (State.isArrayOf_alike hZ.alike Ar29.2.1) rfl Ar29.2.2 hin29 hat29 (g := (mkF m 16 #[.val (.ref w0), .val (.ref r19), .val (.int (5 : Int32)), .val (.int (4 : Int32)), .val (.ref w5)] [(.int (4 : Int32)), (.ref r19)])) rfl rfl (hb hby d_prog_16_method_4_code_16) _ ?_
    show Steps p.tables e below (T28.setTop (mkF m 17 #[.val (.ref w0), .val (.ref r19), .val (.int (5 : Int32)), .val (.int (4 : Int32)), .val (.ref w5)] [(.ref w6)])) _
    refine XS.astore X28.here hx rfl (hb hby d_prog_16_method_4_code_17) rfl rfl (l' := #[.val (.ref w0), .val (.ref r19), .val (.int (5 : Int32)), .val (.int (4 : Int32)), .val (.ref w6)]) rfl ?_
    show Steps p.tables e below (T28.setTop (mkF m 19 #[.val (.ref w0), .val (.ref r19), .val (.int (5 : Int32)), .val (.int (4 : Int32)), .val (.ref w6)] [])) _
    refine XS.aload X28.here hx rfl (hb hby d_prog_16_method_4_code_19) rfl rfl ?_
    show Steps p.tables e below (T28.setTop (mkF m 21 #[.val (.ref w0), .val (.ref r19), .val (.int (5 : Int32)), .val (.int (4 : Int32)), .val (.ref w6)] [(.ref w6)])) _
    refine st30 _ ?_
    show Steps p.tables e below (T30.setTop (mkF m 24 #[.val (.ref w0), .val (.ref r19), .val (.int (5 : Int32)), .val (.int (4 : Int32)), .val (.ref w6)] [(.ref w11)])) _
    refine XS.aloadN X30.here hx rfl (hb hby d_prog_16_method_4_code_24) rfl rfl ?_
    show Steps p.tables e below (T30.setTop (mkF m 25 #[.val (.ref w0), .val (.ref r19), .val (.int (5 : Int32)), .val (.int (4 : Int32)), .val (.ref w6)] [(.ref w0), (.ref w11)])) _
    refine Jvm.RoadKit.acmp (g := (mkF m 25 #[.val (.ref w0), .val (.ref r19), .val (.int (5 : Int32)), .val (.int (4 : Int32)), .val (.ref w6)] [(.ref w0), (.ref w11)])) X30 hx rfl rfl rfl (pc0 := 25) (pc' := 34) (same := false) rfl (hb hby d_prog_16_method_4_code_25) rfl (decide_eq_false fun q => (Fld.ne wF11_ordinal wF0_ordinal (fun q => absurd (Value.int.inj q) (by decide))) (Value.ref.inj q)) (by decide) (by decide) ?_
    show Steps p.tables e below (T30.setTop (mkF m 34 #[.val (.ref w0), .val (.ref r19), .val (.int (5 : Int32)), .val (.int (4 : Int32)), .val (.ref w6)] [])) _
    refine XS.iinc X30.here hx rfl (hb hby d_prog_16_method_4_code_34) rfl (l' := #[.val (.ref w0), .val (.ref r19), .val (.int (5 : Int32)), .val (.int (5 : Int32)), .val (.ref w6)]) rfl ?_
    show Steps p.tables e below (T30.setTop (mkF m 37 #[.val (.ref w0), .val (.ref r19), .val (.int (5 : Int32)), .val (.int (5 : Int32)), .val (.ref w6)] [])) _
    refine XS.goto X30.here hx rfl (pc0 := 37) (pc' := 9) rfl (hb hby d_prog_16_method_4_code_37) (by decide) (by decide) ?_
    show Steps p.tables e below (T30.setTop (mkF m 9 #[.val (.ref w0), .val (.ref r19), .val (.int (5 : Int32)), .val (.int (5 : Int32)), .val (.ref w6)] [])) _
    refine XS.iloadN X30.here hx rfl (hb hby d_prog_16_method_4_code_9) rfl ?_
    show Steps p.tables e below (T30.setTop (mkF m 10 #[.val (.ref w0), .val (.ref r19), .val (.int (5 : Int32)), .val (.int (5 : Int32)), .val (.ref w6)] [(.int (5 : Int32))])) _
    refine XS.iloadN X30.here hx rfl (hb hby d_prog_16_method_4_code_10) rfl ?_
    show Steps p.tables e below (T30.setTop (mkF m 11 #[.val (.ref w0), .val (.ref r19), .val (.int (5 : Int32)), .val (.int (5 : Int32)), .val (.ref w6)] [(.int (5 : Int32)), (.int (5 : Int32))])) _
    refine XS.icmpYes X30.here hx rfl (pc0 := 11) (pc' := 40) rfl (hb hby d_prog_16_method_4_code_11) rfl (by decide) (by decide) (by decide) ?_
    show Steps p.tables e below (T30.setTop (mkF m 40 #[.val (.ref w0), .val (.ref r19), .val (.int (5 : Int32)), .val (.int (5 : Int32)), .val (.ref w6)] [])) _
    refine st32 _ ?_
    show Steps p.tables e below (T32.setTop (mkF m 43 #[.val (.ref w0), .val (.ref r19), .val (.int (5 : Int32)), .val (.int (5 : Int32)), .val (.ref w6)] [(.ref w17)])) _
    exact retOut X32 hx (t := (.object "java/util/Optional")) (i := .areturn) Bd.returns rfl (Or.inr (Or.inr (Or.inr (Or.inr ⟨rfl, rfl, rfl⟩)))) (hb hby d_prog_16_method_4_code_43) hr
  · show Qerm3 Z w0 w1 w2 w3 w4 w5 w6 w7 w8 w9 w10 w11 w12 w13 w14 w15 w16 w17 h0 n0 _ T32.heap _
    rw [e32]
    exact ⟨rfl, N32, Kp19, O_19⟩
theorem pd4 : parseMethodDescriptor "(Lcom/example/weaverbird/weaverbird/codes/CommandType;)Ljava/util/Optional;" = some ⟨[(.object "com/example/weaverbird/weaverbird/codes/CommandType")], some (.object "java/util/Optional")⟩ := by decide +kernel
theorem d_jdk_32_method_15_code_0 : decode jdk_32_method_15_code 0 = .ok (.aload_n 0, 1) := by decide +kernel
theorem d_jdk_32_method_15_code_1 : decode jdk_32_method_15_code 1 = .ok (.getfield 13, 3) := by decide +kernel
theorem d_jdk_32_method_15_code_4 : decode jdk_32_method_15_code 4 = .ok (.ifnull 10, 3) := by decide +kernel
theorem d_jdk_32_method_15_code_14 : decode jdk_32_method_15_code 14 = .ok (.aload_n 1, 1) := by decide +kernel
theorem d_jdk_32_method_15_code_15 : decode jdk_32_method_15_code 15 = .ok (.areturn, 1) := by decide +kernel
theorem ef4 (m : MethodId)   (w17 : Addr) : entryFrame m #[(.ref w17), .null] 2 = mkF m 0 #[.val (.ref w17), .val .null] [] := by first | (simp [entryFrame, mkF, argsToLocals, Value.category]; done) | rfl
set_option maxRecDepth 65536 in
set_option maxHeartbeats 40000000 in
theorem rm6 (l : Launch) (Z : State) (a0 : Array Value) (hw : ∀ d ∈ tables_1, d.before a0 Z = true) (ws : List Jvm.Cond) (w0 w1 w2 w3 w4 w5 w6 w7 w8 w9 w10 w11 w12 w13 w14 w15 w16 w17 : Addr) (h0 : Heap) (n0 : Nat) (hWd : Wd Z w0 w1 w2 w3 w4 w5 w6 w7 w8 w9 w10 w11 w12 w13 w14 w15 w16 w17) (O0 : Old Z n0 h0) :
    MetFree l (⟨"java/util/Optional", "orElse", "(Ljava/lang/Object;)Ljava/lang/Object;"⟩ : MethodName) (head1 (Jvm.Cond.code (⟨"java/util/Optional", "orElse", "(Ljava/lang/Object;)Ljava/lang/Object;"⟩ : MethodName) jdk_32_method_15_code 2 (some (.object "java/lang/Object")) :: ws) ({ frames := 0, cells := 0, slots := 0, locals := 0 } : Room)) (fun a U => a = #[(.ref w17), .null] ∧ Z.Warmed39 U.vm ∧ U.heap = h0) (fun _ _ _ _ _ => True) (fun _ U o U' => ∃ v L, o = .returned v ∧ Qp (some .null) h0 n0 v U'.heap L ∧ FrameEnd U o U' L ({ frames := 0, cells := 0, slots := 0, locals := 0 } : Room).cells ({ frames := 0, cells := 0, slots := 0, locals := 0 } : Room).slots) := by
  refine MetFree.of_bodySF (plainFor_of_name pn2) hisR ?_
  intro p e s m args below meth c s₁ Bd hml0 hP hK
  obtain ⟨rfl, hZ, hh⟩ := hP
  have hx := Bd.exec
  have hby := Bd.bytes
  have hml : c.maxLocals = 2 := hml0
  have hown : s.vm.findClass "java/util/Optional" = some m.cls := findClass_of_methodNamed Bd.named
  have hnm := (name_of_methodNamed Bd.named Bd.method).1
  have X0 : Stand p l e ({ frames := 0, cells := 0, slots := 0, locals := 0 } : Room) s m #[(.ref w17), .null] below meth c s₁ [] 0 0 := Stand.of_body Bd
  have e0 : s₁.heap = h0 := by rw [← hh, Bd.state]; rfl
  have N0 := Fr.nil n0
  have hlk := Bd.notSynchronized
  obtain ⟨wS0, wE0, wS1, wE1, wS2, wE2, wS3, wE3, wS4, wE4, wS5, wE5, wS6, wE6, wS7, wE7, wS8, wE8, wS9, wE9, wS10, wE10, wS11, wE11, wS12, wE12, wS13, wE13, wS14, wE14, wS15, wE15, wS16, wE16, wS17, wE17, wF2_type, wF7_ordinal, wF0_ordinal, wF3_type, wF8_ordinal, wF4_type, wF9_ordinal, wF5_type, wF10_ordinal, wF6_type, wF11_ordinal, wF12_ordinal, wF13_ordinal, wF14_ordinal, wF15_ordinal, wF16_ordinal, wF17_value, wA, -⟩ := id hWd
  have pre0 : ∀ t, Steps p.tables e below (s₁.setTop (mkF m 0 #[.val (.ref w17), .val .null] [])) t → Steps p.tables e below (s₁.setTop (entryFrame m #[(.ref w17), .null] 2)) t := fun t k => castTop (ef4 m w17) k
  obtain ⟨T34, X34, e34, st34⟩ := getF X0 hx hZ hown (host := "") (Or.inl (hw _ (List.mem_of_getElem? (i := 52) rfl))) Via.refl e0 (wF17_value.ext O0.2) (g := (mkF m 1 #[.val (.ref w17), .val .null] [(.ref w17)])) rfl rfl (hb hby d_jdk_32_method_15_code_1)
  obtain ⟨fs, hr, hrun, hended, hWr, hsame⟩ := X34.leave (v := some .null) (fun h => by rw [Bd.returns] at h; cases h) hlk
  refine ⟨_, _, pre0 _ ?_, hrun, hended, _, _, rfl, ?_, ⟨_, rfl⟩, hWr, hsame.mono (Nat.le_of_ble_eq_true rfl) (Nat.le_of_ble_eq_true rfl)⟩
  · show Steps p.tables e below (s₁.setTop (mkF m 0 #[.val (.ref w17), .val .null] [])) _
    refine XS.aloadN X0.here hx rfl (hb hby d_jdk_32_method_15_code_0) rfl rfl ?_
    show Steps p.tables e below (s₁.setTop (mkF m 1 #[.val (.ref w17), .val .null] [(.ref w17)])) _
    refine st34 _ ?_
    show Steps p.tables e below (T34.setTop (mkF m 4 #[.val (.ref w17), .val .null] [.null])) _
    refine XS.ifnullYes X34.here hx rfl (pc0 := 4) (pc' := 14) rfl (hb hby d_jdk_32_method_15_code_4) rfl (by decide) (by decide) ?_
    show Steps p.tables e below (T34.setTop (mkF m 14 #[.val (.ref w17), .val .null] [])) _
    refine XS.aloadN X34.here hx rfl (hb hby d_jdk_32_method_15_code_14) rfl rfl ?_
    show Steps p.tables e below (T34.setTop (mkF m 15 #[.val (.ref w17), .val .null] [.null])) _
    exact retOut X34 hx (t := (.object "java/lang/Object")) (i := .areturn) Bd.returns rfl (Or.inr (Or.inr (Or.inr (Or.inr ⟨rfl, rfl, rfl⟩)))) (hb hby d_jdk_32_method_15_code_15) hr
  · show Qp (some .null) h0 n0 _ T34.heap _
    rw [e34]
    exact ⟨rfl, N0, rfl⟩
theorem pd5 : parseMethodDescriptor "(Ljava/lang/Object;)Ljava/lang/Object;" = some ⟨[(.object "java/lang/Object")], some (.object "java/lang/Object")⟩ := by decide +kernel
theorem d_method_3_code_8 : decode method_3_code 8 = .ok (.iload_n 0, 1) := by decide +kernel
theorem d_method_3_code_9 : decode method_3_code 9 = .ok (.iconst 1, 1) := by decide +kernel
theorem d_method_3_code_10 : decode method_3_code 10 = .ok (.if_icmp .ne 7, 3) := by decide +kernel
theorem d_method_3_code_13 : decode method_3_code 13 = .ok (.getstatic 36, 3) := by decide +kernel
theorem d_method_3_code_16 : decode method_3_code 16 = .ok (.areturn, 1) := by decide +kernel
theorem ef5 (m : MethodId)    : entryFrame m #[(.int (1 : Int32))] 1 = mkF m 0 #[.val (.int (1 : Int32))] [] := by first | (simp [entryFrame, mkF, argsToLocals, Value.category]; done) | rfl
set_option maxRecDepth 65536 in
set_option maxHeartbeats 40000000 in
theorem rm7 (l : Launch) (Z : State) (a0 : Array Value) (hw : ∀ d ∈ tables_1, d.before a0 Z = true) (ws : List Jvm.Cond) (w0 w1 w2 w3 w4 w5 w6 w7 w8 w9 w10 w11 w12 w13 w14 w15 w16 w17 : Addr) (h0 : Heap) (n0 : Nat) (hWd : Wd Z w0 w1 w2 w3 w4 w5 w6 w7 w8 w9 w10 w11 w12 w13 w14 w15 w16 w17) (O0 : Old Z n0 h0) :
    MetFree l (⟨"com/example/weaverbird/weaverbird/queues/RunActionOfPinLaw", "typeAt", "(I)Lcom/example/weaverbird/weaverbird/codes/CommandType;"⟩ : MethodName) (head1 (Jvm.Cond.code (⟨"com/example/weaverbird/weaverbird/queues/RunActionOfPinLaw", "typeAt", "(I)Lcom/example/weaverbird/weaverbird/codes/CommandType;"⟩ : MethodName) method_3_code 1 (some (.object "com/example/weaverbird/weaverbird/codes/CommandType")) :: ws) ({ frames := 0, cells := 0, slots := 0, locals := 0 } : Room)) (fun a U => a = #[(.int (1 : Int32))] ∧ Z.Warmed39 U.vm ∧ U.heap = h0) (fun _ _ _ _ _ => True) (fun _ U o U' => ∃ v L, o = .returned v ∧ Qp (some (.ref w14)) h0 n0 v U'.heap L ∧ FrameEnd U o U' L ({ frames := 0, cells := 0, slots := 0, locals := 0 } : Room).cells ({ frames := 0, cells := 0, slots := 0, locals := 0 } : Room).slots) := by
  refine MetFree.of_bodySF (plainFor_of_name pn0) hisR ?_
  intro p e s m args below meth c s₁ Bd hml0 hP hK
  obtain ⟨rfl, hZ, hh⟩ := hP
  have hx := Bd.exec
  have hby := Bd.bytes
  have hml : c.maxLocals = 1 := hml0
  have hown : s.vm.findClass "com/example/weaverbird/weaverbird/queues/RunActionOfPinLaw" = some m.cls := findClass_of_methodNamed Bd.named
  have hnm := (name_of_methodNamed Bd.named Bd.method).1
  have X0 : Stand p l e ({ frames := 0, cells := 0, slots := 0, locals := 0 } : Room) s m #[(.int (1 : Int32))] below meth c s₁ [] 0 0 := Stand.of_body Bd
  have e0 : s₁.heap = h0 := by rw [← hh, Bd.state]; rfl
  have N0 := Fr.nil n0
  have hlk := Bd.notSynchronized
  obtain ⟨wS0, wE0, wS1, wE1, wS2, wE2, wS3, wE3, wS4, wE4, wS5, wE5, wS6, wE6, wS7, wE7, wS8, wE8, wS9, wE9, wS10, wE10, wS11, wE11, wS12, wE12, wS13, wE13, wS14, wE14, wS15, wE15, wS16, wE16, wS17, wE17, wF2_type, wF7_ordinal, wF0_ordinal, wF3_type, wF8_ordinal, wF4_type, wF9_ordinal, wF5_type, wF10_ordinal, wF6_type, wF11_ordinal, wF12_ordinal, wF13_ordinal, wF14_ordinal, wF15_ordinal, wF16_ordinal, wF17_value, wA, -⟩ := id hWd
  have pre0 : ∀ t, Steps p.tables e below (s₁.setTop (mkF m 0 #[.val (.int (1 : Int32))] [])) t → Steps p.tables e below (s₁.setTop (entryFrame m #[(.int (1 : Int32))] 1)) t := fun t k => castTop (ef5 m ) k
  obtain ⟨T36, X36, e36, st36⟩ := getS2 X0 hx hZ hown (host := "") (Or.inl (hw _ (List.mem_of_getElem? (i := 82) rfl))) Via.refl e0 (wS14.ext O0.2) (g := (mkF m 13 #[.val (.int (1 : Int32))] [])) rfl (hb hby d_method_3_code_13)
  obtain ⟨fs, hr, hrun, hended, hWr, hsame⟩ := X36.leave (v := some (.ref w14)) (fun h => by rw [Bd.returns] at h; cases h) hlk
  refine ⟨_, _, pre0 _ ?_, hrun, hended, _, _, rfl, ?_, ⟨_, rfl⟩, hWr, hsame.mono (Nat.le_of_ble_eq_true rfl) (Nat.le_of_ble_eq_true rfl)⟩
  · show Steps p.tables e below (s₁.setTop (mkF m 0 #[.val (.int (1 : Int32))] [])) _
    refine XS.iloadN X0.here hx rfl (hb hby d_method_3_code_0) rfl ?_
    show Steps p.tables e below (s₁.setTop (mkF m 1 #[.val (.int (1 : Int32))] [(.int (1 : Int32))])) _
    refine XS.ifYes X0.here hx rfl (pc0 := 1) (pc' := 8) rfl (hb hby d_method_3_code_1) rfl (by decide) (by decide) (by decide) ?_
    show Steps p.tables e below (s₁.setTop (mkF m 8 #[.val (.int (1 : Int32))] [])) _
    refine XS.iloadN X0.here hx rfl (hb hby d_method_3_code_8) rfl ?_
    show Steps p.tables e below (s₁.setTop (mkF m 9 #[.val (.int (1 : Int32))] [(.int (1 : Int32))])) _
    refine XS.iconst X0.here hx rfl (hb hby d_method_3_code_9) ?_
    show Steps p.tables e below (s₁.setTop (mkF m 10 #[.val (.int (1 : Int32))] [(.int (1 : Int32)), (.int (1 : Int32))])) _
    refine XS.icmpNo X0.here hx rfl (hb hby d_method_3_code_10) rfl (by decide) ?_
    show Steps p.tables e below (s₁.setTop (mkF m 13 #[.val (.int (1 : Int32))] [])) _
    refine st36 _ ?_
    show Steps p.tables e below (T36.setTop (mkF m 16 #[.val (.int (1 : Int32))] [(.ref w14)])) _
    exact retOut X36 hx (t := (.object "com/example/weaverbird/weaverbird/codes/CommandType")) (i := .areturn) Bd.returns rfl (Or.inr (Or.inr (Or.inr (Or.inr ⟨rfl, rfl, rfl⟩)))) (hb hby d_method_3_code_16) hr
  · show Qp (some (.ref w14)) h0 n0 _ T36.heap _
    rw [e36]
    exact ⟨rfl, N0, rfl⟩
set_option maxRecDepth 65536 in
set_option maxHeartbeats 40000000 in
theorem rm8 (l : Launch) (Z : State) (a0 : Array Value) (hw : ∀ d ∈ tables_1, d.before a0 Z = true) (ws : List Jvm.Cond) (w0 w1 w2 w3 w4 w5 w6 w7 w8 w9 w10 w11 w12 w13 w14 w15 w16 w17 : Addr) (h0 : Heap) (n0 : Nat) (hWd : Wd Z w0 w1 w2 w3 w4 w5 w6 w7 w8 w9 w10 w11 w12 w13 w14 w15 w16 w17) (O0 : Old Z n0 h0) :
    MetFree l (⟨"com/example/weaverbird/weaverbird/queues/RunActionOfPinLaw", "expectedFor", "(I)Lcom/example/weaverbird/weaverbird/queues/RunAction;"⟩ : MethodName) (head1 (Jvm.Cond.code (⟨"com/example/weaverbird/weaverbird/queues/RunActionOfPinLaw", "expectedFor", "(I)Lcom/example/weaverbird/weaverbird/queues/RunAction;"⟩ : MethodName) method_4_code 1 (some (.object "com/example/weaverbird/weaverbird/queues/RunAction")) :: ws) ({ frames := 0, cells := 0, slots := 0, locals := 0 } : Room)) (fun a U => a = #[(.int (1 : Int32))] ∧ Z.Warmed39 U.vm ∧ U.heap = h0) (fun _ _ _ _ _ => True) (fun _ U o U' => ∃ v L, o = .returned v ∧ Qp (some .null) h0 n0 v U'.heap L ∧ FrameEnd U o U' L ({ frames := 0, cells := 0, slots := 0, locals := 0 } : Room).cells ({ frames := 0, cells := 0, slots := 0, locals := 0 } : Room).slots) := by
  refine MetFree.of_bodySF (plainFor_of_name pn0) hisR ?_
  intro p e s m args below meth c s₁ Bd hml0 hP hK
  obtain ⟨rfl, hZ, hh⟩ := hP
  have hx := Bd.exec
  have hby := Bd.bytes
  have hml : c.maxLocals = 1 := hml0
  have hown : s.vm.findClass "com/example/weaverbird/weaverbird/queues/RunActionOfPinLaw" = some m.cls := findClass_of_methodNamed Bd.named
  have hnm := (name_of_methodNamed Bd.named Bd.method).1
  have X0 : Stand p l e ({ frames := 0, cells := 0, slots := 0, locals := 0 } : Room) s m #[(.int (1 : Int32))] below meth c s₁ [] 0 0 := Stand.of_body Bd
  have e0 : s₁.heap = h0 := by rw [← hh, Bd.state]; rfl
  have N0 := Fr.nil n0
  have hlk := Bd.notSynchronized
  obtain ⟨wS0, wE0, wS1, wE1, wS2, wE2, wS3, wE3, wS4, wE4, wS5, wE5, wS6, wE6, wS7, wE7, wS8, wE8, wS9, wE9, wS10, wE10, wS11, wE11, wS12, wE12, wS13, wE13, wS14, wE14, wS15, wE15, wS16, wE16, wS17, wE17, wF2_type, wF7_ordinal, wF0_ordinal, wF3_type, wF8_ordinal, wF4_type, wF9_ordinal, wF5_type, wF10_ordinal, wF6_type, wF11_ordinal, wF12_ordinal, wF13_ordinal, wF14_ordinal, wF15_ordinal, wF16_ordinal, wF17_value, wA, -⟩ := id hWd
  have pre0 : ∀ t, Steps p.tables e below (s₁.setTop (mkF m 0 #[.val (.int (1 : Int32))] [])) t → Steps p.tables e below (s₁.setTop (entryFrame m #[(.int (1 : Int32))] 1)) t := fun t k => castTop (ef5 m ) k
  obtain ⟨fs, hr, hrun, hended, hWr, hsame⟩ := X0.leave (v := some .null) (fun h => by rw [Bd.returns] at h; cases h) hlk
  refine ⟨_, _, pre0 _ ?_, hrun, hended, _, _, rfl, ?_, ⟨_, rfl⟩, hWr, hsame.mono (Nat.le_of_ble_eq_true rfl) (Nat.le_of_ble_eq_true rfl)⟩
  · show Steps p.tables e below (s₁.setTop (mkF m 0 #[.val (.int (1 : Int32))] [])) _
    refine XS.iloadN X0.here hx rfl (hb hby d_method_4_code_0) rfl ?_
    show Steps p.tables e below (s₁.setTop (mkF m 1 #[.val (.int (1 : Int32))] [(.int (1 : Int32))])) _
    refine XS.iconst X0.here hx rfl (hb hby d_method_4_code_1) ?_
    show Steps p.tables e below (s₁.setTop (mkF m 2 #[.val (.int (1 : Int32))] [(.int (3 : Int32)), (.int (1 : Int32))])) _
    refine XS.icmpYes X0.here hx rfl (pc0 := 2) (pc' := 9) rfl (hb hby d_method_4_code_2) rfl (by decide) (by decide) (by decide) ?_
    show Steps p.tables e below (s₁.setTop (mkF m 9 #[.val (.int (1 : Int32))] [])) _
    refine XS.iloadN X0.here hx rfl (hb hby d_method_4_code_9) rfl ?_
    show Steps p.tables e below (s₁.setTop (mkF m 10 #[.val (.int (1 : Int32))] [(.int (1 : Int32))])) _
    refine XS.iconst X0.here hx rfl (hb hby d_method_4_code_10) ?_
    show Steps p.tables e below (s₁.setTop (mkF m 11 #[.val (.int (1 : Int32))] [(.int (4 : Int32)), (.int (1 : Int32))])) _
    refine XS.icmpYes X0.here hx rfl (pc0 := 11) (pc' := 18) rfl (hb hby d_method_4_code_11) rfl (by decide) (by decide) (by decide) ?_
    show Steps p.tables e below (s₁.setTop (mkF m 18 #[.val (.int (1 : Int32))] [])) _
    refine XS.iloadN X0.here hx rfl (hb hby d_method_4_code_18) rfl ?_
    show Steps p.tables e below (s₁.setTop (mkF m 19 #[.val (.int (1 : Int32))] [(.int (1 : Int32))])) _
    refine XS.bipush X0.here hx rfl (hb hby d_method_4_code_19) ?_
    show Steps p.tables e below (s₁.setTop (mkF m 21 #[.val (.int (1 : Int32))] [(.int (7 : Int32)), (.int (1 : Int32))])) _
    refine XS.icmpYes X0.here hx rfl (pc0 := 21) (pc' := 28) rfl (hb hby d_method_4_code_21) rfl (by decide) (by decide) (by decide) ?_
    show Steps p.tables e below (s₁.setTop (mkF m 28 #[.val (.int (1 : Int32))] [])) _
    refine XS.iloadN X0.here hx rfl (hb hby d_method_4_code_28) rfl ?_
    show Steps p.tables e below (s₁.setTop (mkF m 29 #[.val (.int (1 : Int32))] [(.int (1 : Int32))])) _
    refine XS.bipush X0.here hx rfl (hb hby d_method_4_code_29) ?_
    show Steps p.tables e below (s₁.setTop (mkF m 31 #[.val (.int (1 : Int32))] [(.int (8 : Int32)), (.int (1 : Int32))])) _
    refine XS.icmpYes X0.here hx rfl (pc0 := 31) (pc' := 38) rfl (hb hby d_method_4_code_31) rfl (by decide) (by decide) (by decide) ?_
    show Steps p.tables e below (s₁.setTop (mkF m 38 #[.val (.int (1 : Int32))] [])) _
    refine XS.iloadN X0.here hx rfl (hb hby d_method_4_code_38) rfl ?_
    show Steps p.tables e below (s₁.setTop (mkF m 39 #[.val (.int (1 : Int32))] [(.int (1 : Int32))])) _
    refine XS.bipush X0.here hx rfl (hb hby d_method_4_code_39) ?_
    show Steps p.tables e below (s₁.setTop (mkF m 41 #[.val (.int (1 : Int32))] [(.int (9 : Int32)), (.int (1 : Int32))])) _
    refine XS.icmpYes X0.here hx rfl (pc0 := 41) (pc' := 48) rfl (hb hby d_method_4_code_41) rfl (by decide) (by decide) (by decide) ?_
    show Steps p.tables e below (s₁.setTop (mkF m 48 #[.val (.int (1 : Int32))] [])) _
    refine XS.aconstNull X0.here hx rfl (hb hby d_method_4_code_48) ?_
    show Steps p.tables e below (s₁.setTop (mkF m 49 #[.val (.int (1 : Int32))] [.null])) _
    exact retOut X0 hx (t := (.object "com/example/weaverbird/weaverbird/queues/RunAction")) (i := .areturn) Bd.returns rfl (Or.inr (Or.inr (Or.inr (Or.inr ⟨rfl, rfl, rfl⟩)))) (hb hby d_method_4_code_49) hr
  · show Qp (some .null) h0 n0 _ s₁.heap _
    rw [e0]
    exact ⟨rfl, N0, rfl⟩
theorem ef6 (m : MethodId)   (w14 : Addr) : entryFrame m #[(.ref w14)] 5 = mkF m 0 #[.val (.ref w14), .unset, .unset, .unset, .unset] [] := by first | (simp [entryFrame, mkF, argsToLocals, Value.category]; done) | rfl
def Qerm9 (Z : State) (w0 w1 w2 w3 w4 w5 w6 w7 w8 w9 w10 w11 w12 w13 w14 w15 w16 w17 : Addr) (h0 : Heap) (n0 : Nat) (v : Option Value) (h : Heap) (L : List Loc) : Prop := v = some (.ref w17) ∧ Fr n0 L ∧ Keep h0 h [] ∧ Old Z n0 h
set_option maxRecDepth 65536 in
set_option maxHeartbeats 40000000 in
theorem rm9 (l : Launch) (Z : State) (a0 : Array Value) (hw : ∀ d ∈ tables_1, d.before a0 Z = true) (ws : List Jvm.Cond) (w0 w1 w2 w3 w4 w5 w6 w7 w8 w9 w10 w11 w12 w13 w14 w15 w16 w17 : Addr) (h0 : Heap) (n0 : Nat) (hWd : Wd Z w0 w1 w2 w3 w4 w5 w6 w7 w8 w9 w10 w11 w12 w13 w14 w15 w16 w17) (O0 : Old Z n0 h0) :
    MetFree l (⟨"com/example/weaverbird/weaverbird/queues/RunAction", "of", "(Lcom/example/weaverbird/weaverbird/codes/CommandType;)Ljava/util/Optional;"⟩ : MethodName) (head1 (Jvm.Cond.code (⟨"com/example/weaverbird/weaverbird/queues/RunAction", "of", "(Lcom/example/weaverbird/weaverbird/codes/CommandType;)Ljava/util/Optional;"⟩ : MethodName) prog_16_method_4_code 5 (some (.object "java/util/Optional")) :: ws) ({ frames := 2, cells := 1, slots := 5, locals := 25 } : Room)) (fun a U => a = #[(.ref w14)] ∧ Z.Warmed39 U.vm ∧ U.heap = h0) (fun _ _ _ _ _ => True) (fun _ U o U' => ∃ v L, o = .returned v ∧ Qerm9 Z w0 w1 w2 w3 w4 w5 w6 w7 w8 w9 w10 w11 w12 w13 w14 w15 w16 w17 h0 n0 v U'.heap L ∧ FrameEnd U o U' L ({ frames := 2, cells := 1, slots := 5, locals := 25 } : Room).cells ({ frames := 2, cells := 1, slots := 5, locals := 25 } : Room).slots) := by
  refine MetFree.of_bodySF (plainFor_of_name pn1) hisR ?_
  intro p e s m args below meth c s₁ Bd hml0 hP hK
  obtain ⟨rfl, hZ, hh⟩ := hP
  have hx := Bd.exec
  have hby := Bd.bytes
  have hml : c.maxLocals = 5 := hml0
  have hown : s.vm.findClass "com/example/weaverbird/weaverbird/queues/RunAction" = some m.cls := findClass_of_methodNamed Bd.named
  have hnm := (name_of_methodNamed Bd.named Bd.method).1
  have X0 : Stand p l e ({ frames := 2, cells := 1, slots := 5, locals := 25 } : Room) s m #[(.ref w14)] below meth c s₁ [] 0 0 := Stand.of_body Bd
  have e0 : s₁.heap = h0 := by rw [← hh, Bd.state]; rfl
  have N0 := Fr.nil n0
  have hlk := Bd.notSynchronized
  obtain ⟨wS0, wE0, wS1, wE1, wS2, wE2, wS3, wE3, wS4, wE4, wS5, wE5, wS6, wE6, wS7, wE7, wS8, wE8, wS9, wE9, wS10, wE10, wS11, wE11, wS12, wE12, wS13, wE13, wS14, wE14, wS15, wE15, wS16, wE16, wS17, wE17, wF2_type, wF7_ordinal, wF0_ordinal, wF3_type, wF8_ordinal, wF4_type, wF9_ordinal, wF5_type, wF10_ordinal, wF6_type, wF11_ordinal, wF12_ordinal, wF13_ordinal, wF14_ordinal, wF15_ordinal, wF16_ordinal, wF17_value, wA, -⟩ := id hWd
  have pre0 : ∀ t, Steps p.tables e below (s₁.setTop (mkF m 0 #[.val (.ref w14), .unset, .unset, .unset, .unset] [])) t → Steps p.tables e below (s₁.setTop (entryFrame m #[(.ref w14)] 5)) t := fun t k => castTop (ef6 m w14) k
  obtain ⟨_, _, ⟨T39, L39, k39, n39⟩, -, X39, ⟨Lc39, hQ39, l39, y39, z39⟩, st39⟩ := Jvm.LawKit.callS X0 hx (y := (⟨"com/example/weaverbird/weaverbird/queues/RunAction", "values", "()[Lcom/example/weaverbird/weaverbird/queues/RunAction;"⟩ : MethodName)) hown (mvT hZ (hw _ (List.mem_of_getElem? (i := 15) rfl))) (mvT hZ (hw _ (List.mem_of_getElem? (i := 16) rfl))) (mvT hZ (hw _ (List.mem_of_getElem? (i := 13) rfl))) (mvT hZ (hw _ (List.mem_of_getElem? (i := 17) rfl))) (by decide) (backOf (W := 0) (rm4 l Z a0 hw [] w0 w1 w2 w3 w4 w5 w6 w7 w8 w9 w10 w11 w12 w13 w14 w15 w16 w17 h0 n0 hWd O0) hZ (hw _ (List.mem_of_getElem? (i := 17) rfl)) (hw _ (List.mem_of_getElem? (i := 13) rfl)) (by decide) (by decide)) (g := (mkF m 0 #[.val (.ref w14), .unset, .unset, .unset, .unset] [])) rfl (by rw [hml]; rfl) (argsL := []) (rest := []) (lenOf pd2 rfl) rfl (by show 2 * 0 + _ ≤ _; exact Nat.le_of_eq rfl) (hb hby d_prog_16_method_4_code_0) (fun _ _ => ⟨rfl, e0, (by decide : 0 + 1 ≤ _), (by decide : 0 + 5 ≤ _)⟩)
  dsimp only [Pt.U, Pt.locs, Pt.cells, Pt.slots] at X39 l39 y39 z39 st39 hQ39
  subst l39 y39 z39
  obtain ⟨r39, ka39, rfl, N39q, K39, O_39, V39, g_r39⟩ := hQ39
  have N39 := Fr.app N0 N39q
  have Kp39 : Keep h0 T39.heap [] := (Keep.refl h0 []).trans K39 all0
  obtain ⟨cl40, Ar40, q40, S40, M40, H40, G40⟩ := id V39
  obtain ⟨cl41, Ar41, q41, S41, M41, H41, G41⟩ := id V39
  have hin41 : ¬ ((0 : Int32) < 0 ∨ cl41.slots.size ≤ ((0 : Int32)).toNatClampNeg) := inb_of S41 ⟨by decide, by decide⟩
  have hat41 : cl41.slots[((0 : Int32)).toNatClampNeg]? = some (.ref w2) := Has.at H41 hin41 rfl
  obtain ⟨T42, X42, e42, st42⟩ := getF X39 hx hZ hown (host := "") (Or.inl (hw _ (List.mem_of_getElem? (i := 35) rfl))) Via.refl rfl (wF2_type.ext O_39.2) (g := (mkF m 21 #[.val (.ref w14), .val (.ref r39), .val (.int (5 : Int32)), .val (.int (0 : Int32)), .val (.ref w2)] [(.ref w2)])) rfl rfl (hb hby d_prog_16_method_4_code_21)
  obtain ⟨cl43, Ar43, q43, S43, M43, H43, G43⟩ := id V39
  have hin43 : ¬ ((1 : Int32) < 0 ∨ cl43.slots.size ≤ ((1 : Int32)).toNatClampNeg) := inb_of S43 ⟨by decide, by decide⟩
  have hat43 : cl43.slots[((1 : Int32)).toNatClampNeg]? = some (.ref w3) := Has.at H43 hin43 rfl
  obtain ⟨T44, X44, e44, st44⟩ := getF X42 hx hZ hown (host := "") (Or.inl (hw _ (List.mem_of_getElem? (i := 35) rfl))) Via.refl e42 (wF3_type.ext O_39.2) (g := (mkF m 21 #[.val (.ref w14), .val (.ref r39), .val (.int (5 : Int32)), .val (.int (1 : Int32)), .val (.ref w3)] [(.ref w3)])) rfl rfl (hb hby d_prog_16_method_4_code_21)
  obtain ⟨cl45, Ar45, q45, S45, M45, H45, G45⟩ := id V39
  have hin45 : ¬ ((2 : Int32) < 0 ∨ cl45.slots.size ≤ ((2 : Int32)).toNatClampNeg) := inb_of S45 ⟨by decide, by decide⟩
  have hat45 : cl45.slots[((2 : Int32)).toNatClampNeg]? = some (.ref w4) := Has.at H45 hin45 rfl
  obtain ⟨T46, X46, e46, st46⟩ := getF X44 hx hZ hown (host := "") (Or.inl (hw _ (List.mem_of_getElem? (i := 35) rfl))) Via.refl e44 (wF4_type.ext O_39.2) (g := (mkF m 21 #[.val (.ref w14), .val (.ref r39), .val (.int (5 : Int32)), .val (.int (2 : Int32)), .val (.ref w4)] [(.ref w4)])) rfl rfl (hb hby d_prog_16_method_4_code_21)
  obtain ⟨cl47, Ar47, q47, S47, M47, H47, G47⟩ := id V39
  have hin47 : ¬ ((3 : Int32) < 0 ∨ cl47.slots.size ≤ ((3 : Int32)).toNatClampNeg) := inb_of S47 ⟨by decide, by decide⟩
  have hat47 : cl47.slots[((3 : Int32)).toNatClampNeg]? = some (.ref w5) := Has.at H47 hin47 rfl
  obtain ⟨T48, X48, e48, st48⟩ := getF X46 hx hZ hown (host := "") (Or.inl (hw _ (List.mem_of_getElem? (i := 35) rfl))) Via.refl e46 (wF5_type.ext O_39.2) (g := (mkF m 21 #[.val (.ref w14), .val (.ref r39), .val (.int (5 : Int32)), .val (.int (3 : Int32)), .val (.ref w5)] [(.ref w5)])) rfl rfl (hb hby d_prog_16_method_4_code_21)
  obtain ⟨cl49, Ar49, q49, S49, M49, H49, G49⟩ := id V39
  have hin49 : ¬ ((4 : Int32) < 0 ∨ cl49.slots.size ≤ ((4 : Int32)).toNatClampNeg) := inb_of S49 ⟨by decide, by decide⟩
  have hat49 : cl49.slots[((4 : Int32)).toNatClampNeg]? = some (.ref w6) := Has.at H49 hin49 rfl
  obtain ⟨T50, X50, e50, st50⟩ := getF X48 hx hZ hown (host := "") (Or.inl (hw _ (List.mem_of_getElem? (i := 35) rfl))) Via.refl e48 (wF6_type.ext O_39.2) (g := (mkF m 21 #[.val (.ref w14), .val (.ref r39), .val (.int (5 : Int32)), .val (.int (4 : Int32)), .val (.ref w6)] [(.ref w6)])) rfl rfl (hb hby d_prog_16_method_4_code_21)
  obtain ⟨_, _, ⟨T51, L51, k51, n51⟩, -, X51, ⟨Lc51, hQ51, l51, y51, z51⟩, st51⟩ := Jvm.LawKit.callS X50 hx (y := (⟨"java/util/Optional", "empty", "()Ljava/util/Optional;"⟩ : MethodName)) hown (mvT hZ (hw _ (List.mem_of_getElem? (i := 42) rfl))) (mvT hZ (hw _ (List.mem_of_getElem? (i := 43) rfl))) (mvT hZ (hw _ (List.mem_of_getElem? (i := 44) rfl))) (mvT hZ (hw _ (List.mem_of_getElem? (i := 45) rfl))) (by decide) (backOf (W := 0) (rm5 l Z a0 hw [] w0 w1 w2 w3 w4 w5 w6 w7 w8 w9 w10 w11 w12 w13 w14 w15 w16 w17 T39.heap n0 hWd O_39) hZ (hw _ (List.mem_of_getElem? (i := 45) rfl)) (hw _ (List.mem_of_getElem? (i := 44) rfl)) (by decide) (by decide)) (g := (mkF m 40 #[.val (.ref w14), .val (.ref r39), .val (.int (5 : Int32)), .val (.int (5 : Int32)), .val (.ref w6)] [])) rfl (by rw [hml]; rfl) (argsL := []) (rest := []) (lenOf pd3 rfl) rfl (by show 2 * 0 + _ ≤ _; exact Nat.le_of_eq rfl) (hb hby d_prog_16_method_4_code_40) (fun _ _ => ⟨rfl, e50, (by decide : 1 + 0 ≤ _), (by decide : 5 + 0 ≤ _)⟩)
  dsimp only [Pt.U, Pt.locs, Pt.cells, Pt.slots] at X51 l51 y51 z51 st51 hQ51
  subst l51 y51 z51
  obtain ⟨rfl, N51q, e51⟩ := hQ51
  have N51 := Fr.app N39 N51q
  obtain ⟨fs, hr, hrun, hended, hWr, hsame⟩ := X51.leave (v := some (.ref w17)) (fun h => by rw [Bd.returns] at h; cases h) hlk
  refine ⟨_, _, pre0 _ ?_, hrun, hended, _, _, rfl, ?_, ⟨_, rfl⟩, hWr, hsame.mono (Nat.le_of_ble_eq_true rfl) (Nat.le_of_ble_eq_true rfl)⟩
  · show Steps p.tables e below (s₁.setTop (mkF m 0 #[.val (.ref w14), .unset, .unset, .unset, .unset] [])) _
    refine st39 _ ?_
    show Steps p.tables e below (T39.setTop (mkF m 3 #[.val (.ref w14), .unset, .unset, .unset, .unset] [(.ref r39)])) _
    refine XS.astoreN X39.here hx rfl (hb hby d_prog_16_method_4_code_3) rfl rfl (l' := #[.val (.ref w14), .val (.ref r39), .unset, .unset, .unset]) rfl ?_
    show Steps p.tables e below (T39.setTop (mkF m 4 #[.val (.ref w14), .val (.ref r39), .unset, .unset, .unset] [])) _
    refine XS.aloadN X39.here hx rfl (hb hby d_prog_16_method_4_code_4) rfl rfl ?_
    show Steps p.tables e below (T39.setTop (mkF m 5 #[.val (.ref w14), .val (.ref r39), .unset, .unset, .unset] [(.ref r39)])) _
    refine X39.arraylength hx Ar40.1 (State.isArrayOf_alike hZ.alike Ar40.2.1) (g := (mkF m 5 #[.val (.ref w14), .val (.ref r39), .unset, .unset, .unset] [(.ref r39)])) rfl rfl (hb hby d_prog_16_method_4_code_5) _ ?_
    rw [len_of S40 M40]
    show Steps p.tables e below (T39.setTop (mkF m 6 #[.val (.ref w14), .val (.ref r39), .unset, .unset, .unset] [(.int (5 : Int32))])) _
    refine XS.istoreN X39.here hx rfl (hb hby d_prog_16_method_4_code_6) rfl (l' := #[.val (.ref w14), .val (.ref r39), .val (.int (5 : Int32)), .unset, .unset]) rfl ?_
    show Steps p.tables e below (T39.setTop (mkF m 7 #[.val (.ref w14), .val (.ref r39), .val (.int (5 : Int32)), .unset, .unset] [])) _
    refine XS.iconst X39.here hx rfl (hb hby d_prog_16_method_4_code_7) ?_
    show Steps p.tables e below (T39.setTop (mkF m 8 #[.val (.ref w14), .val (.ref r39), .val (.int (5 : Int32)), .unset, .unset] [(.int (0 : Int32))])) _
    refine XS.istoreN X39.here hx rfl (hb hby d_prog_16_method_4_code_8) rfl (l' := #[.val (.ref w14), .val (.ref r39), .val (.int (5 : Int32)), .val (.int (0 : Int32)), .unset]) rfl ?_
    show Steps p.tables e below (T39.setTop (mkF m 9 #[.val (.ref w14), .val (.ref r39), .val (.int (5 : Int32)), .val (.int (0 : Int32)), .unset] [])) _
    refine XS.iloadN X39.here hx rfl (hb hby d_prog_16_method_4_code_9) rfl ?_
    show Steps p.tables e below (T39.setTop (mkF m 10 #[.val (.ref w14), .val (.ref r39), .val (.int (5 : Int32)), .val (.int (0 : Int32)), .unset] [(.int (0 : Int32))])) _
    refine XS.iloadN X39.here hx rfl (hb hby d_prog_16_method_4_code_10) rfl ?_
    show Steps p.tables e below (T39.setTop (mkF m 11 #[.val (.ref w14), .val (.ref r39), .val (.int (5 : Int32)), .val (.int (0 : Int32)), .unset] [(.int (5 : Int32)), (.int (0 : Int32))])) _
    refine XS.icmpNo X39.here hx rfl (hb hby d_prog_16_method_4_code_11) rfl (by decide) ?_
    show Steps p.tables e below (T39.setTop (mkF m 14 #[.val (.ref w14), .val (.ref r39), .val (.int (5 : Int32)), .val (.int (0 : Int32)), .unset] [])) _
    refine XS.aloadN X39.here hx rfl (hb hby d_prog_16_method_4_code_14) rfl rfl ?_
    show Steps p.tables e below (T39.setTop (mkF m 15 #[.val (.ref w14), .val (.ref r39), .val (.int (5 : Int32)), .val (.int (0 : Int32)), .unset] [(.ref r39)])) _
    refine XS.iloadN X39.here hx rfl (hb hby d_prog_16_method_4_code_15) rfl ?_
    show Steps p.tables e below (T39.setTop (mkF m 16 #[.val (.ref w14), .val (.ref r39), .val (.int (5 : Int32)), .val (.int (0 : Int32)), .unset] [(.int (0 : Int32)), (.ref r39)])) _
    refine X39.aaload hx (j := (0 : Int32)) (v := (.ref w2)) Ar41.1 (State.isArrayOf_alike hZ.alike Ar41.2.1) rfl Ar41.2.2 hin41 hat41 (g := (mkF m 16 #[.val (.ref w14), .val (.ref r39), .val (.int (5 : Int32)), .val (.int (0 : Int32)), .unset] [(.int (0 : Int32)), (.ref r39)])) rfl rfl (hb hby d_prog_16_method_4_code_16) _ ?_
    show Steps p.tables e below (T39.setTop (mkF m 17 #[.val (.ref w14), .val (.ref r39), .val (.int (5 : Int32)), .val (.int (0 : Int32)), .unset] [(.ref w2)])) _
    refine XS.astore X39.here hx rfl (hb hby d_prog_16_method_4_code_17) rfl rfl (l' := #[.val (.ref w14), .val (.ref r39), .val (.int (5 : Int32)), .val (.int (0 : Int32)), .val (.ref w2)]) rfl ?_
    show Steps p.tables e below (T39.setTop (mkF m 19 #[.val (.ref w14), .val (.ref r39), .val (.int (5 : Int32)), .val (.int (0 : Int32)), .val (.ref w2)] [])) _
    refine XS.aload X39.here hx rfl (hb hby d_prog_16_method_4_code_19) rfl rfl ?_
    show Steps p.tables e below (T39.setTop (mkF m 21 #[.val (.ref w14), .val (.ref r39), .val (.int (5 : Int32)), .val (.int (0 : Int32)), .val (.ref w2)] [(.ref w2)])) _
    refine st42 _ ?_
    show Steps p.tables e below (T42.setTop (mkF m 24 #[.val (.ref w14), .val (.ref r39), .val (.int (5 : Int32)), .val (.int (0 : Int32)), .val (.ref w2)] [(.ref w7)])) _
    refine XS.aloadN X42.here hx rfl (hb hby d_prog_16_method_4_code_24) rfl rfl ?_
    show Steps p.tables e below (T42.setTop (mkF m 25 #[.val (.ref w14), .val (.ref r39), .val (.int (5 : Int32)), .val (.int (0 : Int32)), .val (.ref w2)] [(.ref w14), (.ref w7)])) _
    refine Jvm.RoadKit.acmp (g := (mkF m 25 #[.val (.ref w14), .val (.ref r39), .val (.int (5 : Int32)), .val (.int (0 : Int32)), .val (.ref w2)] [(.ref w14), (.ref w7)])) X42 hx rfl rfl rfl (pc0 := 25) (pc' := 34) (same := false) rfl (hb hby d_prog_16_method_4_code_25) rfl (decide_eq_false fun q => (Fld.ne wF7_ordinal wF14_ordinal (fun q => absurd (Value.int.inj q) (by decide))) (Value.ref.inj q)) (by decide) (by decide) ?_
    show Steps p.tables e below (T42.setTop (mkF m 34 #[.val (.ref w14), .val (.ref r39), .val (.int (5 : Int32)), .val (.int (0 : Int32)), .val (.ref w2)] [])) _
    refine XS.iinc X42.here hx rfl (hb hby d_prog_16_method_4_code_34) rfl (l' := #[.val (.ref w14), .val (.ref r39), .val (.int (5 : Int32)), .val (.int (1 : Int32)), .val (.ref w2)]) rfl ?_
    show Steps p.tables e below (T42.setTop (mkF m 37 #[.val (.ref w14), .val (.ref r39), .val (.int (5 : Int32)), .val (.int (1 : Int32)), .val (.ref w2)] [])) _
    refine XS.goto X42.here hx rfl (pc0 := 37) (pc' := 9) rfl (hb hby d_prog_16_method_4_code_37) (by decide) (by decide) ?_
    show Steps p.tables e below (T42.setTop (mkF m 9 #[.val (.ref w14), .val (.ref r39), .val (.int (5 : Int32)), .val (.int (1 : Int32)), .val (.ref w2)] [])) _
    refine XS.iloadN X42.here hx rfl (hb hby d_prog_16_method_4_code_9) rfl ?_
    show Steps p.tables e below (T42.setTop (mkF m 10 #[.val (.ref w14), .val (.ref r39), .val (.int (5 : Int32)), .val (.int (1 : Int32)), .val (.ref w2)] [(.int (1 : Int32))])) _
    refine XS.iloadN X42.here hx rfl (hb hby d_prog_16_method_4_code_10) rfl ?_
    show Steps p.tables e below (T42.setTop (mkF m 11 #[.val (.ref w14), .val (.ref r39), .val (.int (5 : Int32)), .val (.int (1 : Int32)), .val (.ref w2)] [(.int (5 : Int32)), (.int (1 : Int32))])) _
    refine XS.icmpNo X42.here hx rfl (hb hby d_prog_16_method_4_code_11) rfl (by decide) ?_
    show Steps p.tables e below (T42.setTop (mkF m 14 #[.val (.ref w14), .val (.ref r39), .val (.int (5 : Int32)), .val (.int (1 : Int32)), .val (.ref w2)] [])) _
    refine XS.aloadN X42.here hx rfl (hb hby d_prog_16_method_4_code_14) rfl rfl ?_
    show Steps p.tables e below (T42.setTop (mkF m 15 #[.val (.ref w14), .val (.ref r39), .val (.int (5 : Int32)), .val (.int (1 : Int32)), .val (.ref w2)] [(.ref r39)])) _
    refine XS.iloadN X42.here hx rfl (hb hby d_prog_16_method_4_code_15) rfl ?_
    show Steps p.tables e below (T42.setTop (mkF m 16 #[.val (.ref w14), .val (.ref r39), .val (.int (5 : Int32)), .val (.int (1 : Int32)), .val (.ref w2)] [(.int (1 : Int32)), (.ref r39)])) _
    refine X42.aaload hx (j := (1 : Int32)) (v := (.ref w3)) (by rw [e42]; exact Ar43.1) (State.isArrayOf_alike hZ.alike Ar43.2.1) rfl Ar43.2.2 hin43 hat43 (g := (mkF m 16 #[.val (.ref w14), .val (.ref r39), .val (.int (5 : Int32)), .val (.int (1 : Int32)), .val (.ref w2)] [(.int (1 : Int32)), (.ref r39)])) rfl rfl (hb hby d_prog_16_method_4_code_16) _ ?_
    show Steps p.tables e below (T42.setTop (mkF m 17 #[.val (.ref w14), .val (.ref r39), .val (.int (5 : Int32)), .val (.int (1 : Int32)), .val (.ref w2)] [(.ref w3)])) _
    refine XS.astore X42.here hx rfl (hb hby d_prog_16_method_4_code_17) rfl rfl (l' := #[.val (.ref w14), .val (.ref r39), .val (.int (5 : Int32)), .val (.int (1 : Int32)), .val (.ref w3)]) rfl ?_
    show Steps p.tables e below (T42.setTop (mkF m 19 #[.val (.ref w14), .val (.ref r39), .val (.int (5 : Int32)), .val (.int (1 : Int32)), .val (.ref w3)] [])) _
    refine XS.aload X42.here hx rfl (hb hby d_prog_16_method_4_code_19) rfl rfl ?_
    show Steps p.tables e below (T42.setTop (mkF m 21 #[.val (.ref w14), .val (.ref r39), .val (.int (5 : Int32)), .val (.int (1 : Int32)), .val (.ref w3)] [(.ref w3)])) _
    refine st44 _ ?_
    show Steps p.tables e below (T44.setTop (mkF m 24 #[.val (.ref w14), .val (.ref r39), .val (.int (5 : Int32)), .val (.int (1 : Int32)), .val (.ref w3)] [(.ref w8)])) _
    refine XS.aloadN X44.here hx rfl (hb hby d_prog_16_method_4_code_24) rfl rfl ?_
    show Steps p.tables e below (T44.setTop (mkF m 25 #[.val (.ref w14), .val (.ref r39), .val (.int (5 : Int32)), .val (.int (1 : Int32)), .val (.ref w3)] [(.ref w14), (.ref w8)])) _
    refine Jvm.RoadKit.acmp (g := (mkF m 25 #[.val (.ref w14), .val (.ref r39), .val (.int (5 : Int32)), .val (.int (1 : Int32)), .val (.ref w3)] [(.ref w14), (.ref w8)])) X44 hx rfl rfl rfl (pc0 := 25) (pc' := 34) (same := false) rfl (hb hby d_prog_16_method_4_code_25) rfl (decide_eq_false fun q => (Fld.ne wF8_ordinal wF14_ordinal (fun q => absurd (Value.int.inj q) (by decide))) (Value.ref.inj q)) (by decide) (by decide) ?_
    show Steps p.tables e below (T44.setTop (mkF m 34 #[.val (.ref w14), .val (.ref r39), .val (.int (5 : Int32)), .val (.int (1 : Int32)), .val (.ref w3)] [])) _
    refine XS.iinc X44.here hx rfl (hb hby d_prog_16_method_4_code_34) rfl (l' := #[.val (.ref w14), .val (.ref r39), .val (.int (5 : Int32)), .val (.int (2 : Int32)), .val (.ref w3)]) rfl ?_
    show Steps p.tables e below (T44.setTop (mkF m 37 #[.val (.ref w14), .val (.ref r39), .val (.int (5 : Int32)), .val (.int (2 : Int32)), .val (.ref w3)] [])) _
    refine XS.goto X44.here hx rfl (pc0 := 37) (pc' := 9) rfl (hb hby d_prog_16_method_4_code_37) (by decide) (by decide) ?_
    show Steps p.tables e below (T44.setTop (mkF m 9 #[.val (.ref w14), .val (.ref r39), .val (.int (5 : Int32)), .val (.int (2 : Int32)), .val (.ref w3)] [])) _
    refine XS.iloadN X44.here hx rfl (hb hby d_prog_16_method_4_code_9) rfl ?_
    show Steps p.tables e below (T44.setTop (mkF m 10 #[.val (.ref w14), .val (.ref r39), .val (.int (5 : Int32)), .val (.int (2 : Int32)), .val (.ref w3)] [(.int (2 : Int32))])) _
    refine XS.iloadN X44.here hx rfl (hb hby d_prog_16_method_4_code_10) rfl ?_
    show Steps p.tables e below (T44.setTop (mkF m 11 #[.val (.ref w14), .val (.ref r39), .val (.int (5 : Int32)), .val (.int (2 : Int32)), .val (.ref w3)] [(.int (5 : Int32)), (.int (2 : Int32))])) _
    refine XS.icmpNo X44.here hx rfl (hb hby d_prog_16_method_4_code_11) rfl (by decide) ?_
    show Steps p.tables e below (T44.setTop (mkF m 14 #[.val (.ref w14), .val (.ref r39), .val (.int (5 : Int32)), .val (.int (2 : Int32)), .val (.ref w3)] [])) _
    refine XS.aloadN X44.here hx rfl (hb hby d_prog_16_method_4_code_14) rfl rfl ?_
    show Steps p.tables e below (T44.setTop (mkF m 15 #[.val (.ref w14), .val (.ref r39), .val (.int (5 : Int32)), .val (.int (2 : Int32)), .val (.ref w3)] [(.ref r39)])) _
    refine XS.iloadN X44.here hx rfl (hb hby d_prog_16_method_4_code_15) rfl ?_
    show Steps p.tables e below (T44.setTop (mkF m 16 #[.val (.ref w14), .val (.ref r39), .val (.int (5 : Int32)), .val (.int (2 : Int32)), .val (.ref w3)] [(.int (2 : Int32)), (.ref r39)])) _
    refine X44.aaload hx (j := (2 : Int32)) (v := (.ref w4)) (by rw [e44]; exact Ar45.1) (State.isArrayOf_alike hZ.alike Ar45.2.1) rfl Ar45.2.2 hin45 hat45 (g := (mkF m 16 #[.val (.ref w14), .val (.ref r39), .val (.int (5 : Int32)), .val (.int (2 : Int32)), .val (.ref w3)] [(.int (2 : Int32)), (.ref r39)])) rfl rfl (hb hby d_prog_16_method_4_code_16) _ ?_
    show Steps p.tables e below (T44.setTop (mkF m 17 #[.val (.ref w14), .val (.ref r39), .val (.int (5 : Int32)), .val (.int (2 : Int32)), .val (.ref w3)] [(.ref w4)])) _
    refine XS.astore X44.here hx rfl (hb hby d_prog_16_method_4_code_17) rfl rfl (l' := #[.val (.ref w14), .val (.ref r39), .val (.int (5 : Int32)), .val (.int (2 : Int32)), .val (.ref w4)]) rfl ?_
    show Steps p.tables e below (T44.setTop (mkF m 19 #[.val (.ref w14), .val (.ref r39), .val (.int (5 : Int32)), .val (.int (2 : Int32)), .val (.ref w4)] [])) _
    refine XS.aload X44.here hx rfl (hb hby d_prog_16_method_4_code_19) rfl rfl ?_
    show Steps p.tables e below (T44.setTop (mkF m 21 #[.val (.ref w14), .val (.ref r39), .val (.int (5 : Int32)), .val (.int (2 : Int32)), .val (.ref w4)] [(.ref w4)])) _
    refine st46 _ ?_
    show Steps p.tables e below (T46.setTop (mkF m 24 #[.val (.ref w14), .val (.ref r39), .val (.int (5 : Int32)), .val (.int (2 : Int32)), .val (.ref w4)] [(.ref w9)])) _
    refine XS.aloadN X46.here hx rfl (hb hby d_prog_16_method_4_code_24) rfl rfl ?_
    show Steps p.tables e below (T46.setTop (mkF m 25 #[.val (.ref w14), .val (.ref r39), .val (.int (5 : Int32)), .val (.int (2 : Int32)), .val (.ref w4)] [(.ref w14), (.ref w9)])) _
    refine Jvm.RoadKit.acmp (g := (mkF m 25 #[.val (.ref w14), .val (.ref r39), .val (.int (5 : Int32)), .val (.int (2 : Int32)), .val (.ref w4)] [(.ref w14), (.ref w9)])) X46 hx rfl rfl rfl (pc0 := 25) (pc' := 34) (same := false) rfl (hb hby d_prog_16_method_4_code_25) rfl (decide_eq_false fun q => (Fld.ne wF9_ordinal wF14_ordinal (fun q => absurd (Value.int.inj q) (by decide))) (Value.ref.inj q)) (by decide) (by decide) ?_
    show Steps p.tables e below (T46.setTop (mkF m 34 #[.val (.ref w14), .val (.ref r39), .val (.int (5 : Int32)), .val (.int (2 : Int32)), .val (.ref w4)] [])) _
    refine XS.iinc X46.here hx rfl (hb hby d_prog_16_method_4_code_34) rfl (l' := #[.val (.ref w14), .val (.ref r39), .val (.int (5 : Int32)), .val (.int (3 : Int32)), .val (.ref w4)]) rfl ?_
    show Steps p.tables e below (T46.setTop (mkF m 37 #[.val (.ref w14), .val (.ref r39), .val (.int (5 : Int32)), .val (.int (3 : Int32)), .val (.ref w4)] [])) _
    refine XS.goto X46.here hx rfl (pc0 := 37) (pc' := 9) rfl (hb hby d_prog_16_method_4_code_37) (by decide) (by decide) ?_
    show Steps p.tables e below (T46.setTop (mkF m 9 #[.val (.ref w14), .val (.ref r39), .val (.int (5 : Int32)), .val (.int (3 : Int32)), .val (.ref w4)] [])) _
    refine XS.iloadN X46.here hx rfl (hb hby d_prog_16_method_4_code_9) rfl ?_
    show Steps p.tables e below (T46.setTop (mkF m 10 #[.val (.ref w14), .val (.ref r39), .val (.int (5 : Int32)), .val (.int (3 : Int32)), .val (.ref w4)] [(.int (3 : Int32))])) _
    refine XS.iloadN X46.here hx rfl (hb hby d_prog_16_method_4_code_10) rfl ?_
    show Steps p.tables e below (T46.setTop (mkF m 11 #[.val (.ref w14), .val (.ref r39), .val (.int (5 : Int32)), .val (.int (3 : Int32)), .val (.ref w4)] [(.int (5 : Int32)), (.int (3 : Int32))])) _
    refine XS.icmpNo X46.here hx rfl (hb hby d_prog_16_method_4_code_11) rfl (by decide) ?_
    show Steps p.tables e below (T46.setTop (mkF m 14 #[.val (.ref w14), .val (.ref r39), .val (.int (5 : Int32)), .val (.int (3 : Int32)), .val (.ref w4)] [])) _
    refine XS.aloadN X46.here hx rfl (hb hby d_prog_16_method_4_code_14) rfl rfl ?_
    show Steps p.tables e below (T46.setTop (mkF m 15 #[.val (.ref w14), .val (.ref r39), .val (.int (5 : Int32)), .val (.int (3 : Int32)), .val (.ref w4)] [(.ref r39)])) _
    refine XS.iloadN X46.here hx rfl (hb hby d_prog_16_method_4_code_15) rfl ?_
    show Steps p.tables e below (T46.setTop (mkF m 16 #[.val (.ref w14), .val (.ref r39), .val (.int (5 : Int32)), .val (.int (3 : Int32)), .val (.ref w4)] [(.int (3 : Int32)), (.ref r39)])) _
    refine X46.aaload hx (j := (3 : Int32)) (v := (.ref w5)) (by rw [e46]; exact Ar47.1) (State.isArrayOf_alike hZ.alike Ar47.2.1) rfl Ar47.2.2 hin47 hat47 (g := (mkF m 16 #[.val (.ref w14), .val (.ref r39), .val (.int (5 : Int32)), .val (.int (3 : Int32)), .val (.ref w4)] [(.int (3 : Int32)), (.ref r39)])) rfl rfl (hb hby d_prog_16_method_4_code_16) _ ?_
    show Steps p.tables e below (T46.setTop (mkF m 17 #[.val (.ref w14), .val (.ref r39), .val (.int (5 : Int32)), .val (.int (3 : Int32)), .val (.ref w4)] [(.ref w5)])) _
    refine XS.astore X46.here hx rfl (hb hby d_prog_16_method_4_code_17) rfl rfl (l' := #[.val (.ref w14), .val (.ref r39), .val (.int (5 : Int32)), .val (.int (3 : Int32)), .val (.ref w5)]) rfl ?_
    show Steps p.tables e below (T46.setTop (mkF m 19 #[.val (.ref w14), .val (.ref r39), .val (.int (5 : Int32)), .val (.int (3 : Int32)), .val (.ref w5)] [])) _
    refine XS.aload X46.here hx rfl (hb hby d_prog_16_method_4_code_19) rfl rfl ?_
    show Steps p.tables e below (T46.setTop (mkF m 21 #[.val (.ref w14), .val (.ref r39), .val (.int (5 : Int32)), .val (.int (3 : Int32)), .val (.ref w5)] [(.ref w5)])) _
    refine st48 _ ?_
    show Steps p.tables e below (T48.setTop (mkF m 24 #[.val (.ref w14), .val (.ref r39), .val (.int (5 : Int32)), .val (.int (3 : Int32)), .val (.ref w5)] [(.ref w10)])) _
    refine XS.aloadN X48.here hx rfl (hb hby d_prog_16_method_4_code_24) rfl rfl ?_
    show Steps p.tables e below (T48.setTop (mkF m 25 #[.val (.ref w14), .val (.ref r39), .val (.int (5 : Int32)), .val (.int (3 : Int32)), .val (.ref w5)] [(.ref w14), (.ref w10)])) _
    refine Jvm.RoadKit.acmp (g := (mkF m 25 #[.val (.ref w14), .val (.ref r39), .val (.int (5 : Int32)), .val (.int (3 : Int32)), .val (.ref w5)] [(.ref w14), (.ref w10)])) X48 hx rfl rfl rfl (pc0 := 25) (pc' := 34) (same := false) rfl (hb hby d_prog_16_method_4_code_25) rfl (decide_eq_false fun q => (Fld.ne wF10_ordinal wF14_ordinal (fun q => absurd (Value.int.inj q) (by decide))) (Value.ref.inj q)) (by decide) (by decide) ?_
    show Steps p.tables e below (T48.setTop (mkF m 34 #[.val (.ref w14), .val (.ref r39), .val (.int (5 : Int32)), .val (.int (3 : Int32)), .val (.ref w5)] [])) _
    refine XS.iinc X48.here hx rfl (hb hby d_prog_16_method_4_code_34) rfl (l' := #[.val (.ref w14), .val (.ref r39), .val (.int (5 : Int32)), .val (.int (4 : Int32)), .val (.ref w5)]) rfl ?_
    show Steps p.tables e below (T48.setTop (mkF m 37 #[.val (.ref w14), .val (.ref r39), .val (.int (5 : Int32)), .val (.int (4 : Int32)), .val (.ref w5)] [])) _
    refine XS.goto X48.here hx rfl (pc0 := 37) (pc' := 9) rfl (hb hby d_prog_16_method_4_code_37) (by decide) (by decide) ?_
    show Steps p.tables e below (T48.setTop (mkF m 9 #[.val (.ref w14), .val (.ref r39), .val (.int (5 : Int32)), .val (.int (4 : Int32)), .val (.ref w5)] [])) _
    refine XS.iloadN X48.here hx rfl (hb hby d_prog_16_method_4_code_9) rfl ?_
    show Steps p.tables e below (T48.setTop (mkF m 10 #[.val (.ref w14), .val (.ref r39), .val (.int (5 : Int32)), .val (.int (4 : Int32)), .val (.ref w5)] [(.int (4 : Int32))])) _
    refine XS.iloadN X48.here hx rfl (hb hby d_prog_16_method_4_code_10) rfl ?_
    show Steps p.tables e below (T48.setTop (mkF m 11 #[.val (.ref w14), .val (.ref r39), .val (.int (5 : Int32)), .val (.int (4 : Int32)), .val (.ref w5)] [(.int (5 : Int32)), (.int (4 : Int32))])) _
    refine XS.icmpNo X48.here hx rfl (hb hby d_prog_16_method_4_code_11) rfl (by decide) ?_
    show Steps p.tables e below (T48.setTop (mkF m 14 #[.val (.ref w14), .val (.ref r39), .val (.int (5 : Int32)), .val (.int (4 : Int32)), .val (.ref w5)] [])) _
    refine XS.aloadN X48.here hx rfl (hb hby d_prog_16_method_4_code_14) rfl rfl ?_
    show Steps p.tables e below (T48.setTop (mkF m 15 #[.val (.ref w14), .val (.ref r39), .val (.int (5 : Int32)), .val (.int (4 : Int32)), .val (.ref w5)] [(.ref r39)])) _
    refine XS.iloadN X48.here hx rfl (hb hby d_prog_16_method_4_code_15) rfl ?_
    show Steps p.tables e below (T48.setTop (mkF m 16 #[.val (.ref w14), .val (.ref r39), .val (.int (5 : Int32)), .val (.int (4 : Int32)), .val (.ref w5)] [(.int (4 : Int32)), (.ref r39)])) _
    refine X48.aaload hx (j := (4 : Int32)) (v := (.ref w6)) (by rw [e48]; exact Ar49.1) (State.isArrayOf_alike hZ.alike Ar49.2.1) rfl Ar49.2.2 hin49 hat49 (g := (mkF m 16 #[.val (.ref w14), .val (.ref r39), .val (.int (5 : Int32)), .val (.int (4 : Int32)), .val (.ref w5)] [(.int (4 : Int32)), (.ref r39)])) rfl rfl (hb hby d_prog_16_method_4_code_16) _ ?_
    show Steps p.tables e below (T48.setTop (mkF m 17 #[.val (.ref w14), .val (.ref r39), .val (.int (5 : Int32)), .val (.int (4 : Int32)), .val (.ref w5)] [(.ref w6)])) _
    refine XS.astore X48.here hx rfl (hb hby d_prog_16_method_4_code_17) rfl rfl (l' := #[.val (.ref w14), .val (.ref r39), .val (.int (5 : Int32)), .val (.int (4 : Int32)), .val (.ref w6)]) rfl ?_
    show Steps p.tables e below (T48.setTop (mkF m 19 #[.val (.ref w14), .val (.ref r39), .val (.int (5 : Int32)), .val (.int (4 : Int32)), .val (.ref w6)] [])) _
    refine XS.aload X48.here hx rfl (hb hby d_prog_16_method_4_code_19) rfl rfl ?_
    show Steps p.tables e below (T48.setTop (mkF m 21 #[.val (.ref w14), .val (.ref r39), .val (.int (5 : Int32)), .val (.int (4 : Int32)), .val (.ref w6)] [(.ref w6)])) _
    refine st50 _ ?_
    show Steps p.tables e below (T50.setTop (mkF m 24 #[.val (.ref w14), .val (.ref r39), .val (.int (5 : Int32)), .val (.int (4 : Int32)), .val (.ref w6)] [(.ref w11)])) _
    refine XS.aloadN X50.here hx rfl (hb hby d_prog_16_method_4_code_24) rfl rfl ?_
    show Steps p.tables e below (T50.setTop (mkF m 25 #[.val (.ref w14), .val (.ref r39), .val (.int (5 : Int32)), .val (.int (4 : Int32)), .val (.ref w6)] [(.ref w14), (.ref w11)])) _
    refine Jvm.RoadKit.acmp (g := (mkF m 25 #[.val (.ref w14), .val (.ref r39), .val (.int (5 : Int32)), .val (.int (4 : Int32)), .val (.ref w6)] [(.ref w14), (.ref w11)])) X50 hx rfl rfl rfl (pc0 := 25) (pc' := 34) (same := false) rfl (hb hby d_prog_16_method_4_code_25) rfl (decide_eq_false fun q => (Fld.ne wF11_ordinal wF14_ordinal (fun q => absurd (Value.int.inj q) (by decide))) (Value.ref.inj q)) (by decide) (by decide) ?_
    show Steps p.tables e below (T50.setTop (mkF m 34 #[.val (.ref w14), .val (.ref r39), .val (.int (5 : Int32)), .val (.int (4 : Int32)), .val (.ref w6)] [])) _
    refine XS.iinc X50.here hx rfl (hb hby d_prog_16_method_4_code_34) rfl (l' := #[.val (.ref w14), .val (.ref r39), .val (.int (5 : Int32)), .val (.int (5 : Int32)), .val (.ref w6)]) rfl ?_
    show Steps p.tables e below (T50.setTop (mkF m 37 #[.val (.ref w14), .val (.ref r39), .val (.int (5 : Int32)), .val (.int (5 : Int32)), .val (.ref w6)] [])) _
    refine XS.goto X50.here hx rfl (pc0 := 37) (pc' := 9) rfl (hb hby d_prog_16_method_4_code_37) (by decide) (by decide) ?_
    show Steps p.tables e below (T50.setTop (mkF m 9 #[.val (.ref w14), .val (.ref r39), .val (.int (5 : Int32)), .val (.int (5 : Int32)), .val (.ref w6)] [])) _
    refine XS.iloadN X50.here hx rfl (hb hby d_prog_16_method_4_code_9) rfl ?_
    show Steps p.tables e below (T50.setTop (mkF m 10 #[.val (.ref w14), .val (.ref r39), .val (.int (5 : Int32)), .val (.int (5 : Int32)), .val (.ref w6)] [(.int (5 : Int32))])) _
    refine XS.iloadN X50.here hx rfl (hb hby d_prog_16_method_4_code_10) rfl ?_
    show Steps p.tables e below (T50.setTop (mkF m 11 #[.val (.ref w14), .val (.ref r39), .val (.int (5 : Int32)), .val (.int (5 : Int32)), .val (.ref w6)] [(.int (5 : Int32)), (.int (5 : Int32))])) _
    refine XS.icmpYes X50.here hx rfl (pc0 := 11) (pc' := 40) rfl (hb hby d_prog_16_method_4_code_11) rfl (by decide) (by decide) (by decide) ?_
    show Steps p.tables e below (T50.setTop (mkF m 40 #[.val (.ref w14), .val (.ref r39), .val (.int (5 : Int32)), .val (.int (5 : Int32)), .val (.ref w6)] [])) _
    refine st51 _ ?_
    show Steps p.tables e below (T51.setTop (mkF m 43 #[.val (.ref w14), .val (.ref r39), .val (.int (5 : Int32)), .val (.int (5 : Int32)), .val (.ref w6)] [(.ref w17)])) _
    exact retOut X51 hx (t := (.object "java/util/Optional")) (i := .areturn) Bd.returns rfl (Or.inr (Or.inr (Or.inr (Or.inr ⟨rfl, rfl, rfl⟩)))) (hb hby d_prog_16_method_4_code_43) hr
  · show Qerm9 Z w0 w1 w2 w3 w4 w5 w6 w7 w8 w9 w10 w11 w12 w13 w14 w15 w16 w17 h0 n0 _ T51.heap _
    rw [e51]
    exact ⟨rfl, N51, Kp39, O_39⟩
theorem d_method_3_code_17 : decode method_3_code 17 = .ok (.iload_n 0, 1) := by decide +kernel
theorem d_method_3_code_18 : decode method_3_code 18 = .ok (.iconst 2, 1) := by decide +kernel
theorem d_method_3_code_19 : decode method_3_code 19 = .ok (.if_icmp .ne 7, 3) := by decide +kernel
theorem d_method_3_code_22 : decode method_3_code 22 = .ok (.getstatic 39, 3) := by decide +kernel
theorem d_method_3_code_25 : decode method_3_code 25 = .ok (.areturn, 1) := by decide +kernel
theorem ef7 (m : MethodId)    : entryFrame m #[(.int (2 : Int32))] 1 = mkF m 0 #[.val (.int (2 : Int32))] [] := by first | (simp [entryFrame, mkF, argsToLocals, Value.category]; done) | rfl
set_option maxRecDepth 65536 in
set_option maxHeartbeats 40000000 in
theorem rm10 (l : Launch) (Z : State) (a0 : Array Value) (hw : ∀ d ∈ tables_1, d.before a0 Z = true) (ws : List Jvm.Cond) (w0 w1 w2 w3 w4 w5 w6 w7 w8 w9 w10 w11 w12 w13 w14 w15 w16 w17 : Addr) (h0 : Heap) (n0 : Nat) (hWd : Wd Z w0 w1 w2 w3 w4 w5 w6 w7 w8 w9 w10 w11 w12 w13 w14 w15 w16 w17) (O0 : Old Z n0 h0) :
    MetFree l (⟨"com/example/weaverbird/weaverbird/queues/RunActionOfPinLaw", "typeAt", "(I)Lcom/example/weaverbird/weaverbird/codes/CommandType;"⟩ : MethodName) (head1 (Jvm.Cond.code (⟨"com/example/weaverbird/weaverbird/queues/RunActionOfPinLaw", "typeAt", "(I)Lcom/example/weaverbird/weaverbird/codes/CommandType;"⟩ : MethodName) method_3_code 1 (some (.object "com/example/weaverbird/weaverbird/codes/CommandType")) :: ws) ({ frames := 0, cells := 0, slots := 0, locals := 0 } : Room)) (fun a U => a = #[(.int (2 : Int32))] ∧ Z.Warmed39 U.vm ∧ U.heap = h0) (fun _ _ _ _ _ => True) (fun _ U o U' => ∃ v L, o = .returned v ∧ Qp (some (.ref w12)) h0 n0 v U'.heap L ∧ FrameEnd U o U' L ({ frames := 0, cells := 0, slots := 0, locals := 0 } : Room).cells ({ frames := 0, cells := 0, slots := 0, locals := 0 } : Room).slots) := by
  refine MetFree.of_bodySF (plainFor_of_name pn0) hisR ?_
  intro p e s m args below meth c s₁ Bd hml0 hP hK
  obtain ⟨rfl, hZ, hh⟩ := hP
  have hx := Bd.exec
  have hby := Bd.bytes
  have hml : c.maxLocals = 1 := hml0
  have hown : s.vm.findClass "com/example/weaverbird/weaverbird/queues/RunActionOfPinLaw" = some m.cls := findClass_of_methodNamed Bd.named
  have hnm := (name_of_methodNamed Bd.named Bd.method).1
  have X0 : Stand p l e ({ frames := 0, cells := 0, slots := 0, locals := 0 } : Room) s m #[(.int (2 : Int32))] below meth c s₁ [] 0 0 := Stand.of_body Bd
  have e0 : s₁.heap = h0 := by rw [← hh, Bd.state]; rfl
  have N0 := Fr.nil n0
  have hlk := Bd.notSynchronized
  obtain ⟨wS0, wE0, wS1, wE1, wS2, wE2, wS3, wE3, wS4, wE4, wS5, wE5, wS6, wE6, wS7, wE7, wS8, wE8, wS9, wE9, wS10, wE10, wS11, wE11, wS12, wE12, wS13, wE13, wS14, wE14, wS15, wE15, wS16, wE16, wS17, wE17, wF2_type, wF7_ordinal, wF0_ordinal, wF3_type, wF8_ordinal, wF4_type, wF9_ordinal, wF5_type, wF10_ordinal, wF6_type, wF11_ordinal, wF12_ordinal, wF13_ordinal, wF14_ordinal, wF15_ordinal, wF16_ordinal, wF17_value, wA, -⟩ := id hWd
  have pre0 : ∀ t, Steps p.tables e below (s₁.setTop (mkF m 0 #[.val (.int (2 : Int32))] [])) t → Steps p.tables e below (s₁.setTop (entryFrame m #[(.int (2 : Int32))] 1)) t := fun t k => castTop (ef7 m ) k
  obtain ⟨T54, X54, e54, st54⟩ := getS2 X0 hx hZ hown (host := "") (Or.inl (hw _ (List.mem_of_getElem? (i := 78) rfl))) Via.refl e0 (wS12.ext O0.2) (g := (mkF m 22 #[.val (.int (2 : Int32))] [])) rfl (hb hby d_method_3_code_22)
  obtain ⟨fs, hr, hrun, hended, hWr, hsame⟩ := X54.leave (v := some (.ref w12)) (fun h => by rw [Bd.returns] at h; cases h) hlk
  refine ⟨_, _, pre0 _ ?_, hrun, hended, _, _, rfl, ?_, ⟨_, rfl⟩, hWr, hsame.mono (Nat.le_of_ble_eq_true rfl) (Nat.le_of_ble_eq_true rfl)⟩
  · show Steps p.tables e below (s₁.setTop (mkF m 0 #[.val (.int (2 : Int32))] [])) _
    refine XS.iloadN X0.here hx rfl (hb hby d_method_3_code_0) rfl ?_
    show Steps p.tables e below (s₁.setTop (mkF m 1 #[.val (.int (2 : Int32))] [(.int (2 : Int32))])) _
    refine XS.ifYes X0.here hx rfl (pc0 := 1) (pc' := 8) rfl (hb hby d_method_3_code_1) rfl (by decide) (by decide) (by decide) ?_
    show Steps p.tables e below (s₁.setTop (mkF m 8 #[.val (.int (2 : Int32))] [])) _
    refine XS.iloadN X0.here hx rfl (hb hby d_method_3_code_8) rfl ?_
    show Steps p.tables e below (s₁.setTop (mkF m 9 #[.val (.int (2 : Int32))] [(.int (2 : Int32))])) _
    refine XS.iconst X0.here hx rfl (hb hby d_method_3_code_9) ?_
    show Steps p.tables e below (s₁.setTop (mkF m 10 #[.val (.int (2 : Int32))] [(.int (1 : Int32)), (.int (2 : Int32))])) _
    refine XS.icmpYes X0.here hx rfl (pc0 := 10) (pc' := 17) rfl (hb hby d_method_3_code_10) rfl (by decide) (by decide) (by decide) ?_
    show Steps p.tables e below (s₁.setTop (mkF m 17 #[.val (.int (2 : Int32))] [])) _
    refine XS.iloadN X0.here hx rfl (hb hby d_method_3_code_17) rfl ?_
    show Steps p.tables e below (s₁.setTop (mkF m 18 #[.val (.int (2 : Int32))] [(.int (2 : Int32))])) _
    refine XS.iconst X0.here hx rfl (hb hby d_method_3_code_18) ?_
    show Steps p.tables e below (s₁.setTop (mkF m 19 #[.val (.int (2 : Int32))] [(.int (2 : Int32)), (.int (2 : Int32))])) _
    refine XS.icmpNo X0.here hx rfl (hb hby d_method_3_code_19) rfl (by decide) ?_
    show Steps p.tables e below (s₁.setTop (mkF m 22 #[.val (.int (2 : Int32))] [])) _
    refine st54 _ ?_
    show Steps p.tables e below (T54.setTop (mkF m 25 #[.val (.int (2 : Int32))] [(.ref w12)])) _
    exact retOut X54 hx (t := (.object "com/example/weaverbird/weaverbird/codes/CommandType")) (i := .areturn) Bd.returns rfl (Or.inr (Or.inr (Or.inr (Or.inr ⟨rfl, rfl, rfl⟩)))) (hb hby d_method_3_code_25) hr
  · show Qp (some (.ref w12)) h0 n0 _ T54.heap _
    rw [e54]
    exact ⟨rfl, N0, rfl⟩
set_option maxRecDepth 65536 in
set_option maxHeartbeats 40000000 in
theorem rm11 (l : Launch) (Z : State) (a0 : Array Value) (hw : ∀ d ∈ tables_1, d.before a0 Z = true) (ws : List Jvm.Cond) (w0 w1 w2 w3 w4 w5 w6 w7 w8 w9 w10 w11 w12 w13 w14 w15 w16 w17 : Addr) (h0 : Heap) (n0 : Nat) (hWd : Wd Z w0 w1 w2 w3 w4 w5 w6 w7 w8 w9 w10 w11 w12 w13 w14 w15 w16 w17) (O0 : Old Z n0 h0) :
    MetFree l (⟨"com/example/weaverbird/weaverbird/queues/RunActionOfPinLaw", "expectedFor", "(I)Lcom/example/weaverbird/weaverbird/queues/RunAction;"⟩ : MethodName) (head1 (Jvm.Cond.code (⟨"com/example/weaverbird/weaverbird/queues/RunActionOfPinLaw", "expectedFor", "(I)Lcom/example/weaverbird/weaverbird/queues/RunAction;"⟩ : MethodName) method_4_code 1 (some (.object "com/example/weaverbird/weaverbird/queues/RunAction")) :: ws) ({ frames := 0, cells := 0, slots := 0, locals := 0 } : Room)) (fun a U => a = #[(.int (2 : Int32))] ∧ Z.Warmed39 U.vm ∧ U.heap = h0) (fun _ _ _ _ _ => True) (fun _ U o U' => ∃ v L, o = .returned v ∧ Qp (some .null) h0 n0 v U'.heap L ∧ FrameEnd U o U' L ({ frames := 0, cells := 0, slots := 0, locals := 0 } : Room).cells ({ frames := 0, cells := 0, slots := 0, locals := 0 } : Room).slots) := by
  refine MetFree.of_bodySF (plainFor_of_name pn0) hisR ?_
  intro p e s m args below meth c s₁ Bd hml0 hP hK
  obtain ⟨rfl, hZ, hh⟩ := hP
  have hx := Bd.exec
  have hby := Bd.bytes
  have hml : c.maxLocals = 1 := hml0
  have hown : s.vm.findClass "com/example/weaverbird/weaverbird/queues/RunActionOfPinLaw" = some m.cls := findClass_of_methodNamed Bd.named
  have hnm := (name_of_methodNamed Bd.named Bd.method).1
  have X0 : Stand p l e ({ frames := 0, cells := 0, slots := 0, locals := 0 } : Room) s m #[(.int (2 : Int32))] below meth c s₁ [] 0 0 := Stand.of_body Bd
  have e0 : s₁.heap = h0 := by rw [← hh, Bd.state]; rfl
  have N0 := Fr.nil n0
  have hlk := Bd.notSynchronized
  obtain ⟨wS0, wE0, wS1, wE1, wS2, wE2, wS3, wE3, wS4, wE4, wS5, wE5, wS6, wE6, wS7, wE7, wS8, wE8, wS9, wE9, wS10, wE10, wS11, wE11, wS12, wE12, wS13, wE13, wS14, wE14, wS15, wE15, wS16, wE16, wS17, wE17, wF2_type, wF7_ordinal, wF0_ordinal, wF3_type, wF8_ordinal, wF4_type, wF9_ordinal, wF5_type, wF10_ordinal, wF6_type, wF11_ordinal, wF12_ordinal, wF13_ordinal, wF14_ordinal, wF15_ordinal, wF16_ordinal, wF17_value, wA, -⟩ := id hWd
  have pre0 : ∀ t, Steps p.tables e below (s₁.setTop (mkF m 0 #[.val (.int (2 : Int32))] [])) t → Steps p.tables e below (s₁.setTop (entryFrame m #[(.int (2 : Int32))] 1)) t := fun t k => castTop (ef7 m ) k
  obtain ⟨fs, hr, hrun, hended, hWr, hsame⟩ := X0.leave (v := some .null) (fun h => by rw [Bd.returns] at h; cases h) hlk
  refine ⟨_, _, pre0 _ ?_, hrun, hended, _, _, rfl, ?_, ⟨_, rfl⟩, hWr, hsame.mono (Nat.le_of_ble_eq_true rfl) (Nat.le_of_ble_eq_true rfl)⟩
  · show Steps p.tables e below (s₁.setTop (mkF m 0 #[.val (.int (2 : Int32))] [])) _
    refine XS.iloadN X0.here hx rfl (hb hby d_method_4_code_0) rfl ?_
    show Steps p.tables e below (s₁.setTop (mkF m 1 #[.val (.int (2 : Int32))] [(.int (2 : Int32))])) _
    refine XS.iconst X0.here hx rfl (hb hby d_method_4_code_1) ?_
    show Steps p.tables e below (s₁.setTop (mkF m 2 #[.val (.int (2 : Int32))] [(.int (3 : Int32)), (.int (2 : Int32))])) _
    refine XS.icmpYes X0.here hx rfl (pc0 := 2) (pc' := 9) rfl (hb hby d_method_4_code_2) rfl (by decide) (by decide) (by decide) ?_
    show Steps p.tables e below (s₁.setTop (mkF m 9 #[.val (.int (2 : Int32))] [])) _
    refine XS.iloadN X0.here hx rfl (hb hby d_method_4_code_9) rfl ?_
    show Steps p.tables e below (s₁.setTop (mkF m 10 #[.val (.int (2 : Int32))] [(.int (2 : Int32))])) _
    refine XS.iconst X0.here hx rfl (hb hby d_method_4_code_10) ?_
    show Steps p.tables e below (s₁.setTop (mkF m 11 #[.val (.int (2 : Int32))] [(.int (4 : Int32)), (.int (2 : Int32))])) _
    refine XS.icmpYes X0.here hx rfl (pc0 := 11) (pc' := 18) rfl (hb hby d_method_4_code_11) rfl (by decide) (by decide) (by decide) ?_
    show Steps p.tables e below (s₁.setTop (mkF m 18 #[.val (.int (2 : Int32))] [])) _
    refine XS.iloadN X0.here hx rfl (hb hby d_method_4_code_18) rfl ?_
    show Steps p.tables e below (s₁.setTop (mkF m 19 #[.val (.int (2 : Int32))] [(.int (2 : Int32))])) _
    refine XS.bipush X0.here hx rfl (hb hby d_method_4_code_19) ?_
    show Steps p.tables e below (s₁.setTop (mkF m 21 #[.val (.int (2 : Int32))] [(.int (7 : Int32)), (.int (2 : Int32))])) _
    refine XS.icmpYes X0.here hx rfl (pc0 := 21) (pc' := 28) rfl (hb hby d_method_4_code_21) rfl (by decide) (by decide) (by decide) ?_
    show Steps p.tables e below (s₁.setTop (mkF m 28 #[.val (.int (2 : Int32))] [])) _
    refine XS.iloadN X0.here hx rfl (hb hby d_method_4_code_28) rfl ?_
    show Steps p.tables e below (s₁.setTop (mkF m 29 #[.val (.int (2 : Int32))] [(.int (2 : Int32))])) _
    refine XS.bipush X0.here hx rfl (hb hby d_method_4_code_29) ?_
    show Steps p.tables e below (s₁.setTop (mkF m 31 #[.val (.int (2 : Int32))] [(.int (8 : Int32)), (.int (2 : Int32))])) _
    refine XS.icmpYes X0.here hx rfl (pc0 := 31) (pc' := 38) rfl (hb hby d_method_4_code_31) rfl (by decide) (by decide) (by decide) ?_
    show Steps p.tables e below (s₁.setTop (mkF m 38 #[.val (.int (2 : Int32))] [])) _
    refine XS.iloadN X0.here hx rfl (hb hby d_method_4_code_38) rfl ?_
    show Steps p.tables e below (s₁.setTop (mkF m 39 #[.val (.int (2 : Int32))] [(.int (2 : Int32))])) _
    refine XS.bipush X0.here hx rfl (hb hby d_method_4_code_39) ?_
    show Steps p.tables e below (s₁.setTop (mkF m 41 #[.val (.int (2 : Int32))] [(.int (9 : Int32)), (.int (2 : Int32))])) _
    refine XS.icmpYes X0.here hx rfl (pc0 := 41) (pc' := 48) rfl (hb hby d_method_4_code_41) rfl (by decide) (by decide) (by decide) ?_
    show Steps p.tables e below (s₁.setTop (mkF m 48 #[.val (.int (2 : Int32))] [])) _
    refine XS.aconstNull X0.here hx rfl (hb hby d_method_4_code_48) ?_
    show Steps p.tables e below (s₁.setTop (mkF m 49 #[.val (.int (2 : Int32))] [.null])) _
    exact retOut X0 hx (t := (.object "com/example/weaverbird/weaverbird/queues/RunAction")) (i := .areturn) Bd.returns rfl (Or.inr (Or.inr (Or.inr (Or.inr ⟨rfl, rfl, rfl⟩)))) (hb hby d_method_4_code_49) hr
  · show Qp (some .null) h0 n0 _ s₁.heap _
    rw [e0]
    exact ⟨rfl, N0, rfl⟩
theorem ef8 (m : MethodId)   (w12 : Addr) : entryFrame m #[(.ref w12)] 5 = mkF m 0 #[.val (.ref w12), .unset, .unset, .unset, .unset] [] := by first | (simp [entryFrame, mkF, argsToLocals, Value.category]; done) | rfl
def Qerm12 (Z : State) (w0 w1 w2 w3 w4 w5 w6 w7 w8 w9 w10 w11 w12 w13 w14 w15 w16 w17 : Addr) (h0 : Heap) (n0 : Nat) (v : Option Value) (h : Heap) (L : List Loc) : Prop := v = some (.ref w17) ∧ Fr n0 L ∧ Keep h0 h [] ∧ Old Z n0 h
set_option maxRecDepth 65536 in
set_option maxHeartbeats 40000000 in
theorem rm12 (l : Launch) (Z : State) (a0 : Array Value) (hw : ∀ d ∈ tables_1, d.before a0 Z = true) (ws : List Jvm.Cond) (w0 w1 w2 w3 w4 w5 w6 w7 w8 w9 w10 w11 w12 w13 w14 w15 w16 w17 : Addr) (h0 : Heap) (n0 : Nat) (hWd : Wd Z w0 w1 w2 w3 w4 w5 w6 w7 w8 w9 w10 w11 w12 w13 w14 w15 w16 w17) (O0 : Old Z n0 h0) :
    MetFree l (⟨"com/example/weaverbird/weaverbird/queues/RunAction", "of", "(Lcom/example/weaverbird/weaverbird/codes/CommandType;)Ljava/util/Optional;"⟩ : MethodName) (head1 (Jvm.Cond.code (⟨"com/example/weaverbird/weaverbird/queues/RunAction", "of", "(Lcom/example/weaverbird/weaverbird/codes/CommandType;)Ljava/util/Optional;"⟩ : MethodName) prog_16_method_4_code 5 (some (.object "java/util/Optional")) :: ws) ({ frames := 2, cells := 1, slots := 5, locals := 25 } : Room)) (fun a U => a = #[(.ref w12)] ∧ Z.Warmed39 U.vm ∧ U.heap = h0) (fun _ _ _ _ _ => True) (fun _ U o U' => ∃ v L, o = .returned v ∧ Qerm12 Z w0 w1 w2 w3 w4 w5 w6 w7 w8 w9 w10 w11 w12 w13 w14 w15 w16 w17 h0 n0 v U'.heap L ∧ FrameEnd U o U' L ({ frames := 2, cells := 1, slots := 5, locals := 25 } : Room).cells ({ frames := 2, cells := 1, slots := 5, locals := 25 } : Room).slots) := by
  refine MetFree.of_bodySF (plainFor_of_name pn1) hisR ?_
  intro p e s m args below meth c s₁ Bd hml0 hP hK
  obtain ⟨rfl, hZ, hh⟩ := hP
  have hx := Bd.exec
  have hby := Bd.bytes
  have hml : c.maxLocals = 5 := hml0
  have hown : s.vm.findClass "com/example/weaverbird/weaverbird/queues/RunAction" = some m.cls := findClass_of_methodNamed Bd.named
  have hnm := (name_of_methodNamed Bd.named Bd.method).1
  have X0 : Stand p l e ({ frames := 2, cells := 1, slots := 5, locals := 25 } : Room) s m #[(.ref w12)] below meth c s₁ [] 0 0 := Stand.of_body Bd
  have e0 : s₁.heap = h0 := by rw [← hh, Bd.state]; rfl
  have N0 := Fr.nil n0
  have hlk := Bd.notSynchronized
  obtain ⟨wS0, wE0, wS1, wE1, wS2, wE2, wS3, wE3, wS4, wE4, wS5, wE5, wS6, wE6, wS7, wE7, wS8, wE8, wS9, wE9, wS10, wE10, wS11, wE11, wS12, wE12, wS13, wE13, wS14, wE14, wS15, wE15, wS16, wE16, wS17, wE17, wF2_type, wF7_ordinal, wF0_ordinal, wF3_type, wF8_ordinal, wF4_type, wF9_ordinal, wF5_type, wF10_ordinal, wF6_type, wF11_ordinal, wF12_ordinal, wF13_ordinal, wF14_ordinal, wF15_ordinal, wF16_ordinal, wF17_value, wA, -⟩ := id hWd
  have pre0 : ∀ t, Steps p.tables e below (s₁.setTop (mkF m 0 #[.val (.ref w12), .unset, .unset, .unset, .unset] [])) t → Steps p.tables e below (s₁.setTop (entryFrame m #[(.ref w12)] 5)) t := fun t k => castTop (ef8 m w12) k
  obtain ⟨_, _, ⟨T57, L57, k57, n57⟩, -, X57, ⟨Lc57, hQ57, l57, y57, z57⟩, st57⟩ := Jvm.LawKit.callS X0 hx (y := (⟨"com/example/weaverbird/weaverbird/queues/RunAction", "values", "()[Lcom/example/weaverbird/weaverbird/queues/RunAction;"⟩ : MethodName)) hown (mvT hZ (hw _ (List.mem_of_getElem? (i := 15) rfl))) (mvT hZ (hw _ (List.mem_of_getElem? (i := 16) rfl))) (mvT hZ (hw _ (List.mem_of_getElem? (i := 13) rfl))) (mvT hZ (hw _ (List.mem_of_getElem? (i := 17) rfl))) (by decide) (backOf (W := 0) (rm4 l Z a0 hw [] w0 w1 w2 w3 w4 w5 w6 w7 w8 w9 w10 w11 w12 w13 w14 w15 w16 w17 h0 n0 hWd O0) hZ (hw _ (List.mem_of_getElem? (i := 17) rfl)) (hw _ (List.mem_of_getElem? (i := 13) rfl)) (by decide) (by decide)) (g := (mkF m 0 #[.val (.ref w12), .unset, .unset, .unset, .unset] [])) rfl (by rw [hml]; rfl) (argsL := []) (rest := []) (lenOf pd2 rfl) rfl (by show 2 * 0 + _ ≤ _; exact Nat.le_of_eq rfl) (hb hby d_prog_16_method_4_code_0) (fun _ _ => ⟨rfl, e0, (by decide : 0 + 1 ≤ _), (by decide : 0 + 5 ≤ _)⟩)
  dsimp only [Pt.U, Pt.locs, Pt.cells, Pt.slots] at X57 l57 y57 z57 st57 hQ57
  subst l57 y57 z57
  obtain ⟨r57, ka57, rfl, N57q, K57, O_57, V57, g_r57⟩ := hQ57
  have N57 := Fr.app N0 N57q
  have Kp57 : Keep h0 T57.heap [] := (Keep.refl h0 []).trans K57 all0
  obtain ⟨cl58, Ar58, q58, S58, M58, H58, G58⟩ := id V57
  obtain ⟨cl59, Ar59, q59, S59, M59, H59, G59⟩ := id V57
  have hin59 : ¬ ((0 : Int32) < 0 ∨ cl59.slots.size ≤ ((0 : Int32)).toNatClampNeg) := inb_of S59 ⟨by decide, by decide⟩
  have hat59 : cl59.slots[((0 : Int32)).toNatClampNeg]? = some (.ref w2) := Has.at H59 hin59 rfl
  obtain ⟨T60, X60, e60, st60⟩ := getF X57 hx hZ hown (host := "") (Or.inl (hw _ (List.mem_of_getElem? (i := 35) rfl))) Via.refl rfl (wF2_type.ext O_57.2) (g := (mkF m 21 #[.val (.ref w12), .val (.ref r57), .val (.int (5 : Int32)), .val (.int (0 : Int32)), .val (.ref w2)] [(.ref w2)])) rfl rfl (hb hby d_prog_16_method_4_code_21)
  obtain ⟨cl61, Ar61, q61, S61, M61, H61, G61⟩ := id V57
  have hin61 : ¬ ((1 : Int32) < 0 ∨ cl61.slots.size ≤ ((1 : Int32)).toNatClampNeg) := inb_of S61 ⟨by decide, by decide⟩
  have hat61 : cl61.slots[((1 : Int32)).toNatClampNeg]? = some (.ref w3) := Has.at H61 hin61 rfl
  obtain ⟨T62, X62, e62, st62⟩ := getF X60 hx hZ hown (host := "") (Or.inl (hw _ (List.mem_of_getElem? (i := 35) rfl))) Via.refl e60 (wF3_type.ext O_57.2) (g := (mkF m 21 #[.val (.ref w12), .val (.ref r57), .val (.int (5 : Int32)), .val (.int (1 : Int32)), .val (.ref w3)] [(.ref w3)])) rfl rfl (hb hby d_prog_16_method_4_code_21)
  obtain ⟨cl63, Ar63, q63, S63, M63, H63, G63⟩ := id V57
  have hin63 : ¬ ((2 : Int32) < 0 ∨ cl63.slots.size ≤ ((2 : Int32)).toNatClampNeg) := inb_of S63 ⟨by decide, by decide⟩
  have hat63 : cl63.slots[((2 : Int32)).toNatClampNeg]? = some (.ref w4) := Has.at H63 hin63 rfl
  obtain ⟨T64, X64, e64, st64⟩ := getF X62 hx hZ hown (host := "") (Or.inl (hw _ (List.mem_of_getElem? (i := 35) rfl))) Via.refl e62 (wF4_type.ext O_57.2) (g := (mkF m 21 #[.val (.ref w12), .val (.ref r57), .val (.int (5 : Int32)), .val (.int (2 : Int32)), .val (.ref w4)] [(.ref w4)])) rfl rfl (hb hby d_prog_16_method_4_code_21)
  obtain ⟨cl65, Ar65, q65, S65, M65, H65, G65⟩ := id V57
  have hin65 : ¬ ((3 : Int32) < 0 ∨ cl65.slots.size ≤ ((3 : Int32)).toNatClampNeg) := inb_of S65 ⟨by decide, by decide⟩
  have hat65 : cl65.slots[((3 : Int32)).toNatClampNeg]? = some (.ref w5) := Has.at H65 hin65 rfl
  obtain ⟨T66, X66, e66, st66⟩ := getF X64 hx hZ hown (host := "") (Or.inl (hw _ (List.mem_of_getElem? (i := 35) rfl))) Via.refl e64 (wF5_type.ext O_57.2) (g := (mkF m 21 #[.val (.ref w12), .val (.ref r57), .val (.int (5 : Int32)), .val (.int (3 : Int32)), .val (.ref w5)] [(.ref w5)])) rfl rfl (hb hby d_prog_16_method_4_code_21)
  obtain ⟨cl67, Ar67, q67, S67, M67, H67, G67⟩ := id V57
  have hin67 : ¬ ((4 : Int32) < 0 ∨ cl67.slots.size ≤ ((4 : Int32)).toNatClampNeg) := inb_of S67 ⟨by decide, by decide⟩
  have hat67 : cl67.slots[((4 : Int32)).toNatClampNeg]? = some (.ref w6) := Has.at H67 hin67 rfl
  obtain ⟨T68, X68, e68, st68⟩ := getF X66 hx hZ hown (host := "") (Or.inl (hw _ (List.mem_of_getElem? (i := 35) rfl))) Via.refl e66 (wF6_type.ext O_57.2) (g := (mkF m 21 #[.val (.ref w12), .val (.ref r57), .val (.int (5 : Int32)), .val (.int (4 : Int32)), .val (.ref w6)] [(.ref w6)])) rfl rfl (hb hby d_prog_16_method_4_code_21)
  obtain ⟨_, _, ⟨T69, L69, k69, n69⟩, -, X69, ⟨Lc69, hQ69, l69, y69, z69⟩, st69⟩ := Jvm.LawKit.callS X68 hx (y := (⟨"java/util/Optional", "empty", "()Ljava/util/Optional;"⟩ : MethodName)) hown (mvT hZ (hw _ (List.mem_of_getElem? (i := 42) rfl))) (mvT hZ (hw _ (List.mem_of_getElem? (i := 43) rfl))) (mvT hZ (hw _ (List.mem_of_getElem? (i := 44) rfl))) (mvT hZ (hw _ (List.mem_of_getElem? (i := 45) rfl))) (by decide) (backOf (W := 0) (rm5 l Z a0 hw [] w0 w1 w2 w3 w4 w5 w6 w7 w8 w9 w10 w11 w12 w13 w14 w15 w16 w17 T57.heap n0 hWd O_57) hZ (hw _ (List.mem_of_getElem? (i := 45) rfl)) (hw _ (List.mem_of_getElem? (i := 44) rfl)) (by decide) (by decide)) (g := (mkF m 40 #[.val (.ref w12), .val (.ref r57), .val (.int (5 : Int32)), .val (.int (5 : Int32)), .val (.ref w6)] [])) rfl (by rw [hml]; rfl) (argsL := []) (rest := []) (lenOf pd3 rfl) rfl (by show 2 * 0 + _ ≤ _; exact Nat.le_of_eq rfl) (hb hby d_prog_16_method_4_code_40) (fun _ _ => ⟨rfl, e68, (by decide : 1 + 0 ≤ _), (by decide : 5 + 0 ≤ _)⟩)
  dsimp only [Pt.U, Pt.locs, Pt.cells, Pt.slots] at X69 l69 y69 z69 st69 hQ69
  subst l69 y69 z69
  obtain ⟨rfl, N69q, e69⟩ := hQ69
  have N69 := Fr.app N57 N69q
  obtain ⟨fs, hr, hrun, hended, hWr, hsame⟩ := X69.leave (v := some (.ref w17)) (fun h => by rw [Bd.returns] at h; cases h) hlk
  refine ⟨_, _, pre0 _ ?_, hrun, hended, _, _, rfl, ?_, ⟨_, rfl⟩, hWr, hsame.mono (Nat.le_of_ble_eq_true rfl) (Nat.le_of_ble_eq_true rfl)⟩
  · show Steps p.tables e below (s₁.setTop (mkF m 0 #[.val (.ref w12), .unset, .unset, .unset, .unset] [])) _
    refine st57 _ ?_
    show Steps p.tables e below (T57.setTop (mkF m 3 #[.val (.ref w12), .unset, .unset, .unset, .unset] [(.ref r57)])) _
    refine XS.astoreN X57.here hx rfl (hb hby d_prog_16_method_4_code_3) rfl rfl (l' := #[.val (.ref w12), .val (.ref r57), .unset, .unset, .unset]) rfl ?_
    show Steps p.tables e below (T57.setTop (mkF m 4 #[.val (.ref w12), .val (.ref r57), .unset, .unset, .unset] [])) _
    refine XS.aloadN X57.here hx rfl (hb hby d_prog_16_method_4_code_4) rfl rfl ?_
    show Steps p.tables e below (T57.setTop (mkF m 5 #[.val (.ref w12), .val (.ref r57), .unset, .unset, .unset] [(.ref r57)])) _
    refine X57.arraylength hx Ar58.1 (State.isArrayOf_alike hZ.alike Ar58.2.1) (g := (mkF m 5 #[.val (.ref w12), .val (.ref r57), .unset, .unset, .unset] [(.ref r57)])) rfl rfl (hb hby d_prog_16_method_4_code_5) _ ?_
    rw [len_of S58 M58]
    show Steps p.tables e below (T57.setTop (mkF m 6 #[.val (.ref w12), .val (.ref r57), .unset, .unset, .unset] [(.int (5 : Int32))])) _
    refine XS.istoreN X57.here hx rfl (hb hby d_prog_16_method_4_code_6) rfl (l' := #[.val (.ref w12), .val (.ref r57), .val (.int (5 : Int32)), .unset, .unset]) rfl ?_
    show Steps p.tables e below (T57.setTop (mkF m 7 #[.val (.ref w12), .val (.ref r57), .val (.int (5 : Int32)), .unset, .unset] [])) _
    refine XS.iconst X57.here hx rfl (hb hby d_prog_16_method_4_code_7) ?_
    show Steps p.tables e below (T57.setTop (mkF m 8 #[.val (.ref w12), .val (.ref r57), .val (.int (5 : Int32)), .unset, .unset] [(.int (0 : Int32))])) _
    refine XS.istoreN X57.here hx rfl (hb hby d_prog_16_method_4_code_8) rfl (l' := #[.val (.ref w12), .val (.ref r57), .val (.int (5 : Int32)), .val (.int (0 : Int32)), .unset]) rfl ?_
    show Steps p.tables e below (T57.setTop (mkF m 9 #[.val (.ref w12), .val (.ref r57), .val (.int (5 : Int32)), .val (.int (0 : Int32)), .unset] [])) _
    refine XS.iloadN X57.here hx rfl (hb hby d_prog_16_method_4_code_9) rfl ?_
    show Steps p.tables e below (T57.setTop (mkF m 10 #[.val (.ref w12), .val (.ref r57), .val (.int (5 : Int32)), .val (.int (0 : Int32)), .unset] [(.int (0 : Int32))])) _
    refine XS.iloadN X57.here hx rfl (hb hby d_prog_16_method_4_code_10) rfl ?_
    show Steps p.tables e below (T57.setTop (mkF m 11 #[.val (.ref w12), .val (.ref r57), .val (.int (5 : Int32)), .val (.int (0 : Int32)), .unset] [(.int (5 : Int32)), (.int (0 : Int32))])) _
    refine XS.icmpNo X57.here hx rfl (hb hby d_prog_16_method_4_code_11) rfl (by decide) ?_
    show Steps p.tables e below (T57.setTop (mkF m 14 #[.val (.ref w12), .val (.ref r57), .val (.int (5 : Int32)), .val (.int (0 : Int32)), .unset] [])) _
    refine XS.aloadN X57.here hx rfl (hb hby d_prog_16_method_4_code_14) rfl rfl ?_
    show Steps p.tables e below (T57.setTop (mkF m 15 #[.val (.ref w12), .val (.ref r57), .val (.int (5 : Int32)), .val (.int (0 : Int32)), .unset] [(.ref r57)])) _
    refine XS.iloadN X57.here hx rfl (hb hby d_prog_16_method_4_code_15) rfl ?_
    show Steps p.tables e below (T57.setTop (mkF m 16 #[.val (.ref w12), .val (.ref r57), .val (.int (5 : Int32)), .val (.int (0 : Int32)), .unset] [(.int (0 : Int32)), (.ref r57)])) _
    refine X57.aaload hx (j := (0 : Int32)) (v := (.ref w2)) Ar59.1 (State.isArrayOf_alike hZ.alike Ar59.2.1) rfl Ar59.2.2 hin59 hat59 (g := (mkF m 16 #[.val (.ref w12), .val (.ref r57), .val (.int (5 : Int32)), .val (.int (0 : Int32)), .unset] [(.int (0 : Int32)), (.ref r57)])) rfl rfl (hb hby d_prog_16_method_4_code_16) _ ?_
    show Steps p.tables e below (T57.setTop (mkF m 17 #[.val (.ref w12), .val (.ref r57), .val (.int (5 : Int32)), .val (.int (0 : Int32)), .unset] [(.ref w2)])) _
    refine XS.astore X57.here hx rfl (hb hby d_prog_16_method_4_code_17) rfl rfl (l' := #[.val (.ref w12), .val (.ref r57), .val (.int (5 : Int32)), .val (.int (0 : Int32)), .val (.ref w2)]) rfl ?_
    show Steps p.tables e below (T57.setTop (mkF m 19 #[.val (.ref w12), .val (.ref r57), .val (.int (5 : Int32)), .val (.int (0 : Int32)), .val (.ref w2)] [])) _
    refine XS.aload X57.here hx rfl (hb hby d_prog_16_method_4_code_19) rfl rfl ?_
    show Steps p.tables e below (T57.setTop (mkF m 21 #[.val (.ref w12), .val (.ref r57), .val (.int (5 : Int32)), .val (.int (0 : Int32)), .val (.ref w2)] [(.ref w2)])) _
    refine st60 _ ?_
    show Steps p.tables e below (T60.setTop (mkF m 24 #[.val (.ref w12), .val (.ref r57), .val (.int (5 : Int32)), .val (.int (0 : Int32)), .val (.ref w2)] [(.ref w7)])) _
    refine XS.aloadN X60.here hx rfl (hb hby d_prog_16_method_4_code_24) rfl rfl ?_
    show Steps p.tables e below (T60.setTop (mkF m 25 #[.val (.ref w12), .val (.ref r57), .val (.int (5 : Int32)), .val (.int (0 : Int32)), .val (.ref w2)] [(.ref w12), (.ref w7)])) _
    refine Jvm.RoadKit.acmp (g := (mkF m 25 #[.val (.ref w12), .val (.ref r57), .val (.int (5 : Int32)), .val (.int (0 : Int32)), .val (.ref w2)] [(.ref w12), (.ref w7)])) X60 hx rfl rfl rfl (pc0 := 25) (pc' := 34) (same := false) rfl (hb hby d_prog_16_method_4_code_25) rfl (decide_eq_false fun q => (Fld.ne wF7_ordinal wF12_ordinal (fun q => absurd (Value.int.inj q) (by decide))) (Value.ref.inj q)) (by decide) (by decide) ?_
    show Steps p.tables e below (T60.setTop (mkF m 34 #[.val (.ref w12), .val (.ref r57), .val (.int (5 : Int32)), .val (.int (0 : Int32)), .val (.ref w2)] [])) _
    refine XS.iinc X60.here hx rfl (hb hby d_prog_16_method_4_code_34) rfl (l' := #[.val (.ref w12), .val (.ref r57), .val (.int (5 : Int32)), .val (.int (1 : Int32)), .val (.ref w2)]) rfl ?_
    show Steps p.tables e below (T60.setTop (mkF m 37 #[.val (.ref w12), .val (.ref r57), .val (.int (5 : Int32)), .val (.int (1 : Int32)), .val (.ref w2)] [])) _
    refine XS.goto X60.here hx rfl (pc0 := 37) (pc' := 9) rfl (hb hby d_prog_16_method_4_code_37) (by decide) (by decide) ?_
    show Steps p.tables e below (T60.setTop (mkF m 9 #[.val (.ref w12), .val (.ref r57), .val (.int (5 : Int32)), .val (.int (1 : Int32)), .val (.ref w2)] [])) _
    refine XS.iloadN X60.here hx rfl (hb hby d_prog_16_method_4_code_9) rfl ?_
    show Steps p.tables e below (T60.setTop (mkF m 10 #[.val (.ref w12), .val (.ref r57), .val (.int (5 : Int32)), .val (.int (1 : Int32)), .val (.ref w2)] [(.int (1 : Int32))])) _
    refine XS.iloadN X60.here hx rfl (hb hby d_prog_16_method_4_code_10) rfl ?_
    show Steps p.tables e below (T60.setTop (mkF m 11 #[.val (.ref w12), .val (.ref r57), .val (.int (5 : Int32)), .val (.int (1 : Int32)), .val (.ref w2)] [(.int (5 : Int32)), (.int (1 : Int32))])) _
    refine XS.icmpNo X60.here hx rfl (hb hby d_prog_16_method_4_code_11) rfl (by decide) ?_
    show Steps p.tables e below (T60.setTop (mkF m 14 #[.val (.ref w12), .val (.ref r57), .val (.int (5 : Int32)), .val (.int (1 : Int32)), .val (.ref w2)] [])) _
    refine XS.aloadN X60.here hx rfl (hb hby d_prog_16_method_4_code_14) rfl rfl ?_
    show Steps p.tables e below (T60.setTop (mkF m 15 #[.val (.ref w12), .val (.ref r57), .val (.int (5 : Int32)), .val (.int (1 : Int32)), .val (.ref w2)] [(.ref r57)])) _
    refine XS.iloadN X60.here hx rfl (hb hby d_prog_16_method_4_code_15) rfl ?_
    show Steps p.tables e below (T60.setTop (mkF m 16 #[.val (.ref w12), .val (.ref r57), .val (.int (5 : Int32)), .val (.int (1 : Int32)), .val (.ref w2)] [(.int (1 : Int32)), (.ref r57)])) _
    refine X60.aaload hx (j := (1 : Int32)) (v := (.ref w3)) (by rw [e60]; exact Ar61.1) (State.isArrayOf_alike hZ.alike Ar61.2.1) rfl Ar61.2.2 hin61 hat61 (g := (mkF m 16 #[.val (.ref w12), .val (.ref r57), .val (.int (5 : Int32)), .val (.int (1 : Int32)), .val (.ref w2)] [(.int (1 : Int32)), (.ref r57)])) rfl rfl (hb hby d_prog_16_method_4_code_16) _ ?_
    show Steps p.tables e below (T60.setTop (mkF m 17 #[.val (.ref w12), .val (.ref r57), .val (.int (5 : Int32)), .val (.int (1 : Int32)), .val (.ref w2)] [(.ref w3)])) _
    refine XS.astore X60.here hx rfl (hb hby d_prog_16_method_4_code_17) rfl rfl (l' := #[.val (.ref w12), .val (.ref r57), .val (.int (5 : Int32)), .val (.int (1 : Int32)), .val (.ref w3)]) rfl ?_
    show Steps p.tables e below (T60.setTop (mkF m 19 #[.val (.ref w12), .val (.ref r57), .val (.int (5 : Int32)), .val (.int (1 : Int32)), .val (.ref w3)] [])) _
    refine XS.aload X60.here hx rfl (hb hby d_prog_16_method_4_code_19) rfl rfl ?_
    show Steps p.tables e below (T60.setTop (mkF m 21 #[.val (.ref w12), .val (.ref r57), .val (.int (5 : Int32)), .val (.int (1 : Int32)), .val (.ref w3)] [(.ref w3)])) _
    refine st62 _ ?_
    show Steps p.tables e below (T62.setTop (mkF m 24 #[.val (.ref w12), .val (.ref r57), .val (.int (5 : Int32)), .val (.int (1 : Int32)), .val (.ref w3)] [(.ref w8)])) _
    refine XS.aloadN X62.here hx rfl (hb hby d_prog_16_method_4_code_24) rfl rfl ?_
    show Steps p.tables e below (T62.setTop (mkF m 25 #[.val (.ref w12), .val (.ref r57), .val (.int (5 : Int32)), .val (.int (1 : Int32)), .val (.ref w3)] [(.ref w12), (.ref w8)])) _
    refine Jvm.RoadKit.acmp (g := (mkF m 25 #[.val (.ref w12), .val (.ref r57), .val (.int (5 : Int32)), .val (.int (1 : Int32)), .val (.ref w3)] [(.ref w12), (.ref w8)])) X62 hx rfl rfl rfl (pc0 := 25) (pc' := 34) (same := false) rfl (hb hby d_prog_16_method_4_code_25) rfl (decide_eq_false fun q => (Fld.ne wF8_ordinal wF12_ordinal (fun q => absurd (Value.int.inj q) (by decide))) (Value.ref.inj q)) (by decide) (by decide) ?_
    show Steps p.tables e below (T62.setTop (mkF m 34 #[.val (.ref w12), .val (.ref r57), .val (.int (5 : Int32)), .val (.int (1 : Int32)), .val (.ref w3)] [])) _
    refine XS.iinc X62.here hx rfl (hb hby d_prog_16_method_4_code_34) rfl (l' := #[.val (.ref w12), .val (.ref r57), .val (.int (5 : Int32)), .val (.int (2 : Int32)), .val (.ref w3)]) rfl ?_
    show Steps p.tables e below (T62.setTop (mkF m 37 #[.val (.ref w12), .val (.ref r57), .val (.int (5 : Int32)), .val (.int (2 : Int32)), .val (.ref w3)] [])) _
    refine XS.goto X62.here hx rfl (pc0 := 37) (pc' := 9) rfl (hb hby d_prog_16_method_4_code_37) (by decide) (by decide) ?_
    show Steps p.tables e below (T62.setTop (mkF m 9 #[.val (.ref w12), .val (.ref r57), .val (.int (5 : Int32)), .val (.int (2 : Int32)), .val (.ref w3)] [])) _
    refine XS.iloadN X62.here hx rfl (hb hby d_prog_16_method_4_code_9) rfl ?_
    show Steps p.tables e below (T62.setTop (mkF m 10 #[.val (.ref w12), .val (.ref r57), .val (.int (5 : Int32)), .val (.int (2 : Int32)), .val (.ref w3)] [(.int (2 : Int32))])) _
    refine XS.iloadN X62.here hx rfl (hb hby d_prog_16_method_4_code_10) rfl ?_
    show Steps p.tables e below (T62.setTop (mkF m 11 #[.val (.ref w12), .val (.ref r57), .val (.int (5 : Int32)), .val (.int (2 : Int32)), .val (.ref w3)] [(.int (5 : Int32)), (.int (2 : Int32))])) _
    refine XS.icmpNo X62.here hx rfl (hb hby d_prog_16_method_4_code_11) rfl (by decide) ?_
    show Steps p.tables e below (T62.setTop (mkF m 14 #[.val (.ref w12), .val (.ref r57), .val (.int (5 : Int32)), .val (.int (2 : Int32)), .val (.ref w3)] [])) _
    refine XS.aloadN X62.here hx rfl (hb hby d_prog_16_method_4_code_14) rfl rfl ?_
    show Steps p.tables e below (T62.setTop (mkF m 15 #[.val (.ref w12), .val (.ref r57), .val (.int (5 : Int32)), .val (.int (2 : Int32)), .val (.ref w3)] [(.ref r57)])) _
    refine XS.iloadN X62.here hx rfl (hb hby d_prog_16_method_4_code_15) rfl ?_
    show Steps p.tables e below (T62.setTop (mkF m 16 #[.val (.ref w12), .val (.ref r57), .val (.int (5 : Int32)), .val (.int (2 : Int32)), .val (.ref w3)] [(.int (2 : Int32)), (.ref r57)])) _
    refine X62.aaload hx (j := (2 : Int32)) (v := (.ref w4)) (by rw [e62]; exact Ar63.1) (State.isArrayOf_alike hZ.alike Ar63.2.1) rfl Ar63.2.2 hin63 hat63 (g := (mkF m 16 #[.val (.ref w12), .val (.ref r57), .val (.int (5 : Int32)), .val (.int (2 : Int32)), .val (.ref w3)] [(.int (2 : Int32)), (.ref r57)])) rfl rfl (hb hby d_prog_16_method_4_code_16) _ ?_
    show Steps p.tables e below (T62.setTop (mkF m 17 #[.val (.ref w12), .val (.ref r57), .val (.int (5 : Int32)), .val (.int (2 : Int32)), .val (.ref w3)] [(.ref w4)])) _
    refine XS.astore X62.here hx rfl (hb hby d_prog_16_method_4_code_17) rfl rfl (l' := #[.val (.ref w12), .val (.ref r57), .val (.int (5 : Int32)), .val (.int (2 : Int32)), .val (.ref w4)]) rfl ?_
    show Steps p.tables e below (T62.setTop (mkF m 19 #[.val (.ref w12), .val (.ref r57), .val (.int (5 : Int32)), .val (.int (2 : Int32)), .val (.ref w4)] [])) _
    refine XS.aload X62.here hx rfl (hb hby d_prog_16_method_4_code_19) rfl rfl ?_
    show Steps p.tables e below (T62.setTop (mkF m 21 #[.val (.ref w12), .val (.ref r57), .val (.int (5 : Int32)), .val (.int (2 : Int32)), .val (.ref w4)] [(.ref w4)])) _
    refine st64 _ ?_
    show Steps p.tables e below (T64.setTop (mkF m 24 #[.val (.ref w12), .val (.ref r57), .val (.int (5 : Int32)), .val (.int (2 : Int32)), .val (.ref w4)] [(.ref w9)])) _
    refine XS.aloadN X64.here hx rfl (hb hby d_prog_16_method_4_code_24) rfl rfl ?_
    show Steps p.tables e below (T64.setTop (mkF m 25 #[.val (.ref w12), .val (.ref r57), .val (.int (5 : Int32)), .val (.int (2 : Int32)), .val (.ref w4)] [(.ref w12), (.ref w9)])) _
    refine Jvm.RoadKit.acmp (g := (mkF m 25 #[.val (.ref w12), .val (.ref r57), .val (.int (5 : Int32)), .val (.int (2 : Int32)), .val (.ref w4)] [(.ref w12), (.ref w9)])) X64 hx rfl rfl rfl (pc0 := 25) (pc' := 34) (same := false) rfl (hb hby d_prog_16_method_4_code_25) rfl (decide_eq_false fun q => (Fld.ne wF9_ordinal wF12_ordinal (fun q => absurd (Value.int.inj q) (by decide))) (Value.ref.inj q)) (by decide) (by decide) ?_
    show Steps p.tables e below (T64.setTop (mkF m 34 #[.val (.ref w12), .val (.ref r57), .val (.int (5 : Int32)), .val (.int (2 : Int32)), .val (.ref w4)] [])) _
    refine XS.iinc X64.here hx rfl (hb hby d_prog_16_method_4_code_34) rfl (l' := #[.val (.ref w12), .val (.ref r57), .val (.int (5 : Int32)), .val (.int (3 : Int32)), .val (.ref w4)]) rfl ?_
    show Steps p.tables e below (T64.setTop (mkF m 37 #[.val (.ref w12), .val (.ref r57), .val (.int (5 : Int32)), .val (.int (3 : Int32)), .val (.ref w4)] [])) _
    refine XS.goto X64.here hx rfl (pc0 := 37) (pc' := 9) rfl (hb hby d_prog_16_method_4_code_37) (by decide) (by decide) ?_
    show Steps p.tables e below (T64.setTop (mkF m 9 #[.val (.ref w12), .val (.ref r57), .val (.int (5 : Int32)), .val (.int (3 : Int32)), .val (.ref w4)] [])) _
    refine XS.iloadN X64.here hx rfl (hb hby d_prog_16_method_4_code_9) rfl ?_
    show Steps p.tables e below (T64.setTop (mkF m 10 #[.val (.ref w12), .val (.ref r57), .val (.int (5 : Int32)), .val (.int (3 : Int32)), .val (.ref w4)] [(.int (3 : Int32))])) _
    refine XS.iloadN X64.here hx rfl (hb hby d_prog_16_method_4_code_10) rfl ?_
    show Steps p.tables e below (T64.setTop (mkF m 11 #[.val (.ref w12), .val (.ref r57), .val (.int (5 : Int32)), .val (.int (3 : Int32)), .val (.ref w4)] [(.int (5 : Int32)), (.int (3 : Int32))])) _
    refine XS.icmpNo X64.here hx rfl (hb hby d_prog_16_method_4_code_11) rfl (by decide) ?_
    show Steps p.tables e below (T64.setTop (mkF m 14 #[.val (.ref w12), .val (.ref r57), .val (.int (5 : Int32)), .val (.int (3 : Int32)), .val (.ref w4)] [])) _
    refine XS.aloadN X64.here hx rfl (hb hby d_prog_16_method_4_code_14) rfl rfl ?_
    show Steps p.tables e below (T64.setTop (mkF m 15 #[.val (.ref w12), .val (.ref r57), .val (.int (5 : Int32)), .val (.int (3 : Int32)), .val (.ref w4)] [(.ref r57)])) _
    refine XS.iloadN X64.here hx rfl (hb hby d_prog_16_method_4_code_15) rfl ?_
    show Steps p.tables e below (T64.setTop (mkF m 16 #[.val (.ref w12), .val (.ref r57), .val (.int (5 : Int32)), .val (.int (3 : Int32)), .val (.ref w4)] [(.int (3 : Int32)), (.ref r57)])) _
    refine X64.aaload hx (j := (3 : Int32)) (v := (.ref w5)) (by rw [e64]; exact Ar65.1) (State.isArrayOf_alike hZ.alike Ar65.2.1) rfl Ar65.2.2 hin65 hat65 (g := (mkF m 16 #[.val (.ref w12), .val (.ref r57), .val (.int (5 : Int32)), .val (.int (3 : Int32)), .val (.ref w4)] [(.int (3 : Int32)), (.ref r57)])) rfl rfl (hb hby d_prog_16_method_4_code_16) _ ?_
    show Steps p.tables e below (T64.setTop (mkF m 17 #[.val (.ref w12), .val (.ref r57), .val (.int (5 : Int32)), .val (.int (3 : Int32)), .val (.ref w4)] [(.ref w5)])) _
    refine XS.astore X64.here hx rfl (hb hby d_prog_16_method_4_code_17) rfl rfl (l' := #[.val (.ref w12), .val (.ref r57), .val (.int (5 : Int32)), .val (.int (3 : Int32)), .val (.ref w5)]) rfl ?_
    show Steps p.tables e below (T64.setTop (mkF m 19 #[.val (.ref w12), .val (.ref r57), .val (.int (5 : Int32)), .val (.int (3 : Int32)), .val (.ref w5)] [])) _
    refine XS.aload X64.here hx rfl (hb hby d_prog_16_method_4_code_19) rfl rfl ?_
    show Steps p.tables e below (T64.setTop (mkF m 21 #[.val (.ref w12), .val (.ref r57), .val (.int (5 : Int32)), .val (.int (3 : Int32)), .val (.ref w5)] [(.ref w5)])) _
    refine st66 _ ?_
    show Steps p.tables e below (T66.setTop (mkF m 24 #[.val (.ref w12), .val (.ref r57), .val (.int (5 : Int32)), .val (.int (3 : Int32)), .val (.ref w5)] [(.ref w10)])) _
    refine XS.aloadN X66.here hx rfl (hb hby d_prog_16_method_4_code_24) rfl rfl ?_
    show Steps p.tables e below (T66.setTop (mkF m 25 #[.val (.ref w12), .val (.ref r57), .val (.int (5 : Int32)), .val (.int (3 : Int32)), .val (.ref w5)] [(.ref w12), (.ref w10)])) _
    refine Jvm.RoadKit.acmp (g := (mkF m 25 #[.val (.ref w12), .val (.ref r57), .val (.int (5 : Int32)), .val (.int (3 : Int32)), .val (.ref w5)] [(.ref w12), (.ref w10)])) X66 hx rfl rfl rfl (pc0 := 25) (pc' := 34) (same := false) rfl (hb hby d_prog_16_method_4_code_25) rfl (decide_eq_false fun q => (Fld.ne wF10_ordinal wF12_ordinal (fun q => absurd (Value.int.inj q) (by decide))) (Value.ref.inj q)) (by decide) (by decide) ?_
    show Steps p.tables e below (T66.setTop (mkF m 34 #[.val (.ref w12), .val (.ref r57), .val (.int (5 : Int32)), .val (.int (3 : Int32)), .val (.ref w5)] [])) _
    refine XS.iinc X66.here hx rfl (hb hby d_prog_16_method_4_code_34) rfl (l' := #[.val (.ref w12), .val (.ref r57), .val (.int (5 : Int32)), .val (.int (4 : Int32)), .val (.ref w5)]) rfl ?_
    show Steps p.tables e below (T66.setTop (mkF m 37 #[.val (.ref w12), .val (.ref r57), .val (.int (5 : Int32)), .val (.int (4 : Int32)), .val (.ref w5)] [])) _
    refine XS.goto X66.here hx rfl (pc0 := 37) (pc' := 9) rfl (hb hby d_prog_16_method_4_code_37) (by decide) (by decide) ?_
    show Steps p.tables e below (T66.setTop (mkF m 9 #[.val (.ref w12), .val (.ref r57), .val (.int (5 : Int32)), .val (.int (4 : Int32)), .val (.ref w5)] [])) _
    refine XS.iloadN X66.here hx rfl (hb hby d_prog_16_method_4_code_9) rfl ?_
    show Steps p.tables e below (T66.setTop (mkF m 10 #[.val (.ref w12), .val (.ref r57), .val (.int (5 : Int32)), .val (.int (4 : Int32)), .val (.ref w5)] [(.int (4 : Int32))])) _
    refine XS.iloadN X66.here hx rfl (hb hby d_prog_16_method_4_code_10) rfl ?_
    show Steps p.tables e below (T66.setTop (mkF m 11 #[.val (.ref w12), .val (.ref r57), .val (.int (5 : Int32)), .val (.int (4 : Int32)), .val (.ref w5)] [(.int (5 : Int32)), (.int (4 : Int32))])) _
    refine XS.icmpNo X66.here hx rfl (hb hby d_prog_16_method_4_code_11) rfl (by decide) ?_
    show Steps p.tables e below (T66.setTop (mkF m 14 #[.val (.ref w12), .val (.ref r57), .val (.int (5 : Int32)), .val (.int (4 : Int32)), .val (.ref w5)] [])) _
    refine XS.aloadN X66.here hx rfl (hb hby d_prog_16_method_4_code_14) rfl rfl ?_
    show Steps p.tables e below (T66.setTop (mkF m 15 #[.val (.ref w12), .val (.ref r57), .val (.int (5 : Int32)), .val (.int (4 : Int32)), .val (.ref w5)] [(.ref r57)])) _
    refine XS.iloadN X66.here hx rfl (hb hby d_prog_16_method_4_code_15) rfl ?_
    show Steps p.tables e below (T66.setTop (mkF m 16 #[.val (.ref w12), .val (.ref r57), .val (.int (5 : Int32)), .val (.int (4 : Int32)), .val (.ref w5)] [(.int (4 : Int32)), (.ref r57)])) _
    refine X66.aaload hx (j := (4 : Int32)) (v := (.ref w6)) (by rw [e66]; exact Ar67.1) (State.isArrayOf_alike hZ.alike Ar67.2.1) rfl Ar67.2.2 hin67 hat67 (g := (mkF m 16 #[.val (.ref w12), .val (.ref r57), .val (.int (5 : Int32)), .val (.int (4 : Int32)), .val (.ref w5)] [(.int (4 : Int32)), (.ref r57)])) rfl rfl (hb hby d_prog_16_method_4_code_16) _ ?_
    show Steps p.tables e below (T66.setTop (mkF m 17 #[.val (.ref w12), .val (.ref r57), .val (.int (5 : Int32)), .val (.int (4 : Int32)), .val (.ref w5)] [(.ref w6)])) _
    refine XS.astore X66.here hx rfl (hb hby d_prog_16_method_4_code_17) rfl rfl (l' := #[.val (.ref w12), .val (.ref r57), .val (.int (5 : Int32)), .val (.int (4 : Int32)), .val (.ref w6)]) rfl ?_
    show Steps p.tables e below (T66.setTop (mkF m 19 #[.val (.ref w12), .val (.ref r57), .val (.int (5 : Int32)), .val (.int (4 : Int32)), .val (.ref w6)] [])) _
    refine XS.aload X66.here hx rfl (hb hby d_prog_16_method_4_code_19) rfl rfl ?_
    show Steps p.tables e below (T66.setTop (mkF m 21 #[.val (.ref w12), .val (.ref r57), .val (.int (5 : Int32)), .val (.int (4 : Int32)), .val (.ref w6)] [(.ref w6)])) _
    refine st68 _ ?_
    show Steps p.tables e below (T68.setTop (mkF m 24 #[.val (.ref w12), .val (.ref r57), .val (.int (5 : Int32)), .val (.int (4 : Int32)), .val (.ref w6)] [(.ref w11)])) _
    refine XS.aloadN X68.here hx rfl (hb hby d_prog_16_method_4_code_24) rfl rfl ?_
    show Steps p.tables e below (T68.setTop (mkF m 25 #[.val (.ref w12), .val (.ref r57), .val (.int (5 : Int32)), .val (.int (4 : Int32)), .val (.ref w6)] [(.ref w12), (.ref w11)])) _
    refine Jvm.RoadKit.acmp (g := (mkF m 25 #[.val (.ref w12), .val (.ref r57), .val (.int (5 : Int32)), .val (.int (4 : Int32)), .val (.ref w6)] [(.ref w12), (.ref w11)])) X68 hx rfl rfl rfl (pc0 := 25) (pc' := 34) (same := false) rfl (hb hby d_prog_16_method_4_code_25) rfl (decide_eq_false fun q => (Fld.ne wF11_ordinal wF12_ordinal (fun q => absurd (Value.int.inj q) (by decide))) (Value.ref.inj q)) (by decide) (by decide) ?_
    show Steps p.tables e below (T68.setTop (mkF m 34 #[.val (.ref w12), .val (.ref r57), .val (.int (5 : Int32)), .val (.int (4 : Int32)), .val (.ref w6)] [])) _
    refine XS.iinc X68.here hx rfl (hb hby d_prog_16_method_4_code_34) rfl (l' := #[.val (.ref w12), .val (.ref r57), .val (.int (5 : Int32)), .val (.int (5 : Int32)), .val (.ref w6)]) rfl ?_
    show Steps p.tables e below (T68.setTop (mkF m 37 #[.val (.ref w12), .val (.ref r57), .val (.int (5 : Int32)), .val (.int (5 : Int32)), .val (.ref w6)] [])) _
    refine XS.goto X68.here hx rfl (pc0 := 37) (pc' := 9) rfl (hb hby d_prog_16_method_4_code_37) (by decide) (by decide) ?_
    show Steps p.tables e below (T68.setTop (mkF m 9 #[.val (.ref w12), .val (.ref r57), .val (.int (5 : Int32)), .val (.int (5 : Int32)), .val (.ref w6)] [])) _
    refine XS.iloadN X68.here hx rfl (hb hby d_prog_16_method_4_code_9) rfl ?_
    show Steps p.tables e below (T68.setTop (mkF m 10 #[.val (.ref w12), .val (.ref r57), .val (.int (5 : Int32)), .val (.int (5 : Int32)), .val (.ref w6)] [(.int (5 : Int32))])) _
    refine XS.iloadN X68.here hx rfl (hb hby d_prog_16_method_4_code_10) rfl ?_
    show Steps p.tables e below (T68.setTop (mkF m 11 #[.val (.ref w12), .val (.ref r57), .val (.int (5 : Int32)), .val (.int (5 : Int32)), .val (.ref w6)] [(.int (5 : Int32)), (.int (5 : Int32))])) _
    refine XS.icmpYes X68.here hx rfl (pc0 := 11) (pc' := 40) rfl (hb hby d_prog_16_method_4_code_11) rfl (by decide) (by decide) (by decide) ?_
    show Steps p.tables e below (T68.setTop (mkF m 40 #[.val (.ref w12), .val (.ref r57), .val (.int (5 : Int32)), .val (.int (5 : Int32)), .val (.ref w6)] [])) _
    refine st69 _ ?_
    show Steps p.tables e below (T69.setTop (mkF m 43 #[.val (.ref w12), .val (.ref r57), .val (.int (5 : Int32)), .val (.int (5 : Int32)), .val (.ref w6)] [(.ref w17)])) _
    exact retOut X69 hx (t := (.object "java/util/Optional")) (i := .areturn) Bd.returns rfl (Or.inr (Or.inr (Or.inr (Or.inr ⟨rfl, rfl, rfl⟩)))) (hb hby d_prog_16_method_4_code_43) hr
  · show Qerm12 Z w0 w1 w2 w3 w4 w5 w6 w7 w8 w9 w10 w11 w12 w13 w14 w15 w16 w17 h0 n0 _ T69.heap _
    rw [e69]
    exact ⟨rfl, N69, Kp57, O_57⟩
theorem d_method_3_code_26 : decode method_3_code 26 = .ok (.iload_n 0, 1) := by decide +kernel
theorem d_method_3_code_27 : decode method_3_code 27 = .ok (.iconst 3, 1) := by decide +kernel
theorem d_method_3_code_28 : decode method_3_code 28 = .ok (.if_icmp .ne 7, 3) := by decide +kernel
theorem d_method_3_code_31 : decode method_3_code 31 = .ok (.getstatic 42, 3) := by decide +kernel
theorem d_method_3_code_34 : decode method_3_code 34 = .ok (.areturn, 1) := by decide +kernel
theorem ef9 (m : MethodId)    : entryFrame m #[(.int (3 : Int32))] 1 = mkF m 0 #[.val (.int (3 : Int32))] [] := by first | (simp [entryFrame, mkF, argsToLocals, Value.category]; done) | rfl
set_option maxRecDepth 65536 in
set_option maxHeartbeats 40000000 in
theorem rm13 (l : Launch) (Z : State) (a0 : Array Value) (hw : ∀ d ∈ tables_1, d.before a0 Z = true) (ws : List Jvm.Cond) (w0 w1 w2 w3 w4 w5 w6 w7 w8 w9 w10 w11 w12 w13 w14 w15 w16 w17 : Addr) (h0 : Heap) (n0 : Nat) (hWd : Wd Z w0 w1 w2 w3 w4 w5 w6 w7 w8 w9 w10 w11 w12 w13 w14 w15 w16 w17) (O0 : Old Z n0 h0) :
    MetFree l (⟨"com/example/weaverbird/weaverbird/queues/RunActionOfPinLaw", "typeAt", "(I)Lcom/example/weaverbird/weaverbird/codes/CommandType;"⟩ : MethodName) (head1 (Jvm.Cond.code (⟨"com/example/weaverbird/weaverbird/queues/RunActionOfPinLaw", "typeAt", "(I)Lcom/example/weaverbird/weaverbird/codes/CommandType;"⟩ : MethodName) method_3_code 1 (some (.object "com/example/weaverbird/weaverbird/codes/CommandType")) :: ws) ({ frames := 0, cells := 0, slots := 0, locals := 0 } : Room)) (fun a U => a = #[(.int (3 : Int32))] ∧ Z.Warmed39 U.vm ∧ U.heap = h0) (fun _ _ _ _ _ => True) (fun _ U o U' => ∃ v L, o = .returned v ∧ Qp (some (.ref w8)) h0 n0 v U'.heap L ∧ FrameEnd U o U' L ({ frames := 0, cells := 0, slots := 0, locals := 0 } : Room).cells ({ frames := 0, cells := 0, slots := 0, locals := 0 } : Room).slots) := by
  refine MetFree.of_bodySF (plainFor_of_name pn0) hisR ?_
  intro p e s m args below meth c s₁ Bd hml0 hP hK
  obtain ⟨rfl, hZ, hh⟩ := hP
  have hx := Bd.exec
  have hby := Bd.bytes
  have hml : c.maxLocals = 1 := hml0
  have hown : s.vm.findClass "com/example/weaverbird/weaverbird/queues/RunActionOfPinLaw" = some m.cls := findClass_of_methodNamed Bd.named
  have hnm := (name_of_methodNamed Bd.named Bd.method).1
  have X0 : Stand p l e ({ frames := 0, cells := 0, slots := 0, locals := 0 } : Room) s m #[(.int (3 : Int32))] below meth c s₁ [] 0 0 := Stand.of_body Bd
  have e0 : s₁.heap = h0 := by rw [← hh, Bd.state]; rfl
  have N0 := Fr.nil n0
  have hlk := Bd.notSynchronized
  obtain ⟨wS0, wE0, wS1, wE1, wS2, wE2, wS3, wE3, wS4, wE4, wS5, wE5, wS6, wE6, wS7, wE7, wS8, wE8, wS9, wE9, wS10, wE10, wS11, wE11, wS12, wE12, wS13, wE13, wS14, wE14, wS15, wE15, wS16, wE16, wS17, wE17, wF2_type, wF7_ordinal, wF0_ordinal, wF3_type, wF8_ordinal, wF4_type, wF9_ordinal, wF5_type, wF10_ordinal, wF6_type, wF11_ordinal, wF12_ordinal, wF13_ordinal, wF14_ordinal, wF15_ordinal, wF16_ordinal, wF17_value, wA, -⟩ := id hWd
  have pre0 : ∀ t, Steps p.tables e below (s₁.setTop (mkF m 0 #[.val (.int (3 : Int32))] [])) t → Steps p.tables e below (s₁.setTop (entryFrame m #[(.int (3 : Int32))] 1)) t := fun t k => castTop (ef9 m ) k
  obtain ⟨T72, X72, e72, st72⟩ := getS2 X0 hx hZ hown (host := "") (Or.inl (hw _ (List.mem_of_getElem? (i := 54) rfl))) Via.refl e0 (wS8.ext O0.2) (g := (mkF m 31 #[.val (.int (3 : Int32))] [])) rfl (hb hby d_method_3_code_31)
  obtain ⟨fs, hr, hrun, hended, hWr, hsame⟩ := X72.leave (v := some (.ref w8)) (fun h => by rw [Bd.returns] at h; cases h) hlk
  refine ⟨_, _, pre0 _ ?_, hrun, hended, _, _, rfl, ?_, ⟨_, rfl⟩, hWr, hsame.mono (Nat.le_of_ble_eq_true rfl) (Nat.le_of_ble_eq_true rfl)⟩
  · show Steps p.tables e below (s₁.setTop (mkF m 0 #[.val (.int (3 : Int32))] [])) _
    refine XS.iloadN X0.here hx rfl (hb hby d_method_3_code_0) rfl ?_
    show Steps p.tables e below (s₁.setTop (mkF m 1 #[.val (.int (3 : Int32))] [(.int (3 : Int32))])) _
    refine XS.ifYes X0.here hx rfl (pc0 := 1) (pc' := 8) rfl (hb hby d_method_3_code_1) rfl (by decide) (by decide) (by decide) ?_
    show Steps p.tables e below (s₁.setTop (mkF m 8 #[.val (.int (3 : Int32))] [])) _
    refine XS.iloadN X0.here hx rfl (hb hby d_method_3_code_8) rfl ?_
    show Steps p.tables e below (s₁.setTop (mkF m 9 #[.val (.int (3 : Int32))] [(.int (3 : Int32))])) _
    refine XS.iconst X0.here hx rfl (hb hby d_method_3_code_9) ?_
    show Steps p.tables e below (s₁.setTop (mkF m 10 #[.val (.int (3 : Int32))] [(.int (1 : Int32)), (.int (3 : Int32))])) _
    refine XS.icmpYes X0.here hx rfl (pc0 := 10) (pc' := 17) rfl (hb hby d_method_3_code_10) rfl (by decide) (by decide) (by decide) ?_
    show Steps p.tables e below (s₁.setTop (mkF m 17 #[.val (.int (3 : Int32))] [])) _
    refine XS.iloadN X0.here hx rfl (hb hby d_method_3_code_17) rfl ?_
    show Steps p.tables e below (s₁.setTop (mkF m 18 #[.val (.int (3 : Int32))] [(.int (3 : Int32))])) _
    refine XS.iconst X0.here hx rfl (hb hby d_method_3_code_18) ?_
    show Steps p.tables e below (s₁.setTop (mkF m 19 #[.val (.int (3 : Int32))] [(.int (2 : Int32)), (.int (3 : Int32))])) _
    refine XS.icmpYes X0.here hx rfl (pc0 := 19) (pc' := 26) rfl (hb hby d_method_3_code_19) rfl (by decide) (by decide) (by decide) ?_
    show Steps p.tables e below (s₁.setTop (mkF m 26 #[.val (.int (3 : Int32))] [])) _
    refine XS.iloadN X0.here hx rfl (hb hby d_method_3_code_26) rfl ?_
    show Steps p.tables e below (s₁.setTop (mkF m 27 #[.val (.int (3 : Int32))] [(.int (3 : Int32))])) _
    refine XS.iconst X0.here hx rfl (hb hby d_method_3_code_27) ?_
    show Steps p.tables e below (s₁.setTop (mkF m 28 #[.val (.int (3 : Int32))] [(.int (3 : Int32)), (.int (3 : Int32))])) _
    refine XS.icmpNo X0.here hx rfl (hb hby d_method_3_code_28) rfl (by decide) ?_
    show Steps p.tables e below (s₁.setTop (mkF m 31 #[.val (.int (3 : Int32))] [])) _
    refine st72 _ ?_
    show Steps p.tables e below (T72.setTop (mkF m 34 #[.val (.int (3 : Int32))] [(.ref w8)])) _
    exact retOut X72 hx (t := (.object "com/example/weaverbird/weaverbird/codes/CommandType")) (i := .areturn) Bd.returns rfl (Or.inr (Or.inr (Or.inr (Or.inr ⟨rfl, rfl, rfl⟩)))) (hb hby d_method_3_code_34) hr
  · show Qp (some (.ref w8)) h0 n0 _ T72.heap _
    rw [e72]
    exact ⟨rfl, N0, rfl⟩
theorem d_method_4_code_5 : decode method_4_code 5 = .ok (.getstatic 66, 3) := by decide +kernel
theorem d_method_4_code_8 : decode method_4_code 8 = .ok (.areturn, 1) := by decide +kernel
set_option maxRecDepth 65536 in
set_option maxHeartbeats 40000000 in
theorem rm14 (l : Launch) (Z : State) (a0 : Array Value) (hw : ∀ d ∈ tables_1, d.before a0 Z = true) (ws : List Jvm.Cond) (w0 w1 w2 w3 w4 w5 w6 w7 w8 w9 w10 w11 w12 w13 w14 w15 w16 w17 : Addr) (h0 : Heap) (n0 : Nat) (hWd : Wd Z w0 w1 w2 w3 w4 w5 w6 w7 w8 w9 w10 w11 w12 w13 w14 w15 w16 w17) (O0 : Old Z n0 h0) :
    MetFree l (⟨"com/example/weaverbird/weaverbird/queues/RunActionOfPinLaw", "expectedFor", "(I)Lcom/example/weaverbird/weaverbird/queues/RunAction;"⟩ : MethodName) (head1 (Jvm.Cond.code (⟨"com/example/weaverbird/weaverbird/queues/RunActionOfPinLaw", "expectedFor", "(I)Lcom/example/weaverbird/weaverbird/queues/RunAction;"⟩ : MethodName) method_4_code 1 (some (.object "com/example/weaverbird/weaverbird/queues/RunAction")) :: ws) ({ frames := 0, cells := 0, slots := 0, locals := 0 } : Room)) (fun a U => a = #[(.int (3 : Int32))] ∧ Z.Warmed39 U.vm ∧ U.heap = h0) (fun _ _ _ _ _ => True) (fun _ U o U' => ∃ v L, o = .returned v ∧ Qp (some (.ref w3)) h0 n0 v U'.heap L ∧ FrameEnd U o U' L ({ frames := 0, cells := 0, slots := 0, locals := 0 } : Room).cells ({ frames := 0, cells := 0, slots := 0, locals := 0 } : Room).slots) := by
  refine MetFree.of_bodySF (plainFor_of_name pn0) hisR ?_
  intro p e s m args below meth c s₁ Bd hml0 hP hK
  obtain ⟨rfl, hZ, hh⟩ := hP
  have hx := Bd.exec
  have hby := Bd.bytes
  have hml : c.maxLocals = 1 := hml0
  have hown : s.vm.findClass "com/example/weaverbird/weaverbird/queues/RunActionOfPinLaw" = some m.cls := findClass_of_methodNamed Bd.named
  have hnm := (name_of_methodNamed Bd.named Bd.method).1
  have X0 : Stand p l e ({ frames := 0, cells := 0, slots := 0, locals := 0 } : Room) s m #[(.int (3 : Int32))] below meth c s₁ [] 0 0 := Stand.of_body Bd
  have e0 : s₁.heap = h0 := by rw [← hh, Bd.state]; rfl
  have N0 := Fr.nil n0
  have hlk := Bd.notSynchronized
  obtain ⟨wS0, wE0, wS1, wE1, wS2, wE2, wS3, wE3, wS4, wE4, wS5, wE5, wS6, wE6, wS7, wE7, wS8, wE8, wS9, wE9, wS10, wE10, wS11, wE11, wS12, wE12, wS13, wE13, wS14, wE14, wS15, wE15, wS16, wE16, wS17, wE17, wF2_type, wF7_ordinal, wF0_ordinal, wF3_type, wF8_ordinal, wF4_type, wF9_ordinal, wF5_type, wF10_ordinal, wF6_type, wF11_ordinal, wF12_ordinal, wF13_ordinal, wF14_ordinal, wF15_ordinal, wF16_ordinal, wF17_value, wA, -⟩ := id hWd
  have pre0 : ∀ t, Steps p.tables e below (s₁.setTop (mkF m 0 #[.val (.int (3 : Int32))] [])) t → Steps p.tables e below (s₁.setTop (entryFrame m #[(.int (3 : Int32))] 1)) t := fun t k => castTop (ef9 m ) k
  obtain ⟨T74, X74, e74, st74⟩ := getS2 X0 hx hZ hown (host := "") (Or.inl (hw _ (List.mem_of_getElem? (i := 55) rfl))) Via.refl e0 (wS3.ext O0.2) (g := (mkF m 5 #[.val (.int (3 : Int32))] [])) rfl (hb hby d_method_4_code_5)
  obtain ⟨fs, hr, hrun, hended, hWr, hsame⟩ := X74.leave (v := some (.ref w3)) (fun h => by rw [Bd.returns] at h; cases h) hlk
  refine ⟨_, _, pre0 _ ?_, hrun, hended, _, _, rfl, ?_, ⟨_, rfl⟩, hWr, hsame.mono (Nat.le_of_ble_eq_true rfl) (Nat.le_of_ble_eq_true rfl)⟩
  · show Steps p.tables e below (s₁.setTop (mkF m 0 #[.val (.int (3 : Int32))] [])) _
    refine XS.iloadN X0.here hx rfl (hb hby d_method_4_code_0) rfl ?_
    show Steps p.tables e below (s₁.setTop (mkF m 1 #[.val (.int (3 : Int32))] [(.int (3 : Int32))])) _
    refine XS.iconst X0.here hx rfl (hb hby d_method_4_code_1) ?_
    show Steps p.tables e below (s₁.setTop (mkF m 2 #[.val (.int (3 : Int32))] [(.int (3 : Int32)), (.int (3 : Int32))])) _
    refine XS.icmpNo X0.here hx rfl (hb hby d_method_4_code_2) rfl (by decide) ?_
    show Steps p.tables e below (s₁.setTop (mkF m 5 #[.val (.int (3 : Int32))] [])) _
    refine st74 _ ?_
    show Steps p.tables e below (T74.setTop (mkF m 8 #[.val (.int (3 : Int32))] [(.ref w3)])) _
    exact retOut X74 hx (t := (.object "com/example/weaverbird/weaverbird/queues/RunAction")) (i := .areturn) Bd.returns rfl (Or.inr (Or.inr (Or.inr (Or.inr ⟨rfl, rfl, rfl⟩)))) (hb hby d_method_4_code_8) hr
  · show Qp (some (.ref w3)) h0 n0 _ T74.heap _
    rw [e74]
    exact ⟨rfl, N0, rfl⟩
theorem d_prog_16_method_4_code_28 : decode prog_16_method_4_code 28 = .ok (.aload 4, 2) := by decide +kernel
theorem d_prog_16_method_4_code_30 : decode prog_16_method_4_code 30 = .ok (.invokestatic 60, 3) := by decide +kernel
theorem d_jdk_32_method_3_code_0 : decode jdk_32_method_3_code 0 = .ok (.new 2, 3) := by decide +kernel
theorem d_jdk_32_method_3_code_3 : decode jdk_32_method_3_code 3 = .ok (.dup, 1) := by decide +kernel
theorem d_jdk_32_method_3_code_4 : decode jdk_32_method_3_code 4 = .ok (.aload_n 0, 1) := by decide +kernel
theorem d_jdk_32_method_3_code_5 : decode jdk_32_method_3_code 5 = .ok (.invokestatic 17, 3) := by decide +kernel
theorem d_jdk_31_method_10_code_0 : decode jdk_31_method_10_code 0 = .ok (.aload_n 0, 1) := by decide +kernel
theorem d_jdk_31_method_10_code_1 : decode jdk_31_method_10_code 1 = .ok (.ifnonnull 11, 3) := by decide +kernel
theorem d_jdk_31_method_10_code_12 : decode jdk_31_method_10_code 12 = .ok (.aload_n 0, 1) := by decide +kernel
theorem d_jdk_31_method_10_code_13 : decode jdk_31_method_10_code 13 = .ok (.areturn, 1) := by decide +kernel
theorem pn3 : plainName "java/util/Objects" = true := by first | (simp [plainName, overriddenIn]; done) | decide +kernel
theorem ef10 (m : MethodId)   (w3 : Addr) : entryFrame m #[(.ref w3)] 1 = mkF m 0 #[.val (.ref w3)] [] := by first | (simp [entryFrame, mkF, argsToLocals, Value.category]; done) | rfl
set_option maxRecDepth 65536 in
set_option maxHeartbeats 40000000 in
theorem rm17 (l : Launch) (Z : State) (a0 : Array Value) (hw : ∀ d ∈ tables_1, d.before a0 Z = true) (ws : List Jvm.Cond) (w0 w1 w2 w3 w4 w5 w6 w7 w8 w9 w10 w11 w12 w13 w14 w15 w16 w17 : Addr) (h0 : Heap) (n0 : Nat) (hWd : Wd Z w0 w1 w2 w3 w4 w5 w6 w7 w8 w9 w10 w11 w12 w13 w14 w15 w16 w17) (O0 : Old Z n0 h0) :
    MetFree l (⟨"java/util/Objects", "requireNonNull", "(Ljava/lang/Object;)Ljava/lang/Object;"⟩ : MethodName) (head1 (Jvm.Cond.code (⟨"java/util/Objects", "requireNonNull", "(Ljava/lang/Object;)Ljava/lang/Object;"⟩ : MethodName) jdk_31_method_10_code 1 (some (.object "java/lang/Object")) :: ws) ({ frames := 0, cells := 0, slots := 0, locals := 0 } : Room)) (fun a U => a = #[(.ref w3)] ∧ Z.Warmed39 U.vm ∧ U.heap = h0) (fun _ _ _ _ _ => True) (fun _ U o U' => ∃ v L, o = .returned v ∧ Qp (some (.ref w3)) h0 n0 v U'.heap L ∧ FrameEnd U o U' L ({ frames := 0, cells := 0, slots := 0, locals := 0 } : Room).cells ({ frames := 0, cells := 0, slots := 0, locals := 0 } : Room).slots) := by
  refine MetFree.of_bodySF (plainFor_of_name pn3) hisR ?_
  intro p e s m args below meth c s₁ Bd hml0 hP hK
  obtain ⟨rfl, hZ, hh⟩ := hP
  have hx := Bd.exec
  have hby := Bd.bytes
  have hml : c.maxLocals = 1 := hml0
  have hown : s.vm.findClass "java/util/Objects" = some m.cls := findClass_of_methodNamed Bd.named
  have hnm := (name_of_methodNamed Bd.named Bd.method).1
  have X0 : Stand p l e ({ frames := 0, cells := 0, slots := 0, locals := 0 } : Room) s m #[(.ref w3)] below meth c s₁ [] 0 0 := Stand.of_body Bd
  have e0 : s₁.heap = h0 := by rw [← hh, Bd.state]; rfl
  have N0 := Fr.nil n0
  have hlk := Bd.notSynchronized
  obtain ⟨wS0, wE0, wS1, wE1, wS2, wE2, wS3, wE3, wS4, wE4, wS5, wE5, wS6, wE6, wS7, wE7, wS8, wE8, wS9, wE9, wS10, wE10, wS11, wE11, wS12, wE12, wS13, wE13, wS14, wE14, wS15, wE15, wS16, wE16, wS17, wE17, wF2_type, wF7_ordinal, wF0_ordinal, wF3_type, wF8_ordinal, wF4_type, wF9_ordinal, wF5_type, wF10_ordinal, wF6_type, wF11_ordinal, wF12_ordinal, wF13_ordinal, wF14_ordinal, wF15_ordinal, wF16_ordinal, wF17_value, wA, -⟩ := id hWd
  have pre0 : ∀ t, Steps p.tables e below (s₁.setTop (mkF m 0 #[.val (.ref w3)] [])) t → Steps p.tables e below (s₁.setTop (entryFrame m #[(.ref w3)] 1)) t := fun t k => castTop (ef10 m w3) k
  obtain ⟨fs, hr, hrun, hended, hWr, hsame⟩ := X0.leave (v := some (.ref w3)) (fun h => by rw [Bd.returns] at h; cases h) hlk
  refine ⟨_, _, pre0 _ ?_, hrun, hended, _, _, rfl, ?_, ⟨_, rfl⟩, hWr, hsame.mono (Nat.le_of_ble_eq_true rfl) (Nat.le_of_ble_eq_true rfl)⟩
  · show Steps p.tables e below (s₁.setTop (mkF m 0 #[.val (.ref w3)] [])) _
    refine XS.aloadN X0.here hx rfl (hb hby d_jdk_31_method_10_code_0) rfl rfl ?_
    show Steps p.tables e below (s₁.setTop (mkF m 1 #[.val (.ref w3)] [(.ref w3)])) _
    refine XS.ifnonnullYes X0.here hx rfl (pc0 := 1) (pc' := 12) rfl (hb hby d_jdk_31_method_10_code_1) rfl (by decide) (by decide) ?_
    show Steps p.tables e below (s₁.setTop (mkF m 12 #[.val (.ref w3)] [])) _
    refine XS.aloadN X0.here hx rfl (hb hby d_jdk_31_method_10_code_12) rfl rfl ?_
    show Steps p.tables e below (s₁.setTop (mkF m 13 #[.val (.ref w3)] [(.ref w3)])) _
    exact retOut X0 hx (t := (.object "java/lang/Object")) (i := .areturn) Bd.returns rfl (Or.inr (Or.inr (Or.inr (Or.inr ⟨rfl, rfl, rfl⟩)))) (hb hby d_jdk_31_method_10_code_13) hr
  · show Qp (some (.ref w3)) h0 n0 _ s₁.heap _
    rw [e0]
    exact ⟨rfl, N0, rfl⟩
theorem d_jdk_32_method_3_code_8 : decode jdk_32_method_3_code 8 = .ok (.invokespecial 23, 3) := by decide +kernel
theorem d_jdk_32_method_2_code_0 : decode jdk_32_method_2_code 0 = .ok (.aload_n 0, 1) := by decide +kernel
theorem d_jdk_32_method_2_code_1 : decode jdk_32_method_2_code 1 = .ok (.invokespecial 7, 3) := by decide +kernel
theorem d_jdk_32_method_2_code_4 : decode jdk_32_method_2_code 4 = .ok (.aload_n 0, 1) := by decide +kernel
theorem d_jdk_32_method_2_code_5 : decode jdk_32_method_2_code 5 = .ok (.aload_n 1, 1) := by decide +kernel
theorem d_jdk_32_method_2_code_6 : decode jdk_32_method_2_code 6 = .ok (.putfield 13, 3) := by decide +kernel
theorem d_jdk_32_method_2_code_9 : decode jdk_32_method_2_code 9 = .ok (.return_, 1) := by decide +kernel
theorem ef11 (m : MethodId)   (a1 : Addr) (w3 : Addr) : entryFrame m #[(.ref a1), (.ref w3)] 2 = mkF m 0 #[.val (.ref a1), .val (.ref w3)] [] := by first | (simp [entryFrame, mkF, argsToLocals, Value.category]; done) | rfl
def Qerm18 (Z : State) (w0 w1 w2 w3 w4 w5 w6 w7 w8 w9 w10 w11 w12 w13 w14 w15 w16 w17 : Addr) (a1 : Addr) (h0 : Heap) (n0 : Nat) (v : Option Value) (h : Heap) (L : List Loc) : Prop := v = none ∧ Fr n0 L ∧ Keep h0 h [a1] ∧ Old Z n0 h ∧ Exa Z h a1 "java/util/Optional" ∧ Fld Z h a1 "java/util/Optional" "value" "Ljava/lang/Object;" (.ref w3)
set_option maxRecDepth 65536 in
set_option maxHeartbeats 40000000 in
theorem rm18 (l : Launch) (Z : State) (a0 : Array Value) (hw : ∀ d ∈ tables_1, d.before a0 Z = true) (ws : List Jvm.Cond) (w0 w1 w2 w3 w4 w5 w6 w7 w8 w9 w10 w11 w12 w13 w14 w15 w16 w17 : Addr) (a1 : Addr) (h0 : Heap) (n0 : Nat) (hWd : Wd Z w0 w1 w2 w3 w4 w5 w6 w7 w8 w9 w10 w11 w12 w13 w14 w15 w16 w17) (O0 : Old Z n0 h0) (E_a1 : Exa Z h0 a1 "java/util/Optional") (F_a1_value : Fld Z h0 a1 "java/util/Optional" "value" "Ljava/lang/Object;" .null) (g_a1 : n0 ≤ a1) :
    MetFree l (⟨"java/util/Optional", "<init>", "(Ljava/lang/Object;)V"⟩ : MethodName) (head1 (Jvm.Cond.code (⟨"java/util/Optional", "<init>", "(Ljava/lang/Object;)V"⟩ : MethodName) jdk_32_method_2_code 2 none :: ws) ({ frames := 1, cells := 0, slots := 0, locals := 12 } : Room)) (fun a U => a = #[(.ref a1), (.ref w3)] ∧ Z.Warmed39 U.vm ∧ U.heap = h0) (fun _ _ _ _ _ => True) (fun _ U o U' => ∃ v L, o = .returned v ∧ Qerm18 Z w0 w1 w2 w3 w4 w5 w6 w7 w8 w9 w10 w11 w12 w13 w14 w15 w16 w17 a1 h0 n0 v U'.heap L ∧ FrameEnd U o U' L ({ frames := 1, cells := 0, slots := 0, locals := 12 } : Room).cells ({ frames := 1, cells := 0, slots := 0, locals := 12 } : Room).slots) := by
  refine MetFree.of_bodySF (plainFor_of_name pn2) hisR ?_
  intro p e s m args below meth c s₁ Bd hml0 hP hK
  obtain ⟨rfl, hZ, hh⟩ := hP
  have hx := Bd.exec
  have hby := Bd.bytes
  have hml : c.maxLocals = 2 := hml0
  have hown : s.vm.findClass "java/util/Optional" = some m.cls := findClass_of_methodNamed Bd.named
  have hnm := (name_of_methodNamed Bd.named Bd.method).1
  have X0 : Stand p l e ({ frames := 1, cells := 0, slots := 0, locals := 12 } : Room) s m #[(.ref a1), (.ref w3)] below meth c s₁ [] 0 0 := Stand.of_body Bd
  have e0 : s₁.heap = h0 := by rw [← hh, Bd.state]; rfl
  have N0 := Fr.nil n0
  have hlk := Bd.notSynchronized
  obtain ⟨wS0, wE0, wS1, wE1, wS2, wE2, wS3, wE3, wS4, wE4, wS5, wE5, wS6, wE6, wS7, wE7, wS8, wE8, wS9, wE9, wS10, wE10, wS11, wE11, wS12, wE12, wS13, wE13, wS14, wE14, wS15, wE15, wS16, wE16, wS17, wE17, wF2_type, wF7_ordinal, wF0_ordinal, wF3_type, wF8_ordinal, wF4_type, wF9_ordinal, wF5_type, wF10_ordinal, wF6_type, wF11_ordinal, wF12_ordinal, wF13_ordinal, wF14_ordinal, wF15_ordinal, wF16_ordinal, wF17_value, wA, -⟩ := id hWd
  have pre0 : ∀ t, Steps p.tables e below (s₁.setTop (mkF m 0 #[.val (.ref a1), .val (.ref w3)] [])) t → Steps p.tables e below (s₁.setTop (entryFrame m #[(.ref a1), (.ref w3)] 2)) t := fun t k => castTop (ef11 m a1 w3) k
  obtain ⟨T84, X84, e84, st84⟩ := initO X0 hx hZ hown (hw _ (List.mem_of_getElem? (i := 69) rfl)) (hw _ (List.mem_of_getElem? (i := 70) rfl)) (hw _ (List.mem_of_getElem? (i := 71) rfl)) e0 (g := (mkF m 1 #[.val (.ref a1), .val (.ref w3)] [(.ref a1)])) rfl (by rw [hml]; rfl) rfl (hb hby d_jdk_32_method_2_code_1) (by decide) (W := 0) (by show 2 * 0 + _ ≤ _; exact Nat.le_of_eq rfl) (by decide)
  obtain ⟨T85, h85, X85, e85, W85, st85⟩ := putF X84 hx hZ hown (host := "") (Or.inl (hw _ (List.mem_of_getElem? (i := 52) rfl))) Via.refl e84 F_a1_value E_a1 (Or.inr ⟨(hw _ (List.mem_of_getElem? (i := 53) rfl)), rfl, hnm⟩) (hw _ (List.mem_of_getElem? (i := 60) rfl)) (ty := (.object "java/lang/Object")) (by decide) rfl rfl (g := (mkF m 6 #[.val (.ref a1), .val (.ref w3)] [(.ref w3), (.ref a1)])) rfl rfl (hb hby d_jdk_32_method_2_code_6)
  have E_a1_85 : Exa Z h85 a1 "java/util/Optional" := E_a1.wr W85
  have F_a1_value_85 : Fld Z h85 a1 "java/util/Optional" "value" "Ljava/lang/Object;" (.ref w3) := F_a1_value.same W85
  have Kp85 : Keep h0 h85 [a1] := (Keep.refl h0 [a1]).wr W85 (Or.inl (List.mem_of_getElem? (i := 0) rfl))
  have N85 := Fr.snoc X85 N0 g_a1
  have O_85 : Old Z n0 h85 := O0.wr W85 g_a1
  obtain ⟨fs, hr, hrun, hended, hWr, hsame⟩ := X85.leave (v := none) (fun _ => rfl) hlk
  refine ⟨_, _, pre0 _ ?_, hrun, hended, _, _, rfl, ?_, ⟨_, rfl⟩, hWr, hsame.mono (Nat.le_of_ble_eq_true rfl) (Nat.le_of_ble_eq_true rfl)⟩
  · show Steps p.tables e below (s₁.setTop (mkF m 0 #[.val (.ref a1), .val (.ref w3)] [])) _
    refine XS.aloadN X0.here hx rfl (hb hby d_jdk_32_method_2_code_0) rfl rfl ?_
    show Steps p.tables e below (s₁.setTop (mkF m 1 #[.val (.ref a1), .val (.ref w3)] [(.ref a1)])) _
    refine st84 _ ?_
    show Steps p.tables e below (T84.setTop (mkF m 4 #[.val (.ref a1), .val (.ref w3)] [])) _
    refine XS.aloadN X84.here hx rfl (hb hby d_jdk_32_method_2_code_4) rfl rfl ?_
    show Steps p.tables e below (T84.setTop (mkF m 5 #[.val (.ref a1), .val (.ref w3)] [(.ref a1)])) _
    refine XS.aloadN X84.here hx rfl (hb hby d_jdk_32_method_2_code_5) rfl rfl ?_
    show Steps p.tables e below (T84.setTop (mkF m 6 #[.val (.ref a1), .val (.ref w3)] [(.ref w3), (.ref a1)])) _
    refine st85 _ ?_
    show Steps p.tables e below (T85.setTop (mkF m 9 #[.val (.ref a1), .val (.ref w3)] [])) _
    exact X85.returnOut hx Bd.returns (hb hby d_jdk_32_method_2_code_9) hr
  · show Qerm18 Z w0 w1 w2 w3 w4 w5 w6 w7 w8 w9 w10 w11 w12 w13 w14 w15 w16 w17 a1 h0 n0 _ T85.heap _
    rw [e85]
    exact ⟨rfl, N85, Kp85, O_85, E_a1_85, F_a1_value_85⟩
theorem pd6 : parseMethodDescriptor "(Ljava/lang/Object;)V" = some ⟨[(.object "java/lang/Object")], none⟩ := by decide +kernel
theorem d_jdk_32_method_3_code_11 : decode jdk_32_method_3_code 11 = .ok (.areturn, 1) := by decide +kernel
def Qerm16 (Z : State) (w0 w1 w2 w3 w4 w5 w6 w7 w8 w9 w10 w11 w12 w13 w14 w15 w16 w17 : Addr) (h0 : Heap) (n0 : Nat) (v : Option Value) (h : Heap) (L : List Loc) : Prop := ∃ r : Addr, v = some (.ref r) ∧ Fr n0 L ∧ Keep h0 h [] ∧ Old Z n0 h ∧ Exa Z h r "java/util/Optional" ∧ Fld Z h r "java/util/Optional" "value" "Ljava/lang/Object;" (.ref w3) ∧ n0 ≤ r
set_option maxRecDepth 65536 in
set_option maxHeartbeats 40000000 in
theorem rm16 (l : Launch) (Z : State) (a0 : Array Value) (hw : ∀ d ∈ tables_1, d.before a0 Z = true) (ws : List Jvm.Cond) (w0 w1 w2 w3 w4 w5 w6 w7 w8 w9 w10 w11 w12 w13 w14 w15 w16 w17 : Addr) (h0 : Heap) (n0 : Nat) (hWd : Wd Z w0 w1 w2 w3 w4 w5 w6 w7 w8 w9 w10 w11 w12 w13 w14 w15 w16 w17) (O0 : Old Z n0 h0) :
    MetFree l (⟨"java/util/Optional", "of", "(Ljava/lang/Object;)Ljava/util/Optional;"⟩ : MethodName) (head1 (Jvm.Cond.code (⟨"java/util/Optional", "of", "(Ljava/lang/Object;)Ljava/util/Optional;"⟩ : MethodName) jdk_32_method_3_code 1 (some (.object "java/util/Optional")) :: ws) ({ frames := 2, cells := 1, slots := 1, locals := 26 } : Room)) (fun a U => a = #[(.ref w3)] ∧ Z.Warmed39 U.vm ∧ U.heap = h0) (fun _ _ _ _ _ => True) (fun _ U o U' => ∃ v L, o = .returned v ∧ Qerm16 Z w0 w1 w2 w3 w4 w5 w6 w7 w8 w9 w10 w11 w12 w13 w14 w15 w16 w17 h0 n0 v U'.heap L ∧ FrameEnd U o U' L ({ frames := 2, cells := 1, slots := 1, locals := 26 } : Room).cells ({ frames := 2, cells := 1, slots := 1, locals := 26 } : Room).slots) := by
  refine MetFree.of_bodySF (plainFor_of_name pn2) hisR ?_
  intro p e s m args below meth c s₁ Bd hml0 hP hK
  obtain ⟨rfl, hZ, hh⟩ := hP
  have hx := Bd.exec
  have hby := Bd.bytes
  have hml : c.maxLocals = 1 := hml0
  have hown : s.vm.findClass "java/util/Optional" = some m.cls := findClass_of_methodNamed Bd.named
  have hnm := (name_of_methodNamed Bd.named Bd.method).1
  have X0 : Stand p l e ({ frames := 2, cells := 1, slots := 1, locals := 26 } : Room) s m #[(.ref w3)] below meth c s₁ [] 0 0 := Stand.of_body Bd
  have e0 : s₁.heap = h0 := by rw [← hh, Bd.state]; rfl
  have N0 := Fr.nil n0
  have hlk := Bd.notSynchronized
  obtain ⟨wS0, wE0, wS1, wE1, wS2, wE2, wS3, wE3, wS4, wE4, wS5, wE5, wS6, wE6, wS7, wE7, wS8, wE8, wS9, wE9, wS10, wE10, wS11, wE11, wS12, wE12, wS13, wE13, wS14, wE14, wS15, wE15, wS16, wE16, wS17, wE17, wF2_type, wF7_ordinal, wF0_ordinal, wF3_type, wF8_ordinal, wF4_type, wF9_ordinal, wF5_type, wF10_ordinal, wF6_type, wF11_ordinal, wF12_ordinal, wF13_ordinal, wF14_ordinal, wF15_ordinal, wF16_ordinal, wF17_value, wA, -⟩ := id hWd
  have pre0 : ∀ t, Steps p.tables e below (s₁.setTop (mkF m 0 #[.val (.ref w3)] [])) t → Steps p.tables e below (s₁.setTop (entryFrame m #[(.ref w3)] 1)) t := fun t k => castTop (ef10 m w3) k
  obtain ⟨T82, h82, X82, e82, E82, A82, D82, -, st82⟩ := newO X0 hx hZ hown (hw _ (List.mem_of_getElem? (i := 59) rfl)) (hw _ (List.mem_of_getElem? (i := 60) rfl)) (hw _ (List.mem_of_getElem? (i := 44) rfl)) e0 (g := (mkF m 0 #[.val (.ref w3)] [])) rfl (hb hby d_jdk_32_method_3_code_0) (by decide) (by decide)
  obtain ⟨b82, g82⟩ : ∃ z, z = h0.size := ⟨_, rfl⟩
  rw [← g82] at A82 D82 st82
  have g_b82 : n0 ≤ b82 := Nat.le_trans (Nat.le_trans (Nat.le_of_eq O0.1.symm) O0.2.1) (Nat.le_of_eq g82.symm)
  have sz_b82 : h0.size ≤ b82 := Nat.le_trans (Keep.refl h0 []).1 (Nat.le_of_eq g82.symm)
  have Kp82 : Keep h0 h82 [] := (Keep.refl h0 []).ext E82
  have O_82 : Old Z n0 h82 := O0.ext E82
  have F_b82_value : Fld Z h82 b82 "java/util/Optional" "value" "Ljava/lang/Object;" .null := D82 (Or.inr (hw _ (List.mem_of_getElem? (i := 53) rfl))) (ty := (.object "java/lang/Object")) (by decide)
  obtain ⟨_, _, ⟨T83, L83, k83, n83⟩, -, X83, ⟨Lc83, hQ83, l83, y83, z83⟩, st83⟩ := Jvm.LawKit.callS X82 hx (y := (⟨"java/util/Objects", "requireNonNull", "(Ljava/lang/Object;)Ljava/lang/Object;"⟩ : MethodName)) hown (mvT hZ (hw _ (List.mem_of_getElem? (i := 61) rfl))) (mvT hZ (hw _ (List.mem_of_getElem? (i := 62) rfl))) (mvT hZ (hw _ (List.mem_of_getElem? (i := 63) rfl))) (mvT hZ (hw _ (List.mem_of_getElem? (i := 64) rfl))) (by decide) (backOf (W := 2) (rm17 l Z a0 hw [] w0 w1 w2 w3 w4 w5 w6 w7 w8 w9 w10 w11 w12 w13 w14 w15 w16 w17 h82 n0 hWd O_82) hZ (hw _ (List.mem_of_getElem? (i := 64) rfl)) (hw _ (List.mem_of_getElem? (i := 63) rfl)) (by decide) (by decide)) (g := (mkF m 5 #[.val (.ref w3)] [(.ref w3), (.ref b82), (.ref b82)])) rfl (by rw [hml]; rfl) (argsL := [(.ref w3)]) (rest := [(.ref b82), (.ref b82)]) (lenOf pd5 rfl) rfl (by show 2 * 0 + _ ≤ _; exact Nat.le_of_eq rfl) (hb hby d_jdk_32_method_3_code_5) (fun _ _ => ⟨rfl, e82, (by decide : 1 + 0 ≤ _), (by decide : 1 + 0 ≤ _)⟩)
  dsimp only [Pt.U, Pt.locs, Pt.cells, Pt.slots] at X83 l83 y83 z83 st83 hQ83
  subst l83 y83 z83
  obtain ⟨rfl, N83q, e83⟩ := hQ83
  have N83 := Fr.app N0 N83q
  obtain ⟨_, _, ⟨T86, L86, k86, n86⟩, -, X86, ⟨Lc86, hQ86, l86, y86, z86⟩, st86⟩ := X83.specialBack hx (y := (⟨"java/util/Optional", "<init>", "(Ljava/lang/Object;)V"⟩ : MethodName)) rfl hown (mvT hZ (hw _ (List.mem_of_getElem? (i := 65) rfl))) (mvT hZ (hw _ (List.mem_of_getElem? (i := 66) rfl))) (mvT hZ (hw _ (List.mem_of_getElem? (i := 68) rfl))) (by decide) (backOf (W := 1) (rm18 l Z a0 hw [] w0 w1 w2 w3 w4 w5 w6 w7 w8 w9 w10 w11 w12 w13 w14 w15 w16 w17 b82 h82 n0 hWd O_82 A82 F_b82_value g_b82) hZ (hw _ (List.mem_of_getElem? (i := 68) rfl)) (hw _ (List.mem_of_getElem? (i := 44) rfl)) (by decide) (by decide)) (g := (mkF m 8 #[.val (.ref w3)] [(.ref w3), (.ref b82), (.ref b82)])) rfl (by rw [hml]; rfl) (Steps.refl _) (a := b82) (argsL := [(.ref w3)]) (rest := [(.ref b82)]) (lenOf pd6 rfl) rfl (by show 2 * 0 + _ ≤ _; exact Nat.le_of_eq rfl) (hb hby d_jdk_32_method_3_code_8) (fun _ _ => ⟨rfl, e83, (by decide : 1 + 0 ≤ _), (by decide : 1 + 0 ≤ _)⟩)
  dsimp only [Pt.U, Pt.locs, Pt.cells, Pt.slots] at X86 l86 y86 z86 st86 hQ86
  subst l86 y86 z86
  obtain ⟨rfl, N86q, K86, O_86, E_b82_86, F_b82_value_86⟩ := hQ86
  have N86 := Fr.app N83 N86q
  have Kp86 : Keep h0 T86.heap [] := Kp82.trans K86 (allS (Or.inr sz_b82) all0)
  obtain ⟨fs, hr, hrun, hended, hWr, hsame⟩ := X86.leave (v := some (.ref b82)) (fun h => by rw [Bd.returns] at h; cases h) hlk
  refine ⟨_, _, pre0 _ ?_, hrun, hended, _, _, rfl, ?_, ⟨_, rfl⟩, hWr, hsame.mono (Nat.le_of_ble_eq_true rfl) (Nat.le_of_ble_eq_true rfl)⟩
  · show Steps p.tables e below (s₁.setTop (mkF m 0 #[.val (.ref w3)] [])) _
    refine st82 _ ?_
    show Steps p.tables e below (T82.setTop (mkF m 3 #[.val (.ref w3)] [(.ref b82)])) _
    refine XS.dup X82.here hx rfl (hb hby d_jdk_32_method_3_code_3) rfl rfl ?_
    show Steps p.tables e below (T82.setTop (mkF m 4 #[.val (.ref w3)] [(.ref b82), (.ref b82)])) _
    refine XS.aloadN X82.here hx rfl (hb hby d_jdk_32_method_3_code_4) rfl rfl ?_
    show Steps p.tables e below (T82.setTop (mkF m 5 #[.val (.ref w3)] [(.ref w3), (.ref b82), (.ref b82)])) _
    refine st83 _ ?_
    show Steps p.tables e below (T83.setTop (mkF m 8 #[.val (.ref w3)] [(.ref w3), (.ref b82), (.ref b82)])) _
    refine st86.trans ?_
    show Steps p.tables e below (T86.setTop (mkF m 11 #[.val (.ref w3)] [(.ref b82)])) _
    exact retOut X86 hx (t := (.object "java/util/Optional")) (i := .areturn) Bd.returns rfl (Or.inr (Or.inr (Or.inr (Or.inr ⟨rfl, rfl, rfl⟩)))) (hb hby d_jdk_32_method_3_code_11) hr
  · show Qerm16 Z w0 w1 w2 w3 w4 w5 w6 w7 w8 w9 w10 w11 w12 w13 w14 w15 w16 w17 h0 n0 _ T86.heap _
    exact ⟨b82, rfl, N86, Kp86, O_86, E_b82_86, F_b82_value_86, g_b82⟩
theorem pd7 : parseMethodDescriptor "(Ljava/lang/Object;)Ljava/util/Optional;" = some ⟨[(.object "java/lang/Object")], some (.object "java/util/Optional")⟩ := by decide +kernel
theorem d_prog_16_method_4_code_33 : decode prog_16_method_4_code 33 = .ok (.areturn, 1) := by decide +kernel
theorem ef12 (m : MethodId)   (w8 : Addr) : entryFrame m #[(.ref w8)] 5 = mkF m 0 #[.val (.ref w8), .unset, .unset, .unset, .unset] [] := by first | (simp [entryFrame, mkF, argsToLocals, Value.category]; done) | rfl
def Qerm15 (Z : State) (w0 w1 w2 w3 w4 w5 w6 w7 w8 w9 w10 w11 w12 w13 w14 w15 w16 w17 : Addr) (h0 : Heap) (n0 : Nat) (v : Option Value) (h : Heap) (L : List Loc) : Prop := ∃ r : Addr, v = some (.ref r) ∧ Fr n0 L ∧ Keep h0 h [] ∧ Old Z n0 h ∧ Exa Z h r "java/util/Optional" ∧ Fld Z h r "java/util/Optional" "value" "Ljava/lang/Object;" (.ref w3) ∧ n0 ≤ r
set_option maxRecDepth 65536 in
set_option maxHeartbeats 40000000 in
theorem rm15 (l : Launch) (Z : State) (a0 : Array Value) (hw : ∀ d ∈ tables_1, d.before a0 Z = true) (ws : List Jvm.Cond) (w0 w1 w2 w3 w4 w5 w6 w7 w8 w9 w10 w11 w12 w13 w14 w15 w16 w17 : Addr) (h0 : Heap) (n0 : Nat) (hWd : Wd Z w0 w1 w2 w3 w4 w5 w6 w7 w8 w9 w10 w11 w12 w13 w14 w15 w16 w17) (O0 : Old Z n0 h0) :
    MetFree l (⟨"com/example/weaverbird/weaverbird/queues/RunAction", "of", "(Lcom/example/weaverbird/weaverbird/codes/CommandType;)Ljava/util/Optional;"⟩ : MethodName) (head1 (Jvm.Cond.code (⟨"com/example/weaverbird/weaverbird/queues/RunAction", "of", "(Lcom/example/weaverbird/weaverbird/codes/CommandType;)Ljava/util/Optional;"⟩ : MethodName) prog_16_method_4_code 5 (some (.object "java/util/Optional")) :: ws) ({ frames := 3, cells := 2, slots := 6, locals := 38 } : Room)) (fun a U => a = #[(.ref w8)] ∧ Z.Warmed39 U.vm ∧ U.heap = h0) (fun _ _ _ _ _ => True) (fun _ U o U' => ∃ v L, o = .returned v ∧ Qerm15 Z w0 w1 w2 w3 w4 w5 w6 w7 w8 w9 w10 w11 w12 w13 w14 w15 w16 w17 h0 n0 v U'.heap L ∧ FrameEnd U o U' L ({ frames := 3, cells := 2, slots := 6, locals := 38 } : Room).cells ({ frames := 3, cells := 2, slots := 6, locals := 38 } : Room).slots) := by
  refine MetFree.of_bodySF (plainFor_of_name pn1) hisR ?_
  intro p e s m args below meth c s₁ Bd hml0 hP hK
  obtain ⟨rfl, hZ, hh⟩ := hP
  have hx := Bd.exec
  have hby := Bd.bytes
  have hml : c.maxLocals = 5 := hml0
  have hown : s.vm.findClass "com/example/weaverbird/weaverbird/queues/RunAction" = some m.cls := findClass_of_methodNamed Bd.named
  have hnm := (name_of_methodNamed Bd.named Bd.method).1
  have X0 : Stand p l e ({ frames := 3, cells := 2, slots := 6, locals := 38 } : Room) s m #[(.ref w8)] below meth c s₁ [] 0 0 := Stand.of_body Bd
  have e0 : s₁.heap = h0 := by rw [← hh, Bd.state]; rfl
  have N0 := Fr.nil n0
  have hlk := Bd.notSynchronized
  obtain ⟨wS0, wE0, wS1, wE1, wS2, wE2, wS3, wE3, wS4, wE4, wS5, wE5, wS6, wE6, wS7, wE7, wS8, wE8, wS9, wE9, wS10, wE10, wS11, wE11, wS12, wE12, wS13, wE13, wS14, wE14, wS15, wE15, wS16, wE16, wS17, wE17, wF2_type, wF7_ordinal, wF0_ordinal, wF3_type, wF8_ordinal, wF4_type, wF9_ordinal, wF5_type, wF10_ordinal, wF6_type, wF11_ordinal, wF12_ordinal, wF13_ordinal, wF14_ordinal, wF15_ordinal, wF16_ordinal, wF17_value, wA, -⟩ := id hWd
  have pre0 : ∀ t, Steps p.tables e below (s₁.setTop (mkF m 0 #[.val (.ref w8), .unset, .unset, .unset, .unset] [])) t → Steps p.tables e below (s₁.setTop (entryFrame m #[(.ref w8)] 5)) t := fun t k => castTop (ef12 m w8) k
  obtain ⟨_, _, ⟨T76, L76, k76, n76⟩, -, X76, ⟨Lc76, hQ76, l76, y76, z76⟩, st76⟩ := Jvm.LawKit.callS X0 hx (y := (⟨"com/example/weaverbird/weaverbird/queues/RunAction", "values", "()[Lcom/example/weaverbird/weaverbird/queues/RunAction;"⟩ : MethodName)) hown (mvT hZ (hw _ (List.mem_of_getElem? (i := 15) rfl))) (mvT hZ (hw _ (List.mem_of_getElem? (i := 16) rfl))) (mvT hZ (hw _ (List.mem_of_getElem? (i := 13) rfl))) (mvT hZ (hw _ (List.mem_of_getElem? (i := 17) rfl))) (by decide) (backOf (W := 0) (rm4 l Z a0 hw [] w0 w1 w2 w3 w4 w5 w6 w7 w8 w9 w10 w11 w12 w13 w14 w15 w16 w17 h0 n0 hWd O0) hZ (hw _ (List.mem_of_getElem? (i := 17) rfl)) (hw _ (List.mem_of_getElem? (i := 13) rfl)) (by decide) (by decide)) (g := (mkF m 0 #[.val (.ref w8), .unset, .unset, .unset, .unset] [])) rfl (by rw [hml]; rfl) (argsL := []) (rest := []) (lenOf pd2 rfl) rfl (by show 2 * 0 + _ ≤ _; exact Nat.le_of_eq rfl) (hb hby d_prog_16_method_4_code_0) (fun _ _ => ⟨rfl, e0, (by decide : 0 + 1 ≤ _), (by decide : 0 + 5 ≤ _)⟩)
  dsimp only [Pt.U, Pt.locs, Pt.cells, Pt.slots] at X76 l76 y76 z76 st76 hQ76
  subst l76 y76 z76
  obtain ⟨r76, ka76, rfl, N76q, K76, O_76, V76, g_r76⟩ := hQ76
  have N76 := Fr.app N0 N76q
  have Kp76 : Keep h0 T76.heap [] := (Keep.refl h0 []).trans K76 all0
  obtain ⟨cl77, Ar77, q77, S77, M77, H77, G77⟩ := id V76
  obtain ⟨cl78, Ar78, q78, S78, M78, H78, G78⟩ := id V76
  have hin78 : ¬ ((0 : Int32) < 0 ∨ cl78.slots.size ≤ ((0 : Int32)).toNatClampNeg) := inb_of S78 ⟨by decide, by decide⟩
  have hat78 : cl78.slots[((0 : Int32)).toNatClampNeg]? = some (.ref w2) := Has.at H78 hin78 rfl
  obtain ⟨T79, X79, e79, st79⟩ := getF X76 hx hZ hown (host := "") (Or.inl (hw _ (List.mem_of_getElem? (i := 35) rfl))) Via.refl rfl (wF2_type.ext O_76.2) (g := (mkF m 21 #[.val (.ref w8), .val (.ref r76), .val (.int (5 : Int32)), .val (.int (0 : Int32)), .val (.ref w2)] [(.ref w2)])) rfl rfl (hb hby d_prog_16_method_4_code_21)
  obtain ⟨cl80, Ar80, q80, S80, M80, H80, G80⟩ := id V76
  have hin80 : ¬ ((1 : Int32) < 0 ∨ cl80.slots.size ≤ ((1 : Int32)).toNatClampNeg) := inb_of S80 ⟨by decide, by decide⟩
  have hat80 : cl80.slots[((1 : Int32)).toNatClampNeg]? = some (.ref w3) := Has.at H80 hin80 rfl
  obtain ⟨T81, X81, e81, st81⟩ := getF X79 hx hZ hown (host := "") (Or.inl (hw _ (List.mem_of_getElem? (i := 35) rfl))) Via.refl e79 (wF3_type.ext O_76.2) (g := (mkF m 21 #[.val (.ref w8), .val (.ref r76), .val (.int (5 : Int32)), .val (.int (1 : Int32)), .val (.ref w3)] [(.ref w3)])) rfl rfl (hb hby d_prog_16_method_4_code_21)
  obtain ⟨_, _, ⟨T87, L87, k87, n87⟩, -, X87, ⟨Lc87, hQ87, l87, y87, z87⟩, st87⟩ := Jvm.LawKit.callS X81 hx (y := (⟨"java/util/Optional", "of", "(Ljava/lang/Object;)Ljava/util/Optional;"⟩ : MethodName)) hown (mvT hZ (hw _ (List.mem_of_getElem? (i := 56) rfl))) (mvT hZ (hw _ (List.mem_of_getElem? (i := 57) rfl))) (mvT hZ (hw _ (List.mem_of_getElem? (i := 44) rfl))) (mvT hZ (hw _ (List.mem_of_getElem? (i := 58) rfl))) (by decide) (backOf (W := 0) (rm16 l Z a0 hw [] w0 w1 w2 w3 w4 w5 w6 w7 w8 w9 w10 w11 w12 w13 w14 w15 w16 w17 T76.heap n0 hWd O_76) hZ (hw _ (List.mem_of_getElem? (i := 58) rfl)) (hw _ (List.mem_of_getElem? (i := 44) rfl)) (by decide) (by decide)) (g := (mkF m 30 #[.val (.ref w8), .val (.ref r76), .val (.int (5 : Int32)), .val (.int (1 : Int32)), .val (.ref w3)] [(.ref w3)])) rfl (by rw [hml]; rfl) (argsL := [(.ref w3)]) (rest := []) (lenOf pd7 rfl) rfl (by show 2 * 0 + _ ≤ _; exact Nat.le_of_eq rfl) (hb hby d_prog_16_method_4_code_30) (fun _ _ => ⟨rfl, e81, (by decide : 1 + 1 ≤ _), (by decide : 5 + 1 ≤ _)⟩)
  dsimp only [Pt.U, Pt.locs, Pt.cells, Pt.slots] at X87 l87 y87 z87 st87 hQ87
  subst l87 y87 z87
  obtain ⟨r87, rfl, N87q, K87, O_87, E_r87_87, F_r87_value_87, g_r87⟩ := hQ87
  have N87 := Fr.app N76 N87q
  have Kp87 : Keep h0 T87.heap [] := Kp76.trans K87 all0
  obtain ⟨fs, hr, hrun, hended, hWr, hsame⟩ := X87.leave (v := some (.ref r87)) (fun h => by rw [Bd.returns] at h; cases h) hlk
  refine ⟨_, _, pre0 _ ?_, hrun, hended, _, _, rfl, ?_, ⟨_, rfl⟩, hWr, hsame.mono (Nat.le_of_ble_eq_true rfl) (Nat.le_of_ble_eq_true rfl)⟩
  · show Steps p.tables e below (s₁.setTop (mkF m 0 #[.val (.ref w8), .unset, .unset, .unset, .unset] [])) _
    refine st76 _ ?_
    show Steps p.tables e below (T76.setTop (mkF m 3 #[.val (.ref w8), .unset, .unset, .unset, .unset] [(.ref r76)])) _
    refine XS.astoreN X76.here hx rfl (hb hby d_prog_16_method_4_code_3) rfl rfl (l' := #[.val (.ref w8), .val (.ref r76), .unset, .unset, .unset]) rfl ?_
    show Steps p.tables e below (T76.setTop (mkF m 4 #[.val (.ref w8), .val (.ref r76), .unset, .unset, .unset] [])) _
    refine XS.aloadN X76.here hx rfl (hb hby d_prog_16_method_4_code_4) rfl rfl ?_
    show Steps p.tables e below (T76.setTop (mkF m 5 #[.val (.ref w8), .val (.ref r76), .unset, .unset, .unset] [(.ref r76)])) _
    refine X76.arraylength hx Ar77.1 (State.isArrayOf_alike hZ.alike Ar77.2.1) (g := (mkF m 5 #[.val (.ref w8), .val (.ref r76), .unset, .unset, .unset] [(.ref r76)])) rfl rfl (hb hby d_prog_16_method_4_code_5) _ ?_
    rw [len_of S77 M77]
    show Steps p.tables e below (T76.setTop (mkF m 6 #[.val (.ref w8), .val (.ref r76), .unset, .unset, .unset] [(.int (5 : Int32))])) _
    refine XS.istoreN X76.here hx rfl (hb hby d_prog_16_method_4_code_6) rfl (l' := #[.val (.ref w8), .val (.ref r76), .val (.int (5 : Int32)), .unset, .unset]) rfl ?_
    show Steps p.tables e below (T76.setTop (mkF m 7 #[.val (.ref w8), .val (.ref r76), .val (.int (5 : Int32)), .unset, .unset] [])) _
    refine XS.iconst X76.here hx rfl (hb hby d_prog_16_method_4_code_7) ?_
    show Steps p.tables e below (T76.setTop (mkF m 8 #[.val (.ref w8), .val (.ref r76), .val (.int (5 : Int32)), .unset, .unset] [(.int (0 : Int32))])) _
    refine XS.istoreN X76.here hx rfl (hb hby d_prog_16_method_4_code_8) rfl (l' := #[.val (.ref w8), .val (.ref r76), .val (.int (5 : Int32)), .val (.int (0 : Int32)), .unset]) rfl ?_
    show Steps p.tables e below (T76.setTop (mkF m 9 #[.val (.ref w8), .val (.ref r76), .val (.int (5 : Int32)), .val (.int (0 : Int32)), .unset] [])) _
    refine XS.iloadN X76.here hx rfl (hb hby d_prog_16_method_4_code_9) rfl ?_
    show Steps p.tables e below (T76.setTop (mkF m 10 #[.val (.ref w8), .val (.ref r76), .val (.int (5 : Int32)), .val (.int (0 : Int32)), .unset] [(.int (0 : Int32))])) _
    refine XS.iloadN X76.here hx rfl (hb hby d_prog_16_method_4_code_10) rfl ?_
    show Steps p.tables e below (T76.setTop (mkF m 11 #[.val (.ref w8), .val (.ref r76), .val (.int (5 : Int32)), .val (.int (0 : Int32)), .unset] [(.int (5 : Int32)), (.int (0 : Int32))])) _
    refine XS.icmpNo X76.here hx rfl (hb hby d_prog_16_method_4_code_11) rfl (by decide) ?_
    show Steps p.tables e below (T76.setTop (mkF m 14 #[.val (.ref w8), .val (.ref r76), .val (.int (5 : Int32)), .val (.int (0 : Int32)), .unset] [])) _
    refine XS.aloadN X76.here hx rfl (hb hby d_prog_16_method_4_code_14) rfl rfl ?_
    show Steps p.tables e below (T76.setTop (mkF m 15 #[.val (.ref w8), .val (.ref r76), .val (.int (5 : Int32)), .val (.int (0 : Int32)), .unset] [(.ref r76)])) _
    refine XS.iloadN X76.here hx rfl (hb hby d_prog_16_method_4_code_15) rfl ?_
    show Steps p.tables e below (T76.setTop (mkF m 16 #[.val (.ref w8), .val (.ref r76), .val (.int (5 : Int32)), .val (.int (0 : Int32)), .unset] [(.int (0 : Int32)), (.ref r76)])) _
    refine X76.aaload hx (j := (0 : Int32)) (v := (.ref w2)) Ar78.1 (State.isArrayOf_alike hZ.alike Ar78.2.1) rfl Ar78.2.2 hin78 hat78 (g := (mkF m 16 #[.val (.ref w8), .val (.ref r76), .val (.int (5 : Int32)), .val (.int (0 : Int32)), .unset] [(.int (0 : Int32)), (.ref r76)])) rfl rfl (hb hby d_prog_16_method_4_code_16) _ ?_
    show Steps p.tables e below (T76.setTop (mkF m 17 #[.val (.ref w8), .val (.ref r76), .val (.int (5 : Int32)), .val (.int (0 : Int32)), .unset] [(.ref w2)])) _
    refine XS.astore X76.here hx rfl (hb hby d_prog_16_method_4_code_17) rfl rfl (l' := #[.val (.ref w8), .val (.ref r76), .val (.int (5 : Int32)), .val (.int (0 : Int32)), .val (.ref w2)]) rfl ?_
    show Steps p.tables e below (T76.setTop (mkF m 19 #[.val (.ref w8), .val (.ref r76), .val (.int (5 : Int32)), .val (.int (0 : Int32)), .val (.ref w2)] [])) _
    refine XS.aload X76.here hx rfl (hb hby d_prog_16_method_4_code_19) rfl rfl ?_
    show Steps p.tables e below (T76.setTop (mkF m 21 #[.val (.ref w8), .val (.ref r76), .val (.int (5 : Int32)), .val (.int (0 : Int32)), .val (.ref w2)] [(.ref w2)])) _
    refine st79 _ ?_
    show Steps p.tables e below (T79.setTop (mkF m 24 #[.val (.ref w8), .val (.ref r76), .val (.int (5 : Int32)), .val (.int (0 : Int32)), .val (.ref w2)] [(.ref w7)])) _
    refine XS.aloadN X79.here hx rfl (hb hby d_prog_16_method_4_code_24) rfl rfl ?_
    show Steps p.tables e below (T79.setTop (mkF m 25 #[.val (.ref w8), .val (.ref r76), .val (.int (5 : Int32)), .val (.int (0 : Int32)), .val (.ref w2)] [(.ref w8), (.ref w7)])) _
    refine Jvm.RoadKit.acmp (g := (mkF m 25 #[.val (.ref w8), .val (.ref r76), .val (.int (5 : Int32)), .val (.int (0 : Int32)), .val (.ref w2)] [(.ref w8), (.ref w7)])) X79 hx rfl rfl rfl (pc0 := 25) (pc' := 34) (same := false) rfl (hb hby d_prog_16_method_4_code_25) rfl (decide_eq_false fun q => (Fld.ne wF7_ordinal wF8_ordinal (fun q => absurd (Value.int.inj q) (by decide))) (Value.ref.inj q)) (by decide) (by decide) ?_
    show Steps p.tables e below (T79.setTop (mkF m 34 #[.val (.ref w8), .val (.ref r76), .val (.int (5 : Int32)), .val (.int (0 : Int32)), .val (.ref w2)] [])) _
    refine XS.iinc X79.here hx rfl (hb hby d_prog_16_method_4_code_34) rfl (l' := #[.val (.ref w8), .val (.ref r76), .val (.int (5 : Int32)), .val (.int (1 : Int32)), .val (.ref w2)]) rfl ?_
    show Steps p.tables e below (T79.setTop (mkF m 37 #[.val (.ref w8), .val (.ref r76), .val (.int (5 : Int32)), .val (.int (1 : Int32)), .val (.ref w2)] [])) _
    refine XS.goto X79.here hx rfl (pc0 := 37) (pc' := 9) rfl (hb hby d_prog_16_method_4_code_37) (by decide) (by decide) ?_
    show Steps p.tables e below (T79.setTop (mkF m 9 #[.val (.ref w8), .val (.ref r76), .val (.int (5 : Int32)), .val (.int (1 : Int32)), .val (.ref w2)] [])) _
    refine XS.iloadN X79.here hx rfl (hb hby d_prog_16_method_4_code_9) rfl ?_
    show Steps p.tables e below (T79.setTop (mkF m 10 #[.val (.ref w8), .val (.ref r76), .val (.int (5 : Int32)), .val (.int (1 : Int32)), .val (.ref w2)] [(.int (1 : Int32))])) _
    refine XS.iloadN X79.here hx rfl (hb hby d_prog_16_method_4_code_10) rfl ?_
    show Steps p.tables e below (T79.setTop (mkF m 11 #[.val (.ref w8), .val (.ref r76), .val (.int (5 : Int32)), .val (.int (1 : Int32)), .val (.ref w2)] [(.int (5 : Int32)), (.int (1 : Int32))])) _
    refine XS.icmpNo X79.here hx rfl (hb hby d_prog_16_method_4_code_11) rfl (by decide) ?_
    show Steps p.tables e below (T79.setTop (mkF m 14 #[.val (.ref w8), .val (.ref r76), .val (.int (5 : Int32)), .val (.int (1 : Int32)), .val (.ref w2)] [])) _
    refine XS.aloadN X79.here hx rfl (hb hby d_prog_16_method_4_code_14) rfl rfl ?_
    show Steps p.tables e below (T79.setTop (mkF m 15 #[.val (.ref w8), .val (.ref r76), .val (.int (5 : Int32)), .val (.int (1 : Int32)), .val (.ref w2)] [(.ref r76)])) _
    refine XS.iloadN X79.here hx rfl (hb hby d_prog_16_method_4_code_15) rfl ?_
    show Steps p.tables e below (T79.setTop (mkF m 16 #[.val (.ref w8), .val (.ref r76), .val (.int (5 : Int32)), .val (.int (1 : Int32)), .val (.ref w2)] [(.int (1 : Int32)), (.ref r76)])) _
    refine X79.aaload hx (j := (1 : Int32)) (v := (.ref w3)) (by rw [e79]; exact Ar80.1) (State.isArrayOf_alike hZ.alike Ar80.2.1) rfl Ar80.2.2 hin80 hat80 (g := (mkF m 16 #[.val (.ref w8), .val (.ref r76), .val (.int (5 : Int32)), .val (.int (1 : Int32)), .val (.ref w2)] [(.int (1 : Int32)), (.ref r76)])) rfl rfl (hb hby d_prog_16_method_4_code_16) _ ?_
    show Steps p.tables e below (T79.setTop (mkF m 17 #[.val (.ref w8), .val (.ref r76), .val (.int (5 : Int32)), .val (.int (1 : Int32)), .val (.ref w2)] [(.ref w3)])) _
    refine XS.astore X79.here hx rfl (hb hby d_prog_16_method_4_code_17) rfl rfl (l' := #[.val (.ref w8), .val (.ref r76), .val (.int (5 : Int32)), .val (.int (1 : Int32)), .val (.ref w3)]) rfl ?_
    show Steps p.tables e below (T79.setTop (mkF m 19 #[.val (.ref w8), .val (.ref r76), .val (.int (5 : Int32)), .val (.int (1 : Int32)), .val (.ref w3)] [])) _
    refine XS.aload X79.here hx rfl (hb hby d_prog_16_method_4_code_19) rfl rfl ?_
    show Steps p.tables e below (T79.setTop (mkF m 21 #[.val (.ref w8), .val (.ref r76), .val (.int (5 : Int32)), .val (.int (1 : Int32)), .val (.ref w3)] [(.ref w3)])) _
    refine st81 _ ?_
    show Steps p.tables e below (T81.setTop (mkF m 24 #[.val (.ref w8), .val (.ref r76), .val (.int (5 : Int32)), .val (.int (1 : Int32)), .val (.ref w3)] [(.ref w8)])) _
    refine XS.aloadN X81.here hx rfl (hb hby d_prog_16_method_4_code_24) rfl rfl ?_
    show Steps p.tables e below (T81.setTop (mkF m 25 #[.val (.ref w8), .val (.ref r76), .val (.int (5 : Int32)), .val (.int (1 : Int32)), .val (.ref w3)] [(.ref w8), (.ref w8)])) _
    refine Jvm.RoadKit.acmp (g := (mkF m 25 #[.val (.ref w8), .val (.ref r76), .val (.int (5 : Int32)), .val (.int (1 : Int32)), .val (.ref w3)] [(.ref w8), (.ref w8)])) X81 hx rfl rfl rfl (pc0 := 25) (pc' := 28) (same := true) rfl (hb hby d_prog_16_method_4_code_25) rfl (decide_eq_true rfl) (by decide) (by decide) ?_
    show Steps p.tables e below (T81.setTop (mkF m 28 #[.val (.ref w8), .val (.ref r76), .val (.int (5 : Int32)), .val (.int (1 : Int32)), .val (.ref w3)] [])) _
    refine XS.aload X81.here hx rfl (hb hby d_prog_16_method_4_code_28) rfl rfl ?_
    show Steps p.tables e below (T81.setTop (mkF m 30 #[.val (.ref w8), .val (.ref r76), .val (.int (5 : Int32)), .val (.int (1 : Int32)), .val (.ref w3)] [(.ref w3)])) _
    refine st87 _ ?_
    show Steps p.tables e below (T87.setTop (mkF m 33 #[.val (.ref w8), .val (.ref r76), .val (.int (5 : Int32)), .val (.int (1 : Int32)), .val (.ref w3)] [(.ref r87)])) _
    exact retOut X87 hx (t := (.object "java/util/Optional")) (i := .areturn) Bd.returns rfl (Or.inr (Or.inr (Or.inr (Or.inr ⟨rfl, rfl, rfl⟩)))) (hb hby d_prog_16_method_4_code_33) hr
  · show Qerm15 Z w0 w1 w2 w3 w4 w5 w6 w7 w8 w9 w10 w11 w12 w13 w14 w15 w16 w17 h0 n0 _ T87.heap _
    exact ⟨r87, rfl, N87, Kp87, O_87, E_r87_87, F_r87_value_87, g_r87⟩
theorem d_jdk_32_method_15_code_7 : decode jdk_32_method_15_code 7 = .ok (.aload_n 0, 1) := by decide +kernel
theorem d_jdk_32_method_15_code_8 : decode jdk_32_method_15_code 8 = .ok (.getfield 13, 3) := by decide +kernel
theorem d_jdk_32_method_15_code_11 : decode jdk_32_method_15_code 11 = .ok (.goto 4, 3) := by decide +kernel
theorem ef13 (m : MethodId)   (a1 : Addr) : entryFrame m #[(.ref a1), .null] 2 = mkF m 0 #[.val (.ref a1), .val .null] [] := by first | (simp [entryFrame, mkF, argsToLocals, Value.category]; done) | rfl
set_option maxRecDepth 65536 in
set_option maxHeartbeats 40000000 in
theorem rm19 (l : Launch) (Z : State) (a0 : Array Value) (hw : ∀ d ∈ tables_1, d.before a0 Z = true) (ws : List Jvm.Cond) (w0 w1 w2 w3 w4 w5 w6 w7 w8 w9 w10 w11 w12 w13 w14 w15 w16 w17 : Addr) (a1 : Addr) (h0 : Heap) (n0 : Nat) (hWd : Wd Z w0 w1 w2 w3 w4 w5 w6 w7 w8 w9 w10 w11 w12 w13 w14 w15 w16 w17) (O0 : Old Z n0 h0) (E_a1 : Exa Z h0 a1 "java/util/Optional") (F_a1_value : Fld Z h0 a1 "java/util/Optional" "value" "Ljava/lang/Object;" (.ref w3)) (g_a1 : n0 ≤ a1) :
    MetFree l (⟨"java/util/Optional", "orElse", "(Ljava/lang/Object;)Ljava/lang/Object;"⟩ : MethodName) (head1 (Jvm.Cond.code (⟨"java/util/Optional", "orElse", "(Ljava/lang/Object;)Ljava/lang/Object;"⟩ : MethodName) jdk_32_method_15_code 2 (some (.object "java/lang/Object")) :: ws) ({ frames := 0, cells := 0, slots := 0, locals := 0 } : Room)) (fun a U => a = #[(.ref a1), .null] ∧ Z.Warmed39 U.vm ∧ U.heap = h0) (fun _ _ _ _ _ => True) (fun _ U o U' => ∃ v L, o = .returned v ∧ Qp (some (.ref w3)) h0 n0 v U'.heap L ∧ FrameEnd U o U' L ({ frames := 0, cells := 0, slots := 0, locals := 0 } : Room).cells ({ frames := 0, cells := 0, slots := 0, locals := 0 } : Room).slots) := by
  refine MetFree.of_bodySF (plainFor_of_name pn2) hisR ?_
  intro p e s m args below meth c s₁ Bd hml0 hP hK
  obtain ⟨rfl, hZ, hh⟩ := hP
  have hx := Bd.exec
  have hby := Bd.bytes
  have hml : c.maxLocals = 2 := hml0
  have hown : s.vm.findClass "java/util/Optional" = some m.cls := findClass_of_methodNamed Bd.named
  have hnm := (name_of_methodNamed Bd.named Bd.method).1
  have X0 : Stand p l e ({ frames := 0, cells := 0, slots := 0, locals := 0 } : Room) s m #[(.ref a1), .null] below meth c s₁ [] 0 0 := Stand.of_body Bd
  have e0 : s₁.heap = h0 := by rw [← hh, Bd.state]; rfl
  have N0 := Fr.nil n0
  have hlk := Bd.notSynchronized
  obtain ⟨wS0, wE0, wS1, wE1, wS2, wE2, wS3, wE3, wS4, wE4, wS5, wE5, wS6, wE6, wS7, wE7, wS8, wE8, wS9, wE9, wS10, wE10, wS11, wE11, wS12, wE12, wS13, wE13, wS14, wE14, wS15, wE15, wS16, wE16, wS17, wE17, wF2_type, wF7_ordinal, wF0_ordinal, wF3_type, wF8_ordinal, wF4_type, wF9_ordinal, wF5_type, wF10_ordinal, wF6_type, wF11_ordinal, wF12_ordinal, wF13_ordinal, wF14_ordinal, wF15_ordinal, wF16_ordinal, wF17_value, wA, -⟩ := id hWd
  have pre0 : ∀ t, Steps p.tables e below (s₁.setTop (mkF m 0 #[.val (.ref a1), .val .null] [])) t → Steps p.tables e below (s₁.setTop (entryFrame m #[(.ref a1), .null] 2)) t := fun t k => castTop (ef13 m a1) k
  obtain ⟨T89, X89, e89, st89⟩ := getF X0 hx hZ hown (host := "") (Or.inl (hw _ (List.mem_of_getElem? (i := 52) rfl))) Via.refl e0 F_a1_value (g := (mkF m 1 #[.val (.ref a1), .val .null] [(.ref a1)])) rfl rfl (hb hby d_jdk_32_method_15_code_1)
  obtain ⟨T90, X90, e90, st90⟩ := getF X89 hx hZ hown (host := "") (Or.inl (hw _ (List.mem_of_getElem? (i := 52) rfl))) Via.refl e89 F_a1_value (g := (mkF m 8 #[.val (.ref a1), .val .null] [(.ref a1)])) rfl rfl (hb hby d_jdk_32_method_15_code_8)
  obtain ⟨fs, hr, hrun, hended, hWr, hsame⟩ := X90.leave (v := some (.ref w3)) (fun h => by rw [Bd.returns] at h; cases h) hlk
  refine ⟨_, _, pre0 _ ?_, hrun, hended, _, _, rfl, ?_, ⟨_, rfl⟩, hWr, hsame.mono (Nat.le_of_ble_eq_true rfl) (Nat.le_of_ble_eq_true rfl)⟩
  · show Steps p.tables e below (s₁.setTop (mkF m 0 #[.val (.ref a1), .val .null] [])) _
    refine XS.aloadN X0.here hx rfl (hb hby d_jdk_32_method_15_code_0) rfl rfl ?_
    show Steps p.tables e below (s₁.setTop (mkF m 1 #[.val (.ref a1), .val .null] [(.ref a1)])) _
    refine st89 _ ?_
    show Steps p.tables e below (T89.setTop (mkF m 4 #[.val (.ref a1), .val .null] [(.ref w3)])) _
    refine XS.ifnullNo X89.here hx rfl (hb hby d_jdk_32_method_15_code_4) rfl ?_
    show Steps p.tables e below (T89.setTop (mkF m 7 #[.val (.ref a1), .val .null] [])) _
    refine XS.aloadN X89.here hx rfl (hb hby d_jdk_32_method_15_code_7) rfl rfl ?_
    show Steps p.tables e below (T89.setTop (mkF m 8 #[.val (.ref a1), .val .null] [(.ref a1)])) _
    refine st90 _ ?_
    show Steps p.tables e below (T90.setTop (mkF m 11 #[.val (.ref a1), .val .null] [(.ref w3)])) _
    refine XS.goto X90.here hx rfl (pc0 := 11) (pc' := 15) rfl (hb hby d_jdk_32_method_15_code_11) (by decide) (by decide) ?_
    show Steps p.tables e below (T90.setTop (mkF m 15 #[.val (.ref a1), .val .null] [(.ref w3)])) _
    exact retOut X90 hx (t := (.object "java/lang/Object")) (i := .areturn) Bd.returns rfl (Or.inr (Or.inr (Or.inr (Or.inr ⟨rfl, rfl, rfl⟩)))) (hb hby d_jdk_32_method_15_code_15) hr
  · show Qp (some (.ref w3)) h0 n0 _ T90.heap _
    rw [e90]
    exact ⟨rfl, N0, rfl⟩
theorem d_method_3_code_35 : decode method_3_code 35 = .ok (.iload_n 0, 1) := by decide +kernel
theorem d_method_3_code_36 : decode method_3_code 36 = .ok (.iconst 4, 1) := by decide +kernel
theorem d_method_3_code_37 : decode method_3_code 37 = .ok (.if_icmp .ne 7, 3) := by decide +kernel
theorem d_method_3_code_40 : decode method_3_code 40 = .ok (.getstatic 45, 3) := by decide +kernel
theorem d_method_3_code_43 : decode method_3_code 43 = .ok (.areturn, 1) := by decide +kernel
theorem ef14 (m : MethodId)    : entryFrame m #[(.int (4 : Int32))] 1 = mkF m 0 #[.val (.int (4 : Int32))] [] := by first | (simp [entryFrame, mkF, argsToLocals, Value.category]; done) | rfl
set_option maxRecDepth 65536 in
set_option maxHeartbeats 40000000 in
theorem rm20 (l : Launch) (Z : State) (a0 : Array Value) (hw : ∀ d ∈ tables_1, d.before a0 Z = true) (ws : List Jvm.Cond) (w0 w1 w2 w3 w4 w5 w6 w7 w8 w9 w10 w11 w12 w13 w14 w15 w16 w17 : Addr) (h0 : Heap) (n0 : Nat) (hWd : Wd Z w0 w1 w2 w3 w4 w5 w6 w7 w8 w9 w10 w11 w12 w13 w14 w15 w16 w17) (O0 : Old Z n0 h0) :
    MetFree l (⟨"com/example/weaverbird/weaverbird/queues/RunActionOfPinLaw", "typeAt", "(I)Lcom/example/weaverbird/weaverbird/codes/CommandType;"⟩ : MethodName) (head1 (Jvm.Cond.code (⟨"com/example/weaverbird/weaverbird/queues/RunActionOfPinLaw", "typeAt", "(I)Lcom/example/weaverbird/weaverbird/codes/CommandType;"⟩ : MethodName) method_3_code 1 (some (.object "com/example/weaverbird/weaverbird/codes/CommandType")) :: ws) ({ frames := 0, cells := 0, slots := 0, locals := 0 } : Room)) (fun a U => a = #[(.int (4 : Int32))] ∧ Z.Warmed39 U.vm ∧ U.heap = h0) (fun _ _ _ _ _ => True) (fun _ U o U' => ∃ v L, o = .returned v ∧ Qp (some (.ref w11)) h0 n0 v U'.heap L ∧ FrameEnd U o U' L ({ frames := 0, cells := 0, slots := 0, locals := 0 } : Room).cells ({ frames := 0, cells := 0, slots := 0, locals := 0 } : Room).slots) := by
  refine MetFree.of_bodySF (plainFor_of_name pn0) hisR ?_
  intro p e s m args below meth c s₁ Bd hml0 hP hK
  obtain ⟨rfl, hZ, hh⟩ := hP
  have hx := Bd.exec
  have hby := Bd.bytes
  have hml : c.maxLocals = 1 := hml0
  have hown : s.vm.findClass "com/example/weaverbird/weaverbird/queues/RunActionOfPinLaw" = some m.cls := findClass_of_methodNamed Bd.named
  have hnm := (name_of_methodNamed Bd.named Bd.method).1
  have X0 : Stand p l e ({ frames := 0, cells := 0, slots := 0, locals := 0 } : Room) s m #[(.int (4 : Int32))] below meth c s₁ [] 0 0 := Stand.of_body Bd
  have e0 : s₁.heap = h0 := by rw [← hh, Bd.state]; rfl
  have N0 := Fr.nil n0
  have hlk := Bd.notSynchronized
  obtain ⟨wS0, wE0, wS1, wE1, wS2, wE2, wS3, wE3, wS4, wE4, wS5, wE5, wS6, wE6, wS7, wE7, wS8, wE8, wS9, wE9, wS10, wE10, wS11, wE11, wS12, wE12, wS13, wE13, wS14, wE14, wS15, wE15, wS16, wE16, wS17, wE17, wF2_type, wF7_ordinal, wF0_ordinal, wF3_type, wF8_ordinal, wF4_type, wF9_ordinal, wF5_type, wF10_ordinal, wF6_type, wF11_ordinal, wF12_ordinal, wF13_ordinal, wF14_ordinal, wF15_ordinal, wF16_ordinal, wF17_value, wA, -⟩ := id hWd
  have pre0 : ∀ t, Steps p.tables e below (s₁.setTop (mkF m 0 #[.val (.int (4 : Int32))] [])) t → Steps p.tables e below (s₁.setTop (entryFrame m #[(.int (4 : Int32))] 1)) t := fun t k => castTop (ef14 m ) k
  obtain ⟨T93, X93, e93, st93⟩ := getS2 X0 hx hZ hown (host := "") (Or.inl (hw _ (List.mem_of_getElem? (i := 90) rfl))) Via.refl e0 (wS11.ext O0.2) (g := (mkF m 40 #[.val (.int (4 : Int32))] [])) rfl (hb hby d_method_3_code_40)
  obtain ⟨fs, hr, hrun, hended, hWr, hsame⟩ := X93.leave (v := some (.ref w11)) (fun h => by rw [Bd.returns] at h; cases h) hlk
  refine ⟨_, _, pre0 _ ?_, hrun, hended, _, _, rfl, ?_, ⟨_, rfl⟩, hWr, hsame.mono (Nat.le_of_ble_eq_true rfl) (Nat.le_of_ble_eq_true rfl)⟩
  · show Steps p.tables e below (s₁.setTop (mkF m 0 #[.val (.int (4 : Int32))] [])) _
    refine XS.iloadN X0.here hx rfl (hb hby d_method_3_code_0) rfl ?_
    show Steps p.tables e below (s₁.setTop (mkF m 1 #[.val (.int (4 : Int32))] [(.int (4 : Int32))])) _
    refine XS.ifYes X0.here hx rfl (pc0 := 1) (pc' := 8) rfl (hb hby d_method_3_code_1) rfl (by decide) (by decide) (by decide) ?_
    show Steps p.tables e below (s₁.setTop (mkF m 8 #[.val (.int (4 : Int32))] [])) _
    refine XS.iloadN X0.here hx rfl (hb hby d_method_3_code_8) rfl ?_
    show Steps p.tables e below (s₁.setTop (mkF m 9 #[.val (.int (4 : Int32))] [(.int (4 : Int32))])) _
    refine XS.iconst X0.here hx rfl (hb hby d_method_3_code_9) ?_
    show Steps p.tables e below (s₁.setTop (mkF m 10 #[.val (.int (4 : Int32))] [(.int (1 : Int32)), (.int (4 : Int32))])) _
    refine XS.icmpYes X0.here hx rfl (pc0 := 10) (pc' := 17) rfl (hb hby d_method_3_code_10) rfl (by decide) (by decide) (by decide) ?_
    show Steps p.tables e below (s₁.setTop (mkF m 17 #[.val (.int (4 : Int32))] [])) _
    refine XS.iloadN X0.here hx rfl (hb hby d_method_3_code_17) rfl ?_
    show Steps p.tables e below (s₁.setTop (mkF m 18 #[.val (.int (4 : Int32))] [(.int (4 : Int32))])) _
    refine XS.iconst X0.here hx rfl (hb hby d_method_3_code_18) ?_
    show Steps p.tables e below (s₁.setTop (mkF m 19 #[.val (.int (4 : Int32))] [(.int (2 : Int32)), (.int (4 : Int32))])) _
    refine XS.icmpYes X0.here hx rfl (pc0 := 19) (pc' := 26) rfl (hb hby d_method_3_code_19) rfl (by decide) (by decide) (by decide) ?_
    show Steps p.tables e below (s₁.setTop (mkF m 26 #[.val (.int (4 : Int32))] [])) _
    refine XS.iloadN X0.here hx rfl (hb hby d_method_3_code_26) rfl ?_
    show Steps p.tables e below (s₁.setTop (mkF m 27 #[.val (.int (4 : Int32))] [(.int (4 : Int32))])) _
    refine XS.iconst X0.here hx rfl (hb hby d_method_3_code_27) ?_
    show Steps p.tables e below (s₁.setTop (mkF m 28 #[.val (.int (4 : Int32))] [(.int (3 : Int32)), (.int (4 : Int32))])) _
    refine XS.icmpYes X0.here hx rfl (pc0 := 28) (pc' := 35) rfl (hb hby d_method_3_code_28) rfl (by decide) (by decide) (by decide) ?_
    show Steps p.tables e below (s₁.setTop (mkF m 35 #[.val (.int (4 : Int32))] [])) _
    refine XS.iloadN X0.here hx rfl (hb hby d_method_3_code_35) rfl ?_
    show Steps p.tables e below (s₁.setTop (mkF m 36 #[.val (.int (4 : Int32))] [(.int (4 : Int32))])) _
    refine XS.iconst X0.here hx rfl (hb hby d_method_3_code_36) ?_
    show Steps p.tables e below (s₁.setTop (mkF m 37 #[.val (.int (4 : Int32))] [(.int (4 : Int32)), (.int (4 : Int32))])) _
    refine XS.icmpNo X0.here hx rfl (hb hby d_method_3_code_37) rfl (by decide) ?_
    show Steps p.tables e below (s₁.setTop (mkF m 40 #[.val (.int (4 : Int32))] [])) _
    refine st93 _ ?_
    show Steps p.tables e below (T93.setTop (mkF m 43 #[.val (.int (4 : Int32))] [(.ref w11)])) _
    exact retOut X93 hx (t := (.object "com/example/weaverbird/weaverbird/codes/CommandType")) (i := .areturn) Bd.returns rfl (Or.inr (Or.inr (Or.inr (Or.inr ⟨rfl, rfl, rfl⟩)))) (hb hby d_method_3_code_43) hr
  · show Qp (some (.ref w11)) h0 n0 _ T93.heap _
    rw [e93]
    exact ⟨rfl, N0, rfl⟩
theorem d_method_4_code_14 : decode method_4_code 14 = .ok (.getstatic 70, 3) := by decide +kernel
theorem d_method_4_code_17 : decode method_4_code 17 = .ok (.areturn, 1) := by decide +kernel
set_option maxRecDepth 65536 in
set_option maxHeartbeats 40000000 in
theorem rm21 (l : Launch) (Z : State) (a0 : Array Value) (hw : ∀ d ∈ tables_1, d.before a0 Z = true) (ws : List Jvm.Cond) (w0 w1 w2 w3 w4 w5 w6 w7 w8 w9 w10 w11 w12 w13 w14 w15 w16 w17 : Addr) (h0 : Heap) (n0 : Nat) (hWd : Wd Z w0 w1 w2 w3 w4 w5 w6 w7 w8 w9 w10 w11 w12 w13 w14 w15 w16 w17) (O0 : Old Z n0 h0) :
    MetFree l (⟨"com/example/weaverbird/weaverbird/queues/RunActionOfPinLaw", "expectedFor", "(I)Lcom/example/weaverbird/weaverbird/queues/RunAction;"⟩ : MethodName) (head1 (Jvm.Cond.code (⟨"com/example/weaverbird/weaverbird/queues/RunActionOfPinLaw", "expectedFor", "(I)Lcom/example/weaverbird/weaverbird/queues/RunAction;"⟩ : MethodName) method_4_code 1 (some (.object "com/example/weaverbird/weaverbird/queues/RunAction")) :: ws) ({ frames := 0, cells := 0, slots := 0, locals := 0 } : Room)) (fun a U => a = #[(.int (4 : Int32))] ∧ Z.Warmed39 U.vm ∧ U.heap = h0) (fun _ _ _ _ _ => True) (fun _ U o U' => ∃ v L, o = .returned v ∧ Qp (some (.ref w6)) h0 n0 v U'.heap L ∧ FrameEnd U o U' L ({ frames := 0, cells := 0, slots := 0, locals := 0 } : Room).cells ({ frames := 0, cells := 0, slots := 0, locals := 0 } : Room).slots) := by
  refine MetFree.of_bodySF (plainFor_of_name pn0) hisR ?_
  intro p e s m args below meth c s₁ Bd hml0 hP hK
  obtain ⟨rfl, hZ, hh⟩ := hP
  have hx := Bd.exec
  have hby := Bd.bytes
  have hml : c.maxLocals = 1 := hml0
  have hown : s.vm.findClass "com/example/weaverbird/weaverbird/queues/RunActionOfPinLaw" = some m.cls := findClass_of_methodNamed Bd.named
  have hnm := (name_of_methodNamed Bd.named Bd.method).1
  have X0 : Stand p l e ({ frames := 0, cells := 0, slots := 0, locals := 0 } : Room) s m #[(.int (4 : Int32))] below meth c s₁ [] 0 0 := Stand.of_body Bd
  have e0 : s₁.heap = h0 := by rw [← hh, Bd.state]; rfl
  have N0 := Fr.nil n0
  have hlk := Bd.notSynchronized
  obtain ⟨wS0, wE0, wS1, wE1, wS2, wE2, wS3, wE3, wS4, wE4, wS5, wE5, wS6, wE6, wS7, wE7, wS8, wE8, wS9, wE9, wS10, wE10, wS11, wE11, wS12, wE12, wS13, wE13, wS14, wE14, wS15, wE15, wS16, wE16, wS17, wE17, wF2_type, wF7_ordinal, wF0_ordinal, wF3_type, wF8_ordinal, wF4_type, wF9_ordinal, wF5_type, wF10_ordinal, wF6_type, wF11_ordinal, wF12_ordinal, wF13_ordinal, wF14_ordinal, wF15_ordinal, wF16_ordinal, wF17_value, wA, -⟩ := id hWd
  have pre0 : ∀ t, Steps p.tables e below (s₁.setTop (mkF m 0 #[.val (.int (4 : Int32))] [])) t → Steps p.tables e below (s₁.setTop (entryFrame m #[(.int (4 : Int32))] 1)) t := fun t k => castTop (ef14 m ) k
  obtain ⟨T95, X95, e95, st95⟩ := getS2 X0 hx hZ hown (host := "") (Or.inl (hw _ (List.mem_of_getElem? (i := 91) rfl))) Via.refl e0 (wS6.ext O0.2) (g := (mkF m 14 #[.val (.int (4 : Int32))] [])) rfl (hb hby d_method_4_code_14)
  obtain ⟨fs, hr, hrun, hended, hWr, hsame⟩ := X95.leave (v := some (.ref w6)) (fun h => by rw [Bd.returns] at h; cases h) hlk
  refine ⟨_, _, pre0 _ ?_, hrun, hended, _, _, rfl, ?_, ⟨_, rfl⟩, hWr, hsame.mono (Nat.le_of_ble_eq_true rfl) (Nat.le_of_ble_eq_true rfl)⟩
  · show Steps p.tables e below (s₁.setTop (mkF m 0 #[.val (.int (4 : Int32))] [])) _
    refine XS.iloadN X0.here hx rfl (hb hby d_method_4_code_0) rfl ?_
    show Steps p.tables e below (s₁.setTop (mkF m 1 #[.val (.int (4 : Int32))] [(.int (4 : Int32))])) _
    refine XS.iconst X0.here hx rfl (hb hby d_method_4_code_1) ?_
    show Steps p.tables e below (s₁.setTop (mkF m 2 #[.val (.int (4 : Int32))] [(.int (3 : Int32)), (.int (4 : Int32))])) _
    refine XS.icmpYes X0.here hx rfl (pc0 := 2) (pc' := 9) rfl (hb hby d_method_4_code_2) rfl (by decide) (by decide) (by decide) ?_
    show Steps p.tables e below (s₁.setTop (mkF m 9 #[.val (.int (4 : Int32))] [])) _
    refine XS.iloadN X0.here hx rfl (hb hby d_method_4_code_9) rfl ?_
    show Steps p.tables e below (s₁.setTop (mkF m 10 #[.val (.int (4 : Int32))] [(.int (4 : Int32))])) _
    refine XS.iconst X0.here hx rfl (hb hby d_method_4_code_10) ?_
    show Steps p.tables e below (s₁.setTop (mkF m 11 #[.val (.int (4 : Int32))] [(.int (4 : Int32)), (.int (4 : Int32))])) _
    refine XS.icmpNo X0.here hx rfl (hb hby d_method_4_code_11) rfl (by decide) ?_
    show Steps p.tables e below (s₁.setTop (mkF m 14 #[.val (.int (4 : Int32))] [])) _
    refine st95 _ ?_
    show Steps p.tables e below (T95.setTop (mkF m 17 #[.val (.int (4 : Int32))] [(.ref w6)])) _
    exact retOut X95 hx (t := (.object "com/example/weaverbird/weaverbird/queues/RunAction")) (i := .areturn) Bd.returns rfl (Or.inr (Or.inr (Or.inr (Or.inr ⟨rfl, rfl, rfl⟩)))) (hb hby d_method_4_code_17) hr
  · show Qp (some (.ref w6)) h0 n0 _ T95.heap _
    rw [e95]
    exact ⟨rfl, N0, rfl⟩
theorem ef15 (m : MethodId)   (w6 : Addr) : entryFrame m #[(.ref w6)] 1 = mkF m 0 #[.val (.ref w6)] [] := by first | (simp [entryFrame, mkF, argsToLocals, Value.category]; done) | rfl
set_option maxRecDepth 65536 in
set_option maxHeartbeats 40000000 in
theorem rm24 (l : Launch) (Z : State) (a0 : Array Value) (hw : ∀ d ∈ tables_1, d.before a0 Z = true) (ws : List Jvm.Cond) (w0 w1 w2 w3 w4 w5 w6 w7 w8 w9 w10 w11 w12 w13 w14 w15 w16 w17 : Addr) (h0 : Heap) (n0 : Nat) (hWd : Wd Z w0 w1 w2 w3 w4 w5 w6 w7 w8 w9 w10 w11 w12 w13 w14 w15 w16 w17) (O0 : Old Z n0 h0) :
    MetFree l (⟨"java/util/Objects", "requireNonNull", "(Ljava/lang/Object;)Ljava/lang/Object;"⟩ : MethodName) (head1 (Jvm.Cond.code (⟨"java/util/Objects", "requireNonNull", "(Ljava/lang/Object;)Ljava/lang/Object;"⟩ : MethodName) jdk_31_method_10_code 1 (some (.object "java/lang/Object")) :: ws) ({ frames := 0, cells := 0, slots := 0, locals := 0 } : Room)) (fun a U => a = #[(.ref w6)] ∧ Z.Warmed39 U.vm ∧ U.heap = h0) (fun _ _ _ _ _ => True) (fun _ U o U' => ∃ v L, o = .returned v ∧ Qp (some (.ref w6)) h0 n0 v U'.heap L ∧ FrameEnd U o U' L ({ frames := 0, cells := 0, slots := 0, locals := 0 } : Room).cells ({ frames := 0, cells := 0, slots := 0, locals := 0 } : Room).slots) := by
  refine MetFree.of_bodySF (plainFor_of_name pn3) hisR ?_
  intro p e s m args below meth c s₁ Bd hml0 hP hK
  obtain ⟨rfl, hZ, hh⟩ := hP
  have hx := Bd.exec
  have hby := Bd.bytes
  have hml : c.maxLocals = 1 := hml0
  have hown : s.vm.findClass "java/util/Objects" = some m.cls := findClass_of_methodNamed Bd.named
  have hnm := (name_of_methodNamed Bd.named Bd.method).1
  have X0 : Stand p l e ({ frames := 0, cells := 0, slots := 0, locals := 0 } : Room) s m #[(.ref w6)] below meth c s₁ [] 0 0 := Stand.of_body Bd
  have e0 : s₁.heap = h0 := by rw [← hh, Bd.state]; rfl
  have N0 := Fr.nil n0
  have hlk := Bd.notSynchronized
  obtain ⟨wS0, wE0, wS1, wE1, wS2, wE2, wS3, wE3, wS4, wE4, wS5, wE5, wS6, wE6, wS7, wE7, wS8, wE8, wS9, wE9, wS10, wE10, wS11, wE11, wS12, wE12, wS13, wE13, wS14, wE14, wS15, wE15, wS16, wE16, wS17, wE17, wF2_type, wF7_ordinal, wF0_ordinal, wF3_type, wF8_ordinal, wF4_type, wF9_ordinal, wF5_type, wF10_ordinal, wF6_type, wF11_ordinal, wF12_ordinal, wF13_ordinal, wF14_ordinal, wF15_ordinal, wF16_ordinal, wF17_value, wA, -⟩ := id hWd
  have pre0 : ∀ t, Steps p.tables e below (s₁.setTop (mkF m 0 #[.val (.ref w6)] [])) t → Steps p.tables e below (s₁.setTop (entryFrame m #[(.ref w6)] 1)) t := fun t k => castTop (ef15 m w6) k
  obtain ⟨fs, hr, hrun, hended, hWr, hsame⟩ := X0.leave (v := some (.ref w6)) (fun h => by rw [Bd.returns] at h; cases h) hlk
  refine ⟨_, _, pre0 _ ?_, hrun, hended, _, _, rfl, ?_, ⟨_, rfl⟩, hWr, hsame.mono (Nat.le_of_ble_eq_true rfl) (Nat.le_of_ble_eq_true rfl)⟩
  · show Steps p.tables e below (s₁.setTop (mkF m 0 #[.val (.ref w6)] [])) _
    refine XS.aloadN X0.here hx rfl (hb hby d_jdk_31_method_10_code_0) rfl rfl ?_
    show Steps p.tables e below (s₁.setTop (mkF m 1 #[.val (.ref w6)] [(.ref w6)])) _
    refine XS.ifnonnullYes X0.here hx rfl (pc0 := 1) (pc' := 12) rfl (hb hby d_jdk_31_method_10_code_1) rfl (by decide) (by decide) ?_
    show Steps p.tables e below (s₁.setTop (mkF m 12 #[.val (.ref w6)] [])) _
    refine XS.aloadN X0.here hx rfl (hb hby d_jdk_31_method_10_code_12) rfl rfl ?_
    show Steps p.tables e below (s₁.setTop (mkF m 13 #[.val (.ref w6)] [(.ref w6)])) _
    exact retOut X0 hx (t := (.object "java/lang/Object")) (i := .areturn) Bd.returns rfl (Or.inr (Or.inr (Or.inr (Or.inr ⟨rfl, rfl, rfl⟩)))) (hb hby d_jdk_31_method_10_code_13) hr
  · show Qp (some (.ref w6)) h0 n0 _ s₁.heap _
    rw [e0]
    exact ⟨rfl, N0, rfl⟩
theorem ef16 (m : MethodId)   (a1 : Addr) (w6 : Addr) : entryFrame m #[(.ref a1), (.ref w6)] 2 = mkF m 0 #[.val (.ref a1), .val (.ref w6)] [] := by first | (simp [entryFrame, mkF, argsToLocals, Value.category]; done) | rfl
def Qerm25 (Z : State) (w0 w1 w2 w3 w4 w5 w6 w7 w8 w9 w10 w11 w12 w13 w14 w15 w16 w17 : Addr) (a1 : Addr) (h0 : Heap) (n0 : Nat) (v : Option Value) (h : Heap) (L : List Loc) : Prop := v = none ∧ Fr n0 L ∧ Keep h0 h [a1] ∧ Old Z n0 h ∧ Exa Z h a1 "java/util/Optional" ∧ Fld Z h a1 "java/util/Optional" "value" "Ljava/lang/Object;" (.ref w6)
set_option maxRecDepth 65536 in
set_option maxHeartbeats 40000000 in
theorem rm25 (l : Launch) (Z : State) (a0 : Array Value) (hw : ∀ d ∈ tables_1, d.before a0 Z = true) (ws : List Jvm.Cond) (w0 w1 w2 w3 w4 w5 w6 w7 w8 w9 w10 w11 w12 w13 w14 w15 w16 w17 : Addr) (a1 : Addr) (h0 : Heap) (n0 : Nat) (hWd : Wd Z w0 w1 w2 w3 w4 w5 w6 w7 w8 w9 w10 w11 w12 w13 w14 w15 w16 w17) (O0 : Old Z n0 h0) (E_a1 : Exa Z h0 a1 "java/util/Optional") (F_a1_value : Fld Z h0 a1 "java/util/Optional" "value" "Ljava/lang/Object;" .null) (g_a1 : n0 ≤ a1) :
    MetFree l (⟨"java/util/Optional", "<init>", "(Ljava/lang/Object;)V"⟩ : MethodName) (head1 (Jvm.Cond.code (⟨"java/util/Optional", "<init>", "(Ljava/lang/Object;)V"⟩ : MethodName) jdk_32_method_2_code 2 none :: ws) ({ frames := 1, cells := 0, slots := 0, locals := 12 } : Room)) (fun a U => a = #[(.ref a1), (.ref w6)] ∧ Z.Warmed39 U.vm ∧ U.heap = h0) (fun _ _ _ _ _ => True) (fun _ U o U' => ∃ v L, o = .returned v ∧ Qerm25 Z w0 w1 w2 w3 w4 w5 w6 w7 w8 w9 w10 w11 w12 w13 w14 w15 w16 w17 a1 h0 n0 v U'.heap L ∧ FrameEnd U o U' L ({ frames := 1, cells := 0, slots := 0, locals := 12 } : Room).cells ({ frames := 1, cells := 0, slots := 0, locals := 12 } : Room).slots) := by
  refine MetFree.of_bodySF (plainFor_of_name pn2) hisR ?_
  intro p e s m args below meth c s₁ Bd hml0 hP hK
  obtain ⟨rfl, hZ, hh⟩ := hP
  have hx := Bd.exec
  have hby := Bd.bytes
  have hml : c.maxLocals = 2 := hml0
  have hown : s.vm.findClass "java/util/Optional" = some m.cls := findClass_of_methodNamed Bd.named
  have hnm := (name_of_methodNamed Bd.named Bd.method).1
  have X0 : Stand p l e ({ frames := 1, cells := 0, slots := 0, locals := 12 } : Room) s m #[(.ref a1), (.ref w6)] below meth c s₁ [] 0 0 := Stand.of_body Bd
  have e0 : s₁.heap = h0 := by rw [← hh, Bd.state]; rfl
  have N0 := Fr.nil n0
  have hlk := Bd.notSynchronized
  obtain ⟨wS0, wE0, wS1, wE1, wS2, wE2, wS3, wE3, wS4, wE4, wS5, wE5, wS6, wE6, wS7, wE7, wS8, wE8, wS9, wE9, wS10, wE10, wS11, wE11, wS12, wE12, wS13, wE13, wS14, wE14, wS15, wE15, wS16, wE16, wS17, wE17, wF2_type, wF7_ordinal, wF0_ordinal, wF3_type, wF8_ordinal, wF4_type, wF9_ordinal, wF5_type, wF10_ordinal, wF6_type, wF11_ordinal, wF12_ordinal, wF13_ordinal, wF14_ordinal, wF15_ordinal, wF16_ordinal, wF17_value, wA, -⟩ := id hWd
  have pre0 : ∀ t, Steps p.tables e below (s₁.setTop (mkF m 0 #[.val (.ref a1), .val (.ref w6)] [])) t → Steps p.tables e below (s₁.setTop (entryFrame m #[(.ref a1), (.ref w6)] 2)) t := fun t k => castTop (ef16 m a1 w6) k
  obtain ⟨T111, X111, e111, st111⟩ := initO X0 hx hZ hown (hw _ (List.mem_of_getElem? (i := 69) rfl)) (hw _ (List.mem_of_getElem? (i := 70) rfl)) (hw _ (List.mem_of_getElem? (i := 71) rfl)) e0 (g := (mkF m 1 #[.val (.ref a1), .val (.ref w6)] [(.ref a1)])) rfl (by rw [hml]; rfl) rfl (hb hby d_jdk_32_method_2_code_1) (by decide) (W := 0) (by show 2 * 0 + _ ≤ _; exact Nat.le_of_eq rfl) (by decide)
  obtain ⟨T112, h112, X112, e112, W112, st112⟩ := putF X111 hx hZ hown (host := "") (Or.inl (hw _ (List.mem_of_getElem? (i := 52) rfl))) Via.refl e111 F_a1_value E_a1 (Or.inr ⟨(hw _ (List.mem_of_getElem? (i := 53) rfl)), rfl, hnm⟩) (hw _ (List.mem_of_getElem? (i := 60) rfl)) (ty := (.object "java/lang/Object")) (by decide) rfl rfl (g := (mkF m 6 #[.val (.ref a1), .val (.ref w6)] [(.ref w6), (.ref a1)])) rfl rfl (hb hby d_jdk_32_method_2_code_6)
  have E_a1_112 : Exa Z h112 a1 "java/util/Optional" := E_a1.wr W112
  have F_a1_value_112 : Fld Z h112 a1 "java/util/Optional" "value" "Ljava/lang/Object;" (.ref w6) := F_a1_value.same W112
  have Kp112 : Keep h0 h112 [a1] := (Keep.refl h0 [a1]).wr W112 (Or.inl (List.mem_of_getElem? (i := 0) rfl))
  have N112 := Fr.snoc X112 N0 g_a1
  have O_112 : Old Z n0 h112 := O0.wr W112 g_a1
  obtain ⟨fs, hr, hrun, hended, hWr, hsame⟩ := X112.leave (v := none) (fun _ => rfl) hlk
  refine ⟨_, _, pre0 _ ?_, hrun, hended, _, _, rfl, ?_, ⟨_, rfl⟩, hWr, hsame.mono (Nat.le_of_ble_eq_true rfl) (Nat.le_of_ble_eq_true rfl)⟩
  · show Steps p.tables e below (s₁.setTop (mkF m 0 #[.val (.ref a1), .val (.ref w6)] [])) _
    refine XS.aloadN X0.here hx rfl (hb hby d_jdk_32_method_2_code_0) rfl rfl ?_
    show Steps p.tables e below (s₁.setTop (mkF m 1 #[.val (.ref a1), .val (.ref w6)] [(.ref a1)])) _
    refine st111 _ ?_
    show Steps p.tables e below (T111.setTop (mkF m 4 #[.val (.ref a1), .val (.ref w6)] [])) _
    refine XS.aloadN X111.here hx rfl (hb hby d_jdk_32_method_2_code_4) rfl rfl ?_
    show Steps p.tables e below (T111.setTop (mkF m 5 #[.val (.ref a1), .val (.ref w6)] [(.ref a1)])) _
    refine XS.aloadN X111.here hx rfl (hb hby d_jdk_32_method_2_code_5) rfl rfl ?_
    show Steps p.tables e below (T111.setTop (mkF m 6 #[.val (.ref a1), .val (.ref w6)] [(.ref w6), (.ref a1)])) _
    refine st112 _ ?_
    show Steps p.tables e below (T112.setTop (mkF m 9 #[.val (.ref a1), .val (.ref w6)] [])) _
    exact X112.returnOut hx Bd.returns (hb hby d_jdk_32_method_2_code_9) hr
  · show Qerm25 Z w0 w1 w2 w3 w4 w5 w6 w7 w8 w9 w10 w11 w12 w13 w14 w15 w16 w17 a1 h0 n0 _ T112.heap _
    rw [e112]
    exact ⟨rfl, N112, Kp112, O_112, E_a1_112, F_a1_value_112⟩
def Qerm23 (Z : State) (w0 w1 w2 w3 w4 w5 w6 w7 w8 w9 w10 w11 w12 w13 w14 w15 w16 w17 : Addr) (h0 : Heap) (n0 : Nat) (v : Option Value) (h : Heap) (L : List Loc) : Prop := ∃ r : Addr, v = some (.ref r) ∧ Fr n0 L ∧ Keep h0 h [] ∧ Old Z n0 h ∧ Exa Z h r "java/util/Optional" ∧ Fld Z h r "java/util/Optional" "value" "Ljava/lang/Object;" (.ref w6) ∧ n0 ≤ r
set_option maxRecDepth 65536 in
set_option maxHeartbeats 40000000 in
theorem rm23 (l : Launch) (Z : State) (a0 : Array Value) (hw : ∀ d ∈ tables_1, d.before a0 Z = true) (ws : List Jvm.Cond) (w0 w1 w2 w3 w4 w5 w6 w7 w8 w9 w10 w11 w12 w13 w14 w15 w16 w17 : Addr) (h0 : Heap) (n0 : Nat) (hWd : Wd Z w0 w1 w2 w3 w4 w5 w6 w7 w8 w9 w10 w11 w12 w13 w14 w15 w16 w17) (O0 : Old Z n0 h0) :
    MetFree l (⟨"java/util/Optional", "of", "(Ljava/lang/Object;)Ljava/util/Optional;"⟩ : MethodName) (head1 (Jvm.Cond.code (⟨"java/util/Optional", "of", "(Ljava/lang/Object;)Ljava/util/Optional;"⟩ : MethodName) jdk_32_method_3_code 1 (some (.object "java/util/Optional")) :: ws) ({ frames := 2, cells := 1, slots := 1, locals := 26 } : Room)) (fun a U => a = #[(.ref w6)] ∧ Z.Warmed39 U.vm ∧ U.heap = h0) (fun _ _ _ _ _ => True) (fun _ U o U' => ∃ v L, o = .returned v ∧ Qerm23 Z w0 w1 w2 w3 w4 w5 w6 w7 w8 w9 w10 w11 w12 w13 w14 w15 w16 w17 h0 n0 v U'.heap L ∧ FrameEnd U o U' L ({ frames := 2, cells := 1, slots := 1, locals := 26 } : Room).cells ({ frames := 2, cells := 1, slots := 1, locals := 26 } : Room).slots) := by
  refine MetFree.of_bodySF (plainFor_of_name pn2) hisR ?_
  intro p e s m args below meth c s₁ Bd hml0 hP hK
  obtain ⟨rfl, hZ, hh⟩ := hP
  have hx := Bd.exec
  have hby := Bd.bytes
  have hml : c.maxLocals = 1 := hml0
  have hown : s.vm.findClass "java/util/Optional" = some m.cls := findClass_of_methodNamed Bd.named
  have hnm := (name_of_methodNamed Bd.named Bd.method).1
  have X0 : Stand p l e ({ frames := 2, cells := 1, slots := 1, locals := 26 } : Room) s m #[(.ref w6)] below meth c s₁ [] 0 0 := Stand.of_body Bd
  have e0 : s₁.heap = h0 := by rw [← hh, Bd.state]; rfl
  have N0 := Fr.nil n0
  have hlk := Bd.notSynchronized
  obtain ⟨wS0, wE0, wS1, wE1, wS2, wE2, wS3, wE3, wS4, wE4, wS5, wE5, wS6, wE6, wS7, wE7, wS8, wE8, wS9, wE9, wS10, wE10, wS11, wE11, wS12, wE12, wS13, wE13, wS14, wE14, wS15, wE15, wS16, wE16, wS17, wE17, wF2_type, wF7_ordinal, wF0_ordinal, wF3_type, wF8_ordinal, wF4_type, wF9_ordinal, wF5_type, wF10_ordinal, wF6_type, wF11_ordinal, wF12_ordinal, wF13_ordinal, wF14_ordinal, wF15_ordinal, wF16_ordinal, wF17_value, wA, -⟩ := id hWd
  have pre0 : ∀ t, Steps p.tables e below (s₁.setTop (mkF m 0 #[.val (.ref w6)] [])) t → Steps p.tables e below (s₁.setTop (entryFrame m #[(.ref w6)] 1)) t := fun t k => castTop (ef15 m w6) k
  obtain ⟨T109, h109, X109, e109, E109, A109, D109, -, st109⟩ := newO X0 hx hZ hown (hw _ (List.mem_of_getElem? (i := 59) rfl)) (hw _ (List.mem_of_getElem? (i := 60) rfl)) (hw _ (List.mem_of_getElem? (i := 44) rfl)) e0 (g := (mkF m 0 #[.val (.ref w6)] [])) rfl (hb hby d_jdk_32_method_3_code_0) (by decide) (by decide)
  obtain ⟨b109, g109⟩ : ∃ z, z = h0.size := ⟨_, rfl⟩
  rw [← g109] at A109 D109 st109
  have g_b109 : n0 ≤ b109 := Nat.le_trans (Nat.le_trans (Nat.le_of_eq O0.1.symm) O0.2.1) (Nat.le_of_eq g109.symm)
  have sz_b109 : h0.size ≤ b109 := Nat.le_trans (Keep.refl h0 []).1 (Nat.le_of_eq g109.symm)
  have Kp109 : Keep h0 h109 [] := (Keep.refl h0 []).ext E109
  have O_109 : Old Z n0 h109 := O0.ext E109
  have F_b109_value : Fld Z h109 b109 "java/util/Optional" "value" "Ljava/lang/Object;" .null := D109 (Or.inr (hw _ (List.mem_of_getElem? (i := 53) rfl))) (ty := (.object "java/lang/Object")) (by decide)
  obtain ⟨_, _, ⟨T110, L110, k110, n110⟩, -, X110, ⟨Lc110, hQ110, l110, y110, z110⟩, st110⟩ := Jvm.LawKit.callS X109 hx (y := (⟨"java/util/Objects", "requireNonNull", "(Ljava/lang/Object;)Ljava/lang/Object;"⟩ : MethodName)) hown (mvT hZ (hw _ (List.mem_of_getElem? (i := 61) rfl))) (mvT hZ (hw _ (List.mem_of_getElem? (i := 62) rfl))) (mvT hZ (hw _ (List.mem_of_getElem? (i := 63) rfl))) (mvT hZ (hw _ (List.mem_of_getElem? (i := 64) rfl))) (by decide) (backOf (W := 2) (rm24 l Z a0 hw [] w0 w1 w2 w3 w4 w5 w6 w7 w8 w9 w10 w11 w12 w13 w14 w15 w16 w17 h109 n0 hWd O_109) hZ (hw _ (List.mem_of_getElem? (i := 64) rfl)) (hw _ (List.mem_of_getElem? (i := 63) rfl)) (by decide) (by decide)) (g := (mkF m 5 #[.val (.ref w6)] [(.ref w6), (.ref b109), (.ref b109)])) rfl (by rw [hml]; rfl) (argsL := [(.ref w6)]) (rest := [(.ref b109), (.ref b109)]) (lenOf pd5 rfl) rfl (by show 2 * 0 + _ ≤ _; exact Nat.le_of_eq rfl) (hb hby d_jdk_32_method_3_code_5) (fun _ _ => ⟨rfl, e109, (by decide : 1 + 0 ≤ _), (by decide : 1 + 0 ≤ _)⟩)
  dsimp only [Pt.U, Pt.locs, Pt.cells, Pt.slots] at X110 l110 y110 z110 st110 hQ110
  subst l110 y110 z110
  obtain ⟨rfl, N110q, e110⟩ := hQ110
  have N110 := Fr.app N0 N110q
  obtain ⟨_, _, ⟨T113, L113, k113, n113⟩, -, X113, ⟨Lc113, hQ113, l113, y113, z113⟩, st113⟩ := X110.specialBack hx (y := (⟨"java/util/Optional", "<init>", "(Ljava/lang/Object;)V"⟩ : MethodName)) rfl hown (mvT hZ (hw _ (List.mem_of_getElem? (i := 65) rfl))) (mvT hZ (hw _ (List.mem_of_getElem? (i := 66) rfl))) (mvT hZ (hw _ (List.mem_of_getElem? (i := 68) rfl))) (by decide) (backOf (W := 1) (rm25 l Z a0 hw [] w0 w1 w2 w3 w4 w5 w6 w7 w8 w9 w10 w11 w12 w13 w14 w15 w16 w17 b109 h109 n0 hWd O_109 A109 F_b109_value g_b109) hZ (hw _ (List.mem_of_getElem? (i := 68) rfl)) (hw _ (List.mem_of_getElem? (i := 44) rfl)) (by decide) (by decide)) (g := (mkF m 8 #[.val (.ref w6)] [(.ref w6), (.ref b109), (.ref b109)])) rfl (by rw [hml]; rfl) (Steps.refl _) (a := b109) (argsL := [(.ref w6)]) (rest := [(.ref b109)]) (lenOf pd6 rfl) rfl (by show 2 * 0 + _ ≤ _; exact Nat.le_of_eq rfl) (hb hby d_jdk_32_method_3_code_8) (fun _ _ => ⟨rfl, e110, (by decide : 1 + 0 ≤ _), (by decide : 1 + 0 ≤ _)⟩)
  dsimp only [Pt.U, Pt.locs, Pt.cells, Pt.slots] at X113 l113 y113 z113 st113 hQ113
  subst l113 y113 z113
  obtain ⟨rfl, N113q, K113, O_113, E_b109_113, F_b109_value_113⟩ := hQ113
  have N113 := Fr.app N110 N113q
  have Kp113 : Keep h0 T113.heap [] := Kp109.trans K113 (allS (Or.inr sz_b109) all0)
  obtain ⟨fs, hr, hrun, hended, hWr, hsame⟩ := X113.leave (v := some (.ref b109)) (fun h => by rw [Bd.returns] at h; cases h) hlk
  refine ⟨_, _, pre0 _ ?_, hrun, hended, _, _, rfl, ?_, ⟨_, rfl⟩, hWr, hsame.mono (Nat.le_of_ble_eq_true rfl) (Nat.le_of_ble_eq_true rfl)⟩
  · show Steps p.tables e below (s₁.setTop (mkF m 0 #[.val (.ref w6)] [])) _
    refine st109 _ ?_
    show Steps p.tables e below (T109.setTop (mkF m 3 #[.val (.ref w6)] [(.ref b109)])) _
    refine XS.dup X109.here hx rfl (hb hby d_jdk_32_method_3_code_3) rfl rfl ?_
    show Steps p.tables e below (T109.setTop (mkF m 4 #[.val (.ref w6)] [(.ref b109), (.ref b109)])) _
    refine XS.aloadN X109.here hx rfl (hb hby d_jdk_32_method_3_code_4) rfl rfl ?_
    show Steps p.tables e below (T109.setTop (mkF m 5 #[.val (.ref w6)] [(.ref w6), (.ref b109), (.ref b109)])) _
    refine st110 _ ?_
    show Steps p.tables e below (T110.setTop (mkF m 8 #[.val (.ref w6)] [(.ref w6), (.ref b109), (.ref b109)])) _
    refine st113.trans ?_
    show Steps p.tables e below (T113.setTop (mkF m 11 #[.val (.ref w6)] [(.ref b109)])) _
    exact retOut X113 hx (t := (.object "java/util/Optional")) (i := .areturn) Bd.returns rfl (Or.inr (Or.inr (Or.inr (Or.inr ⟨rfl, rfl, rfl⟩)))) (hb hby d_jdk_32_method_3_code_11) hr
  · show Qerm23 Z w0 w1 w2 w3 w4 w5 w6 w7 w8 w9 w10 w11 w12 w13 w14 w15 w16 w17 h0 n0 _ T113.heap _
    exact ⟨b109, rfl, N113, Kp113, O_113, E_b109_113, F_b109_value_113, g_b109⟩
theorem ef17 (m : MethodId)   (w11 : Addr) : entryFrame m #[(.ref w11)] 5 = mkF m 0 #[.val (.ref w11), .unset, .unset, .unset, .unset] [] := by first | (simp [entryFrame, mkF, argsToLocals, Value.category]; done) | rfl
def Qerm22 (Z : State) (w0 w1 w2 w3 w4 w5 w6 w7 w8 w9 w10 w11 w12 w13 w14 w15 w16 w17 : Addr) (h0 : Heap) (n0 : Nat) (v : Option Value) (h : Heap) (L : List Loc) : Prop := ∃ r : Addr, v = some (.ref r) ∧ Fr n0 L ∧ Keep h0 h [] ∧ Old Z n0 h ∧ Exa Z h r "java/util/Optional" ∧ Fld Z h r "java/util/Optional" "value" "Ljava/lang/Object;" (.ref w6) ∧ n0 ≤ r
set_option maxRecDepth 65536 in
set_option maxHeartbeats 40000000 in
theorem rm22 (l : Launch) (Z : State) (a0 : Array Value) (hw : ∀ d ∈ tables_1, d.before a0 Z = true) (ws : List Jvm.Cond) (w0 w1 w2 w3 w4 w5 w6 w7 w8 w9 w10 w11 w12 w13 w14 w15 w16 w17 : Addr) (h0 : Heap) (n0 : Nat) (hWd : Wd Z w0 w1 w2 w3 w4 w5 w6 w7 w8 w9 w10 w11 w12 w13 w14 w15 w16 w17) (O0 : Old Z n0 h0) :
    MetFree l (⟨"com/example/weaverbird/weaverbird/queues/RunAction", "of", "(Lcom/example/weaverbird/weaverbird/codes/CommandType;)Ljava/util/Optional;"⟩ : MethodName) (head1 (Jvm.Cond.code (⟨"com/example/weaverbird/weaverbird/queues/RunAction", "of", "(Lcom/example/weaverbird/weaverbird/codes/CommandType;)Ljava/util/Optional;"⟩ : MethodName) prog_16_method_4_code 5 (some (.object "java/util/Optional")) :: ws) ({ frames := 3, cells := 2, slots := 6, locals := 38 } : Room)) (fun a U => a = #[(.ref w11)] ∧ Z.Warmed39 U.vm ∧ U.heap = h0) (fun _ _ _ _ _ => True) (fun _ U o U' => ∃ v L, o = .returned v ∧ Qerm22 Z w0 w1 w2 w3 w4 w5 w6 w7 w8 w9 w10 w11 w12 w13 w14 w15 w16 w17 h0 n0 v U'.heap L ∧ FrameEnd U o U' L ({ frames := 3, cells := 2, slots := 6, locals := 38 } : Room).cells ({ frames := 3, cells := 2, slots := 6, locals := 38 } : Room).slots) := by
  refine MetFree.of_bodySF (plainFor_of_name pn1) hisR ?_
  intro p e s m args below meth c s₁ Bd hml0 hP hK
  obtain ⟨rfl, hZ, hh⟩ := hP
  have hx := Bd.exec
  have hby := Bd.bytes
  have hml : c.maxLocals = 5 := hml0
  have hown : s.vm.findClass "com/example/weaverbird/weaverbird/queues/RunAction" = some m.cls := findClass_of_methodNamed Bd.named
  have hnm := (name_of_methodNamed Bd.named Bd.method).1
  have X0 : Stand p l e ({ frames := 3, cells := 2, slots := 6, locals := 38 } : Room) s m #[(.ref w11)] below meth c s₁ [] 0 0 := Stand.of_body Bd
  have e0 : s₁.heap = h0 := by rw [← hh, Bd.state]; rfl
  have N0 := Fr.nil n0
  have hlk := Bd.notSynchronized
  obtain ⟨wS0, wE0, wS1, wE1, wS2, wE2, wS3, wE3, wS4, wE4, wS5, wE5, wS6, wE6, wS7, wE7, wS8, wE8, wS9, wE9, wS10, wE10, wS11, wE11, wS12, wE12, wS13, wE13, wS14, wE14, wS15, wE15, wS16, wE16, wS17, wE17, wF2_type, wF7_ordinal, wF0_ordinal, wF3_type, wF8_ordinal, wF4_type, wF9_ordinal, wF5_type, wF10_ordinal, wF6_type, wF11_ordinal, wF12_ordinal, wF13_ordinal, wF14_ordinal, wF15_ordinal, wF16_ordinal, wF17_value, wA, -⟩ := id hWd
  have pre0 : ∀ t, Steps p.tables e below (s₁.setTop (mkF m 0 #[.val (.ref w11), .unset, .unset, .unset, .unset] [])) t → Steps p.tables e below (s₁.setTop (entryFrame m #[(.ref w11)] 5)) t := fun t k => castTop (ef17 m w11) k
  obtain ⟨_, _, ⟨T97, L97, k97, n97⟩, -, X97, ⟨Lc97, hQ97, l97, y97, z97⟩, st97⟩ := Jvm.LawKit.callS X0 hx (y := (⟨"com/example/weaverbird/weaverbird/queues/RunAction", "values", "()[Lcom/example/weaverbird/weaverbird/queues/RunAction;"⟩ : MethodName)) hown (mvT hZ (hw _ (List.mem_of_getElem? (i := 15) rfl))) (mvT hZ (hw _ (List.mem_of_getElem? (i := 16) rfl))) (mvT hZ (hw _ (List.mem_of_getElem? (i := 13) rfl))) (mvT hZ (hw _ (List.mem_of_getElem? (i := 17) rfl))) (by decide) (backOf (W := 0) (rm4 l Z a0 hw [] w0 w1 w2 w3 w4 w5 w6 w7 w8 w9 w10 w11 w12 w13 w14 w15 w16 w17 h0 n0 hWd O0) hZ (hw _ (List.mem_of_getElem? (i := 17) rfl)) (hw _ (List.mem_of_getElem? (i := 13) rfl)) (by decide) (by decide)) (g := (mkF m 0 #[.val (.ref w11), .unset, .unset, .unset, .unset] [])) rfl (by rw [hml]; rfl) (argsL := []) (rest := []) (lenOf pd2 rfl) rfl (by show 2 * 0 + _ ≤ _; exact Nat.le_of_eq rfl) (hb hby d_prog_16_method_4_code_0) (fun _ _ => ⟨rfl, e0, (by decide : 0 + 1 ≤ _), (by decide : 0 + 5 ≤ _)⟩)
  dsimp only [Pt.U, Pt.locs, Pt.cells, Pt.slots] at X97 l97 y97 z97 st97 hQ97
  subst l97 y97 z97
  obtain ⟨r97, ka97, rfl, N97q, K97, O_97, V97, g_r97⟩ := hQ97
  have N97 := Fr.app N0 N97q
  have Kp97 : Keep h0 T97.heap [] := (Keep.refl h0 []).trans K97 all0
  obtain ⟨cl98, Ar98, q98, S98, M98, H98, G98⟩ := id V97
  obtain ⟨cl99, Ar99, q99, S99, M99, H99, G99⟩ := id V97
  have hin99 : ¬ ((0 : Int32) < 0 ∨ cl99.slots.size ≤ ((0 : Int32)).toNatClampNeg) := inb_of S99 ⟨by decide, by decide⟩
  have hat99 : cl99.slots[((0 : Int32)).toNatClampNeg]? = some (.ref w2) := Has.at H99 hin99 rfl
  obtain ⟨T100, X100, e100, st100⟩ := getF X97 hx hZ hown (host := "") (Or.inl (hw _ (List.mem_of_getElem? (i := 35) rfl))) Via.refl rfl (wF2_type.ext O_97.2) (g := (mkF m 21 #[.val (.ref w11), .val (.ref r97), .val (.int (5 : Int32)), .val (.int (0 : Int32)), .val (.ref w2)] [(.ref w2)])) rfl rfl (hb hby d_prog_16_method_4_code_21)
  obtain ⟨cl101, Ar101, q101, S101, M101, H101, G101⟩ := id V97
  have hin101 : ¬ ((1 : Int32) < 0 ∨ cl101.slots.size ≤ ((1 : Int32)).toNatClampNeg) := inb_of S101 ⟨by decide, by decide⟩
  have hat101 : cl101.slots[((1 : Int32)).toNatClampNeg]? = some (.ref w3) := Has.at H101 hin101 rfl
  obtain ⟨T102, X102, e102, st102⟩ := getF X100 hx hZ hown (host := "") (Or.inl (hw _ (List.mem_of_getElem? (i := 35) rfl))) Via.refl e100 (wF3_type.ext O_97.2) (g := (mkF m 21 #[.val (.ref w11), .val (.ref r97), .val (.int (5 : Int32)), .val (.int (1 : Int32)), .val (.ref w3)] [(.ref w3)])) rfl rfl (hb hby d_prog_16_method_4_code_21)
  obtain ⟨cl103, Ar103, q103, S103, M103, H103, G103⟩ := id V97
  have hin103 : ¬ ((2 : Int32) < 0 ∨ cl103.slots.size ≤ ((2 : Int32)).toNatClampNeg) := inb_of S103 ⟨by decide, by decide⟩
  have hat103 : cl103.slots[((2 : Int32)).toNatClampNeg]? = some (.ref w4) := Has.at H103 hin103 rfl
  obtain ⟨T104, X104, e104, st104⟩ := getF X102 hx hZ hown (host := "") (Or.inl (hw _ (List.mem_of_getElem? (i := 35) rfl))) Via.refl e102 (wF4_type.ext O_97.2) (g := (mkF m 21 #[.val (.ref w11), .val (.ref r97), .val (.int (5 : Int32)), .val (.int (2 : Int32)), .val (.ref w4)] [(.ref w4)])) rfl rfl (hb hby d_prog_16_method_4_code_21)
  obtain ⟨cl105, Ar105, q105, S105, M105, H105, G105⟩ := id V97
  have hin105 : ¬ ((3 : Int32) < 0 ∨ cl105.slots.size ≤ ((3 : Int32)).toNatClampNeg) := inb_of S105 ⟨by decide, by decide⟩
  have hat105 : cl105.slots[((3 : Int32)).toNatClampNeg]? = some (.ref w5) := Has.at H105 hin105 rfl
  obtain ⟨T106, X106, e106, st106⟩ := getF X104 hx hZ hown (host := "") (Or.inl (hw _ (List.mem_of_getElem? (i := 35) rfl))) Via.refl e104 (wF5_type.ext O_97.2) (g := (mkF m 21 #[.val (.ref w11), .val (.ref r97), .val (.int (5 : Int32)), .val (.int (3 : Int32)), .val (.ref w5)] [(.ref w5)])) rfl rfl (hb hby d_prog_16_method_4_code_21)
  obtain ⟨cl107, Ar107, q107, S107, M107, H107, G107⟩ := id V97
  have hin107 : ¬ ((4 : Int32) < 0 ∨ cl107.slots.size ≤ ((4 : Int32)).toNatClampNeg) := inb_of S107 ⟨by decide, by decide⟩
  have hat107 : cl107.slots[((4 : Int32)).toNatClampNeg]? = some (.ref w6) := Has.at H107 hin107 rfl
  obtain ⟨T108, X108, e108, st108⟩ := getF X106 hx hZ hown (host := "") (Or.inl (hw _ (List.mem_of_getElem? (i := 35) rfl))) Via.refl e106 (wF6_type.ext O_97.2) (g := (mkF m 21 #[.val (.ref w11), .val (.ref r97), .val (.int (5 : Int32)), .val (.int (4 : Int32)), .val (.ref w6)] [(.ref w6)])) rfl rfl (hb hby d_prog_16_method_4_code_21)
  obtain ⟨_, _, ⟨T114, L114, k114, n114⟩, -, X114, ⟨Lc114, hQ114, l114, y114, z114⟩, st114⟩ := Jvm.LawKit.callS X108 hx (y := (⟨"java/util/Optional", "of", "(Ljava/lang/Object;)Ljava/util/Optional;"⟩ : MethodName)) hown (mvT hZ (hw _ (List.mem_of_getElem? (i := 56) rfl))) (mvT hZ (hw _ (List.mem_of_getElem? (i := 57) rfl))) (mvT hZ (hw _ (List.mem_of_getElem? (i := 44) rfl))) (mvT hZ (hw _ (List.mem_of_getElem? (i := 58) rfl))) (by decide) (backOf (W := 0) (rm23 l Z a0 hw [] w0 w1 w2 w3 w4 w5 w6 w7 w8 w9 w10 w11 w12 w13 w14 w15 w16 w17 T97.heap n0 hWd O_97) hZ (hw _ (List.mem_of_getElem? (i := 58) rfl)) (hw _ (List.mem_of_getElem? (i := 44) rfl)) (by decide) (by decide)) (g := (mkF m 30 #[.val (.ref w11), .val (.ref r97), .val (.int (5 : Int32)), .val (.int (4 : Int32)), .val (.ref w6)] [(.ref w6)])) rfl (by rw [hml]; rfl) (argsL := [(.ref w6)]) (rest := []) (lenOf pd7 rfl) rfl (by show 2 * 0 + _ ≤ _; exact Nat.le_of_eq rfl) (hb hby d_prog_16_method_4_code_30) (fun _ _ => ⟨rfl, e108, (by decide : 1 + 1 ≤ _), (by decide : 5 + 1 ≤ _)⟩)
  dsimp only [Pt.U, Pt.locs, Pt.cells, Pt.slots] at X114 l114 y114 z114 st114 hQ114
  subst l114 y114 z114
  obtain ⟨r114, rfl, N114q, K114, O_114, E_r114_114, F_r114_value_114, g_r114⟩ := hQ114
  have N114 := Fr.app N97 N114q
  have Kp114 : Keep h0 T114.heap [] := Kp97.trans K114 all0
  obtain ⟨fs, hr, hrun, hended, hWr, hsame⟩ := X114.leave (v := some (.ref r114)) (fun h => by rw [Bd.returns] at h; cases h) hlk
  refine ⟨_, _, pre0 _ ?_, hrun, hended, _, _, rfl, ?_, ⟨_, rfl⟩, hWr, hsame.mono (Nat.le_of_ble_eq_true rfl) (Nat.le_of_ble_eq_true rfl)⟩
  · show Steps p.tables e below (s₁.setTop (mkF m 0 #[.val (.ref w11), .unset, .unset, .unset, .unset] [])) _
    refine st97 _ ?_
    show Steps p.tables e below (T97.setTop (mkF m 3 #[.val (.ref w11), .unset, .unset, .unset, .unset] [(.ref r97)])) _
    refine XS.astoreN X97.here hx rfl (hb hby d_prog_16_method_4_code_3) rfl rfl (l' := #[.val (.ref w11), .val (.ref r97), .unset, .unset, .unset]) rfl ?_
    show Steps p.tables e below (T97.setTop (mkF m 4 #[.val (.ref w11), .val (.ref r97), .unset, .unset, .unset] [])) _
    refine XS.aloadN X97.here hx rfl (hb hby d_prog_16_method_4_code_4) rfl rfl ?_
    show Steps p.tables e below (T97.setTop (mkF m 5 #[.val (.ref w11), .val (.ref r97), .unset, .unset, .unset] [(.ref r97)])) _
    refine X97.arraylength hx Ar98.1 (State.isArrayOf_alike hZ.alike Ar98.2.1) (g := (mkF m 5 #[.val (.ref w11), .val (.ref r97), .unset, .unset, .unset] [(.ref r97)])) rfl rfl (hb hby d_prog_16_method_4_code_5) _ ?_
    rw [len_of S98 M98]
    show Steps p.tables e below (T97.setTop (mkF m 6 #[.val (.ref w11), .val (.ref r97), .unset, .unset, .unset] [(.int (5 : Int32))])) _
    refine XS.istoreN X97.here hx rfl (hb hby d_prog_16_method_4_code_6) rfl (l' := #[.val (.ref w11), .val (.ref r97), .val (.int (5 : Int32)), .unset, .unset]) rfl ?_
    show Steps p.tables e below (T97.setTop (mkF m 7 #[.val (.ref w11), .val (.ref r97), .val (.int (5 : Int32)), .unset, .unset] [])) _
    refine XS.iconst X97.here hx rfl (hb hby d_prog_16_method_4_code_7) ?_
    show Steps p.tables e below (T97.setTop (mkF m 8 #[.val (.ref w11), .val (.ref r97), .val (.int (5 : Int32)), .unset, .unset] [(.int (0 : Int32))])) _
    refine XS.istoreN X97.here hx rfl (hb hby d_prog_16_method_4_code_8) rfl (l' := #[.val (.ref w11), .val (.ref r97), .val (.int (5 : Int32)), .val (.int (0 : Int32)), .unset]) rfl ?_
    show Steps p.tables e below (T97.setTop (mkF m 9 #[.val (.ref w11), .val (.ref r97), .val (.int (5 : Int32)), .val (.int (0 : Int32)), .unset] [])) _
    refine XS.iloadN X97.here hx rfl (hb hby d_prog_16_method_4_code_9) rfl ?_
    show Steps p.tables e below (T97.setTop (mkF m 10 #[.val (.ref w11), .val (.ref r97), .val (.int (5 : Int32)), .val (.int (0 : Int32)), .unset] [(.int (0 : Int32))])) _
    refine XS.iloadN X97.here hx rfl (hb hby d_prog_16_method_4_code_10) rfl ?_
    show Steps p.tables e below (T97.setTop (mkF m 11 #[.val (.ref w11), .val (.ref r97), .val (.int (5 : Int32)), .val (.int (0 : Int32)), .unset] [(.int (5 : Int32)), (.int (0 : Int32))])) _
    refine XS.icmpNo X97.here hx rfl (hb hby d_prog_16_method_4_code_11) rfl (by decide) ?_
    show Steps p.tables e below (T97.setTop (mkF m 14 #[.val (.ref w11), .val (.ref r97), .val (.int (5 : Int32)), .val (.int (0 : Int32)), .unset] [])) _
    refine XS.aloadN X97.here hx rfl (hb hby d_prog_16_method_4_code_14) rfl rfl ?_
    show Steps p.tables e below (T97.setTop (mkF m 15 #[.val (.ref w11), .val (.ref r97), .val (.int (5 : Int32)), .val (.int (0 : Int32)), .unset] [(.ref r97)])) _
    refine XS.iloadN X97.here hx rfl (hb hby d_prog_16_method_4_code_15) rfl ?_
    show Steps p.tables e below (T97.setTop (mkF m 16 #[.val (.ref w11), .val (.ref r97), .val (.int (5 : Int32)), .val (.int (0 : Int32)), .unset] [(.int (0 : Int32)), (.ref r97)])) _
    refine X97.aaload hx (j := (0 : Int32)) (v := (.ref w2)) Ar99.1 (State.isArrayOf_alike hZ.alike Ar99.2.1) rfl Ar99.2.2 hin99 hat99 (g := (mkF m 16 #[.val (.ref w11), .val (.ref r97), .val (.int (5 : Int32)), .val (.int (0 : Int32)), .unset] [(.int (0 : Int32)), (.ref r97)])) rfl rfl (hb hby d_prog_16_method_4_code_16) _ ?_
    show Steps p.tables e below (T97.setTop (mkF m 17 #[.val (.ref w11), .val (.ref r97), .val (.int (5 : Int32)), .val (.int (0 : Int32)), .unset] [(.ref w2)])) _
    refine XS.astore X97.here hx rfl (hb hby d_prog_16_method_4_code_17) rfl rfl (l' := #[.val (.ref w11), .val (.ref r97), .val (.int (5 : Int32)), .val (.int (0 : Int32)), .val (.ref w2)]) rfl ?_
    show Steps p.tables e below (T97.setTop (mkF m 19 #[.val (.ref w11), .val (.ref r97), .val (.int (5 : Int32)), .val (.int (0 : Int32)), .val (.ref w2)] [])) _
    refine XS.aload X97.here hx rfl (hb hby d_prog_16_method_4_code_19) rfl rfl ?_
    show Steps p.tables e below (T97.setTop (mkF m 21 #[.val (.ref w11), .val (.ref r97), .val (.int (5 : Int32)), .val (.int (0 : Int32)), .val (.ref w2)] [(.ref w2)])) _
    refine st100 _ ?_
    show Steps p.tables e below (T100.setTop (mkF m 24 #[.val (.ref w11), .val (.ref r97), .val (.int (5 : Int32)), .val (.int (0 : Int32)), .val (.ref w2)] [(.ref w7)])) _
    refine XS.aloadN X100.here hx rfl (hb hby d_prog_16_method_4_code_24) rfl rfl ?_
    show Steps p.tables e below (T100.setTop (mkF m 25 #[.val (.ref w11), .val (.ref r97), .val (.int (5 : Int32)), .val (.int (0 : Int32)), .val (.ref w2)] [(.ref w11), (.ref w7)])) _
    refine Jvm.RoadKit.acmp (g := (mkF m 25 #[.val (.ref w11), .val (.ref r97), .val (.int (5 : Int32)), .val (.int (0 : Int32)), .val (.ref w2)] [(.ref w11), (.ref w7)])) X100 hx rfl rfl rfl (pc0 := 25) (pc' := 34) (same := false) rfl (hb hby d_prog_16_method_4_code_25) rfl (decide_eq_false fun q => (Fld.ne wF7_ordinal wF11_ordinal (fun q => absurd (Value.int.inj q) (by decide))) (Value.ref.inj q)) (by decide) (by decide) ?_
    show Steps p.tables e below (T100.setTop (mkF m 34 #[.val (.ref w11), .val (.ref r97), .val (.int (5 : Int32)), .val (.int (0 : Int32)), .val (.ref w2)] [])) _
    refine XS.iinc X100.here hx rfl (hb hby d_prog_16_method_4_code_34) rfl (l' := #[.val (.ref w11), .val (.ref r97), .val (.int (5 : Int32)), .val (.int (1 : Int32)), .val (.ref w2)]) rfl ?_
    show Steps p.tables e below (T100.setTop (mkF m 37 #[.val (.ref w11), .val (.ref r97), .val (.int (5 : Int32)), .val (.int (1 : Int32)), .val (.ref w2)] [])) _
    refine XS.goto X100.here hx rfl (pc0 := 37) (pc' := 9) rfl (hb hby d_prog_16_method_4_code_37) (by decide) (by decide) ?_
    show Steps p.tables e below (T100.setTop (mkF m 9 #[.val (.ref w11), .val (.ref r97), .val (.int (5 : Int32)), .val (.int (1 : Int32)), .val (.ref w2)] [])) _
    refine XS.iloadN X100.here hx rfl (hb hby d_prog_16_method_4_code_9) rfl ?_
    show Steps p.tables e below (T100.setTop (mkF m 10 #[.val (.ref w11), .val (.ref r97), .val (.int (5 : Int32)), .val (.int (1 : Int32)), .val (.ref w2)] [(.int (1 : Int32))])) _
    refine XS.iloadN X100.here hx rfl (hb hby d_prog_16_method_4_code_10) rfl ?_
    show Steps p.tables e below (T100.setTop (mkF m 11 #[.val (.ref w11), .val (.ref r97), .val (.int (5 : Int32)), .val (.int (1 : Int32)), .val (.ref w2)] [(.int (5 : Int32)), (.int (1 : Int32))])) _
    refine XS.icmpNo X100.here hx rfl (hb hby d_prog_16_method_4_code_11) rfl (by decide) ?_
    show Steps p.tables e below (T100.setTop (mkF m 14 #[.val (.ref w11), .val (.ref r97), .val (.int (5 : Int32)), .val (.int (1 : Int32)), .val (.ref w2)] [])) _
    refine XS.aloadN X100.here hx rfl (hb hby d_prog_16_method_4_code_14) rfl rfl ?_
    show Steps p.tables e below (T100.setTop (mkF m 15 #[.val (.ref w11), .val (.ref r97), .val (.int (5 : Int32)), .val (.int (1 : Int32)), .val (.ref w2)] [(.ref r97)])) _
    refine XS.iloadN X100.here hx rfl (hb hby d_prog_16_method_4_code_15) rfl ?_
    show Steps p.tables e below (T100.setTop (mkF m 16 #[.val (.ref w11), .val (.ref r97), .val (.int (5 : Int32)), .val (.int (1 : Int32)), .val (.ref w2)] [(.int (1 : Int32)), (.ref r97)])) _
    refine X100.aaload hx (j := (1 : Int32)) (v := (.ref w3)) (by rw [e100]; exact Ar101.1) (State.isArrayOf_alike hZ.alike Ar101.2.1) rfl Ar101.2.2 hin101 hat101 (g := (mkF m 16 #[.val (.ref w11), .val (.ref r97), .val (.int (5 : Int32)), .val (.int (1 : Int32)), .val (.ref w2)] [(.int (1 : Int32)), (.ref r97)])) rfl rfl (hb hby d_prog_16_method_4_code_16) _ ?_
    show Steps p.tables e below (T100.setTop (mkF m 17 #[.val (.ref w11), .val (.ref r97), .val (.int (5 : Int32)), .val (.int (1 : Int32)), .val (.ref w2)] [(.ref w3)])) _
    refine XS.astore X100.here hx rfl (hb hby d_prog_16_method_4_code_17) rfl rfl (l' := #[.val (.ref w11), .val (.ref r97), .val (.int (5 : Int32)), .val (.int (1 : Int32)), .val (.ref w3)]) rfl ?_
    show Steps p.tables e below (T100.setTop (mkF m 19 #[.val (.ref w11), .val (.ref r97), .val (.int (5 : Int32)), .val (.int (1 : Int32)), .val (.ref w3)] [])) _
    refine XS.aload X100.here hx rfl (hb hby d_prog_16_method_4_code_19) rfl rfl ?_
    show Steps p.tables e below (T100.setTop (mkF m 21 #[.val (.ref w11), .val (.ref r97), .val (.int (5 : Int32)), .val (.int (1 : Int32)), .val (.ref w3)] [(.ref w3)])) _
    refine st102 _ ?_
    show Steps p.tables e below (T102.setTop (mkF m 24 #[.val (.ref w11), .val (.ref r97), .val (.int (5 : Int32)), .val (.int (1 : Int32)), .val (.ref w3)] [(.ref w8)])) _
    refine XS.aloadN X102.here hx rfl (hb hby d_prog_16_method_4_code_24) rfl rfl ?_
    show Steps p.tables e below (T102.setTop (mkF m 25 #[.val (.ref w11), .val (.ref r97), .val (.int (5 : Int32)), .val (.int (1 : Int32)), .val (.ref w3)] [(.ref w11), (.ref w8)])) _
    refine Jvm.RoadKit.acmp (g := (mkF m 25 #[.val (.ref w11), .val (.ref r97), .val (.int (5 : Int32)), .val (.int (1 : Int32)), .val (.ref w3)] [(.ref w11), (.ref w8)])) X102 hx rfl rfl rfl (pc0 := 25) (pc' := 34) (same := false) rfl (hb hby d_prog_16_method_4_code_25) rfl (decide_eq_false fun q => (Fld.ne wF8_ordinal wF11_ordinal (fun q => absurd (Value.int.inj q) (by decide))) (Value.ref.inj q)) (by decide) (by decide) ?_
    show Steps p.tables e below (T102.setTop (mkF m 34 #[.val (.ref w11), .val (.ref r97), .val (.int (5 : Int32)), .val (.int (1 : Int32)), .val (.ref w3)] [])) _
    refine XS.iinc X102.here hx rfl (hb hby d_prog_16_method_4_code_34) rfl (l' := #[.val (.ref w11), .val (.ref r97), .val (.int (5 : Int32)), .val (.int (2 : Int32)), .val (.ref w3)]) rfl ?_
    show Steps p.tables e below (T102.setTop (mkF m 37 #[.val (.ref w11), .val (.ref r97), .val (.int (5 : Int32)), .val (.int (2 : Int32)), .val (.ref w3)] [])) _
    refine XS.goto X102.here hx rfl (pc0 := 37) (pc' := 9) rfl (hb hby d_prog_16_method_4_code_37) (by decide) (by decide) ?_
    show Steps p.tables e below (T102.setTop (mkF m 9 #[.val (.ref w11), .val (.ref r97), .val (.int (5 : Int32)), .val (.int (2 : Int32)), .val (.ref w3)] [])) _
    refine XS.iloadN X102.here hx rfl (hb hby d_prog_16_method_4_code_9) rfl ?_
    show Steps p.tables e below (T102.setTop (mkF m 10 #[.val (.ref w11), .val (.ref r97), .val (.int (5 : Int32)), .val (.int (2 : Int32)), .val (.ref w3)] [(.int (2 : Int32))])) _
    refine XS.iloadN X102.here hx rfl (hb hby d_prog_16_method_4_code_10) rfl ?_
    show Steps p.tables e below (T102.setTop (mkF m 11 #[.val (.ref w11), .val (.ref r97), .val (.int (5 : Int32)), .val (.int (2 : Int32)), .val (.ref w3)] [(.int (5 : Int32)), (.int (2 : Int32))])) _
    refine XS.icmpNo X102.here hx rfl (hb hby d_prog_16_method_4_code_11) rfl (by decide) ?_
    show Steps p.tables e below (T102.setTop (mkF m 14 #[.val (.ref w11), .val (.ref r97), .val (.int (5 : Int32)), .val (.int (2 : Int32)), .val (.ref w3)] [])) _
    refine XS.aloadN X102.here hx rfl (hb hby d_prog_16_method_4_code_14) rfl rfl ?_
    show Steps p.tables e below (T102.setTop (mkF m 15 #[.val (.ref w11), .val (.ref r97), .val (.int (5 : Int32)), .val (.int (2 : Int32)), .val (.ref w3)] [(.ref r97)])) _
    refine XS.iloadN X102.here hx rfl (hb hby d_prog_16_method_4_code_15) rfl ?_
    show Steps p.tables e below (T102.setTop (mkF m 16 #[.val (.ref w11), .val (.ref r97), .val (.int (5 : Int32)), .val (.int (2 : Int32)), .val (.ref w3)] [(.int (2 : Int32)), (.ref r97)])) _
    refine X102.aaload hx (j := (2 : Int32)) (v := (.ref w4)) (by rw [e102]; exact Ar103.1) (State.isArrayOf_alike hZ.alike Ar103.2.1) rfl Ar103.2.2 hin103 hat103 (g := (mkF m 16 #[.val (.ref w11), .val (.ref r97), .val (.int (5 : Int32)), .val (.int (2 : Int32)), .val (.ref w3)] [(.int (2 : Int32)), (.ref r97)])) rfl rfl (hb hby d_prog_16_method_4_code_16) _ ?_
    show Steps p.tables e below (T102.setTop (mkF m 17 #[.val (.ref w11), .val (.ref r97), .val (.int (5 : Int32)), .val (.int (2 : Int32)), .val (.ref w3)] [(.ref w4)])) _
    refine XS.astore X102.here hx rfl (hb hby d_prog_16_method_4_code_17) rfl rfl (l' := #[.val (.ref w11), .val (.ref r97), .val (.int (5 : Int32)), .val (.int (2 : Int32)), .val (.ref w4)]) rfl ?_
    show Steps p.tables e below (T102.setTop (mkF m 19 #[.val (.ref w11), .val (.ref r97), .val (.int (5 : Int32)), .val (.int (2 : Int32)), .val (.ref w4)] [])) _
    refine XS.aload X102.here hx rfl (hb hby d_prog_16_method_4_code_19) rfl rfl ?_
    show Steps p.tables e below (T102.setTop (mkF m 21 #[.val (.ref w11), .val (.ref r97), .val (.int (5 : Int32)), .val (.int (2 : Int32)), .val (.ref w4)] [(.ref w4)])) _
    refine st104 _ ?_
    show Steps p.tables e below (T104.setTop (mkF m 24 #[.val (.ref w11), .val (.ref r97), .val (.int (5 : Int32)), .val (.int (2 : Int32)), .val (.ref w4)] [(.ref w9)])) _
    refine XS.aloadN X104.here hx rfl (hb hby d_prog_16_method_4_code_24) rfl rfl ?_
    show Steps p.tables e below (T104.setTop (mkF m 25 #[.val (.ref w11), .val (.ref r97), .val (.int (5 : Int32)), .val (.int (2 : Int32)), .val (.ref w4)] [(.ref w11), (.ref w9)])) _
    refine Jvm.RoadKit.acmp (g := (mkF m 25 #[.val (.ref w11), .val (.ref r97), .val (.int (5 : Int32)), .val (.int (2 : Int32)), .val (.ref w4)] [(.ref w11), (.ref w9)])) X104 hx rfl rfl rfl (pc0 := 25) (pc' := 34) (same := false) rfl (hb hby d_prog_16_method_4_code_25) rfl (decide_eq_false fun q => (Fld.ne wF9_ordinal wF11_ordinal (fun q => absurd (Value.int.inj q) (by decide))) (Value.ref.inj q)) (by decide) (by decide) ?_
    show Steps p.tables e below (T104.setTop (mkF m 34 #[.val (.ref w11), .val (.ref r97), .val (.int (5 : Int32)), .val (.int (2 : Int32)), .val (.ref w4)] [])) _
    refine XS.iinc X104.here hx rfl (hb hby d_prog_16_method_4_code_34) rfl (l' := #[.val (.ref w11), .val (.ref r97), .val (.int (5 : Int32)), .val (.int (3 : Int32)), .val (.ref w4)]) rfl ?_
    show Steps p.tables e below (T104.setTop (mkF m 37 #[.val (.ref w11), .val (.ref r97), .val (.int (5 : Int32)), .val (.int (3 : Int32)), .val (.ref w4)] [])) _
    refine XS.goto X104.here hx rfl (pc0 := 37) (pc' := 9) rfl (hb hby d_prog_16_method_4_code_37) (by decide) (by decide) ?_
    show Steps p.tables e below (T104.setTop (mkF m 9 #[.val (.ref w11), .val (.ref r97), .val (.int (5 : Int32)), .val (.int (3 : Int32)), .val (.ref w4)] [])) _
    refine XS.iloadN X104.here hx rfl (hb hby d_prog_16_method_4_code_9) rfl ?_
    show Steps p.tables e below (T104.setTop (mkF m 10 #[.val (.ref w11), .val (.ref r97), .val (.int (5 : Int32)), .val (.int (3 : Int32)), .val (.ref w4)] [(.int (3 : Int32))])) _
    refine XS.iloadN X104.here hx rfl (hb hby d_prog_16_method_4_code_10) rfl ?_
    show Steps p.tables e below (T104.setTop (mkF m 11 #[.val (.ref w11), .val (.ref r97), .val (.int (5 : Int32)), .val (.int (3 : Int32)), .val (.ref w4)] [(.int (5 : Int32)), (.int (3 : Int32))])) _
    refine XS.icmpNo X104.here hx rfl (hb hby d_prog_16_method_4_code_11) rfl (by decide) ?_
    show Steps p.tables e below (T104.setTop (mkF m 14 #[.val (.ref w11), .val (.ref r97), .val (.int (5 : Int32)), .val (.int (3 : Int32)), .val (.ref w4)] [])) _
    refine XS.aloadN X104.here hx rfl (hb hby d_prog_16_method_4_code_14) rfl rfl ?_
    show Steps p.tables e below (T104.setTop (mkF m 15 #[.val (.ref w11), .val (.ref r97), .val (.int (5 : Int32)), .val (.int (3 : Int32)), .val (.ref w4)] [(.ref r97)])) _
    refine XS.iloadN X104.here hx rfl (hb hby d_prog_16_method_4_code_15) rfl ?_
    show Steps p.tables e below (T104.setTop (mkF m 16 #[.val (.ref w11), .val (.ref r97), .val (.int (5 : Int32)), .val (.int (3 : Int32)), .val (.ref w4)] [(.int (3 : Int32)), (.ref r97)])) _
    refine X104.aaload hx (j := (3 : Int32)) (v := (.ref w5)) (by rw [e104]; exact Ar105.1) (State.isArrayOf_alike hZ.alike Ar105.2.1) rfl Ar105.2.2 hin105 hat105 (g := (mkF m 16 #[.val (.ref w11), .val (.ref r97), .val (.int (5 : Int32)), .val (.int (3 : Int32)), .val (.ref w4)] [(.int (3 : Int32)), (.ref r97)])) rfl rfl (hb hby d_prog_16_method_4_code_16) _ ?_
    show Steps p.tables e below (T104.setTop (mkF m 17 #[.val (.ref w11), .val (.ref r97), .val (.int (5 : Int32)), .val (.int (3 : Int32)), .val (.ref w4)] [(.ref w5)])) _
    refine XS.astore X104.here hx rfl (hb hby d_prog_16_method_4_code_17) rfl rfl (l' := #[.val (.ref w11), .val (.ref r97), .val (.int (5 : Int32)), .val (.int (3 : Int32)), .val (.ref w5)]) rfl ?_
    show Steps p.tables e below (T104.setTop (mkF m 19 #[.val (.ref w11), .val (.ref r97), .val (.int (5 : Int32)), .val (.int (3 : Int32)), .val (.ref w5)] [])) _
    refine XS.aload X104.here hx rfl (hb hby d_prog_16_method_4_code_19) rfl rfl ?_
    show Steps p.tables e below (T104.setTop (mkF m 21 #[.val (.ref w11), .val (.ref r97), .val (.int (5 : Int32)), .val (.int (3 : Int32)), .val (.ref w5)] [(.ref w5)])) _
    refine st106 _ ?_
    show Steps p.tables e below (T106.setTop (mkF m 24 #[.val (.ref w11), .val (.ref r97), .val (.int (5 : Int32)), .val (.int (3 : Int32)), .val (.ref w5)] [(.ref w10)])) _
    refine XS.aloadN X106.here hx rfl (hb hby d_prog_16_method_4_code_24) rfl rfl ?_
    show Steps p.tables e below (T106.setTop (mkF m 25 #[.val (.ref w11), .val (.ref r97), .val (.int (5 : Int32)), .val (.int (3 : Int32)), .val (.ref w5)] [(.ref w11), (.ref w10)])) _
    refine Jvm.RoadKit.acmp (g := (mkF m 25 #[.val (.ref w11), .val (.ref r97), .val (.int (5 : Int32)), .val (.int (3 : Int32)), .val (.ref w5)] [(.ref w11), (.ref w10)])) X106 hx rfl rfl rfl (pc0 := 25) (pc' := 34) (same := false) rfl (hb hby d_prog_16_method_4_code_25) rfl (decide_eq_false fun q => (Fld.ne wF10_ordinal wF11_ordinal (fun q => absurd (Value.int.inj q) (by decide))) (Value.ref.inj q)) (by decide) (by decide) ?_
    show Steps p.tables e below (T106.setTop (mkF m 34 #[.val (.ref w11), .val (.ref r97), .val (.int (5 : Int32)), .val (.int (3 : Int32)), .val (.ref w5)] [])) _
    refine XS.iinc X106.here hx rfl (hb hby d_prog_16_method_4_code_34) rfl (l' := #[.val (.ref w11), .val (.ref r97), .val (.int (5 : Int32)), .val (.int (4 : Int32)), .val (.ref w5)]) rfl ?_
    show Steps p.tables e below (T106.setTop (mkF m 37 #[.val (.ref w11), .val (.ref r97), .val (.int (5 : Int32)), .val (.int (4 : Int32)), .val (.ref w5)] [])) _
    refine XS.goto X106.here hx rfl (pc0 := 37) (pc' := 9) rfl (hb hby d_prog_16_method_4_code_37) (by decide) (by decide) ?_
    show Steps p.tables e below (T106.setTop (mkF m 9 #[.val (.ref w11), .val (.ref r97), .val (.int (5 : Int32)), .val (.int (4 : Int32)), .val (.ref w5)] [])) _
    refine XS.iloadN X106.here hx rfl (hb hby d_prog_16_method_4_code_9) rfl ?_
    show Steps p.tables e below (T106.setTop (mkF m 10 #[.val (.ref w11), .val (.ref r97), .val (.int (5 : Int32)), .val (.int (4 : Int32)), .val (.ref w5)] [(.int (4 : Int32))])) _
    refine XS.iloadN X106.here hx rfl (hb hby d_prog_16_method_4_code_10) rfl ?_
    show Steps p.tables e below (T106.setTop (mkF m 11 #[.val (.ref w11), .val (.ref r97), .val (.int (5 : Int32)), .val (.int (4 : Int32)), .val (.ref w5)] [(.int (5 : Int32)), (.int (4 : Int32))])) _
    refine XS.icmpNo X106.here hx rfl (hb hby d_prog_16_method_4_code_11) rfl (by decide) ?_
    show Steps p.tables e below (T106.setTop (mkF m 14 #[.val (.ref w11), .val (.ref r97), .val (.int (5 : Int32)), .val (.int (4 : Int32)), .val (.ref w5)] [])) _
    refine XS.aloadN X106.here hx rfl (hb hby d_prog_16_method_4_code_14) rfl rfl ?_
    show Steps p.tables e below (T106.setTop (mkF m 15 #[.val (.ref w11), .val (.ref r97), .val (.int (5 : Int32)), .val (.int (4 : Int32)), .val (.ref w5)] [(.ref r97)])) _
    refine XS.iloadN X106.here hx rfl (hb hby d_prog_16_method_4_code_15) rfl ?_
    show Steps p.tables e below (T106.setTop (mkF m 16 #[.val (.ref w11), .val (.ref r97), .val (.int (5 : Int32)), .val (.int (4 : Int32)), .val (.ref w5)] [(.int (4 : Int32)), (.ref r97)])) _
    refine X106.aaload hx (j := (4 : Int32)) (v := (.ref w6)) (by rw [e106]; exact Ar107.1) (State.isArrayOf_alike hZ.alike Ar107.2.1) rfl Ar107.2.2 hin107 hat107 (g := (mkF m 16 #[.val (.ref w11), .val (.ref r97), .val (.int (5 : Int32)), .val (.int (4 : Int32)), .val (.ref w5)] [(.int (4 : Int32)), (.ref r97)])) rfl rfl (hb hby d_prog_16_method_4_code_16) _ ?_
    show Steps p.tables e below (T106.setTop (mkF m 17 #[.val (.ref w11), .val (.ref r97), .val (.int (5 : Int32)), .val (.int (4 : Int32)), .val (.ref w5)] [(.ref w6)])) _
    refine XS.astore X106.here hx rfl (hb hby d_prog_16_method_4_code_17) rfl rfl (l' := #[.val (.ref w11), .val (.ref r97), .val (.int (5 : Int32)), .val (.int (4 : Int32)), .val (.ref w6)]) rfl ?_
    show Steps p.tables e below (T106.setTop (mkF m 19 #[.val (.ref w11), .val (.ref r97), .val (.int (5 : Int32)), .val (.int (4 : Int32)), .val (.ref w6)] [])) _
    refine XS.aload X106.here hx rfl (hb hby d_prog_16_method_4_code_19) rfl rfl ?_
    show Steps p.tables e below (T106.setTop (mkF m 21 #[.val (.ref w11), .val (.ref r97), .val (.int (5 : Int32)), .val (.int (4 : Int32)), .val (.ref w6)] [(.ref w6)])) _
    refine st108 _ ?_
    show Steps p.tables e below (T108.setTop (mkF m 24 #[.val (.ref w11), .val (.ref r97), .val (.int (5 : Int32)), .val (.int (4 : Int32)), .val (.ref w6)] [(.ref w11)])) _
    refine XS.aloadN X108.here hx rfl (hb hby d_prog_16_method_4_code_24) rfl rfl ?_
    show Steps p.tables e below (T108.setTop (mkF m 25 #[.val (.ref w11), .val (.ref r97), .val (.int (5 : Int32)), .val (.int (4 : Int32)), .val (.ref w6)] [(.ref w11), (.ref w11)])) _
    refine Jvm.RoadKit.acmp (g := (mkF m 25 #[.val (.ref w11), .val (.ref r97), .val (.int (5 : Int32)), .val (.int (4 : Int32)), .val (.ref w6)] [(.ref w11), (.ref w11)])) X108 hx rfl rfl rfl (pc0 := 25) (pc' := 28) (same := true) rfl (hb hby d_prog_16_method_4_code_25) rfl (decide_eq_true rfl) (by decide) (by decide) ?_
    show Steps p.tables e below (T108.setTop (mkF m 28 #[.val (.ref w11), .val (.ref r97), .val (.int (5 : Int32)), .val (.int (4 : Int32)), .val (.ref w6)] [])) _
    refine XS.aload X108.here hx rfl (hb hby d_prog_16_method_4_code_28) rfl rfl ?_
    show Steps p.tables e below (T108.setTop (mkF m 30 #[.val (.ref w11), .val (.ref r97), .val (.int (5 : Int32)), .val (.int (4 : Int32)), .val (.ref w6)] [(.ref w6)])) _
    refine st114 _ ?_
    show Steps p.tables e below (T114.setTop (mkF m 33 #[.val (.ref w11), .val (.ref r97), .val (.int (5 : Int32)), .val (.int (4 : Int32)), .val (.ref w6)] [(.ref r114)])) _
    exact retOut X114 hx (t := (.object "java/util/Optional")) (i := .areturn) Bd.returns rfl (Or.inr (Or.inr (Or.inr (Or.inr ⟨rfl, rfl, rfl⟩)))) (hb hby d_prog_16_method_4_code_33) hr
  · show Qerm22 Z w0 w1 w2 w3 w4 w5 w6 w7 w8 w9 w10 w11 w12 w13 w14 w15 w16 w17 h0 n0 _ T114.heap _
    exact ⟨r114, rfl, N114, Kp114, O_114, E_r114_114, F_r114_value_114, g_r114⟩
set_option maxRecDepth 65536 in
set_option maxHeartbeats 40000000 in
theorem rm26 (l : Launch) (Z : State) (a0 : Array Value) (hw : ∀ d ∈ tables_1, d.before a0 Z = true) (ws : List Jvm.Cond) (w0 w1 w2 w3 w4 w5 w6 w7 w8 w9 w10 w11 w12 w13 w14 w15 w16 w17 : Addr) (a1 : Addr) (h0 : Heap) (n0 : Nat) (hWd : Wd Z w0 w1 w2 w3 w4 w5 w6 w7 w8 w9 w10 w11 w12 w13 w14 w15 w16 w17) (O0 : Old Z n0 h0) (E_a1 : Exa Z h0 a1 "java/util/Optional") (F_a1_value : Fld Z h0 a1 "java/util/Optional" "value" "Ljava/lang/Object;" (.ref w6)) (g_a1 : n0 ≤ a1) :
    MetFree l (⟨"java/util/Optional", "orElse", "(Ljava/lang/Object;)Ljava/lang/Object;"⟩ : MethodName) (head1 (Jvm.Cond.code (⟨"java/util/Optional", "orElse", "(Ljava/lang/Object;)Ljava/lang/Object;"⟩ : MethodName) jdk_32_method_15_code 2 (some (.object "java/lang/Object")) :: ws) ({ frames := 0, cells := 0, slots := 0, locals := 0 } : Room)) (fun a U => a = #[(.ref a1), .null] ∧ Z.Warmed39 U.vm ∧ U.heap = h0) (fun _ _ _ _ _ => True) (fun _ U o U' => ∃ v L, o = .returned v ∧ Qp (some (.ref w6)) h0 n0 v U'.heap L ∧ FrameEnd U o U' L ({ frames := 0, cells := 0, slots := 0, locals := 0 } : Room).cells ({ frames := 0, cells := 0, slots := 0, locals := 0 } : Room).slots) := by
  refine MetFree.of_bodySF (plainFor_of_name pn2) hisR ?_
  intro p e s m args below meth c s₁ Bd hml0 hP hK
  obtain ⟨rfl, hZ, hh⟩ := hP
  have hx := Bd.exec
  have hby := Bd.bytes
  have hml : c.maxLocals = 2 := hml0
  have hown : s.vm.findClass "java/util/Optional" = some m.cls := findClass_of_methodNamed Bd.named
  have hnm := (name_of_methodNamed Bd.named Bd.method).1
  have X0 : Stand p l e ({ frames := 0, cells := 0, slots := 0, locals := 0 } : Room) s m #[(.ref a1), .null] below meth c s₁ [] 0 0 := Stand.of_body Bd
  have e0 : s₁.heap = h0 := by rw [← hh, Bd.state]; rfl
  have N0 := Fr.nil n0
  have hlk := Bd.notSynchronized
  obtain ⟨wS0, wE0, wS1, wE1, wS2, wE2, wS3, wE3, wS4, wE4, wS5, wE5, wS6, wE6, wS7, wE7, wS8, wE8, wS9, wE9, wS10, wE10, wS11, wE11, wS12, wE12, wS13, wE13, wS14, wE14, wS15, wE15, wS16, wE16, wS17, wE17, wF2_type, wF7_ordinal, wF0_ordinal, wF3_type, wF8_ordinal, wF4_type, wF9_ordinal, wF5_type, wF10_ordinal, wF6_type, wF11_ordinal, wF12_ordinal, wF13_ordinal, wF14_ordinal, wF15_ordinal, wF16_ordinal, wF17_value, wA, -⟩ := id hWd
  have pre0 : ∀ t, Steps p.tables e below (s₁.setTop (mkF m 0 #[.val (.ref a1), .val .null] [])) t → Steps p.tables e below (s₁.setTop (entryFrame m #[(.ref a1), .null] 2)) t := fun t k => castTop (ef13 m a1) k
  obtain ⟨T116, X116, e116, st116⟩ := getF X0 hx hZ hown (host := "") (Or.inl (hw _ (List.mem_of_getElem? (i := 52) rfl))) Via.refl e0 F_a1_value (g := (mkF m 1 #[.val (.ref a1), .val .null] [(.ref a1)])) rfl rfl (hb hby d_jdk_32_method_15_code_1)
  obtain ⟨T117, X117, e117, st117⟩ := getF X116 hx hZ hown (host := "") (Or.inl (hw _ (List.mem_of_getElem? (i := 52) rfl))) Via.refl e116 F_a1_value (g := (mkF m 8 #[.val (.ref a1), .val .null] [(.ref a1)])) rfl rfl (hb hby d_jdk_32_method_15_code_8)
  obtain ⟨fs, hr, hrun, hended, hWr, hsame⟩ := X117.leave (v := some (.ref w6)) (fun h => by rw [Bd.returns] at h; cases h) hlk
  refine ⟨_, _, pre0 _ ?_, hrun, hended, _, _, rfl, ?_, ⟨_, rfl⟩, hWr, hsame.mono (Nat.le_of_ble_eq_true rfl) (Nat.le_of_ble_eq_true rfl)⟩
  · show Steps p.tables e below (s₁.setTop (mkF m 0 #[.val (.ref a1), .val .null] [])) _
    refine XS.aloadN X0.here hx rfl (hb hby d_jdk_32_method_15_code_0) rfl rfl ?_
    show Steps p.tables e below (s₁.setTop (mkF m 1 #[.val (.ref a1), .val .null] [(.ref a1)])) _
    refine st116 _ ?_
    show Steps p.tables e below (T116.setTop (mkF m 4 #[.val (.ref a1), .val .null] [(.ref w6)])) _
    refine XS.ifnullNo X116.here hx rfl (hb hby d_jdk_32_method_15_code_4) rfl ?_
    show Steps p.tables e below (T116.setTop (mkF m 7 #[.val (.ref a1), .val .null] [])) _
    refine XS.aloadN X116.here hx rfl (hb hby d_jdk_32_method_15_code_7) rfl rfl ?_
    show Steps p.tables e below (T116.setTop (mkF m 8 #[.val (.ref a1), .val .null] [(.ref a1)])) _
    refine st117 _ ?_
    show Steps p.tables e below (T117.setTop (mkF m 11 #[.val (.ref a1), .val .null] [(.ref w6)])) _
    refine XS.goto X117.here hx rfl (pc0 := 11) (pc' := 15) rfl (hb hby d_jdk_32_method_15_code_11) (by decide) (by decide) ?_
    show Steps p.tables e below (T117.setTop (mkF m 15 #[.val (.ref a1), .val .null] [(.ref w6)])) _
    exact retOut X117 hx (t := (.object "java/lang/Object")) (i := .areturn) Bd.returns rfl (Or.inr (Or.inr (Or.inr (Or.inr ⟨rfl, rfl, rfl⟩)))) (hb hby d_jdk_32_method_15_code_15) hr
  · show Qp (some (.ref w6)) h0 n0 _ T117.heap _
    rw [e117]
    exact ⟨rfl, N0, rfl⟩
theorem d_method_3_code_44 : decode method_3_code 44 = .ok (.iload_n 0, 1) := by decide +kernel
theorem d_method_3_code_45 : decode method_3_code 45 = .ok (.iconst 5, 1) := by decide +kernel
theorem d_method_3_code_46 : decode method_3_code 46 = .ok (.if_icmp .ne 7, 3) := by decide +kernel
theorem d_method_3_code_49 : decode method_3_code 49 = .ok (.getstatic 48, 3) := by decide +kernel
theorem d_method_3_code_52 : decode method_3_code 52 = .ok (.areturn, 1) := by decide +kernel
theorem ef18 (m : MethodId)    : entryFrame m #[(.int (5 : Int32))] 1 = mkF m 0 #[.val (.int (5 : Int32))] [] := by first | (simp [entryFrame, mkF, argsToLocals, Value.category]; done) | rfl
set_option maxRecDepth 65536 in
set_option maxHeartbeats 40000000 in
theorem rm27 (l : Launch) (Z : State) (a0 : Array Value) (hw : ∀ d ∈ tables_1, d.before a0 Z = true) (ws : List Jvm.Cond) (w0 w1 w2 w3 w4 w5 w6 w7 w8 w9 w10 w11 w12 w13 w14 w15 w16 w17 : Addr) (h0 : Heap) (n0 : Nat) (hWd : Wd Z w0 w1 w2 w3 w4 w5 w6 w7 w8 w9 w10 w11 w12 w13 w14 w15 w16 w17) (O0 : Old Z n0 h0) :
    MetFree l (⟨"com/example/weaverbird/weaverbird/queues/RunActionOfPinLaw", "typeAt", "(I)Lcom/example/weaverbird/weaverbird/codes/CommandType;"⟩ : MethodName) (head1 (Jvm.Cond.code (⟨"com/example/weaverbird/weaverbird/queues/RunActionOfPinLaw", "typeAt", "(I)Lcom/example/weaverbird/weaverbird/codes/CommandType;"⟩ : MethodName) method_3_code 1 (some (.object "com/example/weaverbird/weaverbird/codes/CommandType")) :: ws) ({ frames := 0, cells := 0, slots := 0, locals := 0 } : Room)) (fun a U => a = #[(.int (5 : Int32))] ∧ Z.Warmed39 U.vm ∧ U.heap = h0) (fun _ _ _ _ _ => True) (fun _ U o U' => ∃ v L, o = .returned v ∧ Qp (some (.ref w15)) h0 n0 v U'.heap L ∧ FrameEnd U o U' L ({ frames := 0, cells := 0, slots := 0, locals := 0 } : Room).cells ({ frames := 0, cells := 0, slots := 0, locals := 0 } : Room).slots) := by
  refine MetFree.of_bodySF (plainFor_of_name pn0) hisR ?_
  intro p e s m args below meth c s₁ Bd hml0 hP hK
  obtain ⟨rfl, hZ, hh⟩ := hP
  have hx := Bd.exec
  have hby := Bd.bytes
  have hml : c.maxLocals = 1 := hml0
  have hown : s.vm.findClass "com/example/weaverbird/weaverbird/queues/RunActionOfPinLaw" = some m.cls := findClass_of_methodNamed Bd.named
  have hnm := (name_of_methodNamed Bd.named Bd.method).1
  have X0 : Stand p l e ({ frames := 0, cells := 0, slots := 0, locals := 0 } : Room) s m #[(.int (5 : Int32))] below meth c s₁ [] 0 0 := Stand.of_body Bd
  have e0 : s₁.heap = h0 := by rw [← hh, Bd.state]; rfl
  have N0 := Fr.nil n0
  have hlk := Bd.notSynchronized
  obtain ⟨wS0, wE0, wS1, wE1, wS2, wE2, wS3, wE3, wS4, wE4, wS5, wE5, wS6, wE6, wS7, wE7, wS8, wE8, wS9, wE9, wS10, wE10, wS11, wE11, wS12, wE12, wS13, wE13, wS14, wE14, wS15, wE15, wS16, wE16, wS17, wE17, wF2_type, wF7_ordinal, wF0_ordinal, wF3_type, wF8_ordinal, wF4_type, wF9_ordinal, wF5_type, wF10_ordinal, wF6_type, wF11_ordinal, wF12_ordinal, wF13_ordinal, wF14_ordinal, wF15_ordinal, wF16_ordinal, wF17_value, wA, -⟩ := id hWd
  have pre0 : ∀ t, Steps p.tables e below (s₁.setTop (mkF m 0 #[.val (.int (5 : Int32))] [])) t → Steps p.tables e below (s₁.setTop (entryFrame m #[(.int (5 : Int32))] 1)) t := fun t k => castTop (ef18 m ) k
  obtain ⟨T120, X120, e120, st120⟩ := getS2 X0 hx hZ hown (host := "") (Or.inl (hw _ (List.mem_of_getElem? (i := 86) rfl))) Via.refl e0 (wS15.ext O0.2) (g := (mkF m 49 #[.val (.int (5 : Int32))] [])) rfl (hb hby d_method_3_code_49)
  obtain ⟨fs, hr, hrun, hended, hWr, hsame⟩ := X120.leave (v := some (.ref w15)) (fun h => by rw [Bd.returns] at h; cases h) hlk
  refine ⟨_, _, pre0 _ ?_, hrun, hended, _, _, rfl, ?_, ⟨_, rfl⟩, hWr, hsame.mono (Nat.le_of_ble_eq_true rfl) (Nat.le_of_ble_eq_true rfl)⟩
  · show Steps p.tables e below (s₁.setTop (mkF m 0 #[.val (.int (5 : Int32))] [])) _
    refine XS.iloadN X0.here hx rfl (hb hby d_method_3_code_0) rfl ?_
    show Steps p.tables e below (s₁.setTop (mkF m 1 #[.val (.int (5 : Int32))] [(.int (5 : Int32))])) _
    refine XS.ifYes X0.here hx rfl (pc0 := 1) (pc' := 8) rfl (hb hby d_method_3_code_1) rfl (by decide) (by decide) (by decide) ?_
    show Steps p.tables e below (s₁.setTop (mkF m 8 #[.val (.int (5 : Int32))] [])) _
    refine XS.iloadN X0.here hx rfl (hb hby d_method_3_code_8) rfl ?_
    show Steps p.tables e below (s₁.setTop (mkF m 9 #[.val (.int (5 : Int32))] [(.int (5 : Int32))])) _
    refine XS.iconst X0.here hx rfl (hb hby d_method_3_code_9) ?_
    show Steps p.tables e below (s₁.setTop (mkF m 10 #[.val (.int (5 : Int32))] [(.int (1 : Int32)), (.int (5 : Int32))])) _
    refine XS.icmpYes X0.here hx rfl (pc0 := 10) (pc' := 17) rfl (hb hby d_method_3_code_10) rfl (by decide) (by decide) (by decide) ?_
    show Steps p.tables e below (s₁.setTop (mkF m 17 #[.val (.int (5 : Int32))] [])) _
    refine XS.iloadN X0.here hx rfl (hb hby d_method_3_code_17) rfl ?_
    show Steps p.tables e below (s₁.setTop (mkF m 18 #[.val (.int (5 : Int32))] [(.int (5 : Int32))])) _
    refine XS.iconst X0.here hx rfl (hb hby d_method_3_code_18) ?_
    show Steps p.tables e below (s₁.setTop (mkF m 19 #[.val (.int (5 : Int32))] [(.int (2 : Int32)), (.int (5 : Int32))])) _
    refine XS.icmpYes X0.here hx rfl (pc0 := 19) (pc' := 26) rfl (hb hby d_method_3_code_19) rfl (by decide) (by decide) (by decide) ?_
    show Steps p.tables e below (s₁.setTop (mkF m 26 #[.val (.int (5 : Int32))] [])) _
    refine XS.iloadN X0.here hx rfl (hb hby d_method_3_code_26) rfl ?_
    show Steps p.tables e below (s₁.setTop (mkF m 27 #[.val (.int (5 : Int32))] [(.int (5 : Int32))])) _
    refine XS.iconst X0.here hx rfl (hb hby d_method_3_code_27) ?_
    show Steps p.tables e below (s₁.setTop (mkF m 28 #[.val (.int (5 : Int32))] [(.int (3 : Int32)), (.int (5 : Int32))])) _
    refine XS.icmpYes X0.here hx rfl (pc0 := 28) (pc' := 35) rfl (hb hby d_method_3_code_28) rfl (by decide) (by decide) (by decide) ?_
    show Steps p.tables e below (s₁.setTop (mkF m 35 #[.val (.int (5 : Int32))] [])) _
    refine XS.iloadN X0.here hx rfl (hb hby d_method_3_code_35) rfl ?_
    show Steps p.tables e below (s₁.setTop (mkF m 36 #[.val (.int (5 : Int32))] [(.int (5 : Int32))])) _
    refine XS.iconst X0.here hx rfl (hb hby d_method_3_code_36) ?_
    show Steps p.tables e below (s₁.setTop (mkF m 37 #[.val (.int (5 : Int32))] [(.int (4 : Int32)), (.int (5 : Int32))])) _
    refine XS.icmpYes X0.here hx rfl (pc0 := 37) (pc' := 44) rfl (hb hby d_method_3_code_37) rfl (by decide) (by decide) (by decide) ?_
    show Steps p.tables e below (s₁.setTop (mkF m 44 #[.val (.int (5 : Int32))] [])) _
    refine XS.iloadN X0.here hx rfl (hb hby d_method_3_code_44) rfl ?_
    show Steps p.tables e below (s₁.setTop (mkF m 45 #[.val (.int (5 : Int32))] [(.int (5 : Int32))])) _
    refine XS.iconst X0.here hx rfl (hb hby d_method_3_code_45) ?_
    show Steps p.tables e below (s₁.setTop (mkF m 46 #[.val (.int (5 : Int32))] [(.int (5 : Int32)), (.int (5 : Int32))])) _
    refine XS.icmpNo X0.here hx rfl (hb hby d_method_3_code_46) rfl (by decide) ?_
    show Steps p.tables e below (s₁.setTop (mkF m 49 #[.val (.int (5 : Int32))] [])) _
    refine st120 _ ?_
    show Steps p.tables e below (T120.setTop (mkF m 52 #[.val (.int (5 : Int32))] [(.ref w15)])) _
    exact retOut X120 hx (t := (.object "com/example/weaverbird/weaverbird/codes/CommandType")) (i := .areturn) Bd.returns rfl (Or.inr (Or.inr (Or.inr (Or.inr ⟨rfl, rfl, rfl⟩)))) (hb hby d_method_3_code_52) hr
  · show Qp (some (.ref w15)) h0 n0 _ T120.heap _
    rw [e120]
    exact ⟨rfl, N0, rfl⟩
set_option maxRecDepth 65536 in
set_option maxHeartbeats 40000000 in
theorem rm28 (l : Launch) (Z : State) (a0 : Array Value) (hw : ∀ d ∈ tables_1, d.before a0 Z = true) (ws : List Jvm.Cond) (w0 w1 w2 w3 w4 w5 w6 w7 w8 w9 w10 w11 w12 w13 w14 w15 w16 w17 : Addr) (h0 : Heap) (n0 : Nat) (hWd : Wd Z w0 w1 w2 w3 w4 w5 w6 w7 w8 w9 w10 w11 w12 w13 w14 w15 w16 w17) (O0 : Old Z n0 h0) :
    MetFree l (⟨"com/example/weaverbird/weaverbird/queues/RunActionOfPinLaw", "expectedFor", "(I)Lcom/example/weaverbird/weaverbird/queues/RunAction;"⟩ : MethodName) (head1 (Jvm.Cond.code (⟨"com/example/weaverbird/weaverbird/queues/RunActionOfPinLaw", "expectedFor", "(I)Lcom/example/weaverbird/weaverbird/queues/RunAction;"⟩ : MethodName) method_4_code 1 (some (.object "com/example/weaverbird/weaverbird/queues/RunAction")) :: ws) ({ frames := 0, cells := 0, slots := 0, locals := 0 } : Room)) (fun a U => a = #[(.int (5 : Int32))] ∧ Z.Warmed39 U.vm ∧ U.heap = h0) (fun _ _ _ _ _ => True) (fun _ U o U' => ∃ v L, o = .returned v ∧ Qp (some .null) h0 n0 v U'.heap L ∧ FrameEnd U o U' L ({ frames := 0, cells := 0, slots := 0, locals := 0 } : Room).cells ({ frames := 0, cells := 0, slots := 0, locals := 0 } : Room).slots) := by
  refine MetFree.of_bodySF (plainFor_of_name pn0) hisR ?_
  intro p e s m args below meth c s₁ Bd hml0 hP hK
  obtain ⟨rfl, hZ, hh⟩ := hP
  have hx := Bd.exec
  have hby := Bd.bytes
  have hml : c.maxLocals = 1 := hml0
  have hown : s.vm.findClass "com/example/weaverbird/weaverbird/queues/RunActionOfPinLaw" = some m.cls := findClass_of_methodNamed Bd.named
  have hnm := (name_of_methodNamed Bd.named Bd.method).1
  have X0 : Stand p l e ({ frames := 0, cells := 0, slots := 0, locals := 0 } : Room) s m #[(.int (5 : Int32))] below meth c s₁ [] 0 0 := Stand.of_body Bd
  have e0 : s₁.heap = h0 := by rw [← hh, Bd.state]; rfl
  have N0 := Fr.nil n0
  have hlk := Bd.notSynchronized
  obtain ⟨wS0, wE0, wS1, wE1, wS2, wE2, wS3, wE3, wS4, wE4, wS5, wE5, wS6, wE6, wS7, wE7, wS8, wE8, wS9, wE9, wS10, wE10, wS11, wE11, wS12, wE12, wS13, wE13, wS14, wE14, wS15, wE15, wS16, wE16, wS17, wE17, wF2_type, wF7_ordinal, wF0_ordinal, wF3_type, wF8_ordinal, wF4_type, wF9_ordinal, wF5_type, wF10_ordinal, wF6_type, wF11_ordinal, wF12_ordinal, wF13_ordinal, wF14_ordinal, wF15_ordinal, wF16_ordinal, wF17_value, wA, -⟩ := id hWd
  have pre0 : ∀ t, Steps p.tables e below (s₁.setTop (mkF m 0 #[.val (.int (5 : Int32))] [])) t → Steps p.tables e below (s₁.setTop (entryFrame m #[(.int (5 : Int32))] 1)) t := fun t k => castTop (ef18 m ) k
  obtain ⟨fs, hr, hrun, hended, hWr, hsame⟩ := X0.leave (v := some .null) (fun h => by rw [Bd.returns] at h; cases h) hlk
  refine ⟨_, _, pre0 _ ?_, hrun, hended, _, _, rfl, ?_, ⟨_, rfl⟩, hWr, hsame.mono (Nat.le_of_ble_eq_true rfl) (Nat.le_of_ble_eq_true rfl)⟩
  · show Steps p.tables e below (s₁.setTop (mkF m 0 #[.val (.int (5 : Int32))] [])) _
    refine XS.iloadN X0.here hx rfl (hb hby d_method_4_code_0) rfl ?_
    show Steps p.tables e below (s₁.setTop (mkF m 1 #[.val (.int (5 : Int32))] [(.int (5 : Int32))])) _
    refine XS.iconst X0.here hx rfl (hb hby d_method_4_code_1) ?_
    show Steps p.tables e below (s₁.setTop (mkF m 2 #[.val (.int (5 : Int32))] [(.int (3 : Int32)), (.int (5 : Int32))])) _
    refine XS.icmpYes X0.here hx rfl (pc0 := 2) (pc' := 9) rfl (hb hby d_method_4_code_2) rfl (by decide) (by decide) (by decide) ?_
    show Steps p.tables e below (s₁.setTop (mkF m 9 #[.val (.int (5 : Int32))] [])) _
    refine XS.iloadN X0.here hx rfl (hb hby d_method_4_code_9) rfl ?_
    show Steps p.tables e below (s₁.setTop (mkF m 10 #[.val (.int (5 : Int32))] [(.int (5 : Int32))])) _
    refine XS.iconst X0.here hx rfl (hb hby d_method_4_code_10) ?_
    show Steps p.tables e below (s₁.setTop (mkF m 11 #[.val (.int (5 : Int32))] [(.int (4 : Int32)), (.int (5 : Int32))])) _
    refine XS.icmpYes X0.here hx rfl (pc0 := 11) (pc' := 18) rfl (hb hby d_method_4_code_11) rfl (by decide) (by decide) (by decide) ?_
    show Steps p.tables e below (s₁.setTop (mkF m 18 #[.val (.int (5 : Int32))] [])) _
    refine XS.iloadN X0.here hx rfl (hb hby d_method_4_code_18) rfl ?_
    show Steps p.tables e below (s₁.setTop (mkF m 19 #[.val (.int (5 : Int32))] [(.int (5 : Int32))])) _
    refine XS.bipush X0.here hx rfl (hb hby d_method_4_code_19) ?_
    show Steps p.tables e below (s₁.setTop (mkF m 21 #[.val (.int (5 : Int32))] [(.int (7 : Int32)), (.int (5 : Int32))])) _
    refine XS.icmpYes X0.here hx rfl (pc0 := 21) (pc' := 28) rfl (hb hby d_method_4_code_21) rfl (by decide) (by decide) (by decide) ?_
    show Steps p.tables e below (s₁.setTop (mkF m 28 #[.val (.int (5 : Int32))] [])) _
    refine XS.iloadN X0.here hx rfl (hb hby d_method_4_code_28) rfl ?_
    show Steps p.tables e below (s₁.setTop (mkF m 29 #[.val (.int (5 : Int32))] [(.int (5 : Int32))])) _
    refine XS.bipush X0.here hx rfl (hb hby d_method_4_code_29) ?_
    show Steps p.tables e below (s₁.setTop (mkF m 31 #[.val (.int (5 : Int32))] [(.int (8 : Int32)), (.int (5 : Int32))])) _
    refine XS.icmpYes X0.here hx rfl (pc0 := 31) (pc' := 38) rfl (hb hby d_method_4_code_31) rfl (by decide) (by decide) (by decide) ?_
    show Steps p.tables e below (s₁.setTop (mkF m 38 #[.val (.int (5 : Int32))] [])) _
    refine XS.iloadN X0.here hx rfl (hb hby d_method_4_code_38) rfl ?_
    show Steps p.tables e below (s₁.setTop (mkF m 39 #[.val (.int (5 : Int32))] [(.int (5 : Int32))])) _
    refine XS.bipush X0.here hx rfl (hb hby d_method_4_code_39) ?_
    show Steps p.tables e below (s₁.setTop (mkF m 41 #[.val (.int (5 : Int32))] [(.int (9 : Int32)), (.int (5 : Int32))])) _
    refine XS.icmpYes X0.here hx rfl (pc0 := 41) (pc' := 48) rfl (hb hby d_method_4_code_41) rfl (by decide) (by decide) (by decide) ?_
    show Steps p.tables e below (s₁.setTop (mkF m 48 #[.val (.int (5 : Int32))] [])) _
    refine XS.aconstNull X0.here hx rfl (hb hby d_method_4_code_48) ?_
    show Steps p.tables e below (s₁.setTop (mkF m 49 #[.val (.int (5 : Int32))] [.null])) _
    exact retOut X0 hx (t := (.object "com/example/weaverbird/weaverbird/queues/RunAction")) (i := .areturn) Bd.returns rfl (Or.inr (Or.inr (Or.inr (Or.inr ⟨rfl, rfl, rfl⟩)))) (hb hby d_method_4_code_49) hr
  · show Qp (some .null) h0 n0 _ s₁.heap _
    rw [e0]
    exact ⟨rfl, N0, rfl⟩
theorem ef19 (m : MethodId)   (w15 : Addr) : entryFrame m #[(.ref w15)] 5 = mkF m 0 #[.val (.ref w15), .unset, .unset, .unset, .unset] [] := by first | (simp [entryFrame, mkF, argsToLocals, Value.category]; done) | rfl
def Qerm29 (Z : State) (w0 w1 w2 w3 w4 w5 w6 w7 w8 w9 w10 w11 w12 w13 w14 w15 w16 w17 : Addr) (h0 : Heap) (n0 : Nat) (v : Option Value) (h : Heap) (L : List Loc) : Prop := v = some (.ref w17) ∧ Fr n0 L ∧ Keep h0 h [] ∧ Old Z n0 h
set_option maxRecDepth 65536 in
set_option maxHeartbeats 40000000 in
theorem rm29 (l : Launch) (Z : State) (a0 : Array Value) (hw : ∀ d ∈ tables_1, d.before a0 Z = true) (ws : List Jvm.Cond) (w0 w1 w2 w3 w4 w5 w6 w7 w8 w9 w10 w11 w12 w13 w14 w15 w16 w17 : Addr) (h0 : Heap) (n0 : Nat) (hWd : Wd Z w0 w1 w2 w3 w4 w5 w6 w7 w8 w9 w10 w11 w12 w13 w14 w15 w16 w17) (O0 : Old Z n0 h0) :
    MetFree l (⟨"com/example/weaverbird/weaverbird/queues/RunAction", "of", "(Lcom/example/weaverbird/weaverbird/codes/CommandType;)Ljava/util/Optional;"⟩ : MethodName) (head1 (Jvm.Cond.code (⟨"com/example/weaverbird/weaverbird/queues/RunAction", "of", "(Lcom/example/weaverbird/weaverbird/codes/CommandType;)Ljava/util/Optional;"⟩ : MethodName) prog_16_method_4_code 5 (some (.object "java/util/Optional")) :: ws) ({ frames := 2, cells := 1, slots := 5, locals := 25 } : Room)) (fun a U => a = #[(.ref w15)] ∧ Z.Warmed39 U.vm ∧ U.heap = h0) (fun _ _ _ _ _ => True) (fun _ U o U' => ∃ v L, o = .returned v ∧ Qerm29 Z w0 w1 w2 w3 w4 w5 w6 w7 w8 w9 w10 w11 w12 w13 w14 w15 w16 w17 h0 n0 v U'.heap L ∧ FrameEnd U o U' L ({ frames := 2, cells := 1, slots := 5, locals := 25 } : Room).cells ({ frames := 2, cells := 1, slots := 5, locals := 25 } : Room).slots) := by
  refine MetFree.of_bodySF (plainFor_of_name pn1) hisR ?_
  intro p e s m args below meth c s₁ Bd hml0 hP hK
  obtain ⟨rfl, hZ, hh⟩ := hP
  have hx := Bd.exec
  have hby := Bd.bytes
  have hml : c.maxLocals = 5 := hml0
  have hown : s.vm.findClass "com/example/weaverbird/weaverbird/queues/RunAction" = some m.cls := findClass_of_methodNamed Bd.named
  have hnm := (name_of_methodNamed Bd.named Bd.method).1
  have X0 : Stand p l e ({ frames := 2, cells := 1, slots := 5, locals := 25 } : Room) s m #[(.ref w15)] below meth c s₁ [] 0 0 := Stand.of_body Bd
  have e0 : s₁.heap = h0 := by rw [← hh, Bd.state]; rfl
  have N0 := Fr.nil n0
  have hlk := Bd.notSynchronized
  obtain ⟨wS0, wE0, wS1, wE1, wS2, wE2, wS3, wE3, wS4, wE4, wS5, wE5, wS6, wE6, wS7, wE7, wS8, wE8, wS9, wE9, wS10, wE10, wS11, wE11, wS12, wE12, wS13, wE13, wS14, wE14, wS15, wE15, wS16, wE16, wS17, wE17, wF2_type, wF7_ordinal, wF0_ordinal, wF3_type, wF8_ordinal, wF4_type, wF9_ordinal, wF5_type, wF10_ordinal, wF6_type, wF11_ordinal, wF12_ordinal, wF13_ordinal, wF14_ordinal, wF15_ordinal, wF16_ordinal, wF17_value, wA, -⟩ := id hWd
  have pre0 : ∀ t, Steps p.tables e below (s₁.setTop (mkF m 0 #[.val (.ref w15), .unset, .unset, .unset, .unset] [])) t → Steps p.tables e below (s₁.setTop (entryFrame m #[(.ref w15)] 5)) t := fun t k => castTop (ef19 m w15) k
  obtain ⟨_, _, ⟨T123, L123, k123, n123⟩, -, X123, ⟨Lc123, hQ123, l123, y123, z123⟩, st123⟩ := Jvm.LawKit.callS X0 hx (y := (⟨"com/example/weaverbird/weaverbird/queues/RunAction", "values", "()[Lcom/example/weaverbird/weaverbird/queues/RunAction;"⟩ : MethodName)) hown (mvT hZ (hw _ (List.mem_of_getElem? (i := 15) rfl))) (mvT hZ (hw _ (List.mem_of_getElem? (i := 16) rfl))) (mvT hZ (hw _ (List.mem_of_getElem? (i := 13) rfl))) (mvT hZ (hw _ (List.mem_of_getElem? (i := 17) rfl))) (by decide) (backOf (W := 0) (rm4 l Z a0 hw [] w0 w1 w2 w3 w4 w5 w6 w7 w8 w9 w10 w11 w12 w13 w14 w15 w16 w17 h0 n0 hWd O0) hZ (hw _ (List.mem_of_getElem? (i := 17) rfl)) (hw _ (List.mem_of_getElem? (i := 13) rfl)) (by decide) (by decide)) (g := (mkF m 0 #[.val (.ref w15), .unset, .unset, .unset, .unset] [])) rfl (by rw [hml]; rfl) (argsL := []) (rest := []) (lenOf pd2 rfl) rfl (by show 2 * 0 + _ ≤ _; exact Nat.le_of_eq rfl) (hb hby d_prog_16_method_4_code_0) (fun _ _ => ⟨rfl, e0, (by decide : 0 + 1 ≤ _), (by decide : 0 + 5 ≤ _)⟩)
  dsimp only [Pt.U, Pt.locs, Pt.cells, Pt.slots] at X123 l123 y123 z123 st123 hQ123
  subst l123 y123 z123
  obtain ⟨r123, ka123, rfl, N123q, K123, O_123, V123, g_r123⟩ := hQ123
  have N123 := Fr.app N0 N123q
  have Kp123 : Keep h0 T123.heap [] := (Keep.refl h0 []).trans K123 all0
  obtain ⟨cl124, Ar124, q124, S124, M124, H124, G124⟩ := id V123
  obtain ⟨cl125, Ar125, q125, S125, M125, H125, G125⟩ := id V123
  have hin125 : ¬ ((0 : Int32) < 0 ∨ cl125.slots.size ≤ ((0 : Int32)).toNatClampNeg) := inb_of S125 ⟨by decide, by decide⟩
  have hat125 : cl125.slots[((0 : Int32)).toNatClampNeg]? = some (.ref w2) := Has.at H125 hin125 rfl
  obtain ⟨T126, X126, e126, st126⟩ := getF X123 hx hZ hown (host := "") (Or.inl (hw _ (List.mem_of_getElem? (i := 35) rfl))) Via.refl rfl (wF2_type.ext O_123.2) (g := (mkF m 21 #[.val (.ref w15), .val (.ref r123), .val (.int (5 : Int32)), .val (.int (0 : Int32)), .val (.ref w2)] [(.ref w2)])) rfl rfl (hb hby d_prog_16_method_4_code_21)
  obtain ⟨cl127, Ar127, q127, S127, M127, H127, G127⟩ := id V123
  have hin127 : ¬ ((1 : Int32) < 0 ∨ cl127.slots.size ≤ ((1 : Int32)).toNatClampNeg) := inb_of S127 ⟨by decide, by decide⟩
  have hat127 : cl127.slots[((1 : Int32)).toNatClampNeg]? = some (.ref w3) := Has.at H127 hin127 rfl
  obtain ⟨T128, X128, e128, st128⟩ := getF X126 hx hZ hown (host := "") (Or.inl (hw _ (List.mem_of_getElem? (i := 35) rfl))) Via.refl e126 (wF3_type.ext O_123.2) (g := (mkF m 21 #[.val (.ref w15), .val (.ref r123), .val (.int (5 : Int32)), .val (.int (1 : Int32)), .val (.ref w3)] [(.ref w3)])) rfl rfl (hb hby d_prog_16_method_4_code_21)
  obtain ⟨cl129, Ar129, q129, S129, M129, H129, G129⟩ := id V123
  have hin129 : ¬ ((2 : Int32) < 0 ∨ cl129.slots.size ≤ ((2 : Int32)).toNatClampNeg) := inb_of S129 ⟨by decide, by decide⟩
  have hat129 : cl129.slots[((2 : Int32)).toNatClampNeg]? = some (.ref w4) := Has.at H129 hin129 rfl
  obtain ⟨T130, X130, e130, st130⟩ := getF X128 hx hZ hown (host := "") (Or.inl (hw _ (List.mem_of_getElem? (i := 35) rfl))) Via.refl e128 (wF4_type.ext O_123.2) (g := (mkF m 21 #[.val (.ref w15), .val (.ref r123), .val (.int (5 : Int32)), .val (.int (2 : Int32)), .val (.ref w4)] [(.ref w4)])) rfl rfl (hb hby d_prog_16_method_4_code_21)
  obtain ⟨cl131, Ar131, q131, S131, M131, H131, G131⟩ := id V123
  have hin131 : ¬ ((3 : Int32) < 0 ∨ cl131.slots.size ≤ ((3 : Int32)).toNatClampNeg) := inb_of S131 ⟨by decide, by decide⟩
  have hat131 : cl131.slots[((3 : Int32)).toNatClampNeg]? = some (.ref w5) := Has.at H131 hin131 rfl
  obtain ⟨T132, X132, e132, st132⟩ := getF X130 hx hZ hown (host := "") (Or.inl (hw _ (List.mem_of_getElem? (i := 35) rfl))) Via.refl e130 (wF5_type.ext O_123.2) (g := (mkF m 21 #[.val (.ref w15), .val (.ref r123), .val (.int (5 : Int32)), .val (.int (3 : Int32)), .val (.ref w5)] [(.ref w5)])) rfl rfl (hb hby d_prog_16_method_4_code_21)
  obtain ⟨cl133, Ar133, q133, S133, M133, H133, G133⟩ := id V123
  have hin133 : ¬ ((4 : Int32) < 0 ∨ cl133.slots.size ≤ ((4 : Int32)).toNatClampNeg) := inb_of S133 ⟨by decide, by decide⟩
  have hat133 : cl133.slots[((4 : Int32)).toNatClampNeg]? = some (.ref w6) := Has.at H133 hin133 rfl
  obtain ⟨T134, X134, e134, st134⟩ := getF X132 hx hZ hown (host := "") (Or.inl (hw _ (List.mem_of_getElem? (i := 35) rfl))) Via.refl e132 (wF6_type.ext O_123.2) (g := (mkF m 21 #[.val (.ref w15), .val (.ref r123), .val (.int (5 : Int32)), .val (.int (4 : Int32)), .val (.ref w6)] [(.ref w6)])) rfl rfl (hb hby d_prog_16_method_4_code_21)
  obtain ⟨_, _, ⟨T135, L135, k135, n135⟩, -, X135, ⟨Lc135, hQ135, l135, y135, z135⟩, st135⟩ := Jvm.LawKit.callS X134 hx (y := (⟨"java/util/Optional", "empty", "()Ljava/util/Optional;"⟩ : MethodName)) hown (mvT hZ (hw _ (List.mem_of_getElem? (i := 42) rfl))) (mvT hZ (hw _ (List.mem_of_getElem? (i := 43) rfl))) (mvT hZ (hw _ (List.mem_of_getElem? (i := 44) rfl))) (mvT hZ (hw _ (List.mem_of_getElem? (i := 45) rfl))) (by decide) (backOf (W := 0) (rm5 l Z a0 hw [] w0 w1 w2 w3 w4 w5 w6 w7 w8 w9 w10 w11 w12 w13 w14 w15 w16 w17 T123.heap n0 hWd O_123) hZ (hw _ (List.mem_of_getElem? (i := 45) rfl)) (hw _ (List.mem_of_getElem? (i := 44) rfl)) (by decide) (by decide)) (g := (mkF m 40 #[.val (.ref w15), .val (.ref r123), .val (.int (5 : Int32)), .val (.int (5 : Int32)), .val (.ref w6)] [])) rfl (by rw [hml]; rfl) (argsL := []) (rest := []) (lenOf pd3 rfl) rfl (by show 2 * 0 + _ ≤ _; exact Nat.le_of_eq rfl) (hb hby d_prog_16_method_4_code_40) (fun _ _ => ⟨rfl, e134, (by decide : 1 + 0 ≤ _), (by decide : 5 + 0 ≤ _)⟩)
  dsimp only [Pt.U, Pt.locs, Pt.cells, Pt.slots] at X135 l135 y135 z135 st135 hQ135
  subst l135 y135 z135
  obtain ⟨rfl, N135q, e135⟩ := hQ135
  have N135 := Fr.app N123 N135q
  obtain ⟨fs, hr, hrun, hended, hWr, hsame⟩ := X135.leave (v := some (.ref w17)) (fun h => by rw [Bd.returns] at h; cases h) hlk
  refine ⟨_, _, pre0 _ ?_, hrun, hended, _, _, rfl, ?_, ⟨_, rfl⟩, hWr, hsame.mono (Nat.le_of_ble_eq_true rfl) (Nat.le_of_ble_eq_true rfl)⟩
  · show Steps p.tables e below (s₁.setTop (mkF m 0 #[.val (.ref w15), .unset, .unset, .unset, .unset] [])) _
    refine st123 _ ?_
    show Steps p.tables e below (T123.setTop (mkF m 3 #[.val (.ref w15), .unset, .unset, .unset, .unset] [(.ref r123)])) _
    refine XS.astoreN X123.here hx rfl (hb hby d_prog_16_method_4_code_3) rfl rfl (l' := #[.val (.ref w15), .val (.ref r123), .unset, .unset, .unset]) rfl ?_
    show Steps p.tables e below (T123.setTop (mkF m 4 #[.val (.ref w15), .val (.ref r123), .unset, .unset, .unset] [])) _
    refine XS.aloadN X123.here hx rfl (hb hby d_prog_16_method_4_code_4) rfl rfl ?_
    show Steps p.tables e below (T123.setTop (mkF m 5 #[.val (.ref w15), .val (.ref r123), .unset, .unset, .unset] [(.ref r123)])) _
    refine X123.arraylength hx Ar124.1 (State.isArrayOf_alike hZ.alike Ar124.2.1) (g := (mkF m 5 #[.val (.ref w15), .val (.ref r123), .unset, .unset, .unset] [(.ref r123)])) rfl rfl (hb hby d_prog_16_method_4_code_5) _ ?_
    rw [len_of S124 M124]
    show Steps p.tables e below (T123.setTop (mkF m 6 #[.val (.ref w15), .val (.ref r123), .unset, .unset, .unset] [(.int (5 : Int32))])) _
    refine XS.istoreN X123.here hx rfl (hb hby d_prog_16_method_4_code_6) rfl (l' := #[.val (.ref w15), .val (.ref r123), .val (.int (5 : Int32)), .unset, .unset]) rfl ?_
    show Steps p.tables e below (T123.setTop (mkF m 7 #[.val (.ref w15), .val (.ref r123), .val (.int (5 : Int32)), .unset, .unset] [])) _
    refine XS.iconst X123.here hx rfl (hb hby d_prog_16_method_4_code_7) ?_
    show Steps p.tables e below (T123.setTop (mkF m 8 #[.val (.ref w15), .val (.ref r123), .val (.int (5 : Int32)), .unset, .unset] [(.int (0 : Int32))])) _
    refine XS.istoreN X123.here hx rfl (hb hby d_prog_16_method_4_code_8) rfl (l' := #[.val (.ref w15), .val (.ref r123), .val (.int (5 : Int32)), .val (.int (0 : Int32)), .unset]) rfl ?_
    show Steps p.tables e below (T123.setTop (mkF m 9 #[.val (.ref w15), .val (.ref r123), .val (.int (5 : Int32)), .val (.int (0 : Int32)), .unset] [])) _
    refine XS.iloadN X123.here hx rfl (hb hby d_prog_16_method_4_code_9) rfl ?_
    show Steps p.tables e below (T123.setTop (mkF m 10 #[.val (.ref w15), .val (.ref r123), .val (.int (5 : Int32)), .val (.int (0 : Int32)), .unset] [(.int (0 : Int32))])) _
    refine XS.iloadN X123.here hx rfl (hb hby d_prog_16_method_4_code_10) rfl ?_
    show Steps p.tables e below (T123.setTop (mkF m 11 #[.val (.ref w15), .val (.ref r123), .val (.int (5 : Int32)), .val (.int (0 : Int32)), .unset] [(.int (5 : Int32)), (.int (0 : Int32))])) _
    refine XS.icmpNo X123.here hx rfl (hb hby d_prog_16_method_4_code_11) rfl (by decide) ?_
    show Steps p.tables e below (T123.setTop (mkF m 14 #[.val (.ref w15), .val (.ref r123), .val (.int (5 : Int32)), .val (.int (0 : Int32)), .unset] [])) _
    refine XS.aloadN X123.here hx rfl (hb hby d_prog_16_method_4_code_14) rfl rfl ?_
    show Steps p.tables e below (T123.setTop (mkF m 15 #[.val (.ref w15), .val (.ref r123), .val (.int (5 : Int32)), .val (.int (0 : Int32)), .unset] [(.ref r123)])) _
    refine XS.iloadN X123.here hx rfl (hb hby d_prog_16_method_4_code_15) rfl ?_
    show Steps p.tables e below (T123.setTop (mkF m 16 #[.val (.ref w15), .val (.ref r123), .val (.int (5 : Int32)), .val (.int (0 : Int32)), .unset] [(.int (0 : Int32)), (.ref r123)])) _
    refine X123.aaload hx (j := (0 : Int32)) (v := (.ref w2)) Ar125.1 (State.isArrayOf_alike hZ.alike Ar125.2.1) rfl Ar125.2.2 hin125 hat125 (g := (mkF m 16 #[.val (.ref w15), .val (.ref r123), .val (.int (5 : Int32)), .val (.int (0 : Int32)), .unset] [(.int (0 : Int32)), (.ref r123)])) rfl rfl (hb hby d_prog_16_method_4_code_16) _ ?_
    show Steps p.tables e below (T123.setTop (mkF m 17 #[.val (.ref w15), .val (.ref r123), .val (.int (5 : Int32)), .val (.int (0 : Int32)), .unset] [(.ref w2)])) _
    refine XS.astore X123.here hx rfl (hb hby d_prog_16_method_4_code_17) rfl rfl (l' := #[.val (.ref w15), .val (.ref r123), .val (.int (5 : Int32)), .val (.int (0 : Int32)), .val (.ref w2)]) rfl ?_
    show Steps p.tables e below (T123.setTop (mkF m 19 #[.val (.ref w15), .val (.ref r123), .val (.int (5 : Int32)), .val (.int (0 : Int32)), .val (.ref w2)] [])) _
    refine XS.aload X123.here hx rfl (hb hby d_prog_16_method_4_code_19) rfl rfl ?_
    show Steps p.tables e below (T123.setTop (mkF m 21 #[.val (.ref w15), .val (.ref r123), .val (.int (5 : Int32)), .val (.int (0 : Int32)), .val (.ref w2)] [(.ref w2)])) _
    refine st126 _ ?_
    show Steps p.tables e below (T126.setTop (mkF m 24 #[.val (.ref w15), .val (.ref r123), .val (.int (5 : Int32)), .val (.int (0 : Int32)), .val (.ref w2)] [(.ref w7)])) _
    refine XS.aloadN X126.here hx rfl (hb hby d_prog_16_method_4_code_24) rfl rfl ?_
    show Steps p.tables e below (T126.setTop (mkF m 25 #[.val (.ref w15), .val (.ref r123), .val (.int (5 : Int32)), .val (.int (0 : Int32)), .val (.ref w2)] [(.ref w15), (.ref w7)])) _
    refine Jvm.RoadKit.acmp (g := (mkF m 25 #[.val (.ref w15), .val (.ref r123), .val (.int (5 : Int32)), .val (.int (0 : Int32)), .val (.ref w2)] [(.ref w15), (.ref w7)])) X126 hx rfl rfl rfl (pc0 := 25) (pc' := 34) (same := false) rfl (hb hby d_prog_16_method_4_code_25) rfl (decide_eq_false fun q => (Fld.ne wF7_ordinal wF15_ordinal (fun q => absurd (Value.int.inj q) (by decide))) (Value.ref.inj q)) (by decide) (by decide) ?_
    show Steps p.tables e below (T126.setTop (mkF m 34 #[.val (.ref w15), .val (.ref r123), .val (.int (5 : Int32)), .val (.int (0 : Int32)), .val (.ref w2)] [])) _
    refine XS.iinc X126.here hx rfl (hb hby d_prog_16_method_4_code_34) rfl (l' := #[.val (.ref w15), .val (.ref r123), .val (.int (5 : Int32)), .val (.int (1 : Int32)), .val (.ref w2)]) rfl ?_
    show Steps p.tables e below (T126.setTop (mkF m 37 #[.val (.ref w15), .val (.ref r123), .val (.int (5 : Int32)), .val (.int (1 : Int32)), .val (.ref w2)] [])) _
    refine XS.goto X126.here hx rfl (pc0 := 37) (pc' := 9) rfl (hb hby d_prog_16_method_4_code_37) (by decide) (by decide) ?_
    show Steps p.tables e below (T126.setTop (mkF m 9 #[.val (.ref w15), .val (.ref r123), .val (.int (5 : Int32)), .val (.int (1 : Int32)), .val (.ref w2)] [])) _
    refine XS.iloadN X126.here hx rfl (hb hby d_prog_16_method_4_code_9) rfl ?_
    show Steps p.tables e below (T126.setTop (mkF m 10 #[.val (.ref w15), .val (.ref r123), .val (.int (5 : Int32)), .val (.int (1 : Int32)), .val (.ref w2)] [(.int (1 : Int32))])) _
    refine XS.iloadN X126.here hx rfl (hb hby d_prog_16_method_4_code_10) rfl ?_
    show Steps p.tables e below (T126.setTop (mkF m 11 #[.val (.ref w15), .val (.ref r123), .val (.int (5 : Int32)), .val (.int (1 : Int32)), .val (.ref w2)] [(.int (5 : Int32)), (.int (1 : Int32))])) _
    refine XS.icmpNo X126.here hx rfl (hb hby d_prog_16_method_4_code_11) rfl (by decide) ?_
    show Steps p.tables e below (T126.setTop (mkF m 14 #[.val (.ref w15), .val (.ref r123), .val (.int (5 : Int32)), .val (.int (1 : Int32)), .val (.ref w2)] [])) _
    refine XS.aloadN X126.here hx rfl (hb hby d_prog_16_method_4_code_14) rfl rfl ?_
    show Steps p.tables e below (T126.setTop (mkF m 15 #[.val (.ref w15), .val (.ref r123), .val (.int (5 : Int32)), .val (.int (1 : Int32)), .val (.ref w2)] [(.ref r123)])) _
    refine XS.iloadN X126.here hx rfl (hb hby d_prog_16_method_4_code_15) rfl ?_
    show Steps p.tables e below (T126.setTop (mkF m 16 #[.val (.ref w15), .val (.ref r123), .val (.int (5 : Int32)), .val (.int (1 : Int32)), .val (.ref w2)] [(.int (1 : Int32)), (.ref r123)])) _
    refine X126.aaload hx (j := (1 : Int32)) (v := (.ref w3)) (by rw [e126]; exact Ar127.1) (State.isArrayOf_alike hZ.alike Ar127.2.1) rfl Ar127.2.2 hin127 hat127 (g := (mkF m 16 #[.val (.ref w15), .val (.ref r123), .val (.int (5 : Int32)), .val (.int (1 : Int32)), .val (.ref w2)] [(.int (1 : Int32)), (.ref r123)])) rfl rfl (hb hby d_prog_16_method_4_code_16) _ ?_
    show Steps p.tables e below (T126.setTop (mkF m 17 #[.val (.ref w15), .val (.ref r123), .val (.int (5 : Int32)), .val (.int (1 : Int32)), .val (.ref w2)] [(.ref w3)])) _
    refine XS.astore X126.here hx rfl (hb hby d_prog_16_method_4_code_17) rfl rfl (l' := #[.val (.ref w15), .val (.ref r123), .val (.int (5 : Int32)), .val (.int (1 : Int32)), .val (.ref w3)]) rfl ?_
    show Steps p.tables e below (T126.setTop (mkF m 19 #[.val (.ref w15), .val (.ref r123), .val (.int (5 : Int32)), .val (.int (1 : Int32)), .val (.ref w3)] [])) _
    refine XS.aload X126.here hx rfl (hb hby d_prog_16_method_4_code_19) rfl rfl ?_
    show Steps p.tables e below (T126.setTop (mkF m 21 #[.val (.ref w15), .val (.ref r123), .val (.int (5 : Int32)), .val (.int (1 : Int32)), .val (.ref w3)] [(.ref w3)])) _
    refine st128 _ ?_
    show Steps p.tables e below (T128.setTop (mkF m 24 #[.val (.ref w15), .val (.ref r123), .val (.int (5 : Int32)), .val (.int (1 : Int32)), .val (.ref w3)] [(.ref w8)])) _
    refine XS.aloadN X128.here hx rfl (hb hby d_prog_16_method_4_code_24) rfl rfl ?_
    show Steps p.tables e below (T128.setTop (mkF m 25 #[.val (.ref w15), .val (.ref r123), .val (.int (5 : Int32)), .val (.int (1 : Int32)), .val (.ref w3)] [(.ref w15), (.ref w8)])) _
    refine Jvm.RoadKit.acmp (g := (mkF m 25 #[.val (.ref w15), .val (.ref r123), .val (.int (5 : Int32)), .val (.int (1 : Int32)), .val (.ref w3)] [(.ref w15), (.ref w8)])) X128 hx rfl rfl rfl (pc0 := 25) (pc' := 34) (same := false) rfl (hb hby d_prog_16_method_4_code_25) rfl (decide_eq_false fun q => (Fld.ne wF8_ordinal wF15_ordinal (fun q => absurd (Value.int.inj q) (by decide))) (Value.ref.inj q)) (by decide) (by decide) ?_
    show Steps p.tables e below (T128.setTop (mkF m 34 #[.val (.ref w15), .val (.ref r123), .val (.int (5 : Int32)), .val (.int (1 : Int32)), .val (.ref w3)] [])) _
    refine XS.iinc X128.here hx rfl (hb hby d_prog_16_method_4_code_34) rfl (l' := #[.val (.ref w15), .val (.ref r123), .val (.int (5 : Int32)), .val (.int (2 : Int32)), .val (.ref w3)]) rfl ?_
    show Steps p.tables e below (T128.setTop (mkF m 37 #[.val (.ref w15), .val (.ref r123), .val (.int (5 : Int32)), .val (.int (2 : Int32)), .val (.ref w3)] [])) _
    refine XS.goto X128.here hx rfl (pc0 := 37) (pc' := 9) rfl (hb hby d_prog_16_method_4_code_37) (by decide) (by decide) ?_
    show Steps p.tables e below (T128.setTop (mkF m 9 #[.val (.ref w15), .val (.ref r123), .val (.int (5 : Int32)), .val (.int (2 : Int32)), .val (.ref w3)] [])) _
    refine XS.iloadN X128.here hx rfl (hb hby d_prog_16_method_4_code_9) rfl ?_
    show Steps p.tables e below (T128.setTop (mkF m 10 #[.val (.ref w15), .val (.ref r123), .val (.int (5 : Int32)), .val (.int (2 : Int32)), .val (.ref w3)] [(.int (2 : Int32))])) _
    refine XS.iloadN X128.here hx rfl (hb hby d_prog_16_method_4_code_10) rfl ?_
    show Steps p.tables e below (T128.setTop (mkF m 11 #[.val (.ref w15), .val (.ref r123), .val (.int (5 : Int32)), .val (.int (2 : Int32)), .val (.ref w3)] [(.int (5 : Int32)), (.int (2 : Int32))])) _
    refine XS.icmpNo X128.here hx rfl (hb hby d_prog_16_method_4_code_11) rfl (by decide) ?_
    show Steps p.tables e below (T128.setTop (mkF m 14 #[.val (.ref w15), .val (.ref r123), .val (.int (5 : Int32)), .val (.int (2 : Int32)), .val (.ref w3)] [])) _
    refine XS.aloadN X128.here hx rfl (hb hby d_prog_16_method_4_code_14) rfl rfl ?_
    show Steps p.tables e below (T128.setTop (mkF m 15 #[.val (.ref w15), .val (.ref r123), .val (.int (5 : Int32)), .val (.int (2 : Int32)), .val (.ref w3)] [(.ref r123)])) _
    refine XS.iloadN X128.here hx rfl (hb hby d_prog_16_method_4_code_15) rfl ?_
    show Steps p.tables e below (T128.setTop (mkF m 16 #[.val (.ref w15), .val (.ref r123), .val (.int (5 : Int32)), .val (.int (2 : Int32)), .val (.ref w3)] [(.int (2 : Int32)), (.ref r123)])) _
    refine X128.aaload hx (j := (2 : Int32)) (v := (.ref w4)) (by rw [e128]; exact Ar129.1) (State.isArrayOf_alike hZ.alike Ar129.2.1) rfl Ar129.2.2 hin129 hat129 (g := (mkF m 16 #[.val (.ref w15), .val (.ref r123), .val (.int (5 : Int32)), .val (.int (2 : Int32)), .val (.ref w3)] [(.int (2 : Int32)), (.ref r123)])) rfl rfl (hb hby d_prog_16_method_4_code_16) _ ?_
    show Steps p.tables e below (T128.setTop (mkF m 17 #[.val (.ref w15), .val (.ref r123), .val (.int (5 : Int32)), .val (.int (2 : Int32)), .val (.ref w3)] [(.ref w4)])) _
    refine XS.astore X128.here hx rfl (hb hby d_prog_16_method_4_code_17) rfl rfl (l' := #[.val (.ref w15), .val (.ref r123), .val (.int (5 : Int32)), .val (.int (2 : Int32)), .val (.ref w4)]) rfl ?_
    show Steps p.tables e below (T128.setTop (mkF m 19 #[.val (.ref w15), .val (.ref r123), .val (.int (5 : Int32)), .val (.int (2 : Int32)), .val (.ref w4)] [])) _
    refine XS.aload X128.here hx rfl (hb hby d_prog_16_method_4_code_19) rfl rfl ?_
    show Steps p.tables e below (T128.setTop (mkF m 21 #[.val (.ref w15), .val (.ref r123), .val (.int (5 : Int32)), .val (.int (2 : Int32)), .val (.ref w4)] [(.ref w4)])) _
    refine st130 _ ?_
    show Steps p.tables e below (T130.setTop (mkF m 24 #[.val (.ref w15), .val (.ref r123), .val (.int (5 : Int32)), .val (.int (2 : Int32)), .val (.ref w4)] [(.ref w9)])) _
    refine XS.aloadN X130.here hx rfl (hb hby d_prog_16_method_4_code_24) rfl rfl ?_
    show Steps p.tables e below (T130.setTop (mkF m 25 #[.val (.ref w15), .val (.ref r123), .val (.int (5 : Int32)), .val (.int (2 : Int32)), .val (.ref w4)] [(.ref w15), (.ref w9)])) _
    refine Jvm.RoadKit.acmp (g := (mkF m 25 #[.val (.ref w15), .val (.ref r123), .val (.int (5 : Int32)), .val (.int (2 : Int32)), .val (.ref w4)] [(.ref w15), (.ref w9)])) X130 hx rfl rfl rfl (pc0 := 25) (pc' := 34) (same := false) rfl (hb hby d_prog_16_method_4_code_25) rfl (decide_eq_false fun q => (Fld.ne wF9_ordinal wF15_ordinal (fun q => absurd (Value.int.inj q) (by decide))) (Value.ref.inj q)) (by decide) (by decide) ?_
    show Steps p.tables e below (T130.setTop (mkF m 34 #[.val (.ref w15), .val (.ref r123), .val (.int (5 : Int32)), .val (.int (2 : Int32)), .val (.ref w4)] [])) _
    refine XS.iinc X130.here hx rfl (hb hby d_prog_16_method_4_code_34) rfl (l' := #[.val (.ref w15), .val (.ref r123), .val (.int (5 : Int32)), .val (.int (3 : Int32)), .val (.ref w4)]) rfl ?_
    show Steps p.tables e below (T130.setTop (mkF m 37 #[.val (.ref w15), .val (.ref r123), .val (.int (5 : Int32)), .val (.int (3 : Int32)), .val (.ref w4)] [])) _
    refine XS.goto X130.here hx rfl (pc0 := 37) (pc' := 9) rfl (hb hby d_prog_16_method_4_code_37) (by decide) (by decide) ?_
    show Steps p.tables e below (T130.setTop (mkF m 9 #[.val (.ref w15), .val (.ref r123), .val (.int (5 : Int32)), .val (.int (3 : Int32)), .val (.ref w4)] [])) _
    refine XS.iloadN X130.here hx rfl (hb hby d_prog_16_method_4_code_9) rfl ?_
    show Steps p.tables e below (T130.setTop (mkF m 10 #[.val (.ref w15), .val (.ref r123), .val (.int (5 : Int32)), .val (.int (3 : Int32)), .val (.ref w4)] [(.int (3 : Int32))])) _
    refine XS.iloadN X130.here hx rfl (hb hby d_prog_16_method_4_code_10) rfl ?_
    show Steps p.tables e below (T130.setTop (mkF m 11 #[.val (.ref w15), .val (.ref r123), .val (.int (5 : Int32)), .val (.int (3 : Int32)), .val (.ref w4)] [(.int (5 : Int32)), (.int (3 : Int32))])) _
    refine XS.icmpNo X130.here hx rfl (hb hby d_prog_16_method_4_code_11) rfl (by decide) ?_
    show Steps p.tables e below (T130.setTop (mkF m 14 #[.val (.ref w15), .val (.ref r123), .val (.int (5 : Int32)), .val (.int (3 : Int32)), .val (.ref w4)] [])) _
    refine XS.aloadN X130.here hx rfl (hb hby d_prog_16_method_4_code_14) rfl rfl ?_
    show Steps p.tables e below (T130.setTop (mkF m 15 #[.val (.ref w15), .val (.ref r123), .val (.int (5 : Int32)), .val (.int (3 : Int32)), .val (.ref w4)] [(.ref r123)])) _
    refine XS.iloadN X130.here hx rfl (hb hby d_prog_16_method_4_code_15) rfl ?_
    show Steps p.tables e below (T130.setTop (mkF m 16 #[.val (.ref w15), .val (.ref r123), .val (.int (5 : Int32)), .val (.int (3 : Int32)), .val (.ref w4)] [(.int (3 : Int32)), (.ref r123)])) _
    refine X130.aaload hx (j := (3 : Int32)) (v := (.ref w5)) (by rw [e130]; exact Ar131.1) (State.isArrayOf_alike hZ.alike Ar131.2.1) rfl Ar131.2.2 hin131 hat131 (g := (mkF m 16 #[.val (.ref w15), .val (.ref r123), .val (.int (5 : Int32)), .val (.int (3 : Int32)), .val (.ref w4)] [(.int (3 : Int32)), (.ref r123)])) rfl rfl (hb hby d_prog_16_method_4_code_16) _ ?_
    show Steps p.tables e below (T130.setTop (mkF m 17 #[.val (.ref w15), .val (.ref r123), .val (.int (5 : Int32)), .val (.int (3 : Int32)), .val (.ref w4)] [(.ref w5)])) _
    refine XS.astore X130.here hx rfl (hb hby d_prog_16_method_4_code_17) rfl rfl (l' := #[.val (.ref w15), .val (.ref r123), .val (.int (5 : Int32)), .val (.int (3 : Int32)), .val (.ref w5)]) rfl ?_
    show Steps p.tables e below (T130.setTop (mkF m 19 #[.val (.ref w15), .val (.ref r123), .val (.int (5 : Int32)), .val (.int (3 : Int32)), .val (.ref w5)] [])) _
    refine XS.aload X130.here hx rfl (hb hby d_prog_16_method_4_code_19) rfl rfl ?_
    show Steps p.tables e below (T130.setTop (mkF m 21 #[.val (.ref w15), .val (.ref r123), .val (.int (5 : Int32)), .val (.int (3 : Int32)), .val (.ref w5)] [(.ref w5)])) _
    refine st132 _ ?_
    show Steps p.tables e below (T132.setTop (mkF m 24 #[.val (.ref w15), .val (.ref r123), .val (.int (5 : Int32)), .val (.int (3 : Int32)), .val (.ref w5)] [(.ref w10)])) _
    refine XS.aloadN X132.here hx rfl (hb hby d_prog_16_method_4_code_24) rfl rfl ?_
    show Steps p.tables e below (T132.setTop (mkF m 25 #[.val (.ref w15), .val (.ref r123), .val (.int (5 : Int32)), .val (.int (3 : Int32)), .val (.ref w5)] [(.ref w15), (.ref w10)])) _
    refine Jvm.RoadKit.acmp (g := (mkF m 25 #[.val (.ref w15), .val (.ref r123), .val (.int (5 : Int32)), .val (.int (3 : Int32)), .val (.ref w5)] [(.ref w15), (.ref w10)])) X132 hx rfl rfl rfl (pc0 := 25) (pc' := 34) (same := false) rfl (hb hby d_prog_16_method_4_code_25) rfl (decide_eq_false fun q => (Fld.ne wF10_ordinal wF15_ordinal (fun q => absurd (Value.int.inj q) (by decide))) (Value.ref.inj q)) (by decide) (by decide) ?_
    show Steps p.tables e below (T132.setTop (mkF m 34 #[.val (.ref w15), .val (.ref r123), .val (.int (5 : Int32)), .val (.int (3 : Int32)), .val (.ref w5)] [])) _
    refine XS.iinc X132.here hx rfl (hb hby d_prog_16_method_4_code_34) rfl (l' := #[.val (.ref w15), .val (.ref r123), .val (.int (5 : Int32)), .val (.int (4 : Int32)), .val (.ref w5)]) rfl ?_
    show Steps p.tables e below (T132.setTop (mkF m 37 #[.val (.ref w15), .val (.ref r123), .val (.int (5 : Int32)), .val (.int (4 : Int32)), .val (.ref w5)] [])) _
    refine XS.goto X132.here hx rfl (pc0 := 37) (pc' := 9) rfl (hb hby d_prog_16_method_4_code_37) (by decide) (by decide) ?_
    show Steps p.tables e below (T132.setTop (mkF m 9 #[.val (.ref w15), .val (.ref r123), .val (.int (5 : Int32)), .val (.int (4 : Int32)), .val (.ref w5)] [])) _
    refine XS.iloadN X132.here hx rfl (hb hby d_prog_16_method_4_code_9) rfl ?_
    show Steps p.tables e below (T132.setTop (mkF m 10 #[.val (.ref w15), .val (.ref r123), .val (.int (5 : Int32)), .val (.int (4 : Int32)), .val (.ref w5)] [(.int (4 : Int32))])) _
    refine XS.iloadN X132.here hx rfl (hb hby d_prog_16_method_4_code_10) rfl ?_
    show Steps p.tables e below (T132.setTop (mkF m 11 #[.val (.ref w15), .val (.ref r123), .val (.int (5 : Int32)), .val (.int (4 : Int32)), .val (.ref w5)] [(.int (5 : Int32)), (.int (4 : Int32))])) _
    refine XS.icmpNo X132.here hx rfl (hb hby d_prog_16_method_4_code_11) rfl (by decide) ?_
    show Steps p.tables e below (T132.setTop (mkF m 14 #[.val (.ref w15), .val (.ref r123), .val (.int (5 : Int32)), .val (.int (4 : Int32)), .val (.ref w5)] [])) _
    refine XS.aloadN X132.here hx rfl (hb hby d_prog_16_method_4_code_14) rfl rfl ?_
    show Steps p.tables e below (T132.setTop (mkF m 15 #[.val (.ref w15), .val (.ref r123), .val (.int (5 : Int32)), .val (.int (4 : Int32)), .val (.ref w5)] [(.ref r123)])) _
    refine XS.iloadN X132.here hx rfl (hb hby d_prog_16_method_4_code_15) rfl ?_
    show Steps p.tables e below (T132.setTop (mkF m 16 #[.val (.ref w15), .val (.ref r123), .val (.int (5 : Int32)), .val (.int (4 : Int32)), .val (.ref w5)] [(.int (4 : Int32)), (.ref r123)])) _
    refine X132.aaload hx (j := (4 : Int32)) (v := (.ref w6)) (by rw [e132]; exact Ar133.1) (State.isArrayOf_alike hZ.alike Ar133.2.1) rfl Ar133.2.2 hin133 hat133 (g := (mkF m 16 #[.val (.ref w15), .val (.ref r123), .val (.int (5 : Int32)), .val (.int (4 : Int32)), .val (.ref w5)] [(.int (4 : Int32)), (.ref r123)])) rfl rfl (hb hby d_prog_16_method_4_code_16) _ ?_
    show Steps p.tables e below (T132.setTop (mkF m 17 #[.val (.ref w15), .val (.ref r123), .val (.int (5 : Int32)), .val (.int (4 : Int32)), .val (.ref w5)] [(.ref w6)])) _
    refine XS.astore X132.here hx rfl (hb hby d_prog_16_method_4_code_17) rfl rfl (l' := #[.val (.ref w15), .val (.ref r123), .val (.int (5 : Int32)), .val (.int (4 : Int32)), .val (.ref w6)]) rfl ?_
    show Steps p.tables e below (T132.setTop (mkF m 19 #[.val (.ref w15), .val (.ref r123), .val (.int (5 : Int32)), .val (.int (4 : Int32)), .val (.ref w6)] [])) _
    refine XS.aload X132.here hx rfl (hb hby d_prog_16_method_4_code_19) rfl rfl ?_
    show Steps p.tables e below (T132.setTop (mkF m 21 #[.val (.ref w15), .val (.ref r123), .val (.int (5 : Int32)), .val (.int (4 : Int32)), .val (.ref w6)] [(.ref w6)])) _
    refine st134 _ ?_
    show Steps p.tables e below (T134.setTop (mkF m 24 #[.val (.ref w15), .val (.ref r123), .val (.int (5 : Int32)), .val (.int (4 : Int32)), .val (.ref w6)] [(.ref w11)])) _
    refine XS.aloadN X134.here hx rfl (hb hby d_prog_16_method_4_code_24) rfl rfl ?_
    show Steps p.tables e below (T134.setTop (mkF m 25 #[.val (.ref w15), .val (.ref r123), .val (.int (5 : Int32)), .val (.int (4 : Int32)), .val (.ref w6)] [(.ref w15), (.ref w11)])) _
    refine Jvm.RoadKit.acmp (g := (mkF m 25 #[.val (.ref w15), .val (.ref r123), .val (.int (5 : Int32)), .val (.int (4 : Int32)), .val (.ref w6)] [(.ref w15), (.ref w11)])) X134 hx rfl rfl rfl (pc0 := 25) (pc' := 34) (same := false) rfl (hb hby d_prog_16_method_4_code_25) rfl (decide_eq_false fun q => (Fld.ne wF11_ordinal wF15_ordinal (fun q => absurd (Value.int.inj q) (by decide))) (Value.ref.inj q)) (by decide) (by decide) ?_
    show Steps p.tables e below (T134.setTop (mkF m 34 #[.val (.ref w15), .val (.ref r123), .val (.int (5 : Int32)), .val (.int (4 : Int32)), .val (.ref w6)] [])) _
    refine XS.iinc X134.here hx rfl (hb hby d_prog_16_method_4_code_34) rfl (l' := #[.val (.ref w15), .val (.ref r123), .val (.int (5 : Int32)), .val (.int (5 : Int32)), .val (.ref w6)]) rfl ?_
    show Steps p.tables e below (T134.setTop (mkF m 37 #[.val (.ref w15), .val (.ref r123), .val (.int (5 : Int32)), .val (.int (5 : Int32)), .val (.ref w6)] [])) _
    refine XS.goto X134.here hx rfl (pc0 := 37) (pc' := 9) rfl (hb hby d_prog_16_method_4_code_37) (by decide) (by decide) ?_
    show Steps p.tables e below (T134.setTop (mkF m 9 #[.val (.ref w15), .val (.ref r123), .val (.int (5 : Int32)), .val (.int (5 : Int32)), .val (.ref w6)] [])) _
    refine XS.iloadN X134.here hx rfl (hb hby d_prog_16_method_4_code_9) rfl ?_
    show Steps p.tables e below (T134.setTop (mkF m 10 #[.val (.ref w15), .val (.ref r123), .val (.int (5 : Int32)), .val (.int (5 : Int32)), .val (.ref w6)] [(.int (5 : Int32))])) _
    refine XS.iloadN X134.here hx rfl (hb hby d_prog_16_method_4_code_10) rfl ?_
    show Steps p.tables e below (T134.setTop (mkF m 11 #[.val (.ref w15), .val (.ref r123), .val (.int (5 : Int32)), .val (.int (5 : Int32)), .val (.ref w6)] [(.int (5 : Int32)), (.int (5 : Int32))])) _
    refine XS.icmpYes X134.here hx rfl (pc0 := 11) (pc' := 40) rfl (hb hby d_prog_16_method_4_code_11) rfl (by decide) (by decide) (by decide) ?_
    show Steps p.tables e below (T134.setTop (mkF m 40 #[.val (.ref w15), .val (.ref r123), .val (.int (5 : Int32)), .val (.int (5 : Int32)), .val (.ref w6)] [])) _
    refine st135 _ ?_
    show Steps p.tables e below (T135.setTop (mkF m 43 #[.val (.ref w15), .val (.ref r123), .val (.int (5 : Int32)), .val (.int (5 : Int32)), .val (.ref w6)] [(.ref w17)])) _
    exact retOut X135 hx (t := (.object "java/util/Optional")) (i := .areturn) Bd.returns rfl (Or.inr (Or.inr (Or.inr (Or.inr ⟨rfl, rfl, rfl⟩)))) (hb hby d_prog_16_method_4_code_43) hr
  · show Qerm29 Z w0 w1 w2 w3 w4 w5 w6 w7 w8 w9 w10 w11 w12 w13 w14 w15 w16 w17 h0 n0 _ T135.heap _
    rw [e135]
    exact ⟨rfl, N135, Kp123, O_123⟩
theorem d_method_3_code_53 : decode method_3_code 53 = .ok (.iload_n 0, 1) := by decide +kernel
theorem d_method_3_code_54 : decode method_3_code 54 = .ok (.bipush 6, 2) := by decide +kernel
theorem d_method_3_code_56 : decode method_3_code 56 = .ok (.if_icmp .ne 7, 3) := by decide +kernel
theorem d_method_3_code_59 : decode method_3_code 59 = .ok (.getstatic 51, 3) := by decide +kernel
theorem d_method_3_code_62 : decode method_3_code 62 = .ok (.areturn, 1) := by decide +kernel
theorem ef20 (m : MethodId)    : entryFrame m #[(.int (6 : Int32))] 1 = mkF m 0 #[.val (.int (6 : Int32))] [] := by first | (simp [entryFrame, mkF, argsToLocals, Value.category]; done) | rfl
set_option maxRecDepth 65536 in
set_option maxHeartbeats 40000000 in
theorem rm30 (l : Launch) (Z : State) (a0 : Array Value) (hw : ∀ d ∈ tables_1, d.before a0 Z = true) (ws : List Jvm.Cond) (w0 w1 w2 w3 w4 w5 w6 w7 w8 w9 w10 w11 w12 w13 w14 w15 w16 w17 : Addr) (h0 : Heap) (n0 : Nat) (hWd : Wd Z w0 w1 w2 w3 w4 w5 w6 w7 w8 w9 w10 w11 w12 w13 w14 w15 w16 w17) (O0 : Old Z n0 h0) :
    MetFree l (⟨"com/example/weaverbird/weaverbird/queues/RunActionOfPinLaw", "typeAt", "(I)Lcom/example/weaverbird/weaverbird/codes/CommandType;"⟩ : MethodName) (head1 (Jvm.Cond.code (⟨"com/example/weaverbird/weaverbird/queues/RunActionOfPinLaw", "typeAt", "(I)Lcom/example/weaverbird/weaverbird/codes/CommandType;"⟩ : MethodName) method_3_code 1 (some (.object "com/example/weaverbird/weaverbird/codes/CommandType")) :: ws) ({ frames := 0, cells := 0, slots := 0, locals := 0 } : Room)) (fun a U => a = #[(.int (6 : Int32))] ∧ Z.Warmed39 U.vm ∧ U.heap = h0) (fun _ _ _ _ _ => True) (fun _ U o U' => ∃ v L, o = .returned v ∧ Qp (some (.ref w16)) h0 n0 v U'.heap L ∧ FrameEnd U o U' L ({ frames := 0, cells := 0, slots := 0, locals := 0 } : Room).cells ({ frames := 0, cells := 0, slots := 0, locals := 0 } : Room).slots) := by
  refine MetFree.of_bodySF (plainFor_of_name pn0) hisR ?_
  intro p e s m args below meth c s₁ Bd hml0 hP hK
  obtain ⟨rfl, hZ, hh⟩ := hP
  have hx := Bd.exec
  have hby := Bd.bytes
  have hml : c.maxLocals = 1 := hml0
  have hown : s.vm.findClass "com/example/weaverbird/weaverbird/queues/RunActionOfPinLaw" = some m.cls := findClass_of_methodNamed Bd.named
  have hnm := (name_of_methodNamed Bd.named Bd.method).1
  have X0 : Stand p l e ({ frames := 0, cells := 0, slots := 0, locals := 0 } : Room) s m #[(.int (6 : Int32))] below meth c s₁ [] 0 0 := Stand.of_body Bd
  have e0 : s₁.heap = h0 := by rw [← hh, Bd.state]; rfl
  have N0 := Fr.nil n0
  have hlk := Bd.notSynchronized
  obtain ⟨wS0, wE0, wS1, wE1, wS2, wE2, wS3, wE3, wS4, wE4, wS5, wE5, wS6, wE6, wS7, wE7, wS8, wE8, wS9, wE9, wS10, wE10, wS11, wE11, wS12, wE12, wS13, wE13, wS14, wE14, wS15, wE15, wS16, wE16, wS17, wE17, wF2_type, wF7_ordinal, wF0_ordinal, wF3_type, wF8_ordinal, wF4_type, wF9_ordinal, wF5_type, wF10_ordinal, wF6_type, wF11_ordinal, wF12_ordinal, wF13_ordinal, wF14_ordinal, wF15_ordinal, wF16_ordinal, wF17_value, wA, -⟩ := id hWd
  have pre0 : ∀ t, Steps p.tables e below (s₁.setTop (mkF m 0 #[.val (.int (6 : Int32))] [])) t → Steps p.tables e below (s₁.setTop (entryFrame m #[(.int (6 : Int32))] 1)) t := fun t k => castTop (ef20 m ) k
  obtain ⟨T138, X138, e138, st138⟩ := getS2 X0 hx hZ hown (host := "") (Or.inl (hw _ (List.mem_of_getElem? (i := 88) rfl))) Via.refl e0 (wS16.ext O0.2) (g := (mkF m 59 #[.val (.int (6 : Int32))] [])) rfl (hb hby d_method_3_code_59)
  obtain ⟨fs, hr, hrun, hended, hWr, hsame⟩ := X138.leave (v := some (.ref w16)) (fun h => by rw [Bd.returns] at h; cases h) hlk
  refine ⟨_, _, pre0 _ ?_, hrun, hended, _, _, rfl, ?_, ⟨_, rfl⟩, hWr, hsame.mono (Nat.le_of_ble_eq_true rfl) (Nat.le_of_ble_eq_true rfl)⟩
  · show Steps p.tables e below (s₁.setTop (mkF m 0 #[.val (.int (6 : Int32))] [])) _
    refine XS.iloadN X0.here hx rfl (hb hby d_method_3_code_0) rfl ?_
    show Steps p.tables e below (s₁.setTop (mkF m 1 #[.val (.int (6 : Int32))] [(.int (6 : Int32))])) _
    refine XS.ifYes X0.here hx rfl (pc0 := 1) (pc' := 8) rfl (hb hby d_method_3_code_1) rfl (by decide) (by decide) (by decide) ?_
    show Steps p.tables e below (s₁.setTop (mkF m 8 #[.val (.int (6 : Int32))] [])) _
    refine XS.iloadN X0.here hx rfl (hb hby d_method_3_code_8) rfl ?_
    show Steps p.tables e below (s₁.setTop (mkF m 9 #[.val (.int (6 : Int32))] [(.int (6 : Int32))])) _
    refine XS.iconst X0.here hx rfl (hb hby d_method_3_code_9) ?_
    show Steps p.tables e below (s₁.setTop (mkF m 10 #[.val (.int (6 : Int32))] [(.int (1 : Int32)), (.int (6 : Int32))])) _
    refine XS.icmpYes X0.here hx rfl (pc0 := 10) (pc' := 17) rfl (hb hby d_method_3_code_10) rfl (by decide) (by decide) (by decide) ?_
    show Steps p.tables e below (s₁.setTop (mkF m 17 #[.val (.int (6 : Int32))] [])) _
    refine XS.iloadN X0.here hx rfl (hb hby d_method_3_code_17) rfl ?_
    show Steps p.tables e below (s₁.setTop (mkF m 18 #[.val (.int (6 : Int32))] [(.int (6 : Int32))])) _
    refine XS.iconst X0.here hx rfl (hb hby d_method_3_code_18) ?_
    show Steps p.tables e below (s₁.setTop (mkF m 19 #[.val (.int (6 : Int32))] [(.int (2 : Int32)), (.int (6 : Int32))])) _
    refine XS.icmpYes X0.here hx rfl (pc0 := 19) (pc' := 26) rfl (hb hby d_method_3_code_19) rfl (by decide) (by decide) (by decide) ?_
    show Steps p.tables e below (s₁.setTop (mkF m 26 #[.val (.int (6 : Int32))] [])) _
    refine XS.iloadN X0.here hx rfl (hb hby d_method_3_code_26) rfl ?_
    show Steps p.tables e below (s₁.setTop (mkF m 27 #[.val (.int (6 : Int32))] [(.int (6 : Int32))])) _
    refine XS.iconst X0.here hx rfl (hb hby d_method_3_code_27) ?_
    show Steps p.tables e below (s₁.setTop (mkF m 28 #[.val (.int (6 : Int32))] [(.int (3 : Int32)), (.int (6 : Int32))])) _
    refine XS.icmpYes X0.here hx rfl (pc0 := 28) (pc' := 35) rfl (hb hby d_method_3_code_28) rfl (by decide) (by decide) (by decide) ?_
    show Steps p.tables e below (s₁.setTop (mkF m 35 #[.val (.int (6 : Int32))] [])) _
    refine XS.iloadN X0.here hx rfl (hb hby d_method_3_code_35) rfl ?_
    show Steps p.tables e below (s₁.setTop (mkF m 36 #[.val (.int (6 : Int32))] [(.int (6 : Int32))])) _
    refine XS.iconst X0.here hx rfl (hb hby d_method_3_code_36) ?_
    show Steps p.tables e below (s₁.setTop (mkF m 37 #[.val (.int (6 : Int32))] [(.int (4 : Int32)), (.int (6 : Int32))])) _
    refine XS.icmpYes X0.here hx rfl (pc0 := 37) (pc' := 44) rfl (hb hby d_method_3_code_37) rfl (by decide) (by decide) (by decide) ?_
    show Steps p.tables e below (s₁.setTop (mkF m 44 #[.val (.int (6 : Int32))] [])) _
    refine XS.iloadN X0.here hx rfl (hb hby d_method_3_code_44) rfl ?_
    show Steps p.tables e below (s₁.setTop (mkF m 45 #[.val (.int (6 : Int32))] [(.int (6 : Int32))])) _
    refine XS.iconst X0.here hx rfl (hb hby d_method_3_code_45) ?_
    show Steps p.tables e below (s₁.setTop (mkF m 46 #[.val (.int (6 : Int32))] [(.int (5 : Int32)), (.int (6 : Int32))])) _
    refine XS.icmpYes X0.here hx rfl (pc0 := 46) (pc' := 53) rfl (hb hby d_method_3_code_46) rfl (by decide) (by decide) (by decide) ?_
    show Steps p.tables e below (s₁.setTop (mkF m 53 #[.val (.int (6 : Int32))] [])) _
    refine XS.iloadN X0.here hx rfl (hb hby d_method_3_code_53) rfl ?_
    show Steps p.tables e below (s₁.setTop (mkF m 54 #[.val (.int (6 : Int32))] [(.int (6 : Int32))])) _
    refine XS.bipush X0.here hx rfl (hb hby d_method_3_code_54) ?_
    show Steps p.tables e below (s₁.setTop (mkF m 56 #[.val (.int (6 : Int32))] [(.int (6 : Int32)), (.int (6 : Int32))])) _
    refine XS.icmpNo X0.here hx rfl (hb hby d_method_3_code_56) rfl (by decide) ?_
    show Steps p.tables e below (s₁.setTop (mkF m 59 #[.val (.int (6 : Int32))] [])) _
    refine st138 _ ?_
    show Steps p.tables e below (T138.setTop (mkF m 62 #[.val (.int (6 : Int32))] [(.ref w16)])) _
    exact retOut X138 hx (t := (.object "com/example/weaverbird/weaverbird/codes/CommandType")) (i := .areturn) Bd.returns rfl (Or.inr (Or.inr (Or.inr (Or.inr ⟨rfl, rfl, rfl⟩)))) (hb hby d_method_3_code_62) hr
  · show Qp (some (.ref w16)) h0 n0 _ T138.heap _
    rw [e138]
    exact ⟨rfl, N0, rfl⟩
set_option maxRecDepth 65536 in
set_option maxHeartbeats 40000000 in
theorem rm31 (l : Launch) (Z : State) (a0 : Array Value) (hw : ∀ d ∈ tables_1, d.before a0 Z = true) (ws : List Jvm.Cond) (w0 w1 w2 w3 w4 w5 w6 w7 w8 w9 w10 w11 w12 w13 w14 w15 w16 w17 : Addr) (h0 : Heap) (n0 : Nat) (hWd : Wd Z w0 w1 w2 w3 w4 w5 w6 w7 w8 w9 w10 w11 w12 w13 w14 w15 w16 w17) (O0 : Old Z n0 h0) :
    MetFree l (⟨"com/example/weaverbird/weaverbird/queues/RunActionOfPinLaw", "expectedFor", "(I)Lcom/example/weaverbird/weaverbird/queues/RunAction;"⟩ : MethodName) (head1 (Jvm.Cond.code (⟨"com/example/weaverbird/weaverbird/queues/RunActionOfPinLaw", "expectedFor", "(I)Lcom/example/weaverbird/weaverbird/queues/RunAction;"⟩ : MethodName) method_4_code 1 (some (.object "com/example/weaverbird/weaverbird/queues/RunAction")) :: ws) ({ frames := 0, cells := 0, slots := 0, locals := 0 } : Room)) (fun a U => a = #[(.int (6 : Int32))] ∧ Z.Warmed39 U.vm ∧ U.heap = h0) (fun _ _ _ _ _ => True) (fun _ U o U' => ∃ v L, o = .returned v ∧ Qp (some .null) h0 n0 v U'.heap L ∧ FrameEnd U o U' L ({ frames := 0, cells := 0, slots := 0, locals := 0 } : Room).cells ({ frames := 0, cells := 0, slots := 0, locals := 0 } : Room).slots) := by
  refine MetFree.of_bodySF (plainFor_of_name pn0) hisR ?_
  intro p e s m args below meth c s₁ Bd hml0 hP hK
  obtain ⟨rfl, hZ, hh⟩ := hP
  have hx := Bd.exec
  have hby := Bd.bytes
  have hml : c.maxLocals = 1 := hml0
  have hown : s.vm.findClass "com/example/weaverbird/weaverbird/queues/RunActionOfPinLaw" = some m.cls := findClass_of_methodNamed Bd.named
  have hnm := (name_of_methodNamed Bd.named Bd.method).1
  have X0 : Stand p l e ({ frames := 0, cells := 0, slots := 0, locals := 0 } : Room) s m #[(.int (6 : Int32))] below meth c s₁ [] 0 0 := Stand.of_body Bd
  have e0 : s₁.heap = h0 := by rw [← hh, Bd.state]; rfl
  have N0 := Fr.nil n0
  have hlk := Bd.notSynchronized
  obtain ⟨wS0, wE0, wS1, wE1, wS2, wE2, wS3, wE3, wS4, wE4, wS5, wE5, wS6, wE6, wS7, wE7, wS8, wE8, wS9, wE9, wS10, wE10, wS11, wE11, wS12, wE12, wS13, wE13, wS14, wE14, wS15, wE15, wS16, wE16, wS17, wE17, wF2_type, wF7_ordinal, wF0_ordinal, wF3_type, wF8_ordinal, wF4_type, wF9_ordinal, wF5_type, wF10_ordinal, wF6_type, wF11_ordinal, wF12_ordinal, wF13_ordinal, wF14_ordinal, wF15_ordinal, wF16_ordinal, wF17_value, wA, -⟩ := id hWd
  have pre0 : ∀ t, Steps p.tables e below (s₁.setTop (mkF m 0 #[.val (.int (6 : Int32))] [])) t → Steps p.tables e below (s₁.setTop (entryFrame m #[(.int (6 : Int32))] 1)) t := fun t k => castTop (ef20 m ) k
  obtain ⟨fs, hr, hrun, hended, hWr, hsame⟩ := X0.leave (v := some .null) (fun h => by rw [Bd.returns] at h; cases h) hlk
  refine ⟨_, _, pre0 _ ?_, hrun, hended, _, _, rfl, ?_, ⟨_, rfl⟩, hWr, hsame.mono (Nat.le_of_ble_eq_true rfl) (Nat.le_of_ble_eq_true rfl)⟩
  · show Steps p.tables e below (s₁.setTop (mkF m 0 #[.val (.int (6 : Int32))] [])) _
    refine XS.iloadN X0.here hx rfl (hb hby d_method_4_code_0) rfl ?_
    show Steps p.tables e below (s₁.setTop (mkF m 1 #[.val (.int (6 : Int32))] [(.int (6 : Int32))])) _
    refine XS.iconst X0.here hx rfl (hb hby d_method_4_code_1) ?_
    show Steps p.tables e below (s₁.setTop (mkF m 2 #[.val (.int (6 : Int32))] [(.int (3 : Int32)), (.int (6 : Int32))])) _
    refine XS.icmpYes X0.here hx rfl (pc0 := 2) (pc' := 9) rfl (hb hby d_method_4_code_2) rfl (by decide) (by decide) (by decide) ?_
    show Steps p.tables e below (s₁.setTop (mkF m 9 #[.val (.int (6 : Int32))] [])) _
    refine XS.iloadN X0.here hx rfl (hb hby d_method_4_code_9) rfl ?_
    show Steps p.tables e below (s₁.setTop (mkF m 10 #[.val (.int (6 : Int32))] [(.int (6 : Int32))])) _
    refine XS.iconst X0.here hx rfl (hb hby d_method_4_code_10) ?_
    show Steps p.tables e below (s₁.setTop (mkF m 11 #[.val (.int (6 : Int32))] [(.int (4 : Int32)), (.int (6 : Int32))])) _
    refine XS.icmpYes X0.here hx rfl (pc0 := 11) (pc' := 18) rfl (hb hby d_method_4_code_11) rfl (by decide) (by decide) (by decide) ?_
    show Steps p.tables e below (s₁.setTop (mkF m 18 #[.val (.int (6 : Int32))] [])) _
    refine XS.iloadN X0.here hx rfl (hb hby d_method_4_code_18) rfl ?_
    show Steps p.tables e below (s₁.setTop (mkF m 19 #[.val (.int (6 : Int32))] [(.int (6 : Int32))])) _
    refine XS.bipush X0.here hx rfl (hb hby d_method_4_code_19) ?_
    show Steps p.tables e below (s₁.setTop (mkF m 21 #[.val (.int (6 : Int32))] [(.int (7 : Int32)), (.int (6 : Int32))])) _
    refine XS.icmpYes X0.here hx rfl (pc0 := 21) (pc' := 28) rfl (hb hby d_method_4_code_21) rfl (by decide) (by decide) (by decide) ?_
    show Steps p.tables e below (s₁.setTop (mkF m 28 #[.val (.int (6 : Int32))] [])) _
    refine XS.iloadN X0.here hx rfl (hb hby d_method_4_code_28) rfl ?_
    show Steps p.tables e below (s₁.setTop (mkF m 29 #[.val (.int (6 : Int32))] [(.int (6 : Int32))])) _
    refine XS.bipush X0.here hx rfl (hb hby d_method_4_code_29) ?_
    show Steps p.tables e below (s₁.setTop (mkF m 31 #[.val (.int (6 : Int32))] [(.int (8 : Int32)), (.int (6 : Int32))])) _
    refine XS.icmpYes X0.here hx rfl (pc0 := 31) (pc' := 38) rfl (hb hby d_method_4_code_31) rfl (by decide) (by decide) (by decide) ?_
    show Steps p.tables e below (s₁.setTop (mkF m 38 #[.val (.int (6 : Int32))] [])) _
    refine XS.iloadN X0.here hx rfl (hb hby d_method_4_code_38) rfl ?_
    show Steps p.tables e below (s₁.setTop (mkF m 39 #[.val (.int (6 : Int32))] [(.int (6 : Int32))])) _
    refine XS.bipush X0.here hx rfl (hb hby d_method_4_code_39) ?_
    show Steps p.tables e below (s₁.setTop (mkF m 41 #[.val (.int (6 : Int32))] [(.int (9 : Int32)), (.int (6 : Int32))])) _
    refine XS.icmpYes X0.here hx rfl (pc0 := 41) (pc' := 48) rfl (hb hby d_method_4_code_41) rfl (by decide) (by decide) (by decide) ?_
    show Steps p.tables e below (s₁.setTop (mkF m 48 #[.val (.int (6 : Int32))] [])) _
    refine XS.aconstNull X0.here hx rfl (hb hby d_method_4_code_48) ?_
    show Steps p.tables e below (s₁.setTop (mkF m 49 #[.val (.int (6 : Int32))] [.null])) _
    exact retOut X0 hx (t := (.object "com/example/weaverbird/weaverbird/queues/RunAction")) (i := .areturn) Bd.returns rfl (Or.inr (Or.inr (Or.inr (Or.inr ⟨rfl, rfl, rfl⟩)))) (hb hby d_method_4_code_49) hr
  · show Qp (some .null) h0 n0 _ s₁.heap _
    rw [e0]
    exact ⟨rfl, N0, rfl⟩
theorem ef21 (m : MethodId)   (w16 : Addr) : entryFrame m #[(.ref w16)] 5 = mkF m 0 #[.val (.ref w16), .unset, .unset, .unset, .unset] [] := by first | (simp [entryFrame, mkF, argsToLocals, Value.category]; done) | rfl
def Qerm32 (Z : State) (w0 w1 w2 w3 w4 w5 w6 w7 w8 w9 w10 w11 w12 w13 w14 w15 w16 w17 : Addr) (h0 : Heap) (n0 : Nat) (v : Option Value) (h : Heap) (L : List Loc) : Prop := v = some (.ref w17) ∧ Fr n0 L ∧ Keep h0 h [] ∧ Old Z n0 h
set_option maxRecDepth 65536 in
set_option maxHeartbeats 40000000 in
theorem rm32 (l : Launch) (Z : State) (a0 : Array Value) (hw : ∀ d ∈ tables_1, d.before a0 Z = true) (ws : List Jvm.Cond) (w0 w1 w2 w3 w4 w5 w6 w7 w8 w9 w10 w11 w12 w13 w14 w15 w16 w17 : Addr) (h0 : Heap) (n0 : Nat) (hWd : Wd Z w0 w1 w2 w3 w4 w5 w6 w7 w8 w9 w10 w11 w12 w13 w14 w15 w16 w17) (O0 : Old Z n0 h0) :
    MetFree l (⟨"com/example/weaverbird/weaverbird/queues/RunAction", "of", "(Lcom/example/weaverbird/weaverbird/codes/CommandType;)Ljava/util/Optional;"⟩ : MethodName) (head1 (Jvm.Cond.code (⟨"com/example/weaverbird/weaverbird/queues/RunAction", "of", "(Lcom/example/weaverbird/weaverbird/codes/CommandType;)Ljava/util/Optional;"⟩ : MethodName) prog_16_method_4_code 5 (some (.object "java/util/Optional")) :: ws) ({ frames := 2, cells := 1, slots := 5, locals := 25 } : Room)) (fun a U => a = #[(.ref w16)] ∧ Z.Warmed39 U.vm ∧ U.heap = h0) (fun _ _ _ _ _ => True) (fun _ U o U' => ∃ v L, o = .returned v ∧ Qerm32 Z w0 w1 w2 w3 w4 w5 w6 w7 w8 w9 w10 w11 w12 w13 w14 w15 w16 w17 h0 n0 v U'.heap L ∧ FrameEnd U o U' L ({ frames := 2, cells := 1, slots := 5, locals := 25 } : Room).cells ({ frames := 2, cells := 1, slots := 5, locals := 25 } : Room).slots) := by
  refine MetFree.of_bodySF (plainFor_of_name pn1) hisR ?_
  intro p e s m args below meth c s₁ Bd hml0 hP hK
  obtain ⟨rfl, hZ, hh⟩ := hP
  have hx := Bd.exec
  have hby := Bd.bytes
  have hml : c.maxLocals = 5 := hml0
  have hown : s.vm.findClass "com/example/weaverbird/weaverbird/queues/RunAction" = some m.cls := findClass_of_methodNamed Bd.named
  have hnm := (name_of_methodNamed Bd.named Bd.method).1
  have X0 : Stand p l e ({ frames := 2, cells := 1, slots := 5, locals := 25 } : Room) s m #[(.ref w16)] below meth c s₁ [] 0 0 := Stand.of_body Bd
  have e0 : s₁.heap = h0 := by rw [← hh, Bd.state]; rfl
  have N0 := Fr.nil n0
  have hlk := Bd.notSynchronized
  obtain ⟨wS0, wE0, wS1, wE1, wS2, wE2, wS3, wE3, wS4, wE4, wS5, wE5, wS6, wE6, wS7, wE7, wS8, wE8, wS9, wE9, wS10, wE10, wS11, wE11, wS12, wE12, wS13, wE13, wS14, wE14, wS15, wE15, wS16, wE16, wS17, wE17, wF2_type, wF7_ordinal, wF0_ordinal, wF3_type, wF8_ordinal, wF4_type, wF9_ordinal, wF5_type, wF10_ordinal, wF6_type, wF11_ordinal, wF12_ordinal, wF13_ordinal, wF14_ordinal, wF15_ordinal, wF16_ordinal, wF17_value, wA, -⟩ := id hWd
  have pre0 : ∀ t, Steps p.tables e below (s₁.setTop (mkF m 0 #[.val (.ref w16), .unset, .unset, .unset, .unset] [])) t → Steps p.tables e below (s₁.setTop (entryFrame m #[(.ref w16)] 5)) t := fun t k => castTop (ef21 m w16) k
  obtain ⟨_, _, ⟨T141, L141, k141, n141⟩, -, X141, ⟨Lc141, hQ141, l141, y141, z141⟩, st141⟩ := Jvm.LawKit.callS X0 hx (y := (⟨"com/example/weaverbird/weaverbird/queues/RunAction", "values", "()[Lcom/example/weaverbird/weaverbird/queues/RunAction;"⟩ : MethodName)) hown (mvT hZ (hw _ (List.mem_of_getElem? (i := 15) rfl))) (mvT hZ (hw _ (List.mem_of_getElem? (i := 16) rfl))) (mvT hZ (hw _ (List.mem_of_getElem? (i := 13) rfl))) (mvT hZ (hw _ (List.mem_of_getElem? (i := 17) rfl))) (by decide) (backOf (W := 0) (rm4 l Z a0 hw [] w0 w1 w2 w3 w4 w5 w6 w7 w8 w9 w10 w11 w12 w13 w14 w15 w16 w17 h0 n0 hWd O0) hZ (hw _ (List.mem_of_getElem? (i := 17) rfl)) (hw _ (List.mem_of_getElem? (i := 13) rfl)) (by decide) (by decide)) (g := (mkF m 0 #[.val (.ref w16), .unset, .unset, .unset, .unset] [])) rfl (by rw [hml]; rfl) (argsL := []) (rest := []) (lenOf pd2 rfl) rfl (by show 2 * 0 + _ ≤ _; exact Nat.le_of_eq rfl) (hb hby d_prog_16_method_4_code_0) (fun _ _ => ⟨rfl, e0, (by decide : 0 + 1 ≤ _), (by decide : 0 + 5 ≤ _)⟩)
  dsimp only [Pt.U, Pt.locs, Pt.cells, Pt.slots] at X141 l141 y141 z141 st141 hQ141
  subst l141 y141 z141
  obtain ⟨r141, ka141, rfl, N141q, K141, O_141, V141, g_r141⟩ := hQ141
  have N141 := Fr.app N0 N141q
  have Kp141 : Keep h0 T141.heap [] := (Keep.refl h0 []).trans K141 all0
  obtain ⟨cl142, Ar142, q142, S142, M142, H142, G142⟩ := id V141
  obtain ⟨cl143, Ar143, q143, S143, M143, H143, G143⟩ := id V141
  have hin143 : ¬ ((0 : Int32) < 0 ∨ cl143.slots.size ≤ ((0 : Int32)).toNatClampNeg) := inb_of S143 ⟨by decide, by decide⟩
  have hat143 : cl143.slots[((0 : Int32)).toNatClampNeg]? = some (.ref w2) := Has.at H143 hin143 rfl
  obtain ⟨T144, X144, e144, st144⟩ := getF X141 hx hZ hown (host := "") (Or.inl (hw _ (List.mem_of_getElem? (i := 35) rfl))) Via.refl rfl (wF2_type.ext O_141.2) (g := (mkF m 21 #[.val (.ref w16), .val (.ref r141), .val (.int (5 : Int32)), .val (.int (0 : Int32)), .val (.ref w2)] [(.ref w2)])) rfl rfl (hb hby d_prog_16_method_4_code_21)
  obtain ⟨cl145, Ar145, q145, S145, M145, H145, G145⟩ := id V141
  have hin145 : ¬ ((1 : Int32) < 0 ∨ cl145.slots.size ≤ ((1 : Int32)).toNatClampNeg) := inb_of S145 ⟨by decide, by decide⟩
  have hat145 : cl145.slots[((1 : Int32)).toNatClampNeg]? = some (.ref w3) := Has.at H145 hin145 rfl
  obtain ⟨T146, X146, e146, st146⟩ := getF X144 hx hZ hown (host := "") (Or.inl (hw _ (List.mem_of_getElem? (i := 35) rfl))) Via.refl e144 (wF3_type.ext O_141.2) (g := (mkF m 21 #[.val (.ref w16), .val (.ref r141), .val (.int (5 : Int32)), .val (.int (1 : Int32)), .val (.ref w3)] [(.ref w3)])) rfl rfl (hb hby d_prog_16_method_4_code_21)
  obtain ⟨cl147, Ar147, q147, S147, M147, H147, G147⟩ := id V141
  have hin147 : ¬ ((2 : Int32) < 0 ∨ cl147.slots.size ≤ ((2 : Int32)).toNatClampNeg) := inb_of S147 ⟨by decide, by decide⟩
  have hat147 : cl147.slots[((2 : Int32)).toNatClampNeg]? = some (.ref w4) := Has.at H147 hin147 rfl
  obtain ⟨T148, X148, e148, st148⟩ := getF X146 hx hZ hown (host := "") (Or.inl (hw _ (List.mem_of_getElem? (i := 35) rfl))) Via.refl e146 (wF4_type.ext O_141.2) (g := (mkF m 21 #[.val (.ref w16), .val (.ref r141), .val (.int (5 : Int32)), .val (.int (2 : Int32)), .val (.ref w4)] [(.ref w4)])) rfl rfl (hb hby d_prog_16_method_4_code_21)
  obtain ⟨cl149, Ar149, q149, S149, M149, H149, G149⟩ := id V141
  have hin149 : ¬ ((3 : Int32) < 0 ∨ cl149.slots.size ≤ ((3 : Int32)).toNatClampNeg) := inb_of S149 ⟨by decide, by decide⟩
  have hat149 : cl149.slots[((3 : Int32)).toNatClampNeg]? = some (.ref w5) := Has.at H149 hin149 rfl
  obtain ⟨T150, X150, e150, st150⟩ := getF X148 hx hZ hown (host := "") (Or.inl (hw _ (List.mem_of_getElem? (i := 35) rfl))) Via.refl e148 (wF5_type.ext O_141.2) (g := (mkF m 21 #[.val (.ref w16), .val (.ref r141), .val (.int (5 : Int32)), .val (.int (3 : Int32)), .val (.ref w5)] [(.ref w5)])) rfl rfl (hb hby d_prog_16_method_4_code_21)
  obtain ⟨cl151, Ar151, q151, S151, M151, H151, G151⟩ := id V141
  have hin151 : ¬ ((4 : Int32) < 0 ∨ cl151.slots.size ≤ ((4 : Int32)).toNatClampNeg) := inb_of S151 ⟨by decide, by decide⟩
  have hat151 : cl151.slots[((4 : Int32)).toNatClampNeg]? = some (.ref w6) := Has.at H151 hin151 rfl
  obtain ⟨T152, X152, e152, st152⟩ := getF X150 hx hZ hown (host := "") (Or.inl (hw _ (List.mem_of_getElem? (i := 35) rfl))) Via.refl e150 (wF6_type.ext O_141.2) (g := (mkF m 21 #[.val (.ref w16), .val (.ref r141), .val (.int (5 : Int32)), .val (.int (4 : Int32)), .val (.ref w6)] [(.ref w6)])) rfl rfl (hb hby d_prog_16_method_4_code_21)
  obtain ⟨_, _, ⟨T153, L153, k153, n153⟩, -, X153, ⟨Lc153, hQ153, l153, y153, z153⟩, st153⟩ := Jvm.LawKit.callS X152 hx (y := (⟨"java/util/Optional", "empty", "()Ljava/util/Optional;"⟩ : MethodName)) hown (mvT hZ (hw _ (List.mem_of_getElem? (i := 42) rfl))) (mvT hZ (hw _ (List.mem_of_getElem? (i := 43) rfl))) (mvT hZ (hw _ (List.mem_of_getElem? (i := 44) rfl))) (mvT hZ (hw _ (List.mem_of_getElem? (i := 45) rfl))) (by decide) (backOf (W := 0) (rm5 l Z a0 hw [] w0 w1 w2 w3 w4 w5 w6 w7 w8 w9 w10 w11 w12 w13 w14 w15 w16 w17 T141.heap n0 hWd O_141) hZ (hw _ (List.mem_of_getElem? (i := 45) rfl)) (hw _ (List.mem_of_getElem? (i := 44) rfl)) (by decide) (by decide)) (g := (mkF m 40 #[.val (.ref w16), .val (.ref r141), .val (.int (5 : Int32)), .val (.int (5 : Int32)), .val (.ref w6)] [])) rfl (by rw [hml]; rfl) (argsL := []) (rest := []) (lenOf pd3 rfl) rfl (by show 2 * 0 + _ ≤ _; exact Nat.le_of_eq rfl) (hb hby d_prog_16_method_4_code_40) (fun _ _ => ⟨rfl, e152, (by decide : 1 + 0 ≤ _), (by decide : 5 + 0 ≤ _)⟩)
  dsimp only [Pt.U, Pt.locs, Pt.cells, Pt.slots] at X153 l153 y153 z153 st153 hQ153
  subst l153 y153 z153
  obtain ⟨rfl, N153q, e153⟩ := hQ153
  have N153 := Fr.app N141 N153q
  obtain ⟨fs, hr, hrun, hended, hWr, hsame⟩ := X153.leave (v := some (.ref w17)) (fun h => by rw [Bd.returns] at h; cases h) hlk
  refine ⟨_, _, pre0 _ ?_, hrun, hended, _, _, rfl, ?_, ⟨_, rfl⟩, hWr, hsame.mono (Nat.le_of_ble_eq_true rfl) (Nat.le_of_ble_eq_true rfl)⟩
  · show Steps p.tables e below (s₁.setTop (mkF m 0 #[.val (.ref w16), .unset, .unset, .unset, .unset] [])) _
    refine st141 _ ?_
    show Steps p.tables e below (T141.setTop (mkF m 3 #[.val (.ref w16), .unset, .unset, .unset, .unset] [(.ref r141)])) _
    refine XS.astoreN X141.here hx rfl (hb hby d_prog_16_method_4_code_3) rfl rfl (l' := #[.val (.ref w16), .val (.ref r141), .unset, .unset, .unset]) rfl ?_
    show Steps p.tables e below (T141.setTop (mkF m 4 #[.val (.ref w16), .val (.ref r141), .unset, .unset, .unset] [])) _
    refine XS.aloadN X141.here hx rfl (hb hby d_prog_16_method_4_code_4) rfl rfl ?_
    show Steps p.tables e below (T141.setTop (mkF m 5 #[.val (.ref w16), .val (.ref r141), .unset, .unset, .unset] [(.ref r141)])) _
    refine X141.arraylength hx Ar142.1 (State.isArrayOf_alike hZ.alike Ar142.2.1) (g := (mkF m 5 #[.val (.ref w16), .val (.ref r141), .unset, .unset, .unset] [(.ref r141)])) rfl rfl (hb hby d_prog_16_method_4_code_5) _ ?_
    rw [len_of S142 M142]
    show Steps p.tables e below (T141.setTop (mkF m 6 #[.val (.ref w16), .val (.ref r141), .unset, .unset, .unset] [(.int (5 : Int32))])) _
    refine XS.istoreN X141.here hx rfl (hb hby d_prog_16_method_4_code_6) rfl (l' := #[.val (.ref w16), .val (.ref r141), .val (.int (5 : Int32)), .unset, .unset]) rfl ?_
    show Steps p.tables e below (T141.setTop (mkF m 7 #[.val (.ref w16), .val (.ref r141), .val (.int (5 : Int32)), .unset, .unset] [])) _
    refine XS.iconst X141.here hx rfl (hb hby d_prog_16_method_4_code_7) ?_
    show Steps p.tables e below (T141.setTop (mkF m 8 #[.val (.ref w16), .val (.ref r141), .val (.int (5 : Int32)), .unset, .unset] [(.int (0 : Int32))])) _
    refine XS.istoreN X141.here hx rfl (hb hby d_prog_16_method_4_code_8) rfl (l' := #[.val (.ref w16), .val (.ref r141), .val (.int (5 : Int32)), .val (.int (0 : Int32)), .unset]) rfl ?_
    show Steps p.tables e below (T141.setTop (mkF m 9 #[.val (.ref w16), .val (.ref r141), .val (.int (5 : Int32)), .val (.int (0 : Int32)), .unset] [])) _
    refine XS.iloadN X141.here hx rfl (hb hby d_prog_16_method_4_code_9) rfl ?_
    show Steps p.tables e below (T141.setTop (mkF m 10 #[.val (.ref w16), .val (.ref r141), .val (.int (5 : Int32)), .val (.int (0 : Int32)), .unset] [(.int (0 : Int32))])) _
    refine XS.iloadN X141.here hx rfl (hb hby d_prog_16_method_4_code_10) rfl ?_
    show Steps p.tables e below (T141.setTop (mkF m 11 #[.val (.ref w16), .val (.ref r141), .val (.int (5 : Int32)), .val (.int (0 : Int32)), .unset] [(.int (5 : Int32)), (.int (0 : Int32))])) _
    refine XS.icmpNo X141.here hx rfl (hb hby d_prog_16_method_4_code_11) rfl (by decide) ?_
    show Steps p.tables e below (T141.setTop (mkF m 14 #[.val (.ref w16), .val (.ref r141), .val (.int (5 : Int32)), .val (.int (0 : Int32)), .unset] [])) _
    refine XS.aloadN X141.here hx rfl (hb hby d_prog_16_method_4_code_14) rfl rfl ?_
    show Steps p.tables e below (T141.setTop (mkF m 15 #[.val (.ref w16), .val (.ref r141), .val (.int (5 : Int32)), .val (.int (0 : Int32)), .unset] [(.ref r141)])) _
    refine XS.iloadN X141.here hx rfl (hb hby d_prog_16_method_4_code_15) rfl ?_
    show Steps p.tables e below (T141.setTop (mkF m 16 #[.val (.ref w16), .val (.ref r141), .val (.int (5 : Int32)), .val (.int (0 : Int32)), .unset] [(.int (0 : Int32)), (.ref r141)])) _
    refine X141.aaload hx (j := (0 : Int32)) (v := (.ref w2)) Ar143.1 (State.isArrayOf_alike hZ.alike Ar143.2.1) rfl Ar143.2.2 hin143 hat143 (g := (mkF m 16 #[.val (.ref w16), .val (.ref r141), .val (.int (5 : Int32)), .val (.int (0 : Int32)), .unset] [(.int (0 : Int32)), (.ref r141)])) rfl rfl (hb hby d_prog_16_method_4_code_16) _ ?_
    show Steps p.tables e below (T141.setTop (mkF m 17 #[.val (.ref w16), .val (.ref r141), .val (.int (5 : Int32)), .val (.int (0 : Int32)), .unset] [(.ref w2)])) _
    refine XS.astore X141.here hx rfl (hb hby d_prog_16_method_4_code_17) rfl rfl (l' := #[.val (.ref w16), .val (.ref r141), .val (.int (5 : Int32)), .val (.int (0 : Int32)), .val (.ref w2)]) rfl ?_
    show Steps p.tables e below (T141.setTop (mkF m 19 #[.val (.ref w16), .val (.ref r141), .val (.int (5 : Int32)), .val (.int (0 : Int32)), .val (.ref w2)] [])) _
    refine XS.aload X141.here hx rfl (hb hby d_prog_16_method_4_code_19) rfl rfl ?_
    show Steps p.tables e below (T141.setTop (mkF m 21 #[.val (.ref w16), .val (.ref r141), .val (.int (5 : Int32)), .val (.int (0 : Int32)), .val (.ref w2)] [(.ref w2)])) _
    refine st144 _ ?_
    show Steps p.tables e below (T144.setTop (mkF m 24 #[.val (.ref w16), .val (.ref r141), .val (.int (5 : Int32)), .val (.int (0 : Int32)), .val (.ref w2)] [(.ref w7)])) _
    refine XS.aloadN X144.here hx rfl (hb hby d_prog_16_method_4_code_24) rfl rfl ?_
    show Steps p.tables e below (T144.setTop (mkF m 25 #[.val (.ref w16), .val (.ref r141), .val (.int (5 : Int32)), .val (.int (0 : Int32)), .val (.ref w2)] [(.ref w16), (.ref w7)])) _
    refine Jvm.RoadKit.acmp (g := (mkF m 25 #[.val (.ref w16), .val (.ref r141), .val (.int (5 : Int32)), .val (.int (0 : Int32)), .val (.ref w2)] [(.ref w16), (.ref w7)])) X144 hx rfl rfl rfl (pc0 := 25) (pc' := 34) (same := false) rfl (hb hby d_prog_16_method_4_code_25) rfl (decide_eq_false fun q => (Fld.ne wF7_ordinal wF16_ordinal (fun q => absurd (Value.int.inj q) (by decide))) (Value.ref.inj q)) (by decide) (by decide) ?_
    show Steps p.tables e below (T144.setTop (mkF m 34 #[.val (.ref w16), .val (.ref r141), .val (.int (5 : Int32)), .val (.int (0 : Int32)), .val (.ref w2)] [])) _
    refine XS.iinc X144.here hx rfl (hb hby d_prog_16_method_4_code_34) rfl (l' := #[.val (.ref w16), .val (.ref r141), .val (.int (5 : Int32)), .val (.int (1 : Int32)), .val (.ref w2)]) rfl ?_
    show Steps p.tables e below (T144.setTop (mkF m 37 #[.val (.ref w16), .val (.ref r141), .val (.int (5 : Int32)), .val (.int (1 : Int32)), .val (.ref w2)] [])) _
    refine XS.goto X144.here hx rfl (pc0 := 37) (pc' := 9) rfl (hb hby d_prog_16_method_4_code_37) (by decide) (by decide) ?_
    show Steps p.tables e below (T144.setTop (mkF m 9 #[.val (.ref w16), .val (.ref r141), .val (.int (5 : Int32)), .val (.int (1 : Int32)), .val (.ref w2)] [])) _
    refine XS.iloadN X144.here hx rfl (hb hby d_prog_16_method_4_code_9) rfl ?_
    show Steps p.tables e below (T144.setTop (mkF m 10 #[.val (.ref w16), .val (.ref r141), .val (.int (5 : Int32)), .val (.int (1 : Int32)), .val (.ref w2)] [(.int (1 : Int32))])) _
    refine XS.iloadN X144.here hx rfl (hb hby d_prog_16_method_4_code_10) rfl ?_
    show Steps p.tables e below (T144.setTop (mkF m 11 #[.val (.ref w16), .val (.ref r141), .val (.int (5 : Int32)), .val (.int (1 : Int32)), .val (.ref w2)] [(.int (5 : Int32)), (.int (1 : Int32))])) _
    refine XS.icmpNo X144.here hx rfl (hb hby d_prog_16_method_4_code_11) rfl (by decide) ?_
    show Steps p.tables e below (T144.setTop (mkF m 14 #[.val (.ref w16), .val (.ref r141), .val (.int (5 : Int32)), .val (.int (1 : Int32)), .val (.ref w2)] [])) _
    refine XS.aloadN X144.here hx rfl (hb hby d_prog_16_method_4_code_14) rfl rfl ?_
    show Steps p.tables e below (T144.setTop (mkF m 15 #[.val (.ref w16), .val (.ref r141), .val (.int (5 : Int32)), .val (.int (1 : Int32)), .val (.ref w2)] [(.ref r141)])) _
    refine XS.iloadN X144.here hx rfl (hb hby d_prog_16_method_4_code_15) rfl ?_
    show Steps p.tables e below (T144.setTop (mkF m 16 #[.val (.ref w16), .val (.ref r141), .val (.int (5 : Int32)), .val (.int (1 : Int32)), .val (.ref w2)] [(.int (1 : Int32)), (.ref r141)])) _
    refine X144.aaload hx (j := (1 : Int32)) (v := (.ref w3)) (by rw [e144]; exact Ar145.1) (State.isArrayOf_alike hZ.alike Ar145.2.1) rfl Ar145.2.2 hin145 hat145 (g := (mkF m 16 #[.val (.ref w16), .val (.ref r141), .val (.int (5 : Int32)), .val (.int (1 : Int32)), .val (.ref w2)] [(.int (1 : Int32)), (.ref r141)])) rfl rfl (hb hby d_prog_16_method_4_code_16) _ ?_
    show Steps p.tables e below (T144.setTop (mkF m 17 #[.val (.ref w16), .val (.ref r141), .val (.int (5 : Int32)), .val (.int (1 : Int32)), .val (.ref w2)] [(.ref w3)])) _
    refine XS.astore X144.here hx rfl (hb hby d_prog_16_method_4_code_17) rfl rfl (l' := #[.val (.ref w16), .val (.ref r141), .val (.int (5 : Int32)), .val (.int (1 : Int32)), .val (.ref w3)]) rfl ?_
    show Steps p.tables e below (T144.setTop (mkF m 19 #[.val (.ref w16), .val (.ref r141), .val (.int (5 : Int32)), .val (.int (1 : Int32)), .val (.ref w3)] [])) _
    refine XS.aload X144.here hx rfl (hb hby d_prog_16_method_4_code_19) rfl rfl ?_
    show Steps p.tables e below (T144.setTop (mkF m 21 #[.val (.ref w16), .val (.ref r141), .val (.int (5 : Int32)), .val (.int (1 : Int32)), .val (.ref w3)] [(.ref w3)])) _
    refine st146 _ ?_
    show Steps p.tables e below (T146.setTop (mkF m 24 #[.val (.ref w16), .val (.ref r141), .val (.int (5 : Int32)), .val (.int (1 : Int32)), .val (.ref w3)] [(.ref w8)])) _
    refine XS.aloadN X146.here hx rfl (hb hby d_prog_16_method_4_code_24) rfl rfl ?_
    show Steps p.tables e below (T146.setTop (mkF m 25 #[.val (.ref w16), .val (.ref r141), .val (.int (5 : Int32)), .val (.int (1 : Int32)), .val (.ref w3)] [(.ref w16), (.ref w8)])) _
    refine Jvm.RoadKit.acmp (g := (mkF m 25 #[.val (.ref w16), .val (.ref r141), .val (.int (5 : Int32)), .val (.int (1 : Int32)), .val (.ref w3)] [(.ref w16), (.ref w8)])) X146 hx rfl rfl rfl (pc0 := 25) (pc' := 34) (same := false) rfl (hb hby d_prog_16_method_4_code_25) rfl (decide_eq_false fun q => (Fld.ne wF8_ordinal wF16_ordinal (fun q => absurd (Value.int.inj q) (by decide))) (Value.ref.inj q)) (by decide) (by decide) ?_
    show Steps p.tables e below (T146.setTop (mkF m 34 #[.val (.ref w16), .val (.ref r141), .val (.int (5 : Int32)), .val (.int (1 : Int32)), .val (.ref w3)] [])) _
    refine XS.iinc X146.here hx rfl (hb hby d_prog_16_method_4_code_34) rfl (l' := #[.val (.ref w16), .val (.ref r141), .val (.int (5 : Int32)), .val (.int (2 : Int32)), .val (.ref w3)]) rfl ?_
    show Steps p.tables e below (T146.setTop (mkF m 37 #[.val (.ref w16), .val (.ref r141), .val (.int (5 : Int32)), .val (.int (2 : Int32)), .val (.ref w3)] [])) _
    refine XS.goto X146.here hx rfl (pc0 := 37) (pc' := 9) rfl (hb hby d_prog_16_method_4_code_37) (by decide) (by decide) ?_
    show Steps p.tables e below (T146.setTop (mkF m 9 #[.val (.ref w16), .val (.ref r141), .val (.int (5 : Int32)), .val (.int (2 : Int32)), .val (.ref w3)] [])) _
    refine XS.iloadN X146.here hx rfl (hb hby d_prog_16_method_4_code_9) rfl ?_
    show Steps p.tables e below (T146.setTop (mkF m 10 #[.val (.ref w16), .val (.ref r141), .val (.int (5 : Int32)), .val (.int (2 : Int32)), .val (.ref w3)] [(.int (2 : Int32))])) _
    refine XS.iloadN X146.here hx rfl (hb hby d_prog_16_method_4_code_10) rfl ?_
    show Steps p.tables e below (T146.setTop (mkF m 11 #[.val (.ref w16), .val (.ref r141), .val (.int (5 : Int32)), .val (.int (2 : Int32)), .val (.ref w3)] [(.int (5 : Int32)), (.int (2 : Int32))])) _
    refine XS.icmpNo X146.here hx rfl (hb hby d_prog_16_method_4_code_11) rfl (by decide) ?_
    show Steps p.tables e below (T146.setTop (mkF m 14 #[.val (.ref w16), .val (.ref r141), .val (.int (5 : Int32)), .val (.int (2 : Int32)), .val (.ref w3)] [])) _
    refine XS.aloadN X146.here hx rfl (hb hby d_prog_16_method_4_code_14) rfl rfl ?_
    show Steps p.tables e below (T146.setTop (mkF m 15 #[.val (.ref w16), .val (.ref r141), .val (.int (5 : Int32)), .val (.int (2 : Int32)), .val (.ref w3)] [(.ref r141)])) _
    refine XS.iloadN X146.here hx rfl (hb hby d_prog_16_method_4_code_15) rfl ?_
    show Steps p.tables e below (T146.setTop (mkF m 16 #[.val (.ref w16), .val (.ref r141), .val (.int (5 : Int32)), .val (.int (2 : Int32)), .val (.ref w3)] [(.int (2 : Int32)), (.ref r141)])) _
    refine X146.aaload hx (j := (2 : Int32)) (v := (.ref w4)) (by rw [e146]; exact Ar147.1) (State.isArrayOf_alike hZ.alike Ar147.2.1) rfl Ar147.2.2 hin147 hat147 (g := (mkF m 16 #[.val (.ref w16), .val (.ref r141), .val (.int (5 : Int32)), .val (.int (2 : Int32)), .val (.ref w3)] [(.int (2 : Int32)), (.ref r141)])) rfl rfl (hb hby d_prog_16_method_4_code_16) _ ?_
    show Steps p.tables e below (T146.setTop (mkF m 17 #[.val (.ref w16), .val (.ref r141), .val (.int (5 : Int32)), .val (.int (2 : Int32)), .val (.ref w3)] [(.ref w4)])) _
    refine XS.astore X146.here hx rfl (hb hby d_prog_16_method_4_code_17) rfl rfl (l' := #[.val (.ref w16), .val (.ref r141), .val (.int (5 : Int32)), .val (.int (2 : Int32)), .val (.ref w4)]) rfl ?_
    show Steps p.tables e below (T146.setTop (mkF m 19 #[.val (.ref w16), .val (.ref r141), .val (.int (5 : Int32)), .val (.int (2 : Int32)), .val (.ref w4)] [])) _
    refine XS.aload X146.here hx rfl (hb hby d_prog_16_method_4_code_19) rfl rfl ?_
    show Steps p.tables e below (T146.setTop (mkF m 21 #[.val (.ref w16), .val (.ref r141), .val (.int (5 : Int32)), .val (.int (2 : Int32)), .val (.ref w4)] [(.ref w4)])) _
    refine st148 _ ?_
    show Steps p.tables e below (T148.setTop (mkF m 24 #[.val (.ref w16), .val (.ref r141), .val (.int (5 : Int32)), .val (.int (2 : Int32)), .val (.ref w4)] [(.ref w9)])) _
    refine XS.aloadN X148.here hx rfl (hb hby d_prog_16_method_4_code_24) rfl rfl ?_
    show Steps p.tables e below (T148.setTop (mkF m 25 #[.val (.ref w16), .val (.ref r141), .val (.int (5 : Int32)), .val (.int (2 : Int32)), .val (.ref w4)] [(.ref w16), (.ref w9)])) _
    refine Jvm.RoadKit.acmp (g := (mkF m 25 #[.val (.ref w16), .val (.ref r141), .val (.int (5 : Int32)), .val (.int (2 : Int32)), .val (.ref w4)] [(.ref w16), (.ref w9)])) X148 hx rfl rfl rfl (pc0 := 25) (pc' := 34) (same := false) rfl (hb hby d_prog_16_method_4_code_25) rfl (decide_eq_false fun q => (Fld.ne wF9_ordinal wF16_ordinal (fun q => absurd (Value.int.inj q) (by decide))) (Value.ref.inj q)) (by decide) (by decide) ?_
    show Steps p.tables e below (T148.setTop (mkF m 34 #[.val (.ref w16), .val (.ref r141), .val (.int (5 : Int32)), .val (.int (2 : Int32)), .val (.ref w4)] [])) _
    refine XS.iinc X148.here hx rfl (hb hby d_prog_16_method_4_code_34) rfl (l' := #[.val (.ref w16), .val (.ref r141), .val (.int (5 : Int32)), .val (.int (3 : Int32)), .val (.ref w4)]) rfl ?_
    show Steps p.tables e below (T148.setTop (mkF m 37 #[.val (.ref w16), .val (.ref r141), .val (.int (5 : Int32)), .val (.int (3 : Int32)), .val (.ref w4)] [])) _
    refine XS.goto X148.here hx rfl (pc0 := 37) (pc' := 9) rfl (hb hby d_prog_16_method_4_code_37) (by decide) (by decide) ?_
    show Steps p.tables e below (T148.setTop (mkF m 9 #[.val (.ref w16), .val (.ref r141), .val (.int (5 : Int32)), .val (.int (3 : Int32)), .val (.ref w4)] [])) _
    refine XS.iloadN X148.here hx rfl (hb hby d_prog_16_method_4_code_9) rfl ?_
    show Steps p.tables e below (T148.setTop (mkF m 10 #[.val (.ref w16), .val (.ref r141), .val (.int (5 : Int32)), .val (.int (3 : Int32)), .val (.ref w4)] [(.int (3 : Int32))])) _
    refine XS.iloadN X148.here hx rfl (hb hby d_prog_16_method_4_code_10) rfl ?_
    show Steps p.tables e below (T148.setTop (mkF m 11 #[.val (.ref w16), .val (.ref r141), .val (.int (5 : Int32)), .val (.int (3 : Int32)), .val (.ref w4)] [(.int (5 : Int32)), (.int (3 : Int32))])) _
    refine XS.icmpNo X148.here hx rfl (hb hby d_prog_16_method_4_code_11) rfl (by decide) ?_
    show Steps p.tables e below (T148.setTop (mkF m 14 #[.val (.ref w16), .val (.ref r141), .val (.int (5 : Int32)), .val (.int (3 : Int32)), .val (.ref w4)] [])) _
    refine XS.aloadN X148.here hx rfl (hb hby d_prog_16_method_4_code_14) rfl rfl ?_
    show Steps p.tables e below (T148.setTop (mkF m 15 #[.val (.ref w16), .val (.ref r141), .val (.int (5 : Int32)), .val (.int (3 : Int32)), .val (.ref w4)] [(.ref r141)])) _
    refine XS.iloadN X148.here hx rfl (hb hby d_prog_16_method_4_code_15) rfl ?_
    show Steps p.tables e below (T148.setTop (mkF m 16 #[.val (.ref w16), .val (.ref r141), .val (.int (5 : Int32)), .val (.int (3 : Int32)), .val (.ref w4)] [(.int (3 : Int32)), (.ref r141)])) _
    refine X148.aaload hx (j := (3 : Int32)) (v := (.ref w5)) (by rw [e148]; exact Ar149.1) (State.isArrayOf_alike hZ.alike Ar149.2.1) rfl Ar149.2.2 hin149 hat149 (g := (mkF m 16 #[.val (.ref w16), .val (.ref r141), .val (.int (5 : Int32)), .val (.int (3 : Int32)), .val (.ref w4)] [(.int (3 : Int32)), (.ref r141)])) rfl rfl (hb hby d_prog_16_method_4_code_16) _ ?_
    show Steps p.tables e below (T148.setTop (mkF m 17 #[.val (.ref w16), .val (.ref r141), .val (.int (5 : Int32)), .val (.int (3 : Int32)), .val (.ref w4)] [(.ref w5)])) _
    refine XS.astore X148.here hx rfl (hb hby d_prog_16_method_4_code_17) rfl rfl (l' := #[.val (.ref w16), .val (.ref r141), .val (.int (5 : Int32)), .val (.int (3 : Int32)), .val (.ref w5)]) rfl ?_
    show Steps p.tables e below (T148.setTop (mkF m 19 #[.val (.ref w16), .val (.ref r141), .val (.int (5 : Int32)), .val (.int (3 : Int32)), .val (.ref w5)] [])) _
    refine XS.aload X148.here hx rfl (hb hby d_prog_16_method_4_code_19) rfl rfl ?_
    show Steps p.tables e below (T148.setTop (mkF m 21 #[.val (.ref w16), .val (.ref r141), .val (.int (5 : Int32)), .val (.int (3 : Int32)), .val (.ref w5)] [(.ref w5)])) _
    refine st150 _ ?_
    show Steps p.tables e below (T150.setTop (mkF m 24 #[.val (.ref w16), .val (.ref r141), .val (.int (5 : Int32)), .val (.int (3 : Int32)), .val (.ref w5)] [(.ref w10)])) _
    refine XS.aloadN X150.here hx rfl (hb hby d_prog_16_method_4_code_24) rfl rfl ?_
    show Steps p.tables e below (T150.setTop (mkF m 25 #[.val (.ref w16), .val (.ref r141), .val (.int (5 : Int32)), .val (.int (3 : Int32)), .val (.ref w5)] [(.ref w16), (.ref w10)])) _
    refine Jvm.RoadKit.acmp (g := (mkF m 25 #[.val (.ref w16), .val (.ref r141), .val (.int (5 : Int32)), .val (.int (3 : Int32)), .val (.ref w5)] [(.ref w16), (.ref w10)])) X150 hx rfl rfl rfl (pc0 := 25) (pc' := 34) (same := false) rfl (hb hby d_prog_16_method_4_code_25) rfl (decide_eq_false fun q => (Fld.ne wF10_ordinal wF16_ordinal (fun q => absurd (Value.int.inj q) (by decide))) (Value.ref.inj q)) (by decide) (by decide) ?_
    show Steps p.tables e below (T150.setTop (mkF m 34 #[.val (.ref w16), .val (.ref r141), .val (.int (5 : Int32)), .val (.int (3 : Int32)), .val (.ref w5)] [])) _
    refine XS.iinc X150.here hx rfl (hb hby d_prog_16_method_4_code_34) rfl (l' := #[.val (.ref w16), .val (.ref r141), .val (.int (5 : Int32)), .val (.int (4 : Int32)), .val (.ref w5)]) rfl ?_
    show Steps p.tables e below (T150.setTop (mkF m 37 #[.val (.ref w16), .val (.ref r141), .val (.int (5 : Int32)), .val (.int (4 : Int32)), .val (.ref w5)] [])) _
    refine XS.goto X150.here hx rfl (pc0 := 37) (pc' := 9) rfl (hb hby d_prog_16_method_4_code_37) (by decide) (by decide) ?_
    show Steps p.tables e below (T150.setTop (mkF m 9 #[.val (.ref w16), .val (.ref r141), .val (.int (5 : Int32)), .val (.int (4 : Int32)), .val (.ref w5)] [])) _
    refine XS.iloadN X150.here hx rfl (hb hby d_prog_16_method_4_code_9) rfl ?_
    show Steps p.tables e below (T150.setTop (mkF m 10 #[.val (.ref w16), .val (.ref r141), .val (.int (5 : Int32)), .val (.int (4 : Int32)), .val (.ref w5)] [(.int (4 : Int32))])) _
    refine XS.iloadN X150.here hx rfl (hb hby d_prog_16_method_4_code_10) rfl ?_
    show Steps p.tables e below (T150.setTop (mkF m 11 #[.val (.ref w16), .val (.ref r141), .val (.int (5 : Int32)), .val (.int (4 : Int32)), .val (.ref w5)] [(.int (5 : Int32)), (.int (4 : Int32))])) _
    refine XS.icmpNo X150.here hx rfl (hb hby d_prog_16_method_4_code_11) rfl (by decide) ?_
    show Steps p.tables e below (T150.setTop (mkF m 14 #[.val (.ref w16), .val (.ref r141), .val (.int (5 : Int32)), .val (.int (4 : Int32)), .val (.ref w5)] [])) _
    refine XS.aloadN X150.here hx rfl (hb hby d_prog_16_method_4_code_14) rfl rfl ?_
    show Steps p.tables e below (T150.setTop (mkF m 15 #[.val (.ref w16), .val (.ref r141), .val (.int (5 : Int32)), .val (.int (4 : Int32)), .val (.ref w5)] [(.ref r141)])) _
    refine XS.iloadN X150.here hx rfl (hb hby d_prog_16_method_4_code_15) rfl ?_
    show Steps p.tables e below (T150.setTop (mkF m 16 #[.val (.ref w16), .val (.ref r141), .val (.int (5 : Int32)), .val (.int (4 : Int32)), .val (.ref w5)] [(.int (4 : Int32)), (.ref r141)])) _
    refine X150.aaload hx (j := (4 : Int32)) (v := (.ref w6)) (by rw [e150]; exact Ar151.1) (State.isArrayOf_alike hZ.alike Ar151.2.1) rfl Ar151.2.2 hin151 hat151 (g := (mkF m 16 #[.val (.ref w16), .val (.ref r141), .val (.int (5 : Int32)), .val (.int (4 : Int32)), .val (.ref w5)] [(.int (4 : Int32)), (.ref r141)])) rfl rfl (hb hby d_prog_16_method_4_code_16) _ ?_
    show Steps p.tables e below (T150.setTop (mkF m 17 #[.val (.ref w16), .val (.ref r141), .val (.int (5 : Int32)), .val (.int (4 : Int32)), .val (.ref w5)] [(.ref w6)])) _
    refine XS.astore X150.here hx rfl (hb hby d_prog_16_method_4_code_17) rfl rfl (l' := #[.val (.ref w16), .val (.ref r141), .val (.int (5 : Int32)), .val (.int (4 : Int32)), .val (.ref w6)]) rfl ?_
    show Steps p.tables e below (T150.setTop (mkF m 19 #[.val (.ref w16), .val (.ref r141), .val (.int (5 : Int32)), .val (.int (4 : Int32)), .val (.ref w6)] [])) _
    refine XS.aload X150.here hx rfl (hb hby d_prog_16_method_4_code_19) rfl rfl ?_
    show Steps p.tables e below (T150.setTop (mkF m 21 #[.val (.ref w16), .val (.ref r141), .val (.int (5 : Int32)), .val (.int (4 : Int32)), .val (.ref w6)] [(.ref w6)])) _
    refine st152 _ ?_
    show Steps p.tables e below (T152.setTop (mkF m 24 #[.val (.ref w16), .val (.ref r141), .val (.int (5 : Int32)), .val (.int (4 : Int32)), .val (.ref w6)] [(.ref w11)])) _
    refine XS.aloadN X152.here hx rfl (hb hby d_prog_16_method_4_code_24) rfl rfl ?_
    show Steps p.tables e below (T152.setTop (mkF m 25 #[.val (.ref w16), .val (.ref r141), .val (.int (5 : Int32)), .val (.int (4 : Int32)), .val (.ref w6)] [(.ref w16), (.ref w11)])) _
    refine Jvm.RoadKit.acmp (g := (mkF m 25 #[.val (.ref w16), .val (.ref r141), .val (.int (5 : Int32)), .val (.int (4 : Int32)), .val (.ref w6)] [(.ref w16), (.ref w11)])) X152 hx rfl rfl rfl (pc0 := 25) (pc' := 34) (same := false) rfl (hb hby d_prog_16_method_4_code_25) rfl (decide_eq_false fun q => (Fld.ne wF11_ordinal wF16_ordinal (fun q => absurd (Value.int.inj q) (by decide))) (Value.ref.inj q)) (by decide) (by decide) ?_
    show Steps p.tables e below (T152.setTop (mkF m 34 #[.val (.ref w16), .val (.ref r141), .val (.int (5 : Int32)), .val (.int (4 : Int32)), .val (.ref w6)] [])) _
    refine XS.iinc X152.here hx rfl (hb hby d_prog_16_method_4_code_34) rfl (l' := #[.val (.ref w16), .val (.ref r141), .val (.int (5 : Int32)), .val (.int (5 : Int32)), .val (.ref w6)]) rfl ?_
    show Steps p.tables e below (T152.setTop (mkF m 37 #[.val (.ref w16), .val (.ref r141), .val (.int (5 : Int32)), .val (.int (5 : Int32)), .val (.ref w6)] [])) _
    refine XS.goto X152.here hx rfl (pc0 := 37) (pc' := 9) rfl (hb hby d_prog_16_method_4_code_37) (by decide) (by decide) ?_
    show Steps p.tables e below (T152.setTop (mkF m 9 #[.val (.ref w16), .val (.ref r141), .val (.int (5 : Int32)), .val (.int (5 : Int32)), .val (.ref w6)] [])) _
    refine XS.iloadN X152.here hx rfl (hb hby d_prog_16_method_4_code_9) rfl ?_
    show Steps p.tables e below (T152.setTop (mkF m 10 #[.val (.ref w16), .val (.ref r141), .val (.int (5 : Int32)), .val (.int (5 : Int32)), .val (.ref w6)] [(.int (5 : Int32))])) _
    refine XS.iloadN X152.here hx rfl (hb hby d_prog_16_method_4_code_10) rfl ?_
    show Steps p.tables e below (T152.setTop (mkF m 11 #[.val (.ref w16), .val (.ref r141), .val (.int (5 : Int32)), .val (.int (5 : Int32)), .val (.ref w6)] [(.int (5 : Int32)), (.int (5 : Int32))])) _
    refine XS.icmpYes X152.here hx rfl (pc0 := 11) (pc' := 40) rfl (hb hby d_prog_16_method_4_code_11) rfl (by decide) (by decide) (by decide) ?_
    show Steps p.tables e below (T152.setTop (mkF m 40 #[.val (.ref w16), .val (.ref r141), .val (.int (5 : Int32)), .val (.int (5 : Int32)), .val (.ref w6)] [])) _
    refine st153 _ ?_
    show Steps p.tables e below (T153.setTop (mkF m 43 #[.val (.ref w16), .val (.ref r141), .val (.int (5 : Int32)), .val (.int (5 : Int32)), .val (.ref w6)] [(.ref w17)])) _
    exact retOut X153 hx (t := (.object "java/util/Optional")) (i := .areturn) Bd.returns rfl (Or.inr (Or.inr (Or.inr (Or.inr ⟨rfl, rfl, rfl⟩)))) (hb hby d_prog_16_method_4_code_43) hr
  · show Qerm32 Z w0 w1 w2 w3 w4 w5 w6 w7 w8 w9 w10 w11 w12 w13 w14 w15 w16 w17 h0 n0 _ T153.heap _
    rw [e153]
    exact ⟨rfl, N153, Kp141, O_141⟩
theorem d_method_3_code_63 : decode method_3_code 63 = .ok (.iload_n 0, 1) := by decide +kernel
theorem d_method_3_code_64 : decode method_3_code 64 = .ok (.bipush 7, 2) := by decide +kernel
theorem d_method_3_code_66 : decode method_3_code 66 = .ok (.if_icmp .ne 7, 3) := by decide +kernel
theorem d_method_3_code_69 : decode method_3_code 69 = .ok (.getstatic 54, 3) := by decide +kernel
theorem d_method_3_code_72 : decode method_3_code 72 = .ok (.areturn, 1) := by decide +kernel
theorem ef22 (m : MethodId)    : entryFrame m #[(.int (7 : Int32))] 1 = mkF m 0 #[.val (.int (7 : Int32))] [] := by first | (simp [entryFrame, mkF, argsToLocals, Value.category]; done) | rfl
set_option maxRecDepth 65536 in
set_option maxHeartbeats 40000000 in
theorem rm33 (l : Launch) (Z : State) (a0 : Array Value) (hw : ∀ d ∈ tables_1, d.before a0 Z = true) (ws : List Jvm.Cond) (w0 w1 w2 w3 w4 w5 w6 w7 w8 w9 w10 w11 w12 w13 w14 w15 w16 w17 : Addr) (h0 : Heap) (n0 : Nat) (hWd : Wd Z w0 w1 w2 w3 w4 w5 w6 w7 w8 w9 w10 w11 w12 w13 w14 w15 w16 w17) (O0 : Old Z n0 h0) :
    MetFree l (⟨"com/example/weaverbird/weaverbird/queues/RunActionOfPinLaw", "typeAt", "(I)Lcom/example/weaverbird/weaverbird/codes/CommandType;"⟩ : MethodName) (head1 (Jvm.Cond.code (⟨"com/example/weaverbird/weaverbird/queues/RunActionOfPinLaw", "typeAt", "(I)Lcom/example/weaverbird/weaverbird/codes/CommandType;"⟩ : MethodName) method_3_code 1 (some (.object "com/example/weaverbird/weaverbird/codes/CommandType")) :: ws) ({ frames := 0, cells := 0, slots := 0, locals := 0 } : Room)) (fun a U => a = #[(.int (7 : Int32))] ∧ Z.Warmed39 U.vm ∧ U.heap = h0) (fun _ _ _ _ _ => True) (fun _ U o U' => ∃ v L, o = .returned v ∧ Qp (some (.ref w10)) h0 n0 v U'.heap L ∧ FrameEnd U o U' L ({ frames := 0, cells := 0, slots := 0, locals := 0 } : Room).cells ({ frames := 0, cells := 0, slots := 0, locals := 0 } : Room).slots) := by
  refine MetFree.of_bodySF (plainFor_of_name pn0) hisR ?_
  intro p e s m args below meth c s₁ Bd hml0 hP hK
  obtain ⟨rfl, hZ, hh⟩ := hP
  have hx := Bd.exec
  have hby := Bd.bytes
  have hml : c.maxLocals = 1 := hml0
  have hown : s.vm.findClass "com/example/weaverbird/weaverbird/queues/RunActionOfPinLaw" = some m.cls := findClass_of_methodNamed Bd.named
  have hnm := (name_of_methodNamed Bd.named Bd.method).1
  have X0 : Stand p l e ({ frames := 0, cells := 0, slots := 0, locals := 0 } : Room) s m #[(.int (7 : Int32))] below meth c s₁ [] 0 0 := Stand.of_body Bd
  have e0 : s₁.heap = h0 := by rw [← hh, Bd.state]; rfl
  have N0 := Fr.nil n0
  have hlk := Bd.notSynchronized
  obtain ⟨wS0, wE0, wS1, wE1, wS2, wE2, wS3, wE3, wS4, wE4, wS5, wE5, wS6, wE6, wS7, wE7, wS8, wE8, wS9, wE9, wS10, wE10, wS11, wE11, wS12, wE12, wS13, wE13, wS14, wE14, wS15, wE15, wS16, wE16, wS17, wE17, wF2_type, wF7_ordinal, wF0_ordinal, wF3_type, wF8_ordinal, wF4_type, wF9_ordinal, wF5_type, wF10_ordinal, wF6_type, wF11_ordinal, wF12_ordinal, wF13_ordinal, wF14_ordinal, wF15_ordinal, wF16_ordinal, wF17_value, wA, -⟩ := id hWd
  have pre0 : ∀ t, Steps p.tables e below (s₁.setTop (mkF m 0 #[.val (.int (7 : Int32))] [])) t → Steps p.tables e below (s₁.setTop (entryFrame m #[(.int (7 : Int32))] 1)) t := fun t k => castTop (ef22 m ) k
  obtain ⟨T156, X156, e156, st156⟩ := getS2 X0 hx hZ hown (host := "") (Or.inl (hw _ (List.mem_of_getElem? (i := 74) rfl))) Via.refl e0 (wS10.ext O0.2) (g := (mkF m 69 #[.val (.int (7 : Int32))] [])) rfl (hb hby d_method_3_code_69)
  obtain ⟨fs, hr, hrun, hended, hWr, hsame⟩ := X156.leave (v := some (.ref w10)) (fun h => by rw [Bd.returns] at h; cases h) hlk
  refine ⟨_, _, pre0 _ ?_, hrun, hended, _, _, rfl, ?_, ⟨_, rfl⟩, hWr, hsame.mono (Nat.le_of_ble_eq_true rfl) (Nat.le_of_ble_eq_true rfl)⟩
  · show Steps p.tables e below (s₁.setTop (mkF m 0 #[.val (.int (7 : Int32))] [])) _
    refine XS.iloadN X0.here hx rfl (hb hby d_method_3_code_0) rfl ?_
    show Steps p.tables e below (s₁.setTop (mkF m 1 #[.val (.int (7 : Int32))] [(.int (7 : Int32))])) _
    refine XS.ifYes X0.here hx rfl (pc0 := 1) (pc' := 8) rfl (hb hby d_method_3_code_1) rfl (by decide) (by decide) (by decide) ?_
    show Steps p.tables e below (s₁.setTop (mkF m 8 #[.val (.int (7 : Int32))] [])) _
    refine XS.iloadN X0.here hx rfl (hb hby d_method_3_code_8) rfl ?_
    show Steps p.tables e below (s₁.setTop (mkF m 9 #[.val (.int (7 : Int32))] [(.int (7 : Int32))])) _
    refine XS.iconst X0.here hx rfl (hb hby d_method_3_code_9) ?_
    show Steps p.tables e below (s₁.setTop (mkF m 10 #[.val (.int (7 : Int32))] [(.int (1 : Int32)), (.int (7 : Int32))])) _
    refine XS.icmpYes X0.here hx rfl (pc0 := 10) (pc' := 17) rfl (hb hby d_method_3_code_10) rfl (by decide) (by decide) (by decide) ?_
    show Steps p.tables e below (s₁.setTop (mkF m 17 #[.val (.int (7 : Int32))] [])) _
    refine XS.iloadN X0.here hx rfl (hb hby d_method_3_code_17) rfl ?_
    show Steps p.tables e below (s₁.setTop (mkF m 18 #[.val (.int (7 : Int32))] [(.int (7 : Int32))])) _
    refine XS.iconst X0.here hx rfl (hb hby d_method_3_code_18) ?_
    show Steps p.tables e below (s₁.setTop (mkF m 19 #[.val (.int (7 : Int32))] [(.int (2 : Int32)), (.int (7 : Int32))])) _
    refine XS.icmpYes X0.here hx rfl (pc0 := 19) (pc' := 26) rfl (hb hby d_method_3_code_19) rfl (by decide) (by decide) (by decide) ?_
    show Steps p.tables e below (s₁.setTop (mkF m 26 #[.val (.int (7 : Int32))] [])) _
    refine XS.iloadN X0.here hx rfl (hb hby d_method_3_code_26) rfl ?_
    show Steps p.tables e below (s₁.setTop (mkF m 27 #[.val (.int (7 : Int32))] [(.int (7 : Int32))])) _
    refine XS.iconst X0.here hx rfl (hb hby d_method_3_code_27) ?_
    show Steps p.tables e below (s₁.setTop (mkF m 28 #[.val (.int (7 : Int32))] [(.int (3 : Int32)), (.int (7 : Int32))])) _
    refine XS.icmpYes X0.here hx rfl (pc0 := 28) (pc' := 35) rfl (hb hby d_method_3_code_28) rfl (by decide) (by decide) (by decide) ?_
    show Steps p.tables e below (s₁.setTop (mkF m 35 #[.val (.int (7 : Int32))] [])) _
    refine XS.iloadN X0.here hx rfl (hb hby d_method_3_code_35) rfl ?_
    show Steps p.tables e below (s₁.setTop (mkF m 36 #[.val (.int (7 : Int32))] [(.int (7 : Int32))])) _
    refine XS.iconst X0.here hx rfl (hb hby d_method_3_code_36) ?_
    show Steps p.tables e below (s₁.setTop (mkF m 37 #[.val (.int (7 : Int32))] [(.int (4 : Int32)), (.int (7 : Int32))])) _
    refine XS.icmpYes X0.here hx rfl (pc0 := 37) (pc' := 44) rfl (hb hby d_method_3_code_37) rfl (by decide) (by decide) (by decide) ?_
    show Steps p.tables e below (s₁.setTop (mkF m 44 #[.val (.int (7 : Int32))] [])) _
    refine XS.iloadN X0.here hx rfl (hb hby d_method_3_code_44) rfl ?_
    show Steps p.tables e below (s₁.setTop (mkF m 45 #[.val (.int (7 : Int32))] [(.int (7 : Int32))])) _
    refine XS.iconst X0.here hx rfl (hb hby d_method_3_code_45) ?_
    show Steps p.tables e below (s₁.setTop (mkF m 46 #[.val (.int (7 : Int32))] [(.int (5 : Int32)), (.int (7 : Int32))])) _
    refine XS.icmpYes X0.here hx rfl (pc0 := 46) (pc' := 53) rfl (hb hby d_method_3_code_46) rfl (by decide) (by decide) (by decide) ?_
    show Steps p.tables e below (s₁.setTop (mkF m 53 #[.val (.int (7 : Int32))] [])) _
    refine XS.iloadN X0.here hx rfl (hb hby d_method_3_code_53) rfl ?_
    show Steps p.tables e below (s₁.setTop (mkF m 54 #[.val (.int (7 : Int32))] [(.int (7 : Int32))])) _
    refine XS.bipush X0.here hx rfl (hb hby d_method_3_code_54) ?_
    show Steps p.tables e below (s₁.setTop (mkF m 56 #[.val (.int (7 : Int32))] [(.int (6 : Int32)), (.int (7 : Int32))])) _
    refine XS.icmpYes X0.here hx rfl (pc0 := 56) (pc' := 63) rfl (hb hby d_method_3_code_56) rfl (by decide) (by decide) (by decide) ?_
    show Steps p.tables e below (s₁.setTop (mkF m 63 #[.val (.int (7 : Int32))] [])) _
    refine XS.iloadN X0.here hx rfl (hb hby d_method_3_code_63) rfl ?_
    show Steps p.tables e below (s₁.setTop (mkF m 64 #[.val (.int (7 : Int32))] [(.int (7 : Int32))])) _
    refine XS.bipush X0.here hx rfl (hb hby d_method_3_code_64) ?_
    show Steps p.tables e below (s₁.setTop (mkF m 66 #[.val (.int (7 : Int32))] [(.int (7 : Int32)), (.int (7 : Int32))])) _
    refine XS.icmpNo X0.here hx rfl (hb hby d_method_3_code_66) rfl (by decide) ?_
    show Steps p.tables e below (s₁.setTop (mkF m 69 #[.val (.int (7 : Int32))] [])) _
    refine st156 _ ?_
    show Steps p.tables e below (T156.setTop (mkF m 72 #[.val (.int (7 : Int32))] [(.ref w10)])) _
    exact retOut X156 hx (t := (.object "com/example/weaverbird/weaverbird/codes/CommandType")) (i := .areturn) Bd.returns rfl (Or.inr (Or.inr (Or.inr (Or.inr ⟨rfl, rfl, rfl⟩)))) (hb hby d_method_3_code_72) hr
  · show Qp (some (.ref w10)) h0 n0 _ T156.heap _
    rw [e156]
    exact ⟨rfl, N0, rfl⟩
theorem d_method_4_code_24 : decode method_4_code 24 = .ok (.getstatic 73, 3) := by decide +kernel
theorem d_method_4_code_27 : decode method_4_code 27 = .ok (.areturn, 1) := by decide +kernel
set_option maxRecDepth 65536 in
set_option maxHeartbeats 40000000 in
theorem rm34 (l : Launch) (Z : State) (a0 : Array Value) (hw : ∀ d ∈ tables_1, d.before a0 Z = true) (ws : List Jvm.Cond) (w0 w1 w2 w3 w4 w5 w6 w7 w8 w9 w10 w11 w12 w13 w14 w15 w16 w17 : Addr) (h0 : Heap) (n0 : Nat) (hWd : Wd Z w0 w1 w2 w3 w4 w5 w6 w7 w8 w9 w10 w11 w12 w13 w14 w15 w16 w17) (O0 : Old Z n0 h0) :
    MetFree l (⟨"com/example/weaverbird/weaverbird/queues/RunActionOfPinLaw", "expectedFor", "(I)Lcom/example/weaverbird/weaverbird/queues/RunAction;"⟩ : MethodName) (head1 (Jvm.Cond.code (⟨"com/example/weaverbird/weaverbird/queues/RunActionOfPinLaw", "expectedFor", "(I)Lcom/example/weaverbird/weaverbird/queues/RunAction;"⟩ : MethodName) method_4_code 1 (some (.object "com/example/weaverbird/weaverbird/queues/RunAction")) :: ws) ({ frames := 0, cells := 0, slots := 0, locals := 0 } : Room)) (fun a U => a = #[(.int (7 : Int32))] ∧ Z.Warmed39 U.vm ∧ U.heap = h0) (fun _ _ _ _ _ => True) (fun _ U o U' => ∃ v L, o = .returned v ∧ Qp (some (.ref w5)) h0 n0 v U'.heap L ∧ FrameEnd U o U' L ({ frames := 0, cells := 0, slots := 0, locals := 0 } : Room).cells ({ frames := 0, cells := 0, slots := 0, locals := 0 } : Room).slots) := by
  refine MetFree.of_bodySF (plainFor_of_name pn0) hisR ?_
  intro p e s m args below meth c s₁ Bd hml0 hP hK
  obtain ⟨rfl, hZ, hh⟩ := hP
  have hx := Bd.exec
  have hby := Bd.bytes
  have hml : c.maxLocals = 1 := hml0
  have hown : s.vm.findClass "com/example/weaverbird/weaverbird/queues/RunActionOfPinLaw" = some m.cls := findClass_of_methodNamed Bd.named
  have hnm := (name_of_methodNamed Bd.named Bd.method).1
  have X0 : Stand p l e ({ frames := 0, cells := 0, slots := 0, locals := 0 } : Room) s m #[(.int (7 : Int32))] below meth c s₁ [] 0 0 := Stand.of_body Bd
  have e0 : s₁.heap = h0 := by rw [← hh, Bd.state]; rfl
  have N0 := Fr.nil n0
  have hlk := Bd.notSynchronized
  obtain ⟨wS0, wE0, wS1, wE1, wS2, wE2, wS3, wE3, wS4, wE4, wS5, wE5, wS6, wE6, wS7, wE7, wS8, wE8, wS9, wE9, wS10, wE10, wS11, wE11, wS12, wE12, wS13, wE13, wS14, wE14, wS15, wE15, wS16, wE16, wS17, wE17, wF2_type, wF7_ordinal, wF0_ordinal, wF3_type, wF8_ordinal, wF4_type, wF9_ordinal, wF5_type, wF10_ordinal, wF6_type, wF11_ordinal, wF12_ordinal, wF13_ordinal, wF14_ordinal, wF15_ordinal, wF16_ordinal, wF17_value, wA, -⟩ := id hWd
  have pre0 : ∀ t, Steps p.tables e below (s₁.setTop (mkF m 0 #[.val (.int (7 : Int32))] [])) t → Steps p.tables e below (s₁.setTop (entryFrame m #[(.int (7 : Int32))] 1)) t := fun t k => castTop (ef22 m ) k
  obtain ⟨T158, X158, e158, st158⟩ := getS2 X0 hx hZ hown (host := "") (Or.inl (hw _ (List.mem_of_getElem? (i := 75) rfl))) Via.refl e0 (wS5.ext O0.2) (g := (mkF m 24 #[.val (.int (7 : Int32))] [])) rfl (hb hby d_method_4_code_24)
  obtain ⟨fs, hr, hrun, hended, hWr, hsame⟩ := X158.leave (v := some (.ref w5)) (fun h => by rw [Bd.returns] at h; cases h) hlk
  refine ⟨_, _, pre0 _ ?_, hrun, hended, _, _, rfl, ?_, ⟨_, rfl⟩, hWr, hsame.mono (Nat.le_of_ble_eq_true rfl) (Nat.le_of_ble_eq_true rfl)⟩
  · show Steps p.tables e below (s₁.setTop (mkF m 0 #[.val (.int (7 : Int32))] [])) _
    refine XS.iloadN X0.here hx rfl (hb hby d_method_4_code_0) rfl ?_
    show Steps p.tables e below (s₁.setTop (mkF m 1 #[.val (.int (7 : Int32))] [(.int (7 : Int32))])) _
    refine XS.iconst X0.here hx rfl (hb hby d_method_4_code_1) ?_
    show Steps p.tables e below (s₁.setTop (mkF m 2 #[.val (.int (7 : Int32))] [(.int (3 : Int32)), (.int (7 : Int32))])) _
    refine XS.icmpYes X0.here hx rfl (pc0 := 2) (pc' := 9) rfl (hb hby d_method_4_code_2) rfl (by decide) (by decide) (by decide) ?_
    show Steps p.tables e below (s₁.setTop (mkF m 9 #[.val (.int (7 : Int32))] [])) _
    refine XS.iloadN X0.here hx rfl (hb hby d_method_4_code_9) rfl ?_
    show Steps p.tables e below (s₁.setTop (mkF m 10 #[.val (.int (7 : Int32))] [(.int (7 : Int32))])) _
    refine XS.iconst X0.here hx rfl (hb hby d_method_4_code_10) ?_
    show Steps p.tables e below (s₁.setTop (mkF m 11 #[.val (.int (7 : Int32))] [(.int (4 : Int32)), (.int (7 : Int32))])) _
    refine XS.icmpYes X0.here hx rfl (pc0 := 11) (pc' := 18) rfl (hb hby d_method_4_code_11) rfl (by decide) (by decide) (by decide) ?_
    show Steps p.tables e below (s₁.setTop (mkF m 18 #[.val (.int (7 : Int32))] [])) _
    refine XS.iloadN X0.here hx rfl (hb hby d_method_4_code_18) rfl ?_
    show Steps p.tables e below (s₁.setTop (mkF m 19 #[.val (.int (7 : Int32))] [(.int (7 : Int32))])) _
    refine XS.bipush X0.here hx rfl (hb hby d_method_4_code_19) ?_
    show Steps p.tables e below (s₁.setTop (mkF m 21 #[.val (.int (7 : Int32))] [(.int (7 : Int32)), (.int (7 : Int32))])) _
    refine XS.icmpNo X0.here hx rfl (hb hby d_method_4_code_21) rfl (by decide) ?_
    show Steps p.tables e below (s₁.setTop (mkF m 24 #[.val (.int (7 : Int32))] [])) _
    refine st158 _ ?_
    show Steps p.tables e below (T158.setTop (mkF m 27 #[.val (.int (7 : Int32))] [(.ref w5)])) _
    exact retOut X158 hx (t := (.object "com/example/weaverbird/weaverbird/queues/RunAction")) (i := .areturn) Bd.returns rfl (Or.inr (Or.inr (Or.inr (Or.inr ⟨rfl, rfl, rfl⟩)))) (hb hby d_method_4_code_27) hr
  · show Qp (some (.ref w5)) h0 n0 _ T158.heap _
    rw [e158]
    exact ⟨rfl, N0, rfl⟩
theorem ef23 (m : MethodId)   (w5 : Addr) : entryFrame m #[(.ref w5)] 1 = mkF m 0 #[.val (.ref w5)] [] := by first | (simp [entryFrame, mkF, argsToLocals, Value.category]; done) | rfl
set_option maxRecDepth 65536 in
set_option maxHeartbeats 40000000 in
theorem rm37 (l : Launch) (Z : State) (a0 : Array Value) (hw : ∀ d ∈ tables_1, d.before a0 Z = true) (ws : List Jvm.Cond) (w0 w1 w2 w3 w4 w5 w6 w7 w8 w9 w10 w11 w12 w13 w14 w15 w16 w17 : Addr) (h0 : Heap) (n0 : Nat) (hWd : Wd Z w0 w1 w2 w3 w4 w5 w6 w7 w8 w9 w10 w11 w12 w13 w14 w15 w16 w17) (O0 : Old Z n0 h0) :
    MetFree l (⟨"java/util/Objects", "requireNonNull", "(Ljava/lang/Object;)Ljava/lang/Object;"⟩ : MethodName) (head1 (Jvm.Cond.code (⟨"java/util/Objects", "requireNonNull", "(Ljava/lang/Object;)Ljava/lang/Object;"⟩ : MethodName) jdk_31_method_10_code 1 (some (.object "java/lang/Object")) :: ws) ({ frames := 0, cells := 0, slots := 0, locals := 0 } : Room)) (fun a U => a = #[(.ref w5)] ∧ Z.Warmed39 U.vm ∧ U.heap = h0) (fun _ _ _ _ _ => True) (fun _ U o U' => ∃ v L, o = .returned v ∧ Qp (some (.ref w5)) h0 n0 v U'.heap L ∧ FrameEnd U o U' L ({ frames := 0, cells := 0, slots := 0, locals := 0 } : Room).cells ({ frames := 0, cells := 0, slots := 0, locals := 0 } : Room).slots) := by
  refine MetFree.of_bodySF (plainFor_of_name pn3) hisR ?_
  intro p e s m args below meth c s₁ Bd hml0 hP hK
  obtain ⟨rfl, hZ, hh⟩ := hP
  have hx := Bd.exec
  have hby := Bd.bytes
  have hml : c.maxLocals = 1 := hml0
  have hown : s.vm.findClass "java/util/Objects" = some m.cls := findClass_of_methodNamed Bd.named
  have hnm := (name_of_methodNamed Bd.named Bd.method).1
  have X0 : Stand p l e ({ frames := 0, cells := 0, slots := 0, locals := 0 } : Room) s m #[(.ref w5)] below meth c s₁ [] 0 0 := Stand.of_body Bd
  have e0 : s₁.heap = h0 := by rw [← hh, Bd.state]; rfl
  have N0 := Fr.nil n0
  have hlk := Bd.notSynchronized
  obtain ⟨wS0, wE0, wS1, wE1, wS2, wE2, wS3, wE3, wS4, wE4, wS5, wE5, wS6, wE6, wS7, wE7, wS8, wE8, wS9, wE9, wS10, wE10, wS11, wE11, wS12, wE12, wS13, wE13, wS14, wE14, wS15, wE15, wS16, wE16, wS17, wE17, wF2_type, wF7_ordinal, wF0_ordinal, wF3_type, wF8_ordinal, wF4_type, wF9_ordinal, wF5_type, wF10_ordinal, wF6_type, wF11_ordinal, wF12_ordinal, wF13_ordinal, wF14_ordinal, wF15_ordinal, wF16_ordinal, wF17_value, wA, -⟩ := id hWd
  have pre0 : ∀ t, Steps p.tables e below (s₁.setTop (mkF m 0 #[.val (.ref w5)] [])) t → Steps p.tables e below (s₁.setTop (entryFrame m #[(.ref w5)] 1)) t := fun t k => castTop (ef23 m w5) k
  obtain ⟨fs, hr, hrun, hended, hWr, hsame⟩ := X0.leave (v := some (.ref w5)) (fun h => by rw [Bd.returns] at h; cases h) hlk
  refine ⟨_, _, pre0 _ ?_, hrun, hended, _, _, rfl, ?_, ⟨_, rfl⟩, hWr, hsame.mono (Nat.le_of_ble_eq_true rfl) (Nat.le_of_ble_eq_true rfl)⟩
  · show Steps p.tables e below (s₁.setTop (mkF m 0 #[.val (.ref w5)] [])) _
    refine XS.aloadN X0.here hx rfl (hb hby d_jdk_31_method_10_code_0) rfl rfl ?_
    show Steps p.tables e below (s₁.setTop (mkF m 1 #[.val (.ref w5)] [(.ref w5)])) _
    refine XS.ifnonnullYes X0.here hx rfl (pc0 := 1) (pc' := 12) rfl (hb hby d_jdk_31_method_10_code_1) rfl (by decide) (by decide) ?_
    show Steps p.tables e below (s₁.setTop (mkF m 12 #[.val (.ref w5)] [])) _
    refine XS.aloadN X0.here hx rfl (hb hby d_jdk_31_method_10_code_12) rfl rfl ?_
    show Steps p.tables e below (s₁.setTop (mkF m 13 #[.val (.ref w5)] [(.ref w5)])) _
    exact retOut X0 hx (t := (.object "java/lang/Object")) (i := .areturn) Bd.returns rfl (Or.inr (Or.inr (Or.inr (Or.inr ⟨rfl, rfl, rfl⟩)))) (hb hby d_jdk_31_method_10_code_13) hr
  · show Qp (some (.ref w5)) h0 n0 _ s₁.heap _
    rw [e0]
    exact ⟨rfl, N0, rfl⟩
theorem ef24 (m : MethodId)   (a1 : Addr) (w5 : Addr) : entryFrame m #[(.ref a1), (.ref w5)] 2 = mkF m 0 #[.val (.ref a1), .val (.ref w5)] [] := by first | (simp [entryFrame, mkF, argsToLocals, Value.category]; done) | rfl
def Qerm38 (Z : State) (w0 w1 w2 w3 w4 w5 w6 w7 w8 w9 w10 w11 w12 w13 w14 w15 w16 w17 : Addr) (a1 : Addr) (h0 : Heap) (n0 : Nat) (v : Option Value) (h : Heap) (L : List Loc) : Prop := v = none ∧ Fr n0 L ∧ Keep h0 h [a1] ∧ Old Z n0 h ∧ Exa Z h a1 "java/util/Optional" ∧ Fld Z h a1 "java/util/Optional" "value" "Ljava/lang/Object;" (.ref w5)
set_option maxRecDepth 65536 in
set_option maxHeartbeats 40000000 in
theorem rm38 (l : Launch) (Z : State) (a0 : Array Value) (hw : ∀ d ∈ tables_1, d.before a0 Z = true) (ws : List Jvm.Cond) (w0 w1 w2 w3 w4 w5 w6 w7 w8 w9 w10 w11 w12 w13 w14 w15 w16 w17 : Addr) (a1 : Addr) (h0 : Heap) (n0 : Nat) (hWd : Wd Z w0 w1 w2 w3 w4 w5 w6 w7 w8 w9 w10 w11 w12 w13 w14 w15 w16 w17) (O0 : Old Z n0 h0) (E_a1 : Exa Z h0 a1 "java/util/Optional") (F_a1_value : Fld Z h0 a1 "java/util/Optional" "value" "Ljava/lang/Object;" .null) (g_a1 : n0 ≤ a1) :
    MetFree l (⟨"java/util/Optional", "<init>", "(Ljava/lang/Object;)V"⟩ : MethodName) (head1 (Jvm.Cond.code (⟨"java/util/Optional", "<init>", "(Ljava/lang/Object;)V"⟩ : MethodName) jdk_32_method_2_code 2 none :: ws) ({ frames := 1, cells := 0, slots := 0, locals := 12 } : Room)) (fun a U => a = #[(.ref a1), (.ref w5)] ∧ Z.Warmed39 U.vm ∧ U.heap = h0) (fun _ _ _ _ _ => True) (fun _ U o U' => ∃ v L, o = .returned v ∧ Qerm38 Z w0 w1 w2 w3 w4 w5 w6 w7 w8 w9 w10 w11 w12 w13 w14 w15 w16 w17 a1 h0 n0 v U'.heap L ∧ FrameEnd U o U' L ({ frames := 1, cells := 0, slots := 0, locals := 12 } : Room).cells ({ frames := 1, cells := 0, slots := 0, locals := 12 } : Room).slots) := by
  refine MetFree.of_bodySF (plainFor_of_name pn2) hisR ?_
  intro p e s m args below meth c s₁ Bd hml0 hP hK
  obtain ⟨rfl, hZ, hh⟩ := hP
  have hx := Bd.exec
  have hby := Bd.bytes
  have hml : c.maxLocals = 2 := hml0
  have hown : s.vm.findClass "java/util/Optional" = some m.cls := findClass_of_methodNamed Bd.named
  have hnm := (name_of_methodNamed Bd.named Bd.method).1
  have X0 : Stand p l e ({ frames := 1, cells := 0, slots := 0, locals := 12 } : Room) s m #[(.ref a1), (.ref w5)] below meth c s₁ [] 0 0 := Stand.of_body Bd
  have e0 : s₁.heap = h0 := by rw [← hh, Bd.state]; rfl
  have N0 := Fr.nil n0
  have hlk := Bd.notSynchronized
  obtain ⟨wS0, wE0, wS1, wE1, wS2, wE2, wS3, wE3, wS4, wE4, wS5, wE5, wS6, wE6, wS7, wE7, wS8, wE8, wS9, wE9, wS10, wE10, wS11, wE11, wS12, wE12, wS13, wE13, wS14, wE14, wS15, wE15, wS16, wE16, wS17, wE17, wF2_type, wF7_ordinal, wF0_ordinal, wF3_type, wF8_ordinal, wF4_type, wF9_ordinal, wF5_type, wF10_ordinal, wF6_type, wF11_ordinal, wF12_ordinal, wF13_ordinal, wF14_ordinal, wF15_ordinal, wF16_ordinal, wF17_value, wA, -⟩ := id hWd
  have pre0 : ∀ t, Steps p.tables e below (s₁.setTop (mkF m 0 #[.val (.ref a1), .val (.ref w5)] [])) t → Steps p.tables e below (s₁.setTop (entryFrame m #[(.ref a1), (.ref w5)] 2)) t := fun t k => castTop (ef24 m a1 w5) k
  obtain ⟨T172, X172, e172, st172⟩ := initO X0 hx hZ hown (hw _ (List.mem_of_getElem? (i := 69) rfl)) (hw _ (List.mem_of_getElem? (i := 70) rfl)) (hw _ (List.mem_of_getElem? (i := 71) rfl)) e0 (g := (mkF m 1 #[.val (.ref a1), .val (.ref w5)] [(.ref a1)])) rfl (by rw [hml]; rfl) rfl (hb hby d_jdk_32_method_2_code_1) (by decide) (W := 0) (by show 2 * 0 + _ ≤ _; exact Nat.le_of_eq rfl) (by decide)
  obtain ⟨T173, h173, X173, e173, W173, st173⟩ := putF X172 hx hZ hown (host := "") (Or.inl (hw _ (List.mem_of_getElem? (i := 52) rfl))) Via.refl e172 F_a1_value E_a1 (Or.inr ⟨(hw _ (List.mem_of_getElem? (i := 53) rfl)), rfl, hnm⟩) (hw _ (List.mem_of_getElem? (i := 60) rfl)) (ty := (.object "java/lang/Object")) (by decide) rfl rfl (g := (mkF m 6 #[.val (.ref a1), .val (.ref w5)] [(.ref w5), (.ref a1)])) rfl rfl (hb hby d_jdk_32_method_2_code_6)
  have E_a1_173 : Exa Z h173 a1 "java/util/Optional" := E_a1.wr W173
  have F_a1_value_173 : Fld Z h173 a1 "java/util/Optional" "value" "Ljava/lang/Object;" (.ref w5) := F_a1_value.same W173
  have Kp173 : Keep h0 h173 [a1] := (Keep.refl h0 [a1]).wr W173 (Or.inl (List.mem_of_getElem? (i := 0) rfl))
  have N173 := Fr.snoc X173 N0 g_a1
  have O_173 : Old Z n0 h173 := O0.wr W173 g_a1
  obtain ⟨fs, hr, hrun, hended, hWr, hsame⟩ := X173.leave (v := none) (fun _ => rfl) hlk
  refine ⟨_, _, pre0 _ ?_, hrun, hended, _, _, rfl, ?_, ⟨_, rfl⟩, hWr, hsame.mono (Nat.le_of_ble_eq_true rfl) (Nat.le_of_ble_eq_true rfl)⟩
  · show Steps p.tables e below (s₁.setTop (mkF m 0 #[.val (.ref a1), .val (.ref w5)] [])) _
    refine XS.aloadN X0.here hx rfl (hb hby d_jdk_32_method_2_code_0) rfl rfl ?_
    show Steps p.tables e below (s₁.setTop (mkF m 1 #[.val (.ref a1), .val (.ref w5)] [(.ref a1)])) _
    refine st172 _ ?_
    show Steps p.tables e below (T172.setTop (mkF m 4 #[.val (.ref a1), .val (.ref w5)] [])) _
    refine XS.aloadN X172.here hx rfl (hb hby d_jdk_32_method_2_code_4) rfl rfl ?_
    show Steps p.tables e below (T172.setTop (mkF m 5 #[.val (.ref a1), .val (.ref w5)] [(.ref a1)])) _
    refine XS.aloadN X172.here hx rfl (hb hby d_jdk_32_method_2_code_5) rfl rfl ?_
    show Steps p.tables e below (T172.setTop (mkF m 6 #[.val (.ref a1), .val (.ref w5)] [(.ref w5), (.ref a1)])) _
    refine st173 _ ?_
    show Steps p.tables e below (T173.setTop (mkF m 9 #[.val (.ref a1), .val (.ref w5)] [])) _
    exact X173.returnOut hx Bd.returns (hb hby d_jdk_32_method_2_code_9) hr
  · show Qerm38 Z w0 w1 w2 w3 w4 w5 w6 w7 w8 w9 w10 w11 w12 w13 w14 w15 w16 w17 a1 h0 n0 _ T173.heap _
    rw [e173]
    exact ⟨rfl, N173, Kp173, O_173, E_a1_173, F_a1_value_173⟩
def Qerm36 (Z : State) (w0 w1 w2 w3 w4 w5 w6 w7 w8 w9 w10 w11 w12 w13 w14 w15 w16 w17 : Addr) (h0 : Heap) (n0 : Nat) (v : Option Value) (h : Heap) (L : List Loc) : Prop := ∃ r : Addr, v = some (.ref r) ∧ Fr n0 L ∧ Keep h0 h [] ∧ Old Z n0 h ∧ Exa Z h r "java/util/Optional" ∧ Fld Z h r "java/util/Optional" "value" "Ljava/lang/Object;" (.ref w5) ∧ n0 ≤ r
set_option maxRecDepth 65536 in
set_option maxHeartbeats 40000000 in
theorem rm36 (l : Launch) (Z : State) (a0 : Array Value) (hw : ∀ d ∈ tables_1, d.before a0 Z = true) (ws : List Jvm.Cond) (w0 w1 w2 w3 w4 w5 w6 w7 w8 w9 w10 w11 w12 w13 w14 w15 w16 w17 : Addr) (h0 : Heap) (n0 : Nat) (hWd : Wd Z w0 w1 w2 w3 w4 w5 w6 w7 w8 w9 w10 w11 w12 w13 w14 w15 w16 w17) (O0 : Old Z n0 h0) :
    MetFree l (⟨"java/util/Optional", "of", "(Ljava/lang/Object;)Ljava/util/Optional;"⟩ : MethodName) (head1 (Jvm.Cond.code (⟨"java/util/Optional", "of", "(Ljava/lang/Object;)Ljava/util/Optional;"⟩ : MethodName) jdk_32_method_3_code 1 (some (.object "java/util/Optional")) :: ws) ({ frames := 2, cells := 1, slots := 1, locals := 26 } : Room)) (fun a U => a = #[(.ref w5)] ∧ Z.Warmed39 U.vm ∧ U.heap = h0) (fun _ _ _ _ _ => True) (fun _ U o U' => ∃ v L, o = .returned v ∧ Qerm36 Z w0 w1 w2 w3 w4 w5 w6 w7 w8 w9 w10 w11 w12 w13 w14 w15 w16 w17 h0 n0 v U'.heap L ∧ FrameEnd U o U' L ({ frames := 2, cells := 1, slots := 1, locals := 26 } : Room).cells ({ frames := 2, cells := 1, slots := 1, locals := 26 } : Room).slots) := by
  refine MetFree.of_bodySF (plainFor_of_name pn2) hisR ?_
  intro p e s m args below meth c s₁ Bd hml0 hP hK
  obtain ⟨rfl, hZ, hh⟩ := hP
  have hx := Bd.exec
  have hby := Bd.bytes
  have hml : c.maxLocals = 1 := hml0
  have hown : s.vm.findClass "java/util/Optional" = some m.cls := findClass_of_methodNamed Bd.named
  have hnm := (name_of_methodNamed Bd.named Bd.method).1
  have X0 : Stand p l e ({ frames := 2, cells := 1, slots := 1, locals := 26 } : Room) s m #[(.ref w5)] below meth c s₁ [] 0 0 := Stand.of_body Bd
  have e0 : s₁.heap = h0 := by rw [← hh, Bd.state]; rfl
  have N0 := Fr.nil n0
  have hlk := Bd.notSynchronized
  obtain ⟨wS0, wE0, wS1, wE1, wS2, wE2, wS3, wE3, wS4, wE4, wS5, wE5, wS6, wE6, wS7, wE7, wS8, wE8, wS9, wE9, wS10, wE10, wS11, wE11, wS12, wE12, wS13, wE13, wS14, wE14, wS15, wE15, wS16, wE16, wS17, wE17, wF2_type, wF7_ordinal, wF0_ordinal, wF3_type, wF8_ordinal, wF4_type, wF9_ordinal, wF5_type, wF10_ordinal, wF6_type, wF11_ordinal, wF12_ordinal, wF13_ordinal, wF14_ordinal, wF15_ordinal, wF16_ordinal, wF17_value, wA, -⟩ := id hWd
  have pre0 : ∀ t, Steps p.tables e below (s₁.setTop (mkF m 0 #[.val (.ref w5)] [])) t → Steps p.tables e below (s₁.setTop (entryFrame m #[(.ref w5)] 1)) t := fun t k => castTop (ef23 m w5) k
  obtain ⟨T170, h170, X170, e170, E170, A170, D170, -, st170⟩ := newO X0 hx hZ hown (hw _ (List.mem_of_getElem? (i := 59) rfl)) (hw _ (List.mem_of_getElem? (i := 60) rfl)) (hw _ (List.mem_of_getElem? (i := 44) rfl)) e0 (g := (mkF m 0 #[.val (.ref w5)] [])) rfl (hb hby d_jdk_32_method_3_code_0) (by decide) (by decide)
  obtain ⟨b170, g170⟩ : ∃ z, z = h0.size := ⟨_, rfl⟩
  rw [← g170] at A170 D170 st170
  have g_b170 : n0 ≤ b170 := Nat.le_trans (Nat.le_trans (Nat.le_of_eq O0.1.symm) O0.2.1) (Nat.le_of_eq g170.symm)
  have sz_b170 : h0.size ≤ b170 := Nat.le_trans (Keep.refl h0 []).1 (Nat.le_of_eq g170.symm)
  have Kp170 : Keep h0 h170 [] := (Keep.refl h0 []).ext E170
  have O_170 : Old Z n0 h170 := O0.ext E170
  have F_b170_value : Fld Z h170 b170 "java/util/Optional" "value" "Ljava/lang/Object;" .null := D170 (Or.inr (hw _ (List.mem_of_getElem? (i := 53) rfl))) (ty := (.object "java/lang/Object")) (by decide)
  obtain ⟨_, _, ⟨T171, L171, k171, n171⟩, -, X171, ⟨Lc171, hQ171, l171, y171, z171⟩, st171⟩ := Jvm.LawKit.callS X170 hx (y := (⟨"java/util/Objects", "requireNonNull", "(Ljava/lang/Object;)Ljava/lang/Object;"⟩ : MethodName)) hown (mvT hZ (hw _ (List.mem_of_getElem? (i := 61) rfl))) (mvT hZ (hw _ (List.mem_of_getElem? (i := 62) rfl))) (mvT hZ (hw _ (List.mem_of_getElem? (i := 63) rfl))) (mvT hZ (hw _ (List.mem_of_getElem? (i := 64) rfl))) (by decide) (backOf (W := 2) (rm37 l Z a0 hw [] w0 w1 w2 w3 w4 w5 w6 w7 w8 w9 w10 w11 w12 w13 w14 w15 w16 w17 h170 n0 hWd O_170) hZ (hw _ (List.mem_of_getElem? (i := 64) rfl)) (hw _ (List.mem_of_getElem? (i := 63) rfl)) (by decide) (by decide)) (g := (mkF m 5 #[.val (.ref w5)] [(.ref w5), (.ref b170), (.ref b170)])) rfl (by rw [hml]; rfl) (argsL := [(.ref w5)]) (rest := [(.ref b170), (.ref b170)]) (lenOf pd5 rfl) rfl (by show 2 * 0 + _ ≤ _; exact Nat.le_of_eq rfl) (hb hby d_jdk_32_method_3_code_5) (fun _ _ => ⟨rfl, e170, (by decide : 1 + 0 ≤ _), (by decide : 1 + 0 ≤ _)⟩)
  dsimp only [Pt.U, Pt.locs, Pt.cells, Pt.slots] at X171 l171 y171 z171 st171 hQ171
  subst l171 y171 z171
  obtain ⟨rfl, N171q, e171⟩ := hQ171
  have N171 := Fr.app N0 N171q
  obtain ⟨_, _, ⟨T174, L174, k174, n174⟩, -, X174, ⟨Lc174, hQ174, l174, y174, z174⟩, st174⟩ := X171.specialBack hx (y := (⟨"java/util/Optional", "<init>", "(Ljava/lang/Object;)V"⟩ : MethodName)) rfl hown (mvT hZ (hw _ (List.mem_of_getElem? (i := 65) rfl))) (mvT hZ (hw _ (List.mem_of_getElem? (i := 66) rfl))) (mvT hZ (hw _ (List.mem_of_getElem? (i := 68) rfl))) (by decide) (backOf (W := 1) (rm38 l Z a0 hw [] w0 w1 w2 w3 w4 w5 w6 w7 w8 w9 w10 w11 w12 w13 w14 w15 w16 w17 b170 h170 n0 hWd O_170 A170 F_b170_value g_b170) hZ (hw _ (List.mem_of_getElem? (i := 68) rfl)) (hw _ (List.mem_of_getElem? (i := 44) rfl)) (by decide) (by decide)) (g := (mkF m 8 #[.val (.ref w5)] [(.ref w5), (.ref b170), (.ref b170)])) rfl (by rw [hml]; rfl) (Steps.refl _) (a := b170) (argsL := [(.ref w5)]) (rest := [(.ref b170)]) (lenOf pd6 rfl) rfl (by show 2 * 0 + _ ≤ _; exact Nat.le_of_eq rfl) (hb hby d_jdk_32_method_3_code_8) (fun _ _ => ⟨rfl, e171, (by decide : 1 + 0 ≤ _), (by decide : 1 + 0 ≤ _)⟩)
  dsimp only [Pt.U, Pt.locs, Pt.cells, Pt.slots] at X174 l174 y174 z174 st174 hQ174
  subst l174 y174 z174
  obtain ⟨rfl, N174q, K174, O_174, E_b170_174, F_b170_value_174⟩ := hQ174
  have N174 := Fr.app N171 N174q
  have Kp174 : Keep h0 T174.heap [] := Kp170.trans K174 (allS (Or.inr sz_b170) all0)
  obtain ⟨fs, hr, hrun, hended, hWr, hsame⟩ := X174.leave (v := some (.ref b170)) (fun h => by rw [Bd.returns] at h; cases h) hlk
  refine ⟨_, _, pre0 _ ?_, hrun, hended, _, _, rfl, ?_, ⟨_, rfl⟩, hWr, hsame.mono (Nat.le_of_ble_eq_true rfl) (Nat.le_of_ble_eq_true rfl)⟩
  · show Steps p.tables e below (s₁.setTop (mkF m 0 #[.val (.ref w5)] [])) _
    refine st170 _ ?_
    show Steps p.tables e below (T170.setTop (mkF m 3 #[.val (.ref w5)] [(.ref b170)])) _
    refine XS.dup X170.here hx rfl (hb hby d_jdk_32_method_3_code_3) rfl rfl ?_
    show Steps p.tables e below (T170.setTop (mkF m 4 #[.val (.ref w5)] [(.ref b170), (.ref b170)])) _
    refine XS.aloadN X170.here hx rfl (hb hby d_jdk_32_method_3_code_4) rfl rfl ?_
    show Steps p.tables e below (T170.setTop (mkF m 5 #[.val (.ref w5)] [(.ref w5), (.ref b170), (.ref b170)])) _
    refine st171 _ ?_
    show Steps p.tables e below (T171.setTop (mkF m 8 #[.val (.ref w5)] [(.ref w5), (.ref b170), (.ref b170)])) _
    refine st174.trans ?_
    show Steps p.tables e below (T174.setTop (mkF m 11 #[.val (.ref w5)] [(.ref b170)])) _
    exact retOut X174 hx (t := (.object "java/util/Optional")) (i := .areturn) Bd.returns rfl (Or.inr (Or.inr (Or.inr (Or.inr ⟨rfl, rfl, rfl⟩)))) (hb hby d_jdk_32_method_3_code_11) hr
  · show Qerm36 Z w0 w1 w2 w3 w4 w5 w6 w7 w8 w9 w10 w11 w12 w13 w14 w15 w16 w17 h0 n0 _ T174.heap _
    exact ⟨b170, rfl, N174, Kp174, O_174, E_b170_174, F_b170_value_174, g_b170⟩
theorem ef25 (m : MethodId)   (w10 : Addr) : entryFrame m #[(.ref w10)] 5 = mkF m 0 #[.val (.ref w10), .unset, .unset, .unset, .unset] [] := by first | (simp [entryFrame, mkF, argsToLocals, Value.category]; done) | rfl
def Qerm35 (Z : State) (w0 w1 w2 w3 w4 w5 w6 w7 w8 w9 w10 w11 w12 w13 w14 w15 w16 w17 : Addr) (h0 : Heap) (n0 : Nat) (v : Option Value) (h : Heap) (L : List Loc) : Prop := ∃ r : Addr, v = some (.ref r) ∧ Fr n0 L ∧ Keep h0 h [] ∧ Old Z n0 h ∧ Exa Z h r "java/util/Optional" ∧ Fld Z h r "java/util/Optional" "value" "Ljava/lang/Object;" (.ref w5) ∧ n0 ≤ r
set_option maxRecDepth 65536 in
set_option maxHeartbeats 40000000 in
theorem rm35 (l : Launch) (Z : State) (a0 : Array Value) (hw : ∀ d ∈ tables_1, d.before a0 Z = true) (ws : List Jvm.Cond) (w0 w1 w2 w3 w4 w5 w6 w7 w8 w9 w10 w11 w12 w13 w14 w15 w16 w17 : Addr) (h0 : Heap) (n0 : Nat) (hWd : Wd Z w0 w1 w2 w3 w4 w5 w6 w7 w8 w9 w10 w11 w12 w13 w14 w15 w16 w17) (O0 : Old Z n0 h0) :
    MetFree l (⟨"com/example/weaverbird/weaverbird/queues/RunAction", "of", "(Lcom/example/weaverbird/weaverbird/codes/CommandType;)Ljava/util/Optional;"⟩ : MethodName) (head1 (Jvm.Cond.code (⟨"com/example/weaverbird/weaverbird/queues/RunAction", "of", "(Lcom/example/weaverbird/weaverbird/codes/CommandType;)Ljava/util/Optional;"⟩ : MethodName) prog_16_method_4_code 5 (some (.object "java/util/Optional")) :: ws) ({ frames := 3, cells := 2, slots := 6, locals := 38 } : Room)) (fun a U => a = #[(.ref w10)] ∧ Z.Warmed39 U.vm ∧ U.heap = h0) (fun _ _ _ _ _ => True) (fun _ U o U' => ∃ v L, o = .returned v ∧ Qerm35 Z w0 w1 w2 w3 w4 w5 w6 w7 w8 w9 w10 w11 w12 w13 w14 w15 w16 w17 h0 n0 v U'.heap L ∧ FrameEnd U o U' L ({ frames := 3, cells := 2, slots := 6, locals := 38 } : Room).cells ({ frames := 3, cells := 2, slots := 6, locals := 38 } : Room).slots) := by
  refine MetFree.of_bodySF (plainFor_of_name pn1) hisR ?_
  intro p e s m args below meth c s₁ Bd hml0 hP hK
  obtain ⟨rfl, hZ, hh⟩ := hP
  have hx := Bd.exec
  have hby := Bd.bytes
  have hml : c.maxLocals = 5 := hml0
  have hown : s.vm.findClass "com/example/weaverbird/weaverbird/queues/RunAction" = some m.cls := findClass_of_methodNamed Bd.named
  have hnm := (name_of_methodNamed Bd.named Bd.method).1
  have X0 : Stand p l e ({ frames := 3, cells := 2, slots := 6, locals := 38 } : Room) s m #[(.ref w10)] below meth c s₁ [] 0 0 := Stand.of_body Bd
  have e0 : s₁.heap = h0 := by rw [← hh, Bd.state]; rfl
  have N0 := Fr.nil n0
  have hlk := Bd.notSynchronized
  obtain ⟨wS0, wE0, wS1, wE1, wS2, wE2, wS3, wE3, wS4, wE4, wS5, wE5, wS6, wE6, wS7, wE7, wS8, wE8, wS9, wE9, wS10, wE10, wS11, wE11, wS12, wE12, wS13, wE13, wS14, wE14, wS15, wE15, wS16, wE16, wS17, wE17, wF2_type, wF7_ordinal, wF0_ordinal, wF3_type, wF8_ordinal, wF4_type, wF9_ordinal, wF5_type, wF10_ordinal, wF6_type, wF11_ordinal, wF12_ordinal, wF13_ordinal, wF14_ordinal, wF15_ordinal, wF16_ordinal, wF17_value, wA, -⟩ := id hWd
  have pre0 : ∀ t, Steps p.tables e below (s₁.setTop (mkF m 0 #[.val (.ref w10), .unset, .unset, .unset, .unset] [])) t → Steps p.tables e below (s₁.setTop (entryFrame m #[(.ref w10)] 5)) t := fun t k => castTop (ef25 m w10) k
  obtain ⟨_, _, ⟨T160, L160, k160, n160⟩, -, X160, ⟨Lc160, hQ160, l160, y160, z160⟩, st160⟩ := Jvm.LawKit.callS X0 hx (y := (⟨"com/example/weaverbird/weaverbird/queues/RunAction", "values", "()[Lcom/example/weaverbird/weaverbird/queues/RunAction;"⟩ : MethodName)) hown (mvT hZ (hw _ (List.mem_of_getElem? (i := 15) rfl))) (mvT hZ (hw _ (List.mem_of_getElem? (i := 16) rfl))) (mvT hZ (hw _ (List.mem_of_getElem? (i := 13) rfl))) (mvT hZ (hw _ (List.mem_of_getElem? (i := 17) rfl))) (by decide) (backOf (W := 0) (rm4 l Z a0 hw [] w0 w1 w2 w3 w4 w5 w6 w7 w8 w9 w10 w11 w12 w13 w14 w15 w16 w17 h0 n0 hWd O0) hZ (hw _ (List.mem_of_getElem? (i := 17) rfl)) (hw _ (List.mem_of_getElem? (i := 13) rfl)) (by decide) (by decide)) (g := (mkF m 0 #[.val (.ref w10), .unset, .unset, .unset, .unset] [])) rfl (by rw [hml]; rfl) (argsL := []) (rest := []) (lenOf pd2 rfl) rfl (by show 2 * 0 + _ ≤ _; exact Nat.le_of_eq rfl) (hb hby d_prog_16_method_4_code_0) (fun _ _ => ⟨rfl, e0, (by decide : 0 + 1 ≤ _), (by decide : 0 + 5 ≤ _)⟩)
  dsimp only [Pt.U, Pt.locs, Pt.cells, Pt.slots] at X160 l160 y160 z160 st160 hQ160
  subst l160 y160 z160
  obtain ⟨r160, ka160, rfl, N160q, K160, O_160, V160, g_r160⟩ := hQ160
  have N160 := Fr.app N0 N160q
  have Kp160 : Keep h0 T160.heap [] := (Keep.refl h0 []).trans K160 all0
  obtain ⟨cl161, Ar161, q161, S161, M161, H161, G161⟩ := id V160
  obtain ⟨cl162, Ar162, q162, S162, M162, H162, G162⟩ := id V160
  have hin162 : ¬ ((0 : Int32) < 0 ∨ cl162.slots.size ≤ ((0 : Int32)).toNatClampNeg) := inb_of S162 ⟨by decide, by decide⟩
  have hat162 : cl162.slots[((0 : Int32)).toNatClampNeg]? = some (.ref w2) := Has.at H162 hin162 rfl
  obtain ⟨T163, X163, e163, st163⟩ := getF X160 hx hZ hown (host := "") (Or.inl (hw _ (List.mem_of_getElem? (i := 35) rfl))) Via.refl rfl (wF2_type.ext O_160.2) (g := (mkF m 21 #[.val (.ref w10), .val (.ref r160), .val (.int (5 : Int32)), .val (.int (0 : Int32)), .val (.ref w2)] [(.ref w2)])) rfl rfl (hb hby d_prog_16_method_4_code_21)
  obtain ⟨cl164, Ar164, q164, S164, M164, H164, G164⟩ := id V160
  have hin164 : ¬ ((1 : Int32) < 0 ∨ cl164.slots.size ≤ ((1 : Int32)).toNatClampNeg) := inb_of S164 ⟨by decide, by decide⟩
  have hat164 : cl164.slots[((1 : Int32)).toNatClampNeg]? = some (.ref w3) := Has.at H164 hin164 rfl
  obtain ⟨T165, X165, e165, st165⟩ := getF X163 hx hZ hown (host := "") (Or.inl (hw _ (List.mem_of_getElem? (i := 35) rfl))) Via.refl e163 (wF3_type.ext O_160.2) (g := (mkF m 21 #[.val (.ref w10), .val (.ref r160), .val (.int (5 : Int32)), .val (.int (1 : Int32)), .val (.ref w3)] [(.ref w3)])) rfl rfl (hb hby d_prog_16_method_4_code_21)
  obtain ⟨cl166, Ar166, q166, S166, M166, H166, G166⟩ := id V160
  have hin166 : ¬ ((2 : Int32) < 0 ∨ cl166.slots.size ≤ ((2 : Int32)).toNatClampNeg) := inb_of S166 ⟨by decide, by decide⟩
  have hat166 : cl166.slots[((2 : Int32)).toNatClampNeg]? = some (.ref w4) := Has.at H166 hin166 rfl
  obtain ⟨T167, X167, e167, st167⟩ := getF X165 hx hZ hown (host := "") (Or.inl (hw _ (List.mem_of_getElem? (i := 35) rfl))) Via.refl e165 (wF4_type.ext O_160.2) (g := (mkF m 21 #[.val (.ref w10), .val (.ref r160), .val (.int (5 : Int32)), .val (.int (2 : Int32)), .val (.ref w4)] [(.ref w4)])) rfl rfl (hb hby d_prog_16_method_4_code_21)
  obtain ⟨cl168, Ar168, q168, S168, M168, H168, G168⟩ := id V160
  have hin168 : ¬ ((3 : Int32) < 0 ∨ cl168.slots.size ≤ ((3 : Int32)).toNatClampNeg) := inb_of S168 ⟨by decide, by decide⟩
  have hat168 : cl168.slots[((3 : Int32)).toNatClampNeg]? = some (.ref w5) := Has.at H168 hin168 rfl
  obtain ⟨T169, X169, e169, st169⟩ := getF X167 hx hZ hown (host := "") (Or.inl (hw _ (List.mem_of_getElem? (i := 35) rfl))) Via.refl e167 (wF5_type.ext O_160.2) (g := (mkF m 21 #[.val (.ref w10), .val (.ref r160), .val (.int (5 : Int32)), .val (.int (3 : Int32)), .val (.ref w5)] [(.ref w5)])) rfl rfl (hb hby d_prog_16_method_4_code_21)
  obtain ⟨_, _, ⟨T175, L175, k175, n175⟩, -, X175, ⟨Lc175, hQ175, l175, y175, z175⟩, st175⟩ := Jvm.LawKit.callS X169 hx (y := (⟨"java/util/Optional", "of", "(Ljava/lang/Object;)Ljava/util/Optional;"⟩ : MethodName)) hown (mvT hZ (hw _ (List.mem_of_getElem? (i := 56) rfl))) (mvT hZ (hw _ (List.mem_of_getElem? (i := 57) rfl))) (mvT hZ (hw _ (List.mem_of_getElem? (i := 44) rfl))) (mvT hZ (hw _ (List.mem_of_getElem? (i := 58) rfl))) (by decide) (backOf (W := 0) (rm36 l Z a0 hw [] w0 w1 w2 w3 w4 w5 w6 w7 w8 w9 w10 w11 w12 w13 w14 w15 w16 w17 T160.heap n0 hWd O_160) hZ (hw _ (List.mem_of_getElem? (i := 58) rfl)) (hw _ (List.mem_of_getElem? (i := 44) rfl)) (by decide) (by decide)) (g := (mkF m 30 #[.val (.ref w10), .val (.ref r160), .val (.int (5 : Int32)), .val (.int (3 : Int32)), .val (.ref w5)] [(.ref w5)])) rfl (by rw [hml]; rfl) (argsL := [(.ref w5)]) (rest := []) (lenOf pd7 rfl) rfl (by show 2 * 0 + _ ≤ _; exact Nat.le_of_eq rfl) (hb hby d_prog_16_method_4_code_30) (fun _ _ => ⟨rfl, e169, (by decide : 1 + 1 ≤ _), (by decide : 5 + 1 ≤ _)⟩)
  dsimp only [Pt.U, Pt.locs, Pt.cells, Pt.slots] at X175 l175 y175 z175 st175 hQ175
  subst l175 y175 z175
  obtain ⟨r175, rfl, N175q, K175, O_175, E_r175_175, F_r175_value_175, g_r175⟩ := hQ175
  have N175 := Fr.app N160 N175q
  have Kp175 : Keep h0 T175.heap [] := Kp160.trans K175 all0
  obtain ⟨fs, hr, hrun, hended, hWr, hsame⟩ := X175.leave (v := some (.ref r175)) (fun h => by rw [Bd.returns] at h; cases h) hlk
  refine ⟨_, _, pre0 _ ?_, hrun, hended, _, _, rfl, ?_, ⟨_, rfl⟩, hWr, hsame.mono (Nat.le_of_ble_eq_true rfl) (Nat.le_of_ble_eq_true rfl)⟩
  · show Steps p.tables e below (s₁.setTop (mkF m 0 #[.val (.ref w10), .unset, .unset, .unset, .unset] [])) _
    refine st160 _ ?_
    show Steps p.tables e below (T160.setTop (mkF m 3 #[.val (.ref w10), .unset, .unset, .unset, .unset] [(.ref r160)])) _
    refine XS.astoreN X160.here hx rfl (hb hby d_prog_16_method_4_code_3) rfl rfl (l' := #[.val (.ref w10), .val (.ref r160), .unset, .unset, .unset]) rfl ?_
    show Steps p.tables e below (T160.setTop (mkF m 4 #[.val (.ref w10), .val (.ref r160), .unset, .unset, .unset] [])) _
    refine XS.aloadN X160.here hx rfl (hb hby d_prog_16_method_4_code_4) rfl rfl ?_
    show Steps p.tables e below (T160.setTop (mkF m 5 #[.val (.ref w10), .val (.ref r160), .unset, .unset, .unset] [(.ref r160)])) _
    refine X160.arraylength hx Ar161.1 (State.isArrayOf_alike hZ.alike Ar161.2.1) (g := (mkF m 5 #[.val (.ref w10), .val (.ref r160), .unset, .unset, .unset] [(.ref r160)])) rfl rfl (hb hby d_prog_16_method_4_code_5) _ ?_
    rw [len_of S161 M161]
    show Steps p.tables e below (T160.setTop (mkF m 6 #[.val (.ref w10), .val (.ref r160), .unset, .unset, .unset] [(.int (5 : Int32))])) _
    refine XS.istoreN X160.here hx rfl (hb hby d_prog_16_method_4_code_6) rfl (l' := #[.val (.ref w10), .val (.ref r160), .val (.int (5 : Int32)), .unset, .unset]) rfl ?_
    show Steps p.tables e below (T160.setTop (mkF m 7 #[.val (.ref w10), .val (.ref r160), .val (.int (5 : Int32)), .unset, .unset] [])) _
    refine XS.iconst X160.here hx rfl (hb hby d_prog_16_method_4_code_7) ?_
    show Steps p.tables e below (T160.setTop (mkF m 8 #[.val (.ref w10), .val (.ref r160), .val (.int (5 : Int32)), .unset, .unset] [(.int (0 : Int32))])) _
    refine XS.istoreN X160.here hx rfl (hb hby d_prog_16_method_4_code_8) rfl (l' := #[.val (.ref w10), .val (.ref r160), .val (.int (5 : Int32)), .val (.int (0 : Int32)), .unset]) rfl ?_
    show Steps p.tables e below (T160.setTop (mkF m 9 #[.val (.ref w10), .val (.ref r160), .val (.int (5 : Int32)), .val (.int (0 : Int32)), .unset] [])) _
    refine XS.iloadN X160.here hx rfl (hb hby d_prog_16_method_4_code_9) rfl ?_
    show Steps p.tables e below (T160.setTop (mkF m 10 #[.val (.ref w10), .val (.ref r160), .val (.int (5 : Int32)), .val (.int (0 : Int32)), .unset] [(.int (0 : Int32))])) _
    refine XS.iloadN X160.here hx rfl (hb hby d_prog_16_method_4_code_10) rfl ?_
    show Steps p.tables e below (T160.setTop (mkF m 11 #[.val (.ref w10), .val (.ref r160), .val (.int (5 : Int32)), .val (.int (0 : Int32)), .unset] [(.int (5 : Int32)), (.int (0 : Int32))])) _
    refine XS.icmpNo X160.here hx rfl (hb hby d_prog_16_method_4_code_11) rfl (by decide) ?_
    show Steps p.tables e below (T160.setTop (mkF m 14 #[.val (.ref w10), .val (.ref r160), .val (.int (5 : Int32)), .val (.int (0 : Int32)), .unset] [])) _
    refine XS.aloadN X160.here hx rfl (hb hby d_prog_16_method_4_code_14) rfl rfl ?_
    show Steps p.tables e below (T160.setTop (mkF m 15 #[.val (.ref w10), .val (.ref r160), .val (.int (5 : Int32)), .val (.int (0 : Int32)), .unset] [(.ref r160)])) _
    refine XS.iloadN X160.here hx rfl (hb hby d_prog_16_method_4_code_15) rfl ?_
    show Steps p.tables e below (T160.setTop (mkF m 16 #[.val (.ref w10), .val (.ref r160), .val (.int (5 : Int32)), .val (.int (0 : Int32)), .unset] [(.int (0 : Int32)), (.ref r160)])) _
    refine X160.aaload hx (j := (0 : Int32)) (v := (.ref w2)) Ar162.1 (State.isArrayOf_alike hZ.alike Ar162.2.1) rfl Ar162.2.2 hin162 hat162 (g := (mkF m 16 #[.val (.ref w10), .val (.ref r160), .val (.int (5 : Int32)), .val (.int (0 : Int32)), .unset] [(.int (0 : Int32)), (.ref r160)])) rfl rfl (hb hby d_prog_16_method_4_code_16) _ ?_
    show Steps p.tables e below (T160.setTop (mkF m 17 #[.val (.ref w10), .val (.ref r160), .val (.int (5 : Int32)), .val (.int (0 : Int32)), .unset] [(.ref w2)])) _
    refine XS.astore X160.here hx rfl (hb hby d_prog_16_method_4_code_17) rfl rfl (l' := #[.val (.ref w10), .val (.ref r160), .val (.int (5 : Int32)), .val (.int (0 : Int32)), .val (.ref w2)]) rfl ?_
    show Steps p.tables e below (T160.setTop (mkF m 19 #[.val (.ref w10), .val (.ref r160), .val (.int (5 : Int32)), .val (.int (0 : Int32)), .val (.ref w2)] [])) _
    refine XS.aload X160.here hx rfl (hb hby d_prog_16_method_4_code_19) rfl rfl ?_
    show Steps p.tables e below (T160.setTop (mkF m 21 #[.val (.ref w10), .val (.ref r160), .val (.int (5 : Int32)), .val (.int (0 : Int32)), .val (.ref w2)] [(.ref w2)])) _
    refine st163 _ ?_
    show Steps p.tables e below (T163.setTop (mkF m 24 #[.val (.ref w10), .val (.ref r160), .val (.int (5 : Int32)), .val (.int (0 : Int32)), .val (.ref w2)] [(.ref w7)])) _
    refine XS.aloadN X163.here hx rfl (hb hby d_prog_16_method_4_code_24) rfl rfl ?_
    show Steps p.tables e below (T163.setTop (mkF m 25 #[.val (.ref w10), .val (.ref r160), .val (.int (5 : Int32)), .val (.int (0 : Int32)), .val (.ref w2)] [(.ref w10), (.ref w7)])) _
    refine Jvm.RoadKit.acmp (g := (mkF m 25 #[.val (.ref w10), .val (.ref r160), .val (.int (5 : Int32)), .val (.int (0 : Int32)), .val (.ref w2)] [(.ref w10), (.ref w7)])) X163 hx rfl rfl rfl (pc0 := 25) (pc' := 34) (same := false) rfl (hb hby d_prog_16_method_4_code_25) rfl (decide_eq_false fun q => (Fld.ne wF7_ordinal wF10_ordinal (fun q => absurd (Value.int.inj q) (by decide))) (Value.ref.inj q)) (by decide) (by decide) ?_
    show Steps p.tables e below (T163.setTop (mkF m 34 #[.val (.ref w10), .val (.ref r160), .val (.int (5 : Int32)), .val (.int (0 : Int32)), .val (.ref w2)] [])) _
    refine XS.iinc X163.here hx rfl (hb hby d_prog_16_method_4_code_34) rfl (l' := #[.val (.ref w10), .val (.ref r160), .val (.int (5 : Int32)), .val (.int (1 : Int32)), .val (.ref w2)]) rfl ?_
    show Steps p.tables e below (T163.setTop (mkF m 37 #[.val (.ref w10), .val (.ref r160), .val (.int (5 : Int32)), .val (.int (1 : Int32)), .val (.ref w2)] [])) _
    refine XS.goto X163.here hx rfl (pc0 := 37) (pc' := 9) rfl (hb hby d_prog_16_method_4_code_37) (by decide) (by decide) ?_
    show Steps p.tables e below (T163.setTop (mkF m 9 #[.val (.ref w10), .val (.ref r160), .val (.int (5 : Int32)), .val (.int (1 : Int32)), .val (.ref w2)] [])) _
    refine XS.iloadN X163.here hx rfl (hb hby d_prog_16_method_4_code_9) rfl ?_
    show Steps p.tables e below (T163.setTop (mkF m 10 #[.val (.ref w10), .val (.ref r160), .val (.int (5 : Int32)), .val (.int (1 : Int32)), .val (.ref w2)] [(.int (1 : Int32))])) _
    refine XS.iloadN X163.here hx rfl (hb hby d_prog_16_method_4_code_10) rfl ?_
    show Steps p.tables e below (T163.setTop (mkF m 11 #[.val (.ref w10), .val (.ref r160), .val (.int (5 : Int32)), .val (.int (1 : Int32)), .val (.ref w2)] [(.int (5 : Int32)), (.int (1 : Int32))])) _
    refine XS.icmpNo X163.here hx rfl (hb hby d_prog_16_method_4_code_11) rfl (by decide) ?_
    show Steps p.tables e below (T163.setTop (mkF m 14 #[.val (.ref w10), .val (.ref r160), .val (.int (5 : Int32)), .val (.int (1 : Int32)), .val (.ref w2)] [])) _
    refine XS.aloadN X163.here hx rfl (hb hby d_prog_16_method_4_code_14) rfl rfl ?_
    show Steps p.tables e below (T163.setTop (mkF m 15 #[.val (.ref w10), .val (.ref r160), .val (.int (5 : Int32)), .val (.int (1 : Int32)), .val (.ref w2)] [(.ref r160)])) _
    refine XS.iloadN X163.here hx rfl (hb hby d_prog_16_method_4_code_15) rfl ?_
    show Steps p.tables e below (T163.setTop (mkF m 16 #[.val (.ref w10), .val (.ref r160), .val (.int (5 : Int32)), .val (.int (1 : Int32)), .val (.ref w2)] [(.int (1 : Int32)), (.ref r160)])) _
    refine X163.aaload hx (j := (1 : Int32)) (v := (.ref w3)) (by rw [e163]; exact Ar164.1) (State.isArrayOf_alike hZ.alike Ar164.2.1) rfl Ar164.2.2 hin164 hat164 (g := (mkF m 16 #[.val (.ref w10), .val (.ref r160), .val (.int (5 : Int32)), .val (.int (1 : Int32)), .val (.ref w2)] [(.int (1 : Int32)), (.ref r160)])) rfl rfl (hb hby d_prog_16_method_4_code_16) _ ?_
    show Steps p.tables e below (T163.setTop (mkF m 17 #[.val (.ref w10), .val (.ref r160), .val (.int (5 : Int32)), .val (.int (1 : Int32)), .val (.ref w2)] [(.ref w3)])) _
    refine XS.astore X163.here hx rfl (hb hby d_prog_16_method_4_code_17) rfl rfl (l' := #[.val (.ref w10), .val (.ref r160), .val (.int (5 : Int32)), .val (.int (1 : Int32)), .val (.ref w3)]) rfl ?_
    show Steps p.tables e below (T163.setTop (mkF m 19 #[.val (.ref w10), .val (.ref r160), .val (.int (5 : Int32)), .val (.int (1 : Int32)), .val (.ref w3)] [])) _
    refine XS.aload X163.here hx rfl (hb hby d_prog_16_method_4_code_19) rfl rfl ?_
    show Steps p.tables e below (T163.setTop (mkF m 21 #[.val (.ref w10), .val (.ref r160), .val (.int (5 : Int32)), .val (.int (1 : Int32)), .val (.ref w3)] [(.ref w3)])) _
    refine st165 _ ?_
    show Steps p.tables e below (T165.setTop (mkF m 24 #[.val (.ref w10), .val (.ref r160), .val (.int (5 : Int32)), .val (.int (1 : Int32)), .val (.ref w3)] [(.ref w8)])) _
    refine XS.aloadN X165.here hx rfl (hb hby d_prog_16_method_4_code_24) rfl rfl ?_
    show Steps p.tables e below (T165.setTop (mkF m 25 #[.val (.ref w10), .val (.ref r160), .val (.int (5 : Int32)), .val (.int (1 : Int32)), .val (.ref w3)] [(.ref w10), (.ref w8)])) _
    refine Jvm.RoadKit.acmp (g := (mkF m 25 #[.val (.ref w10), .val (.ref r160), .val (.int (5 : Int32)), .val (.int (1 : Int32)), .val (.ref w3)] [(.ref w10), (.ref w8)])) X165 hx rfl rfl rfl (pc0 := 25) (pc' := 34) (same := false) rfl (hb hby d_prog_16_method_4_code_25) rfl (decide_eq_false fun q => (Fld.ne wF8_ordinal wF10_ordinal (fun q => absurd (Value.int.inj q) (by decide))) (Value.ref.inj q)) (by decide) (by decide) ?_
    show Steps p.tables e below (T165.setTop (mkF m 34 #[.val (.ref w10), .val (.ref r160), .val (.int (5 : Int32)), .val (.int (1 : Int32)), .val (.ref w3)] [])) _
    refine XS.iinc X165.here hx rfl (hb hby d_prog_16_method_4_code_34) rfl (l' := #[.val (.ref w10), .val (.ref r160), .val (.int (5 : Int32)), .val (.int (2 : Int32)), .val (.ref w3)]) rfl ?_
    show Steps p.tables e below (T165.setTop (mkF m 37 #[.val (.ref w10), .val (.ref r160), .val (.int (5 : Int32)), .val (.int (2 : Int32)), .val (.ref w3)] [])) _
    refine XS.goto X165.here hx rfl (pc0 := 37) (pc' := 9) rfl (hb hby d_prog_16_method_4_code_37) (by decide) (by decide) ?_
    show Steps p.tables e below (T165.setTop (mkF m 9 #[.val (.ref w10), .val (.ref r160), .val (.int (5 : Int32)), .val (.int (2 : Int32)), .val (.ref w3)] [])) _
    refine XS.iloadN X165.here hx rfl (hb hby d_prog_16_method_4_code_9) rfl ?_
    show Steps p.tables e below (T165.setTop (mkF m 10 #[.val (.ref w10), .val (.ref r160), .val (.int (5 : Int32)), .val (.int (2 : Int32)), .val (.ref w3)] [(.int (2 : Int32))])) _
    refine XS.iloadN X165.here hx rfl (hb hby d_prog_16_method_4_code_10) rfl ?_
    show Steps p.tables e below (T165.setTop (mkF m 11 #[.val (.ref w10), .val (.ref r160), .val (.int (5 : Int32)), .val (.int (2 : Int32)), .val (.ref w3)] [(.int (5 : Int32)), (.int (2 : Int32))])) _
    refine XS.icmpNo X165.here hx rfl (hb hby d_prog_16_method_4_code_11) rfl (by decide) ?_
    show Steps p.tables e below (T165.setTop (mkF m 14 #[.val (.ref w10), .val (.ref r160), .val (.int (5 : Int32)), .val (.int (2 : Int32)), .val (.ref w3)] [])) _
    refine XS.aloadN X165.here hx rfl (hb hby d_prog_16_method_4_code_14) rfl rfl ?_
    show Steps p.tables e below (T165.setTop (mkF m 15 #[.val (.ref w10), .val (.ref r160), .val (.int (5 : Int32)), .val (.int (2 : Int32)), .val (.ref w3)] [(.ref r160)])) _
    refine XS.iloadN X165.here hx rfl (hb hby d_prog_16_method_4_code_15) rfl ?_
    show Steps p.tables e below (T165.setTop (mkF m 16 #[.val (.ref w10), .val (.ref r160), .val (.int (5 : Int32)), .val (.int (2 : Int32)), .val (.ref w3)] [(.int (2 : Int32)), (.ref r160)])) _
    refine X165.aaload hx (j := (2 : Int32)) (v := (.ref w4)) (by rw [e165]; exact Ar166.1) (State.isArrayOf_alike hZ.alike Ar166.2.1) rfl Ar166.2.2 hin166 hat166 (g := (mkF m 16 #[.val (.ref w10), .val (.ref r160), .val (.int (5 : Int32)), .val (.int (2 : Int32)), .val (.ref w3)] [(.int (2 : Int32)), (.ref r160)])) rfl rfl (hb hby d_prog_16_method_4_code_16) _ ?_
    show Steps p.tables e below (T165.setTop (mkF m 17 #[.val (.ref w10), .val (.ref r160), .val (.int (5 : Int32)), .val (.int (2 : Int32)), .val (.ref w3)] [(.ref w4)])) _
    refine XS.astore X165.here hx rfl (hb hby d_prog_16_method_4_code_17) rfl rfl (l' := #[.val (.ref w10), .val (.ref r160), .val (.int (5 : Int32)), .val (.int (2 : Int32)), .val (.ref w4)]) rfl ?_
    show Steps p.tables e below (T165.setTop (mkF m 19 #[.val (.ref w10), .val (.ref r160), .val (.int (5 : Int32)), .val (.int (2 : Int32)), .val (.ref w4)] [])) _
    refine XS.aload X165.here hx rfl (hb hby d_prog_16_method_4_code_19) rfl rfl ?_
    show Steps p.tables e below (T165.setTop (mkF m 21 #[.val (.ref w10), .val (.ref r160), .val (.int (5 : Int32)), .val (.int (2 : Int32)), .val (.ref w4)] [(.ref w4)])) _
    refine st167 _ ?_
    show Steps p.tables e below (T167.setTop (mkF m 24 #[.val (.ref w10), .val (.ref r160), .val (.int (5 : Int32)), .val (.int (2 : Int32)), .val (.ref w4)] [(.ref w9)])) _
    refine XS.aloadN X167.here hx rfl (hb hby d_prog_16_method_4_code_24) rfl rfl ?_
    show Steps p.tables e below (T167.setTop (mkF m 25 #[.val (.ref w10), .val (.ref r160), .val (.int (5 : Int32)), .val (.int (2 : Int32)), .val (.ref w4)] [(.ref w10), (.ref w9)])) _
    refine Jvm.RoadKit.acmp (g := (mkF m 25 #[.val (.ref w10), .val (.ref r160), .val (.int (5 : Int32)), .val (.int (2 : Int32)), .val (.ref w4)] [(.ref w10), (.ref w9)])) X167 hx rfl rfl rfl (pc0 := 25) (pc' := 34) (same := false) rfl (hb hby d_prog_16_method_4_code_25) rfl (decide_eq_false fun q => (Fld.ne wF9_ordinal wF10_ordinal (fun q => absurd (Value.int.inj q) (by decide))) (Value.ref.inj q)) (by decide) (by decide) ?_
    show Steps p.tables e below (T167.setTop (mkF m 34 #[.val (.ref w10), .val (.ref r160), .val (.int (5 : Int32)), .val (.int (2 : Int32)), .val (.ref w4)] [])) _
    refine XS.iinc X167.here hx rfl (hb hby d_prog_16_method_4_code_34) rfl (l' := #[.val (.ref w10), .val (.ref r160), .val (.int (5 : Int32)), .val (.int (3 : Int32)), .val (.ref w4)]) rfl ?_
    show Steps p.tables e below (T167.setTop (mkF m 37 #[.val (.ref w10), .val (.ref r160), .val (.int (5 : Int32)), .val (.int (3 : Int32)), .val (.ref w4)] [])) _
    refine XS.goto X167.here hx rfl (pc0 := 37) (pc' := 9) rfl (hb hby d_prog_16_method_4_code_37) (by decide) (by decide) ?_
    show Steps p.tables e below (T167.setTop (mkF m 9 #[.val (.ref w10), .val (.ref r160), .val (.int (5 : Int32)), .val (.int (3 : Int32)), .val (.ref w4)] [])) _
    refine XS.iloadN X167.here hx rfl (hb hby d_prog_16_method_4_code_9) rfl ?_
    show Steps p.tables e below (T167.setTop (mkF m 10 #[.val (.ref w10), .val (.ref r160), .val (.int (5 : Int32)), .val (.int (3 : Int32)), .val (.ref w4)] [(.int (3 : Int32))])) _
    refine XS.iloadN X167.here hx rfl (hb hby d_prog_16_method_4_code_10) rfl ?_
    show Steps p.tables e below (T167.setTop (mkF m 11 #[.val (.ref w10), .val (.ref r160), .val (.int (5 : Int32)), .val (.int (3 : Int32)), .val (.ref w4)] [(.int (5 : Int32)), (.int (3 : Int32))])) _
    refine XS.icmpNo X167.here hx rfl (hb hby d_prog_16_method_4_code_11) rfl (by decide) ?_
    show Steps p.tables e below (T167.setTop (mkF m 14 #[.val (.ref w10), .val (.ref r160), .val (.int (5 : Int32)), .val (.int (3 : Int32)), .val (.ref w4)] [])) _
    refine XS.aloadN X167.here hx rfl (hb hby d_prog_16_method_4_code_14) rfl rfl ?_
    show Steps p.tables e below (T167.setTop (mkF m 15 #[.val (.ref w10), .val (.ref r160), .val (.int (5 : Int32)), .val (.int (3 : Int32)), .val (.ref w4)] [(.ref r160)])) _
    refine XS.iloadN X167.here hx rfl (hb hby d_prog_16_method_4_code_15) rfl ?_
    show Steps p.tables e below (T167.setTop (mkF m 16 #[.val (.ref w10), .val (.ref r160), .val (.int (5 : Int32)), .val (.int (3 : Int32)), .val (.ref w4)] [(.int (3 : Int32)), (.ref r160)])) _
    refine X167.aaload hx (j := (3 : Int32)) (v := (.ref w5)) (by rw [e167]; exact Ar168.1) (State.isArrayOf_alike hZ.alike Ar168.2.1) rfl Ar168.2.2 hin168 hat168 (g := (mkF m 16 #[.val (.ref w10), .val (.ref r160), .val (.int (5 : Int32)), .val (.int (3 : Int32)), .val (.ref w4)] [(.int (3 : Int32)), (.ref r160)])) rfl rfl (hb hby d_prog_16_method_4_code_16) _ ?_
    show Steps p.tables e below (T167.setTop (mkF m 17 #[.val (.ref w10), .val (.ref r160), .val (.int (5 : Int32)), .val (.int (3 : Int32)), .val (.ref w4)] [(.ref w5)])) _
    refine XS.astore X167.here hx rfl (hb hby d_prog_16_method_4_code_17) rfl rfl (l' := #[.val (.ref w10), .val (.ref r160), .val (.int (5 : Int32)), .val (.int (3 : Int32)), .val (.ref w5)]) rfl ?_
    show Steps p.tables e below (T167.setTop (mkF m 19 #[.val (.ref w10), .val (.ref r160), .val (.int (5 : Int32)), .val (.int (3 : Int32)), .val (.ref w5)] [])) _
    refine XS.aload X167.here hx rfl (hb hby d_prog_16_method_4_code_19) rfl rfl ?_
    show Steps p.tables e below (T167.setTop (mkF m 21 #[.val (.ref w10), .val (.ref r160), .val (.int (5 : Int32)), .val (.int (3 : Int32)), .val (.ref w5)] [(.ref w5)])) _
    refine st169 _ ?_
    show Steps p.tables e below (T169.setTop (mkF m 24 #[.val (.ref w10), .val (.ref r160), .val (.int (5 : Int32)), .val (.int (3 : Int32)), .val (.ref w5)] [(.ref w10)])) _
    refine XS.aloadN X169.here hx rfl (hb hby d_prog_16_method_4_code_24) rfl rfl ?_
    show Steps p.tables e below (T169.setTop (mkF m 25 #[.val (.ref w10), .val (.ref r160), .val (.int (5 : Int32)), .val (.int (3 : Int32)), .val (.ref w5)] [(.ref w10), (.ref w10)])) _
    refine Jvm.RoadKit.acmp (g := (mkF m 25 #[.val (.ref w10), .val (.ref r160), .val (.int (5 : Int32)), .val (.int (3 : Int32)), .val (.ref w5)] [(.ref w10), (.ref w10)])) X169 hx rfl rfl rfl (pc0 := 25) (pc' := 28) (same := true) rfl (hb hby d_prog_16_method_4_code_25) rfl (decide_eq_true rfl) (by decide) (by decide) ?_
    show Steps p.tables e below (T169.setTop (mkF m 28 #[.val (.ref w10), .val (.ref r160), .val (.int (5 : Int32)), .val (.int (3 : Int32)), .val (.ref w5)] [])) _
    refine XS.aload X169.here hx rfl (hb hby d_prog_16_method_4_code_28) rfl rfl ?_
    show Steps p.tables e below (T169.setTop (mkF m 30 #[.val (.ref w10), .val (.ref r160), .val (.int (5 : Int32)), .val (.int (3 : Int32)), .val (.ref w5)] [(.ref w5)])) _
    refine st175 _ ?_
    show Steps p.tables e below (T175.setTop (mkF m 33 #[.val (.ref w10), .val (.ref r160), .val (.int (5 : Int32)), .val (.int (3 : Int32)), .val (.ref w5)] [(.ref r175)])) _
    exact retOut X175 hx (t := (.object "java/util/Optional")) (i := .areturn) Bd.returns rfl (Or.inr (Or.inr (Or.inr (Or.inr ⟨rfl, rfl, rfl⟩)))) (hb hby d_prog_16_method_4_code_33) hr
  · show Qerm35 Z w0 w1 w2 w3 w4 w5 w6 w7 w8 w9 w10 w11 w12 w13 w14 w15 w16 w17 h0 n0 _ T175.heap _
    exact ⟨r175, rfl, N175, Kp175, O_175, E_r175_175, F_r175_value_175, g_r175⟩
set_option maxRecDepth 65536 in
set_option maxHeartbeats 40000000 in
theorem rm39 (l : Launch) (Z : State) (a0 : Array Value) (hw : ∀ d ∈ tables_1, d.before a0 Z = true) (ws : List Jvm.Cond) (w0 w1 w2 w3 w4 w5 w6 w7 w8 w9 w10 w11 w12 w13 w14 w15 w16 w17 : Addr) (a1 : Addr) (h0 : Heap) (n0 : Nat) (hWd : Wd Z w0 w1 w2 w3 w4 w5 w6 w7 w8 w9 w10 w11 w12 w13 w14 w15 w16 w17) (O0 : Old Z n0 h0) (E_a1 : Exa Z h0 a1 "java/util/Optional") (F_a1_value : Fld Z h0 a1 "java/util/Optional" "value" "Ljava/lang/Object;" (.ref w5)) (g_a1 : n0 ≤ a1) :
    MetFree l (⟨"java/util/Optional", "orElse", "(Ljava/lang/Object;)Ljava/lang/Object;"⟩ : MethodName) (head1 (Jvm.Cond.code (⟨"java/util/Optional", "orElse", "(Ljava/lang/Object;)Ljava/lang/Object;"⟩ : MethodName) jdk_32_method_15_code 2 (some (.object "java/lang/Object")) :: ws) ({ frames := 0, cells := 0, slots := 0, locals := 0 } : Room)) (fun a U => a = #[(.ref a1), .null] ∧ Z.Warmed39 U.vm ∧ U.heap = h0) (fun _ _ _ _ _ => True) (fun _ U o U' => ∃ v L, o = .returned v ∧ Qp (some (.ref w5)) h0 n0 v U'.heap L ∧ FrameEnd U o U' L ({ frames := 0, cells := 0, slots := 0, locals := 0 } : Room).cells ({ frames := 0, cells := 0, slots := 0, locals := 0 } : Room).slots) := by
  refine MetFree.of_bodySF (plainFor_of_name pn2) hisR ?_
  intro p e s m args below meth c s₁ Bd hml0 hP hK
  obtain ⟨rfl, hZ, hh⟩ := hP
  have hx := Bd.exec
  have hby := Bd.bytes
  have hml : c.maxLocals = 2 := hml0
  have hown : s.vm.findClass "java/util/Optional" = some m.cls := findClass_of_methodNamed Bd.named
  have hnm := (name_of_methodNamed Bd.named Bd.method).1
  have X0 : Stand p l e ({ frames := 0, cells := 0, slots := 0, locals := 0 } : Room) s m #[(.ref a1), .null] below meth c s₁ [] 0 0 := Stand.of_body Bd
  have e0 : s₁.heap = h0 := by rw [← hh, Bd.state]; rfl
  have N0 := Fr.nil n0
  have hlk := Bd.notSynchronized
  obtain ⟨wS0, wE0, wS1, wE1, wS2, wE2, wS3, wE3, wS4, wE4, wS5, wE5, wS6, wE6, wS7, wE7, wS8, wE8, wS9, wE9, wS10, wE10, wS11, wE11, wS12, wE12, wS13, wE13, wS14, wE14, wS15, wE15, wS16, wE16, wS17, wE17, wF2_type, wF7_ordinal, wF0_ordinal, wF3_type, wF8_ordinal, wF4_type, wF9_ordinal, wF5_type, wF10_ordinal, wF6_type, wF11_ordinal, wF12_ordinal, wF13_ordinal, wF14_ordinal, wF15_ordinal, wF16_ordinal, wF17_value, wA, -⟩ := id hWd
  have pre0 : ∀ t, Steps p.tables e below (s₁.setTop (mkF m 0 #[.val (.ref a1), .val .null] [])) t → Steps p.tables e below (s₁.setTop (entryFrame m #[(.ref a1), .null] 2)) t := fun t k => castTop (ef13 m a1) k
  obtain ⟨T177, X177, e177, st177⟩ := getF X0 hx hZ hown (host := "") (Or.inl (hw _ (List.mem_of_getElem? (i := 52) rfl))) Via.refl e0 F_a1_value (g := (mkF m 1 #[.val (.ref a1), .val .null] [(.ref a1)])) rfl rfl (hb hby d_jdk_32_method_15_code_1)
  obtain ⟨T178, X178, e178, st178⟩ := getF X177 hx hZ hown (host := "") (Or.inl (hw _ (List.mem_of_getElem? (i := 52) rfl))) Via.refl e177 F_a1_value (g := (mkF m 8 #[.val (.ref a1), .val .null] [(.ref a1)])) rfl rfl (hb hby d_jdk_32_method_15_code_8)
  obtain ⟨fs, hr, hrun, hended, hWr, hsame⟩ := X178.leave (v := some (.ref w5)) (fun h => by rw [Bd.returns] at h; cases h) hlk
  refine ⟨_, _, pre0 _ ?_, hrun, hended, _, _, rfl, ?_, ⟨_, rfl⟩, hWr, hsame.mono (Nat.le_of_ble_eq_true rfl) (Nat.le_of_ble_eq_true rfl)⟩
  · show Steps p.tables e below (s₁.setTop (mkF m 0 #[.val (.ref a1), .val .null] [])) _
    refine XS.aloadN X0.here hx rfl (hb hby d_jdk_32_method_15_code_0) rfl rfl ?_
    show Steps p.tables e below (s₁.setTop (mkF m 1 #[.val (.ref a1), .val .null] [(.ref a1)])) _
    refine st177 _ ?_
    show Steps p.tables e below (T177.setTop (mkF m 4 #[.val (.ref a1), .val .null] [(.ref w5)])) _
    refine XS.ifnullNo X177.here hx rfl (hb hby d_jdk_32_method_15_code_4) rfl ?_
    show Steps p.tables e below (T177.setTop (mkF m 7 #[.val (.ref a1), .val .null] [])) _
    refine XS.aloadN X177.here hx rfl (hb hby d_jdk_32_method_15_code_7) rfl rfl ?_
    show Steps p.tables e below (T177.setTop (mkF m 8 #[.val (.ref a1), .val .null] [(.ref a1)])) _
    refine st178 _ ?_
    show Steps p.tables e below (T178.setTop (mkF m 11 #[.val (.ref a1), .val .null] [(.ref w5)])) _
    refine XS.goto X178.here hx rfl (pc0 := 11) (pc' := 15) rfl (hb hby d_jdk_32_method_15_code_11) (by decide) (by decide) ?_
    show Steps p.tables e below (T178.setTop (mkF m 15 #[.val (.ref a1), .val .null] [(.ref w5)])) _
    exact retOut X178 hx (t := (.object "java/lang/Object")) (i := .areturn) Bd.returns rfl (Or.inr (Or.inr (Or.inr (Or.inr ⟨rfl, rfl, rfl⟩)))) (hb hby d_jdk_32_method_15_code_15) hr
  · show Qp (some (.ref w5)) h0 n0 _ T178.heap _
    rw [e178]
    exact ⟨rfl, N0, rfl⟩
theorem d_method_3_code_73 : decode method_3_code 73 = .ok (.iload_n 0, 1) := by decide +kernel
theorem d_method_3_code_74 : decode method_3_code 74 = .ok (.bipush 8, 2) := by decide +kernel
theorem d_method_3_code_76 : decode method_3_code 76 = .ok (.if_icmp .ne 7, 3) := by decide +kernel
theorem d_method_3_code_79 : decode method_3_code 79 = .ok (.getstatic 57, 3) := by decide +kernel
theorem d_method_3_code_82 : decode method_3_code 82 = .ok (.areturn, 1) := by decide +kernel
theorem ef26 (m : MethodId)    : entryFrame m #[(.int (8 : Int32))] 1 = mkF m 0 #[.val (.int (8 : Int32))] [] := by first | (simp [entryFrame, mkF, argsToLocals, Value.category]; done) | rfl
set_option maxRecDepth 65536 in
set_option maxHeartbeats 40000000 in
theorem rm40 (l : Launch) (Z : State) (a0 : Array Value) (hw : ∀ d ∈ tables_1, d.before a0 Z = true) (ws : List Jvm.Cond) (w0 w1 w2 w3 w4 w5 w6 w7 w8 w9 w10 w11 w12 w13 w14 w15 w16 w17 : Addr) (h0 : Heap) (n0 : Nat) (hWd : Wd Z w0 w1 w2 w3 w4 w5 w6 w7 w8 w9 w10 w11 w12 w13 w14 w15 w16 w17) (O0 : Old Z n0 h0) :
    MetFree l (⟨"com/example/weaverbird/weaverbird/queues/RunActionOfPinLaw", "typeAt", "(I)Lcom/example/weaverbird/weaverbird/codes/CommandType;"⟩ : MethodName) (head1 (Jvm.Cond.code (⟨"com/example/weaverbird/weaverbird/queues/RunActionOfPinLaw", "typeAt", "(I)Lcom/example/weaverbird/weaverbird/codes/CommandType;"⟩ : MethodName) method_3_code 1 (some (.object "com/example/weaverbird/weaverbird/codes/CommandType")) :: ws) ({ frames := 0, cells := 0, slots := 0, locals := 0 } : Room)) (fun a U => a = #[(.int (8 : Int32))] ∧ Z.Warmed39 U.vm ∧ U.heap = h0) (fun _ _ _ _ _ => True) (fun _ U o U' => ∃ v L, o = .returned v ∧ Qp (some (.ref w7)) h0 n0 v U'.heap L ∧ FrameEnd U o U' L ({ frames := 0, cells := 0, slots := 0, locals := 0 } : Room).cells ({ frames := 0, cells := 0, slots := 0, locals := 0 } : Room).slots) := by
  refine MetFree.of_bodySF (plainFor_of_name pn0) hisR ?_
  intro p e s m args below meth c s₁ Bd hml0 hP hK
  obtain ⟨rfl, hZ, hh⟩ := hP
  have hx := Bd.exec
  have hby := Bd.bytes
  have hml : c.maxLocals = 1 := hml0
  have hown : s.vm.findClass "com/example/weaverbird/weaverbird/queues/RunActionOfPinLaw" = some m.cls := findClass_of_methodNamed Bd.named
  have hnm := (name_of_methodNamed Bd.named Bd.method).1
  have X0 : Stand p l e ({ frames := 0, cells := 0, slots := 0, locals := 0 } : Room) s m #[(.int (8 : Int32))] below meth c s₁ [] 0 0 := Stand.of_body Bd
  have e0 : s₁.heap = h0 := by rw [← hh, Bd.state]; rfl
  have N0 := Fr.nil n0
  have hlk := Bd.notSynchronized
  obtain ⟨wS0, wE0, wS1, wE1, wS2, wE2, wS3, wE3, wS4, wE4, wS5, wE5, wS6, wE6, wS7, wE7, wS8, wE8, wS9, wE9, wS10, wE10, wS11, wE11, wS12, wE12, wS13, wE13, wS14, wE14, wS15, wE15, wS16, wE16, wS17, wE17, wF2_type, wF7_ordinal, wF0_ordinal, wF3_type, wF8_ordinal, wF4_type, wF9_ordinal, wF5_type, wF10_ordinal, wF6_type, wF11_ordinal, wF12_ordinal, wF13_ordinal, wF14_ordinal, wF15_ordinal, wF16_ordinal, wF17_value, wA, -⟩ := id hWd
  have pre0 : ∀ t, Steps p.tables e below (s₁.setTop (mkF m 0 #[.val (.int (8 : Int32))] [])) t → Steps p.tables e below (s₁.setTop (entryFrame m #[(.int (8 : Int32))] 1)) t := fun t k => castTop (ef26 m ) k
  obtain ⟨T181, X181, e181, st181⟩ := getS2 X0 hx hZ hown (host := "") (Or.inl (hw _ (List.mem_of_getElem? (i := 76) rfl))) Via.refl e0 (wS7.ext O0.2) (g := (mkF m 79 #[.val (.int (8 : Int32))] [])) rfl (hb hby d_method_3_code_79)
  obtain ⟨fs, hr, hrun, hended, hWr, hsame⟩ := X181.leave (v := some (.ref w7)) (fun h => by rw [Bd.returns] at h; cases h) hlk
  refine ⟨_, _, pre0 _ ?_, hrun, hended, _, _, rfl, ?_, ⟨_, rfl⟩, hWr, hsame.mono (Nat.le_of_ble_eq_true rfl) (Nat.le_of_ble_eq_true rfl)⟩
  · show Steps p.tables e below (s₁.setTop (mkF m 0 #[.val (.int (8 : Int32))] [])) _
    refine XS.iloadN X0.here hx rfl (hb hby d_method_3_code_0) rfl ?_
    show Steps p.tables e below (s₁.setTop (mkF m 1 #[.val (.int (8 : Int32))] [(.int (8 : Int32))])) _
    refine XS.ifYes X0.here hx rfl (pc0 := 1) (pc' := 8) rfl (hb hby d_method_3_code_1) rfl (by decide) (by decide) (by decide) ?_
    show Steps p.tables e below (s₁.setTop (mkF m 8 #[.val (.int (8 : Int32))] [])) _
    refine XS.iloadN X0.here hx rfl (hb hby d_method_3_code_8) rfl ?_
    show Steps p.tables e below (s₁.setTop (mkF m 9 #[.val (.int (8 : Int32))] [(.int (8 : Int32))])) _
    refine XS.iconst X0.here hx rfl (hb hby d_method_3_code_9) ?_
    show Steps p.tables e below (s₁.setTop (mkF m 10 #[.val (.int (8 : Int32))] [(.int (1 : Int32)), (.int (8 : Int32))])) _
    refine XS.icmpYes X0.here hx rfl (pc0 := 10) (pc' := 17) rfl (hb hby d_method_3_code_10) rfl (by decide) (by decide) (by decide) ?_
    show Steps p.tables e below (s₁.setTop (mkF m 17 #[.val (.int (8 : Int32))] [])) _
    refine XS.iloadN X0.here hx rfl (hb hby d_method_3_code_17) rfl ?_
    show Steps p.tables e below (s₁.setTop (mkF m 18 #[.val (.int (8 : Int32))] [(.int (8 : Int32))])) _
    refine XS.iconst X0.here hx rfl (hb hby d_method_3_code_18) ?_
    show Steps p.tables e below (s₁.setTop (mkF m 19 #[.val (.int (8 : Int32))] [(.int (2 : Int32)), (.int (8 : Int32))])) _
    refine XS.icmpYes X0.here hx rfl (pc0 := 19) (pc' := 26) rfl (hb hby d_method_3_code_19) rfl (by decide) (by decide) (by decide) ?_
    show Steps p.tables e below (s₁.setTop (mkF m 26 #[.val (.int (8 : Int32))] [])) _
    refine XS.iloadN X0.here hx rfl (hb hby d_method_3_code_26) rfl ?_
    show Steps p.tables e below (s₁.setTop (mkF m 27 #[.val (.int (8 : Int32))] [(.int (8 : Int32))])) _
    refine XS.iconst X0.here hx rfl (hb hby d_method_3_code_27) ?_
    show Steps p.tables e below (s₁.setTop (mkF m 28 #[.val (.int (8 : Int32))] [(.int (3 : Int32)), (.int (8 : Int32))])) _
    refine XS.icmpYes X0.here hx rfl (pc0 := 28) (pc' := 35) rfl (hb hby d_method_3_code_28) rfl (by decide) (by decide) (by decide) ?_
    show Steps p.tables e below (s₁.setTop (mkF m 35 #[.val (.int (8 : Int32))] [])) _
    refine XS.iloadN X0.here hx rfl (hb hby d_method_3_code_35) rfl ?_
    show Steps p.tables e below (s₁.setTop (mkF m 36 #[.val (.int (8 : Int32))] [(.int (8 : Int32))])) _
    refine XS.iconst X0.here hx rfl (hb hby d_method_3_code_36) ?_
    show Steps p.tables e below (s₁.setTop (mkF m 37 #[.val (.int (8 : Int32))] [(.int (4 : Int32)), (.int (8 : Int32))])) _
    refine XS.icmpYes X0.here hx rfl (pc0 := 37) (pc' := 44) rfl (hb hby d_method_3_code_37) rfl (by decide) (by decide) (by decide) ?_
    show Steps p.tables e below (s₁.setTop (mkF m 44 #[.val (.int (8 : Int32))] [])) _
    refine XS.iloadN X0.here hx rfl (hb hby d_method_3_code_44) rfl ?_
    show Steps p.tables e below (s₁.setTop (mkF m 45 #[.val (.int (8 : Int32))] [(.int (8 : Int32))])) _
    refine XS.iconst X0.here hx rfl (hb hby d_method_3_code_45) ?_
    show Steps p.tables e below (s₁.setTop (mkF m 46 #[.val (.int (8 : Int32))] [(.int (5 : Int32)), (.int (8 : Int32))])) _
    refine XS.icmpYes X0.here hx rfl (pc0 := 46) (pc' := 53) rfl (hb hby d_method_3_code_46) rfl (by decide) (by decide) (by decide) ?_
    show Steps p.tables e below (s₁.setTop (mkF m 53 #[.val (.int (8 : Int32))] [])) _
    refine XS.iloadN X0.here hx rfl (hb hby d_method_3_code_53) rfl ?_
    show Steps p.tables e below (s₁.setTop (mkF m 54 #[.val (.int (8 : Int32))] [(.int (8 : Int32))])) _
    refine XS.bipush X0.here hx rfl (hb hby d_method_3_code_54) ?_
    show Steps p.tables e below (s₁.setTop (mkF m 56 #[.val (.int (8 : Int32))] [(.int (6 : Int32)), (.int (8 : Int32))])) _
    refine XS.icmpYes X0.here hx rfl (pc0 := 56) (pc' := 63) rfl (hb hby d_method_3_code_56) rfl (by decide) (by decide) (by decide) ?_
    show Steps p.tables e below (s₁.setTop (mkF m 63 #[.val (.int (8 : Int32))] [])) _
    refine XS.iloadN X0.here hx rfl (hb hby d_method_3_code_63) rfl ?_
    show Steps p.tables e below (s₁.setTop (mkF m 64 #[.val (.int (8 : Int32))] [(.int (8 : Int32))])) _
    refine XS.bipush X0.here hx rfl (hb hby d_method_3_code_64) ?_
    show Steps p.tables e below (s₁.setTop (mkF m 66 #[.val (.int (8 : Int32))] [(.int (7 : Int32)), (.int (8 : Int32))])) _
    refine XS.icmpYes X0.here hx rfl (pc0 := 66) (pc' := 73) rfl (hb hby d_method_3_code_66) rfl (by decide) (by decide) (by decide) ?_
    show Steps p.tables e below (s₁.setTop (mkF m 73 #[.val (.int (8 : Int32))] [])) _
    refine XS.iloadN X0.here hx rfl (hb hby d_method_3_code_73) rfl ?_
    show Steps p.tables e below (s₁.setTop (mkF m 74 #[.val (.int (8 : Int32))] [(.int (8 : Int32))])) _
    refine XS.bipush X0.here hx rfl (hb hby d_method_3_code_74) ?_
    show Steps p.tables e below (s₁.setTop (mkF m 76 #[.val (.int (8 : Int32))] [(.int (8 : Int32)), (.int (8 : Int32))])) _
    refine XS.icmpNo X0.here hx rfl (hb hby d_method_3_code_76) rfl (by decide) ?_
    show Steps p.tables e below (s₁.setTop (mkF m 79 #[.val (.int (8 : Int32))] [])) _
    refine st181 _ ?_
    show Steps p.tables e below (T181.setTop (mkF m 82 #[.val (.int (8 : Int32))] [(.ref w7)])) _
    exact retOut X181 hx (t := (.object "com/example/weaverbird/weaverbird/codes/CommandType")) (i := .areturn) Bd.returns rfl (Or.inr (Or.inr (Or.inr (Or.inr ⟨rfl, rfl, rfl⟩)))) (hb hby d_method_3_code_82) hr
  · show Qp (some (.ref w7)) h0 n0 _ T181.heap _
    rw [e181]
    exact ⟨rfl, N0, rfl⟩
theorem d_method_4_code_34 : decode method_4_code 34 = .ok (.getstatic 75, 3) := by decide +kernel
theorem d_method_4_code_37 : decode method_4_code 37 = .ok (.areturn, 1) := by decide +kernel
set_option maxRecDepth 65536 in
set_option maxHeartbeats 40000000 in
theorem rm41 (l : Launch) (Z : State) (a0 : Array Value) (hw : ∀ d ∈ tables_1, d.before a0 Z = true) (ws : List Jvm.Cond) (w0 w1 w2 w3 w4 w5 w6 w7 w8 w9 w10 w11 w12 w13 w14 w15 w16 w17 : Addr) (h0 : Heap) (n0 : Nat) (hWd : Wd Z w0 w1 w2 w3 w4 w5 w6 w7 w8 w9 w10 w11 w12 w13 w14 w15 w16 w17) (O0 : Old Z n0 h0) :
    MetFree l (⟨"com/example/weaverbird/weaverbird/queues/RunActionOfPinLaw", "expectedFor", "(I)Lcom/example/weaverbird/weaverbird/queues/RunAction;"⟩ : MethodName) (head1 (Jvm.Cond.code (⟨"com/example/weaverbird/weaverbird/queues/RunActionOfPinLaw", "expectedFor", "(I)Lcom/example/weaverbird/weaverbird/queues/RunAction;"⟩ : MethodName) method_4_code 1 (some (.object "com/example/weaverbird/weaverbird/queues/RunAction")) :: ws) ({ frames := 0, cells := 0, slots := 0, locals := 0 } : Room)) (fun a U => a = #[(.int (8 : Int32))] ∧ Z.Warmed39 U.vm ∧ U.heap = h0) (fun _ _ _ _ _ => True) (fun _ U o U' => ∃ v L, o = .returned v ∧ Qp (some (.ref w2)) h0 n0 v U'.heap L ∧ FrameEnd U o U' L ({ frames := 0, cells := 0, slots := 0, locals := 0 } : Room).cells ({ frames := 0, cells := 0, slots := 0, locals := 0 } : Room).slots) := by
  refine MetFree.of_bodySF (plainFor_of_name pn0) hisR ?_
  intro p e s m args below meth c s₁ Bd hml0 hP hK
  obtain ⟨rfl, hZ, hh⟩ := hP
  have hx := Bd.exec
  have hby := Bd.bytes
  have hml : c.maxLocals = 1 := hml0
  have hown : s.vm.findClass "com/example/weaverbird/weaverbird/queues/RunActionOfPinLaw" = some m.cls := findClass_of_methodNamed Bd.named
  have hnm := (name_of_methodNamed Bd.named Bd.method).1
  have X0 : Stand p l e ({ frames := 0, cells := 0, slots := 0, locals := 0 } : Room) s m #[(.int (8 : Int32))] below meth c s₁ [] 0 0 := Stand.of_body Bd
  have e0 : s₁.heap = h0 := by rw [← hh, Bd.state]; rfl
  have N0 := Fr.nil n0
  have hlk := Bd.notSynchronized
  obtain ⟨wS0, wE0, wS1, wE1, wS2, wE2, wS3, wE3, wS4, wE4, wS5, wE5, wS6, wE6, wS7, wE7, wS8, wE8, wS9, wE9, wS10, wE10, wS11, wE11, wS12, wE12, wS13, wE13, wS14, wE14, wS15, wE15, wS16, wE16, wS17, wE17, wF2_type, wF7_ordinal, wF0_ordinal, wF3_type, wF8_ordinal, wF4_type, wF9_ordinal, wF5_type, wF10_ordinal, wF6_type, wF11_ordinal, wF12_ordinal, wF13_ordinal, wF14_ordinal, wF15_ordinal, wF16_ordinal, wF17_value, wA, -⟩ := id hWd
  have pre0 : ∀ t, Steps p.tables e below (s₁.setTop (mkF m 0 #[.val (.int (8 : Int32))] [])) t → Steps p.tables e below (s₁.setTop (entryFrame m #[(.int (8 : Int32))] 1)) t := fun t k => castTop (ef26 m ) k
  obtain ⟨T183, X183, e183, st183⟩ := getS2 X0 hx hZ hown (host := "") (Or.inl (hw _ (List.mem_of_getElem? (i := 77) rfl))) Via.refl e0 (wS2.ext O0.2) (g := (mkF m 34 #[.val (.int (8 : Int32))] [])) rfl (hb hby d_method_4_code_34)
  obtain ⟨fs, hr, hrun, hended, hWr, hsame⟩ := X183.leave (v := some (.ref w2)) (fun h => by rw [Bd.returns] at h; cases h) hlk
  refine ⟨_, _, pre0 _ ?_, hrun, hended, _, _, rfl, ?_, ⟨_, rfl⟩, hWr, hsame.mono (Nat.le_of_ble_eq_true rfl) (Nat.le_of_ble_eq_true rfl)⟩
  · show Steps p.tables e below (s₁.setTop (mkF m 0 #[.val (.int (8 : Int32))] [])) _
    refine XS.iloadN X0.here hx rfl (hb hby d_method_4_code_0) rfl ?_
    show Steps p.tables e below (s₁.setTop (mkF m 1 #[.val (.int (8 : Int32))] [(.int (8 : Int32))])) _
    refine XS.iconst X0.here hx rfl (hb hby d_method_4_code_1) ?_
    show Steps p.tables e below (s₁.setTop (mkF m 2 #[.val (.int (8 : Int32))] [(.int (3 : Int32)), (.int (8 : Int32))])) _
    refine XS.icmpYes X0.here hx rfl (pc0 := 2) (pc' := 9) rfl (hb hby d_method_4_code_2) rfl (by decide) (by decide) (by decide) ?_
    show Steps p.tables e below (s₁.setTop (mkF m 9 #[.val (.int (8 : Int32))] [])) _
    refine XS.iloadN X0.here hx rfl (hb hby d_method_4_code_9) rfl ?_
    show Steps p.tables e below (s₁.setTop (mkF m 10 #[.val (.int (8 : Int32))] [(.int (8 : Int32))])) _
    refine XS.iconst X0.here hx rfl (hb hby d_method_4_code_10) ?_
    show Steps p.tables e below (s₁.setTop (mkF m 11 #[.val (.int (8 : Int32))] [(.int (4 : Int32)), (.int (8 : Int32))])) _
    refine XS.icmpYes X0.here hx rfl (pc0 := 11) (pc' := 18) rfl (hb hby d_method_4_code_11) rfl (by decide) (by decide) (by decide) ?_
    show Steps p.tables e below (s₁.setTop (mkF m 18 #[.val (.int (8 : Int32))] [])) _
    refine XS.iloadN X0.here hx rfl (hb hby d_method_4_code_18) rfl ?_
    show Steps p.tables e below (s₁.setTop (mkF m 19 #[.val (.int (8 : Int32))] [(.int (8 : Int32))])) _
    refine XS.bipush X0.here hx rfl (hb hby d_method_4_code_19) ?_
    show Steps p.tables e below (s₁.setTop (mkF m 21 #[.val (.int (8 : Int32))] [(.int (7 : Int32)), (.int (8 : Int32))])) _
    refine XS.icmpYes X0.here hx rfl (pc0 := 21) (pc' := 28) rfl (hb hby d_method_4_code_21) rfl (by decide) (by decide) (by decide) ?_
    show Steps p.tables e below (s₁.setTop (mkF m 28 #[.val (.int (8 : Int32))] [])) _
    refine XS.iloadN X0.here hx rfl (hb hby d_method_4_code_28) rfl ?_
    show Steps p.tables e below (s₁.setTop (mkF m 29 #[.val (.int (8 : Int32))] [(.int (8 : Int32))])) _
    refine XS.bipush X0.here hx rfl (hb hby d_method_4_code_29) ?_
    show Steps p.tables e below (s₁.setTop (mkF m 31 #[.val (.int (8 : Int32))] [(.int (8 : Int32)), (.int (8 : Int32))])) _
    refine XS.icmpNo X0.here hx rfl (hb hby d_method_4_code_31) rfl (by decide) ?_
    show Steps p.tables e below (s₁.setTop (mkF m 34 #[.val (.int (8 : Int32))] [])) _
    refine st183 _ ?_
    show Steps p.tables e below (T183.setTop (mkF m 37 #[.val (.int (8 : Int32))] [(.ref w2)])) _
    exact retOut X183 hx (t := (.object "com/example/weaverbird/weaverbird/queues/RunAction")) (i := .areturn) Bd.returns rfl (Or.inr (Or.inr (Or.inr (Or.inr ⟨rfl, rfl, rfl⟩)))) (hb hby d_method_4_code_37) hr
  · show Qp (some (.ref w2)) h0 n0 _ T183.heap _
    rw [e183]
    exact ⟨rfl, N0, rfl⟩
theorem ef27 (m : MethodId)   (w2 : Addr) : entryFrame m #[(.ref w2)] 1 = mkF m 0 #[.val (.ref w2)] [] := by first | (simp [entryFrame, mkF, argsToLocals, Value.category]; done) | rfl
set_option maxRecDepth 65536 in
set_option maxHeartbeats 40000000 in
theorem rm44 (l : Launch) (Z : State) (a0 : Array Value) (hw : ∀ d ∈ tables_1, d.before a0 Z = true) (ws : List Jvm.Cond) (w0 w1 w2 w3 w4 w5 w6 w7 w8 w9 w10 w11 w12 w13 w14 w15 w16 w17 : Addr) (h0 : Heap) (n0 : Nat) (hWd : Wd Z w0 w1 w2 w3 w4 w5 w6 w7 w8 w9 w10 w11 w12 w13 w14 w15 w16 w17) (O0 : Old Z n0 h0) :
    MetFree l (⟨"java/util/Objects", "requireNonNull", "(Ljava/lang/Object;)Ljava/lang/Object;"⟩ : MethodName) (head1 (Jvm.Cond.code (⟨"java/util/Objects", "requireNonNull", "(Ljava/lang/Object;)Ljava/lang/Object;"⟩ : MethodName) jdk_31_method_10_code 1 (some (.object "java/lang/Object")) :: ws) ({ frames := 0, cells := 0, slots := 0, locals := 0 } : Room)) (fun a U => a = #[(.ref w2)] ∧ Z.Warmed39 U.vm ∧ U.heap = h0) (fun _ _ _ _ _ => True) (fun _ U o U' => ∃ v L, o = .returned v ∧ Qp (some (.ref w2)) h0 n0 v U'.heap L ∧ FrameEnd U o U' L ({ frames := 0, cells := 0, slots := 0, locals := 0 } : Room).cells ({ frames := 0, cells := 0, slots := 0, locals := 0 } : Room).slots) := by
  refine MetFree.of_bodySF (plainFor_of_name pn3) hisR ?_
  intro p e s m args below meth c s₁ Bd hml0 hP hK
  obtain ⟨rfl, hZ, hh⟩ := hP
  have hx := Bd.exec
  have hby := Bd.bytes
  have hml : c.maxLocals = 1 := hml0
  have hown : s.vm.findClass "java/util/Objects" = some m.cls := findClass_of_methodNamed Bd.named
  have hnm := (name_of_methodNamed Bd.named Bd.method).1
  have X0 : Stand p l e ({ frames := 0, cells := 0, slots := 0, locals := 0 } : Room) s m #[(.ref w2)] below meth c s₁ [] 0 0 := Stand.of_body Bd
  have e0 : s₁.heap = h0 := by rw [← hh, Bd.state]; rfl
  have N0 := Fr.nil n0
  have hlk := Bd.notSynchronized
  obtain ⟨wS0, wE0, wS1, wE1, wS2, wE2, wS3, wE3, wS4, wE4, wS5, wE5, wS6, wE6, wS7, wE7, wS8, wE8, wS9, wE9, wS10, wE10, wS11, wE11, wS12, wE12, wS13, wE13, wS14, wE14, wS15, wE15, wS16, wE16, wS17, wE17, wF2_type, wF7_ordinal, wF0_ordinal, wF3_type, wF8_ordinal, wF4_type, wF9_ordinal, wF5_type, wF10_ordinal, wF6_type, wF11_ordinal, wF12_ordinal, wF13_ordinal, wF14_ordinal, wF15_ordinal, wF16_ordinal, wF17_value, wA, -⟩ := id hWd
  have pre0 : ∀ t, Steps p.tables e below (s₁.setTop (mkF m 0 #[.val (.ref w2)] [])) t → Steps p.tables e below (s₁.setTop (entryFrame m #[(.ref w2)] 1)) t := fun t k => castTop (ef27 m w2) k
  obtain ⟨fs, hr, hrun, hended, hWr, hsame⟩ := X0.leave (v := some (.ref w2)) (fun h => by rw [Bd.returns] at h; cases h) hlk
  refine ⟨_, _, pre0 _ ?_, hrun, hended, _, _, rfl, ?_, ⟨_, rfl⟩, hWr, hsame.mono (Nat.le_of_ble_eq_true rfl) (Nat.le_of_ble_eq_true rfl)⟩
  · show Steps p.tables e below (s₁.setTop (mkF m 0 #[.val (.ref w2)] [])) _
    refine XS.aloadN X0.here hx rfl (hb hby d_jdk_31_method_10_code_0) rfl rfl ?_
    show Steps p.tables e below (s₁.setTop (mkF m 1 #[.val (.ref w2)] [(.ref w2)])) _
    refine XS.ifnonnullYes X0.here hx rfl (pc0 := 1) (pc' := 12) rfl (hb hby d_jdk_31_method_10_code_1) rfl (by decide) (by decide) ?_
    show Steps p.tables e below (s₁.setTop (mkF m 12 #[.val (.ref w2)] [])) _
    refine XS.aloadN X0.here hx rfl (hb hby d_jdk_31_method_10_code_12) rfl rfl ?_
    show Steps p.tables e below (s₁.setTop (mkF m 13 #[.val (.ref w2)] [(.ref w2)])) _
    exact retOut X0 hx (t := (.object "java/lang/Object")) (i := .areturn) Bd.returns rfl (Or.inr (Or.inr (Or.inr (Or.inr ⟨rfl, rfl, rfl⟩)))) (hb hby d_jdk_31_method_10_code_13) hr
  · show Qp (some (.ref w2)) h0 n0 _ s₁.heap _
    rw [e0]
    exact ⟨rfl, N0, rfl⟩
theorem ef28 (m : MethodId)   (a1 : Addr) (w2 : Addr) : entryFrame m #[(.ref a1), (.ref w2)] 2 = mkF m 0 #[.val (.ref a1), .val (.ref w2)] [] := by first | (simp [entryFrame, mkF, argsToLocals, Value.category]; done) | rfl
def Qerm45 (Z : State) (w0 w1 w2 w3 w4 w5 w6 w7 w8 w9 w10 w11 w12 w13 w14 w15 w16 w17 : Addr) (a1 : Addr) (h0 : Heap) (n0 : Nat) (v : Option Value) (h : Heap) (L : List Loc) : Prop := v = none ∧ Fr n0 L ∧ Keep h0 h [a1] ∧ Old Z n0 h ∧ Exa Z h a1 "java/util/Optional" ∧ Fld Z h a1 "java/util/Optional" "value" "Ljava/lang/Object;" (.ref w2)
set_option maxRecDepth 65536 in
set_option maxHeartbeats 40000000 in
theorem rm45 (l : Launch) (Z : State) (a0 : Array Value) (hw : ∀ d ∈ tables_1, d.before a0 Z = true) (ws : List Jvm.Cond) (w0 w1 w2 w3 w4 w5 w6 w7 w8 w9 w10 w11 w12 w13 w14 w15 w16 w17 : Addr) (a1 : Addr) (h0 : Heap) (n0 : Nat) (hWd : Wd Z w0 w1 w2 w3 w4 w5 w6 w7 w8 w9 w10 w11 w12 w13 w14 w15 w16 w17) (O0 : Old Z n0 h0) (E_a1 : Exa Z h0 a1 "java/util/Optional") (F_a1_value : Fld Z h0 a1 "java/util/Optional" "value" "Ljava/lang/Object;" .null) (g_a1 : n0 ≤ a1) :
    MetFree l (⟨"java/util/Optional", "<init>", "(Ljava/lang/Object;)V"⟩ : MethodName) (head1 (Jvm.Cond.code (⟨"java/util/Optional", "<init>", "(Ljava/lang/Object;)V"⟩ : MethodName) jdk_32_method_2_code 2 none :: ws) ({ frames := 1, cells := 0, slots := 0, locals := 12 } : Room)) (fun a U => a = #[(.ref a1), (.ref w2)] ∧ Z.Warmed39 U.vm ∧ U.heap = h0) (fun _ _ _ _ _ => True) (fun _ U o U' => ∃ v L, o = .returned v ∧ Qerm45 Z w0 w1 w2 w3 w4 w5 w6 w7 w8 w9 w10 w11 w12 w13 w14 w15 w16 w17 a1 h0 n0 v U'.heap L ∧ FrameEnd U o U' L ({ frames := 1, cells := 0, slots := 0, locals := 12 } : Room).cells ({ frames := 1, cells := 0, slots := 0, locals := 12 } : Room).slots) := by
  refine MetFree.of_bodySF (plainFor_of_name pn2) hisR ?_
  intro p e s m args below meth c s₁ Bd hml0 hP hK
  obtain ⟨rfl, hZ, hh⟩ := hP
  have hx := Bd.exec
  have hby := Bd.bytes
  have hml : c.maxLocals = 2 := hml0
  have hown : s.vm.findClass "java/util/Optional" = some m.cls := findClass_of_methodNamed Bd.named
  have hnm := (name_of_methodNamed Bd.named Bd.method).1
  have X0 : Stand p l e ({ frames := 1, cells := 0, slots := 0, locals := 12 } : Room) s m #[(.ref a1), (.ref w2)] below meth c s₁ [] 0 0 := Stand.of_body Bd
  have e0 : s₁.heap = h0 := by rw [← hh, Bd.state]; rfl
  have N0 := Fr.nil n0
  have hlk := Bd.notSynchronized
  obtain ⟨wS0, wE0, wS1, wE1, wS2, wE2, wS3, wE3, wS4, wE4, wS5, wE5, wS6, wE6, wS7, wE7, wS8, wE8, wS9, wE9, wS10, wE10, wS11, wE11, wS12, wE12, wS13, wE13, wS14, wE14, wS15, wE15, wS16, wE16, wS17, wE17, wF2_type, wF7_ordinal, wF0_ordinal, wF3_type, wF8_ordinal, wF4_type, wF9_ordinal, wF5_type, wF10_ordinal, wF6_type, wF11_ordinal, wF12_ordinal, wF13_ordinal, wF14_ordinal, wF15_ordinal, wF16_ordinal, wF17_value, wA, -⟩ := id hWd
  have pre0 : ∀ t, Steps p.tables e below (s₁.setTop (mkF m 0 #[.val (.ref a1), .val (.ref w2)] [])) t → Steps p.tables e below (s₁.setTop (entryFrame m #[(.ref a1), (.ref w2)] 2)) t := fun t k => castTop (ef28 m a1 w2) k
  obtain ⟨T191, X191, e191, st191⟩ := initO X0 hx hZ hown (hw _ (List.mem_of_getElem? (i := 69) rfl)) (hw _ (List.mem_of_getElem? (i := 70) rfl)) (hw _ (List.mem_of_getElem? (i := 71) rfl)) e0 (g := (mkF m 1 #[.val (.ref a1), .val (.ref w2)] [(.ref a1)])) rfl (by rw [hml]; rfl) rfl (hb hby d_jdk_32_method_2_code_1) (by decide) (W := 0) (by show 2 * 0 + _ ≤ _; exact Nat.le_of_eq rfl) (by decide)
  obtain ⟨T192, h192, X192, e192, W192, st192⟩ := putF X191 hx hZ hown (host := "") (Or.inl (hw _ (List.mem_of_getElem? (i := 52) rfl))) Via.refl e191 F_a1_value E_a1 (Or.inr ⟨(hw _ (List.mem_of_getElem? (i := 53) rfl)), rfl, hnm⟩) (hw _ (List.mem_of_getElem? (i := 60) rfl)) (ty := (.object "java/lang/Object")) (by decide) rfl rfl (g := (mkF m 6 #[.val (.ref a1), .val (.ref w2)] [(.ref w2), (.ref a1)])) rfl rfl (hb hby d_jdk_32_method_2_code_6)
  have E_a1_192 : Exa Z h192 a1 "java/util/Optional" := E_a1.wr W192
  have F_a1_value_192 : Fld Z h192 a1 "java/util/Optional" "value" "Ljava/lang/Object;" (.ref w2) := F_a1_value.same W192
  have Kp192 : Keep h0 h192 [a1] := (Keep.refl h0 [a1]).wr W192 (Or.inl (List.mem_of_getElem? (i := 0) rfl))
  have N192 := Fr.snoc X192 N0 g_a1
  have O_192 : Old Z n0 h192 := O0.wr W192 g_a1
  obtain ⟨fs, hr, hrun, hended, hWr, hsame⟩ := X192.leave (v := none) (fun _ => rfl) hlk
  refine ⟨_, _, pre0 _ ?_, hrun, hended, _, _, rfl, ?_, ⟨_, rfl⟩, hWr, hsame.mono (Nat.le_of_ble_eq_true rfl) (Nat.le_of_ble_eq_true rfl)⟩
  · show Steps p.tables e below (s₁.setTop (mkF m 0 #[.val (.ref a1), .val (.ref w2)] [])) _
    refine XS.aloadN X0.here hx rfl (hb hby d_jdk_32_method_2_code_0) rfl rfl ?_
    show Steps p.tables e below (s₁.setTop (mkF m 1 #[.val (.ref a1), .val (.ref w2)] [(.ref a1)])) _
    refine st191 _ ?_
    show Steps p.tables e below (T191.setTop (mkF m 4 #[.val (.ref a1), .val (.ref w2)] [])) _
    refine XS.aloadN X191.here hx rfl (hb hby d_jdk_32_method_2_code_4) rfl rfl ?_
    show Steps p.tables e below (T191.setTop (mkF m 5 #[.val (.ref a1), .val (.ref w2)] [(.ref a1)])) _
    refine XS.aloadN X191.here hx rfl (hb hby d_jdk_32_method_2_code_5) rfl rfl ?_
    show Steps p.tables e below (T191.setTop (mkF m 6 #[.val (.ref a1), .val (.ref w2)] [(.ref w2), (.ref a1)])) _
    refine st192 _ ?_
    show Steps p.tables e below (T192.setTop (mkF m 9 #[.val (.ref a1), .val (.ref w2)] [])) _
    exact X192.returnOut hx Bd.returns (hb hby d_jdk_32_method_2_code_9) hr
  · show Qerm45 Z w0 w1 w2 w3 w4 w5 w6 w7 w8 w9 w10 w11 w12 w13 w14 w15 w16 w17 a1 h0 n0 _ T192.heap _
    rw [e192]
    exact ⟨rfl, N192, Kp192, O_192, E_a1_192, F_a1_value_192⟩
def Qerm43 (Z : State) (w0 w1 w2 w3 w4 w5 w6 w7 w8 w9 w10 w11 w12 w13 w14 w15 w16 w17 : Addr) (h0 : Heap) (n0 : Nat) (v : Option Value) (h : Heap) (L : List Loc) : Prop := ∃ r : Addr, v = some (.ref r) ∧ Fr n0 L ∧ Keep h0 h [] ∧ Old Z n0 h ∧ Exa Z h r "java/util/Optional" ∧ Fld Z h r "java/util/Optional" "value" "Ljava/lang/Object;" (.ref w2) ∧ n0 ≤ r
set_option maxRecDepth 65536 in
set_option maxHeartbeats 40000000 in
theorem rm43 (l : Launch) (Z : State) (a0 : Array Value) (hw : ∀ d ∈ tables_1, d.before a0 Z = true) (ws : List Jvm.Cond) (w0 w1 w2 w3 w4 w5 w6 w7 w8 w9 w10 w11 w12 w13 w14 w15 w16 w17 : Addr) (h0 : Heap) (n0 : Nat) (hWd : Wd Z w0 w1 w2 w3 w4 w5 w6 w7 w8 w9 w10 w11 w12 w13 w14 w15 w16 w17) (O0 : Old Z n0 h0) :
    MetFree l (⟨"java/util/Optional", "of", "(Ljava/lang/Object;)Ljava/util/Optional;"⟩ : MethodName) (head1 (Jvm.Cond.code (⟨"java/util/Optional", "of", "(Ljava/lang/Object;)Ljava/util/Optional;"⟩ : MethodName) jdk_32_method_3_code 1 (some (.object "java/util/Optional")) :: ws) ({ frames := 2, cells := 1, slots := 1, locals := 26 } : Room)) (fun a U => a = #[(.ref w2)] ∧ Z.Warmed39 U.vm ∧ U.heap = h0) (fun _ _ _ _ _ => True) (fun _ U o U' => ∃ v L, o = .returned v ∧ Qerm43 Z w0 w1 w2 w3 w4 w5 w6 w7 w8 w9 w10 w11 w12 w13 w14 w15 w16 w17 h0 n0 v U'.heap L ∧ FrameEnd U o U' L ({ frames := 2, cells := 1, slots := 1, locals := 26 } : Room).cells ({ frames := 2, cells := 1, slots := 1, locals := 26 } : Room).slots) := by
  refine MetFree.of_bodySF (plainFor_of_name pn2) hisR ?_
  intro p e s m args below meth c s₁ Bd hml0 hP hK
  obtain ⟨rfl, hZ, hh⟩ := hP
  have hx := Bd.exec
  have hby := Bd.bytes
  have hml : c.maxLocals = 1 := hml0
  have hown : s.vm.findClass "java/util/Optional" = some m.cls := findClass_of_methodNamed Bd.named
  have hnm := (name_of_methodNamed Bd.named Bd.method).1
  have X0 : Stand p l e ({ frames := 2, cells := 1, slots := 1, locals := 26 } : Room) s m #[(.ref w2)] below meth c s₁ [] 0 0 := Stand.of_body Bd
  have e0 : s₁.heap = h0 := by rw [← hh, Bd.state]; rfl
  have N0 := Fr.nil n0
  have hlk := Bd.notSynchronized
  obtain ⟨wS0, wE0, wS1, wE1, wS2, wE2, wS3, wE3, wS4, wE4, wS5, wE5, wS6, wE6, wS7, wE7, wS8, wE8, wS9, wE9, wS10, wE10, wS11, wE11, wS12, wE12, wS13, wE13, wS14, wE14, wS15, wE15, wS16, wE16, wS17, wE17, wF2_type, wF7_ordinal, wF0_ordinal, wF3_type, wF8_ordinal, wF4_type, wF9_ordinal, wF5_type, wF10_ordinal, wF6_type, wF11_ordinal, wF12_ordinal, wF13_ordinal, wF14_ordinal, wF15_ordinal, wF16_ordinal, wF17_value, wA, -⟩ := id hWd
  have pre0 : ∀ t, Steps p.tables e below (s₁.setTop (mkF m 0 #[.val (.ref w2)] [])) t → Steps p.tables e below (s₁.setTop (entryFrame m #[(.ref w2)] 1)) t := fun t k => castTop (ef27 m w2) k
  obtain ⟨T189, h189, X189, e189, E189, A189, D189, -, st189⟩ := newO X0 hx hZ hown (hw _ (List.mem_of_getElem? (i := 59) rfl)) (hw _ (List.mem_of_getElem? (i := 60) rfl)) (hw _ (List.mem_of_getElem? (i := 44) rfl)) e0 (g := (mkF m 0 #[.val (.ref w2)] [])) rfl (hb hby d_jdk_32_method_3_code_0) (by decide) (by decide)
  obtain ⟨b189, g189⟩ : ∃ z, z = h0.size := ⟨_, rfl⟩
  rw [← g189] at A189 D189 st189
  have g_b189 : n0 ≤ b189 := Nat.le_trans (Nat.le_trans (Nat.le_of_eq O0.1.symm) O0.2.1) (Nat.le_of_eq g189.symm)
  have sz_b189 : h0.size ≤ b189 := Nat.le_trans (Keep.refl h0 []).1 (Nat.le_of_eq g189.symm)
  have Kp189 : Keep h0 h189 [] := (Keep.refl h0 []).ext E189
  have O_189 : Old Z n0 h189 := O0.ext E189
  have F_b189_value : Fld Z h189 b189 "java/util/Optional" "value" "Ljava/lang/Object;" .null := D189 (Or.inr (hw _ (List.mem_of_getElem? (i := 53) rfl))) (ty := (.object "java/lang/Object")) (by decide)
  obtain ⟨_, _, ⟨T190, L190, k190, n190⟩, -, X190, ⟨Lc190, hQ190, l190, y190, z190⟩, st190⟩ := Jvm.LawKit.callS X189 hx (y := (⟨"java/util/Objects", "requireNonNull", "(Ljava/lang/Object;)Ljava/lang/Object;"⟩ : MethodName)) hown (mvT hZ (hw _ (List.mem_of_getElem? (i := 61) rfl))) (mvT hZ (hw _ (List.mem_of_getElem? (i := 62) rfl))) (mvT hZ (hw _ (List.mem_of_getElem? (i := 63) rfl))) (mvT hZ (hw _ (List.mem_of_getElem? (i := 64) rfl))) (by decide) (backOf (W := 2) (rm44 l Z a0 hw [] w0 w1 w2 w3 w4 w5 w6 w7 w8 w9 w10 w11 w12 w13 w14 w15 w16 w17 h189 n0 hWd O_189) hZ (hw _ (List.mem_of_getElem? (i := 64) rfl)) (hw _ (List.mem_of_getElem? (i := 63) rfl)) (by decide) (by decide)) (g := (mkF m 5 #[.val (.ref w2)] [(.ref w2), (.ref b189), (.ref b189)])) rfl (by rw [hml]; rfl) (argsL := [(.ref w2)]) (rest := [(.ref b189), (.ref b189)]) (lenOf pd5 rfl) rfl (by show 2 * 0 + _ ≤ _; exact Nat.le_of_eq rfl) (hb hby d_jdk_32_method_3_code_5) (fun _ _ => ⟨rfl, e189, (by decide : 1 + 0 ≤ _), (by decide : 1 + 0 ≤ _)⟩)
  dsimp only [Pt.U, Pt.locs, Pt.cells, Pt.slots] at X190 l190 y190 z190 st190 hQ190
  subst l190 y190 z190
  obtain ⟨rfl, N190q, e190⟩ := hQ190
  have N190 := Fr.app N0 N190q
  obtain ⟨_, _, ⟨T193, L193, k193, n193⟩, -, X193, ⟨Lc193, hQ193, l193, y193, z193⟩, st193⟩ := X190.specialBack hx (y := (⟨"java/util/Optional", "<init>", "(Ljava/lang/Object;)V"⟩ : MethodName)) rfl hown (mvT hZ (hw _ (List.mem_of_getElem? (i := 65) rfl))) (mvT hZ (hw _ (List.mem_of_getElem? (i := 66) rfl))) (mvT hZ (hw _ (List.mem_of_getElem? (i := 68) rfl))) (by decide) (backOf (W := 1) (rm45 l Z a0 hw [] w0 w1 w2 w3 w4 w5 w6 w7 w8 w9 w10 w11 w12 w13 w14 w15 w16 w17 b189 h189 n0 hWd O_189 A189 F_b189_value g_b189) hZ (hw _ (List.mem_of_getElem? (i := 68) rfl)) (hw _ (List.mem_of_getElem? (i := 44) rfl)) (by decide) (by decide)) (g := (mkF m 8 #[.val (.ref w2)] [(.ref w2), (.ref b189), (.ref b189)])) rfl (by rw [hml]; rfl) (Steps.refl _) (a := b189) (argsL := [(.ref w2)]) (rest := [(.ref b189)]) (lenOf pd6 rfl) rfl (by show 2 * 0 + _ ≤ _; exact Nat.le_of_eq rfl) (hb hby d_jdk_32_method_3_code_8) (fun _ _ => ⟨rfl, e190, (by decide : 1 + 0 ≤ _), (by decide : 1 + 0 ≤ _)⟩)
  dsimp only [Pt.U, Pt.locs, Pt.cells, Pt.slots] at X193 l193 y193 z193 st193 hQ193
  subst l193 y193 z193
  obtain ⟨rfl, N193q, K193, O_193, E_b189_193, F_b189_value_193⟩ := hQ193
  have N193 := Fr.app N190 N193q
  have Kp193 : Keep h0 T193.heap [] := Kp189.trans K193 (allS (Or.inr sz_b189) all0)
  obtain ⟨fs, hr, hrun, hended, hWr, hsame⟩ := X193.leave (v := some (.ref b189)) (fun h => by rw [Bd.returns] at h; cases h) hlk
  refine ⟨_, _, pre0 _ ?_, hrun, hended, _, _, rfl, ?_, ⟨_, rfl⟩, hWr, hsame.mono (Nat.le_of_ble_eq_true rfl) (Nat.le_of_ble_eq_true rfl)⟩
  · show Steps p.tables e below (s₁.setTop (mkF m 0 #[.val (.ref w2)] [])) _
    refine st189 _ ?_
    show Steps p.tables e below (T189.setTop (mkF m 3 #[.val (.ref w2)] [(.ref b189)])) _
    refine XS.dup X189.here hx rfl (hb hby d_jdk_32_method_3_code_3) rfl rfl ?_
    show Steps p.tables e below (T189.setTop (mkF m 4 #[.val (.ref w2)] [(.ref b189), (.ref b189)])) _
    refine XS.aloadN X189.here hx rfl (hb hby d_jdk_32_method_3_code_4) rfl rfl ?_
    show Steps p.tables e below (T189.setTop (mkF m 5 #[.val (.ref w2)] [(.ref w2), (.ref b189), (.ref b189)])) _
    refine st190 _ ?_
    show Steps p.tables e below (T190.setTop (mkF m 8 #[.val (.ref w2)] [(.ref w2), (.ref b189), (.ref b189)])) _
    refine st193.trans ?_
    show Steps p.tables e below (T193.setTop (mkF m 11 #[.val (.ref w2)] [(.ref b189)])) _
    exact retOut X193 hx (t := (.object "java/util/Optional")) (i := .areturn) Bd.returns rfl (Or.inr (Or.inr (Or.inr (Or.inr ⟨rfl, rfl, rfl⟩)))) (hb hby d_jdk_32_method_3_code_11) hr
  · show Qerm43 Z w0 w1 w2 w3 w4 w5 w6 w7 w8 w9 w10 w11 w12 w13 w14 w15 w16 w17 h0 n0 _ T193.heap _
    exact ⟨b189, rfl, N193, Kp193, O_193, E_b189_193, F_b189_value_193, g_b189⟩
theorem ef29 (m : MethodId)   (w7 : Addr) : entryFrame m #[(.ref w7)] 5 = mkF m 0 #[.val (.ref w7), .unset, .unset, .unset, .unset] [] := by first | (simp [entryFrame, mkF, argsToLocals, Value.category]; done) | rfl
def Qerm42 (Z : State) (w0 w1 w2 w3 w4 w5 w6 w7 w8 w9 w10 w11 w12 w13 w14 w15 w16 w17 : Addr) (h0 : Heap) (n0 : Nat) (v : Option Value) (h : Heap) (L : List Loc) : Prop := ∃ r : Addr, v = some (.ref r) ∧ Fr n0 L ∧ Keep h0 h [] ∧ Old Z n0 h ∧ Exa Z h r "java/util/Optional" ∧ Fld Z h r "java/util/Optional" "value" "Ljava/lang/Object;" (.ref w2) ∧ n0 ≤ r
set_option maxRecDepth 65536 in
set_option maxHeartbeats 40000000 in
theorem rm42 (l : Launch) (Z : State) (a0 : Array Value) (hw : ∀ d ∈ tables_1, d.before a0 Z = true) (ws : List Jvm.Cond) (w0 w1 w2 w3 w4 w5 w6 w7 w8 w9 w10 w11 w12 w13 w14 w15 w16 w17 : Addr) (h0 : Heap) (n0 : Nat) (hWd : Wd Z w0 w1 w2 w3 w4 w5 w6 w7 w8 w9 w10 w11 w12 w13 w14 w15 w16 w17) (O0 : Old Z n0 h0) :
    MetFree l (⟨"com/example/weaverbird/weaverbird/queues/RunAction", "of", "(Lcom/example/weaverbird/weaverbird/codes/CommandType;)Ljava/util/Optional;"⟩ : MethodName) (head1 (Jvm.Cond.code (⟨"com/example/weaverbird/weaverbird/queues/RunAction", "of", "(Lcom/example/weaverbird/weaverbird/codes/CommandType;)Ljava/util/Optional;"⟩ : MethodName) prog_16_method_4_code 5 (some (.object "java/util/Optional")) :: ws) ({ frames := 3, cells := 2, slots := 6, locals := 38 } : Room)) (fun a U => a = #[(.ref w7)] ∧ Z.Warmed39 U.vm ∧ U.heap = h0) (fun _ _ _ _ _ => True) (fun _ U o U' => ∃ v L, o = .returned v ∧ Qerm42 Z w0 w1 w2 w3 w4 w5 w6 w7 w8 w9 w10 w11 w12 w13 w14 w15 w16 w17 h0 n0 v U'.heap L ∧ FrameEnd U o U' L ({ frames := 3, cells := 2, slots := 6, locals := 38 } : Room).cells ({ frames := 3, cells := 2, slots := 6, locals := 38 } : Room).slots) := by
  refine MetFree.of_bodySF (plainFor_of_name pn1) hisR ?_
  intro p e s m args below meth c s₁ Bd hml0 hP hK
  obtain ⟨rfl, hZ, hh⟩ := hP
  have hx := Bd.exec
  have hby := Bd.bytes
  have hml : c.maxLocals = 5 := hml0
  have hown : s.vm.findClass "com/example/weaverbird/weaverbird/queues/RunAction" = some m.cls := findClass_of_methodNamed Bd.named
  have hnm := (name_of_methodNamed Bd.named Bd.method).1
  have X0 : Stand p l e ({ frames := 3, cells := 2, slots := 6, locals := 38 } : Room) s m #[(.ref w7)] below meth c s₁ [] 0 0 := Stand.of_body Bd
  have e0 : s₁.heap = h0 := by rw [← hh, Bd.state]; rfl
  have N0 := Fr.nil n0
  have hlk := Bd.notSynchronized
  obtain ⟨wS0, wE0, wS1, wE1, wS2, wE2, wS3, wE3, wS4, wE4, wS5, wE5, wS6, wE6, wS7, wE7, wS8, wE8, wS9, wE9, wS10, wE10, wS11, wE11, wS12, wE12, wS13, wE13, wS14, wE14, wS15, wE15, wS16, wE16, wS17, wE17, wF2_type, wF7_ordinal, wF0_ordinal, wF3_type, wF8_ordinal, wF4_type, wF9_ordinal, wF5_type, wF10_ordinal, wF6_type, wF11_ordinal, wF12_ordinal, wF13_ordinal, wF14_ordinal, wF15_ordinal, wF16_ordinal, wF17_value, wA, -⟩ := id hWd
  have pre0 : ∀ t, Steps p.tables e below (s₁.setTop (mkF m 0 #[.val (.ref w7), .unset, .unset, .unset, .unset] [])) t → Steps p.tables e below (s₁.setTop (entryFrame m #[(.ref w7)] 5)) t := fun t k => castTop (ef29 m w7) k
  obtain ⟨_, _, ⟨T185, L185, k185, n185⟩, -, X185, ⟨Lc185, hQ185, l185, y185, z185⟩, st185⟩ := Jvm.LawKit.callS X0 hx (y := (⟨"com/example/weaverbird/weaverbird/queues/RunAction", "values", "()[Lcom/example/weaverbird/weaverbird/queues/RunAction;"⟩ : MethodName)) hown (mvT hZ (hw _ (List.mem_of_getElem? (i := 15) rfl))) (mvT hZ (hw _ (List.mem_of_getElem? (i := 16) rfl))) (mvT hZ (hw _ (List.mem_of_getElem? (i := 13) rfl))) (mvT hZ (hw _ (List.mem_of_getElem? (i := 17) rfl))) (by decide) (backOf (W := 0) (rm4 l Z a0 hw [] w0 w1 w2 w3 w4 w5 w6 w7 w8 w9 w10 w11 w12 w13 w14 w15 w16 w17 h0 n0 hWd O0) hZ (hw _ (List.mem_of_getElem? (i := 17) rfl)) (hw _ (List.mem_of_getElem? (i := 13) rfl)) (by decide) (by decide)) (g := (mkF m 0 #[.val (.ref w7), .unset, .unset, .unset, .unset] [])) rfl (by rw [hml]; rfl) (argsL := []) (rest := []) (lenOf pd2 rfl) rfl (by show 2 * 0 + _ ≤ _; exact Nat.le_of_eq rfl) (hb hby d_prog_16_method_4_code_0) (fun _ _ => ⟨rfl, e0, (by decide : 0 + 1 ≤ _), (by decide : 0 + 5 ≤ _)⟩)
  dsimp only [Pt.U, Pt.locs, Pt.cells, Pt.slots] at X185 l185 y185 z185 st185 hQ185
  subst l185 y185 z185
  obtain ⟨r185, ka185, rfl, N185q, K185, O_185, V185, g_r185⟩ := hQ185
  have N185 := Fr.app N0 N185q
  have Kp185 : Keep h0 T185.heap [] := (Keep.refl h0 []).trans K185 all0
  obtain ⟨cl186, Ar186, q186, S186, M186, H186, G186⟩ := id V185
  obtain ⟨cl187, Ar187, q187, S187, M187, H187, G187⟩ := id V185
  have hin187 : ¬ ((0 : Int32) < 0 ∨ cl187.slots.size ≤ ((0 : Int32)).toNatClampNeg) := inb_of S187 ⟨by decide, by decide⟩
  have hat187 : cl187.slots[((0 : Int32)).toNatClampNeg]? = some (.ref w2) := Has.at H187 hin187 rfl
  obtain ⟨T188, X188, e188, st188⟩ := getF X185 hx hZ hown (host := "") (Or.inl (hw _ (List.mem_of_getElem? (i := 35) rfl))) Via.refl rfl (wF2_type.ext O_185.2) (g := (mkF m 21 #[.val (.ref w7), .val (.ref r185), .val (.int (5 : Int32)), .val (.int (0 : Int32)), .val (.ref w2)] [(.ref w2)])) rfl rfl (hb hby d_prog_16_method_4_code_21)
  obtain ⟨_, _, ⟨T194, L194, k194, n194⟩, -, X194, ⟨Lc194, hQ194, l194, y194, z194⟩, st194⟩ := Jvm.LawKit.callS X188 hx (y := (⟨"java/util/Optional", "of", "(Ljava/lang/Object;)Ljava/util/Optional;"⟩ : MethodName)) hown (mvT hZ (hw _ (List.mem_of_getElem? (i := 56) rfl))) (mvT hZ (hw _ (List.mem_of_getElem? (i := 57) rfl))) (mvT hZ (hw _ (List.mem_of_getElem? (i := 44) rfl))) (mvT hZ (hw _ (List.mem_of_getElem? (i := 58) rfl))) (by decide) (backOf (W := 0) (rm43 l Z a0 hw [] w0 w1 w2 w3 w4 w5 w6 w7 w8 w9 w10 w11 w12 w13 w14 w15 w16 w17 T185.heap n0 hWd O_185) hZ (hw _ (List.mem_of_getElem? (i := 58) rfl)) (hw _ (List.mem_of_getElem? (i := 44) rfl)) (by decide) (by decide)) (g := (mkF m 30 #[.val (.ref w7), .val (.ref r185), .val (.int (5 : Int32)), .val (.int (0 : Int32)), .val (.ref w2)] [(.ref w2)])) rfl (by rw [hml]; rfl) (argsL := [(.ref w2)]) (rest := []) (lenOf pd7 rfl) rfl (by show 2 * 0 + _ ≤ _; exact Nat.le_of_eq rfl) (hb hby d_prog_16_method_4_code_30) (fun _ _ => ⟨rfl, e188, (by decide : 1 + 1 ≤ _), (by decide : 5 + 1 ≤ _)⟩)
  dsimp only [Pt.U, Pt.locs, Pt.cells, Pt.slots] at X194 l194 y194 z194 st194 hQ194
  subst l194 y194 z194
  obtain ⟨r194, rfl, N194q, K194, O_194, E_r194_194, F_r194_value_194, g_r194⟩ := hQ194
  have N194 := Fr.app N185 N194q
  have Kp194 : Keep h0 T194.heap [] := Kp185.trans K194 all0
  obtain ⟨fs, hr, hrun, hended, hWr, hsame⟩ := X194.leave (v := some (.ref r194)) (fun h => by rw [Bd.returns] at h; cases h) hlk
  refine ⟨_, _, pre0 _ ?_, hrun, hended, _, _, rfl, ?_, ⟨_, rfl⟩, hWr, hsame.mono (Nat.le_of_ble_eq_true rfl) (Nat.le_of_ble_eq_true rfl)⟩
  · show Steps p.tables e below (s₁.setTop (mkF m 0 #[.val (.ref w7), .unset, .unset, .unset, .unset] [])) _
    refine st185 _ ?_
    show Steps p.tables e below (T185.setTop (mkF m 3 #[.val (.ref w7), .unset, .unset, .unset, .unset] [(.ref r185)])) _
    refine XS.astoreN X185.here hx rfl (hb hby d_prog_16_method_4_code_3) rfl rfl (l' := #[.val (.ref w7), .val (.ref r185), .unset, .unset, .unset]) rfl ?_
    show Steps p.tables e below (T185.setTop (mkF m 4 #[.val (.ref w7), .val (.ref r185), .unset, .unset, .unset] [])) _
    refine XS.aloadN X185.here hx rfl (hb hby d_prog_16_method_4_code_4) rfl rfl ?_
    show Steps p.tables e below (T185.setTop (mkF m 5 #[.val (.ref w7), .val (.ref r185), .unset, .unset, .unset] [(.ref r185)])) _
    refine X185.arraylength hx Ar186.1 (State.isArrayOf_alike hZ.alike Ar186.2.1) (g := (mkF m 5 #[.val (.ref w7), .val (.ref r185), .unset, .unset, .unset] [(.ref r185)])) rfl rfl (hb hby d_prog_16_method_4_code_5) _ ?_
    rw [len_of S186 M186]
    show Steps p.tables e below (T185.setTop (mkF m 6 #[.val (.ref w7), .val (.ref r185), .unset, .unset, .unset] [(.int (5 : Int32))])) _
    refine XS.istoreN X185.here hx rfl (hb hby d_prog_16_method_4_code_6) rfl (l' := #[.val (.ref w7), .val (.ref r185), .val (.int (5 : Int32)), .unset, .unset]) rfl ?_
    show Steps p.tables e below (T185.setTop (mkF m 7 #[.val (.ref w7), .val (.ref r185), .val (.int (5 : Int32)), .unset, .unset] [])) _
    refine XS.iconst X185.here hx rfl (hb hby d_prog_16_method_4_code_7) ?_
    show Steps p.tables e below (T185.setTop (mkF m 8 #[.val (.ref w7), .val (.ref r185), .val (.int (5 : Int32)), .unset, .unset] [(.int (0 : Int32))])) _
    refine XS.istoreN X185.here hx rfl (hb hby d_prog_16_method_4_code_8) rfl (l' := #[.val (.ref w7), .val (.ref r185), .val (.int (5 : Int32)), .val (.int (0 : Int32)), .unset]) rfl ?_
    show Steps p.tables e below (T185.setTop (mkF m 9 #[.val (.ref w7), .val (.ref r185), .val (.int (5 : Int32)), .val (.int (0 : Int32)), .unset] [])) _
    refine XS.iloadN X185.here hx rfl (hb hby d_prog_16_method_4_code_9) rfl ?_
    show Steps p.tables e below (T185.setTop (mkF m 10 #[.val (.ref w7), .val (.ref r185), .val (.int (5 : Int32)), .val (.int (0 : Int32)), .unset] [(.int (0 : Int32))])) _
    refine XS.iloadN X185.here hx rfl (hb hby d_prog_16_method_4_code_10) rfl ?_
    show Steps p.tables e below (T185.setTop (mkF m 11 #[.val (.ref w7), .val (.ref r185), .val (.int (5 : Int32)), .val (.int (0 : Int32)), .unset] [(.int (5 : Int32)), (.int (0 : Int32))])) _
    refine XS.icmpNo X185.here hx rfl (hb hby d_prog_16_method_4_code_11) rfl (by decide) ?_
    show Steps p.tables e below (T185.setTop (mkF m 14 #[.val (.ref w7), .val (.ref r185), .val (.int (5 : Int32)), .val (.int (0 : Int32)), .unset] [])) _
    refine XS.aloadN X185.here hx rfl (hb hby d_prog_16_method_4_code_14) rfl rfl ?_
    show Steps p.tables e below (T185.setTop (mkF m 15 #[.val (.ref w7), .val (.ref r185), .val (.int (5 : Int32)), .val (.int (0 : Int32)), .unset] [(.ref r185)])) _
    refine XS.iloadN X185.here hx rfl (hb hby d_prog_16_method_4_code_15) rfl ?_
    show Steps p.tables e below (T185.setTop (mkF m 16 #[.val (.ref w7), .val (.ref r185), .val (.int (5 : Int32)), .val (.int (0 : Int32)), .unset] [(.int (0 : Int32)), (.ref r185)])) _
    refine X185.aaload hx (j := (0 : Int32)) (v := (.ref w2)) Ar187.1 (State.isArrayOf_alike hZ.alike Ar187.2.1) rfl Ar187.2.2 hin187 hat187 (g := (mkF m 16 #[.val (.ref w7), .val (.ref r185), .val (.int (5 : Int32)), .val (.int (0 : Int32)), .unset] [(.int (0 : Int32)), (.ref r185)])) rfl rfl (hb hby d_prog_16_method_4_code_16) _ ?_
    show Steps p.tables e below (T185.setTop (mkF m 17 #[.val (.ref w7), .val (.ref r185), .val (.int (5 : Int32)), .val (.int (0 : Int32)), .unset] [(.ref w2)])) _
    refine XS.astore X185.here hx rfl (hb hby d_prog_16_method_4_code_17) rfl rfl (l' := #[.val (.ref w7), .val (.ref r185), .val (.int (5 : Int32)), .val (.int (0 : Int32)), .val (.ref w2)]) rfl ?_
    show Steps p.tables e below (T185.setTop (mkF m 19 #[.val (.ref w7), .val (.ref r185), .val (.int (5 : Int32)), .val (.int (0 : Int32)), .val (.ref w2)] [])) _
    refine XS.aload X185.here hx rfl (hb hby d_prog_16_method_4_code_19) rfl rfl ?_
    show Steps p.tables e below (T185.setTop (mkF m 21 #[.val (.ref w7), .val (.ref r185), .val (.int (5 : Int32)), .val (.int (0 : Int32)), .val (.ref w2)] [(.ref w2)])) _
    refine st188 _ ?_
    show Steps p.tables e below (T188.setTop (mkF m 24 #[.val (.ref w7), .val (.ref r185), .val (.int (5 : Int32)), .val (.int (0 : Int32)), .val (.ref w2)] [(.ref w7)])) _
    refine XS.aloadN X188.here hx rfl (hb hby d_prog_16_method_4_code_24) rfl rfl ?_
    show Steps p.tables e below (T188.setTop (mkF m 25 #[.val (.ref w7), .val (.ref r185), .val (.int (5 : Int32)), .val (.int (0 : Int32)), .val (.ref w2)] [(.ref w7), (.ref w7)])) _
    refine Jvm.RoadKit.acmp (g := (mkF m 25 #[.val (.ref w7), .val (.ref r185), .val (.int (5 : Int32)), .val (.int (0 : Int32)), .val (.ref w2)] [(.ref w7), (.ref w7)])) X188 hx rfl rfl rfl (pc0 := 25) (pc' := 28) (same := true) rfl (hb hby d_prog_16_method_4_code_25) rfl (decide_eq_true rfl) (by decide) (by decide) ?_
    show Steps p.tables e below (T188.setTop (mkF m 28 #[.val (.ref w7), .val (.ref r185), .val (.int (5 : Int32)), .val (.int (0 : Int32)), .val (.ref w2)] [])) _
    refine XS.aload X188.here hx rfl (hb hby d_prog_16_method_4_code_28) rfl rfl ?_
    show Steps p.tables e below (T188.setTop (mkF m 30 #[.val (.ref w7), .val (.ref r185), .val (.int (5 : Int32)), .val (.int (0 : Int32)), .val (.ref w2)] [(.ref w2)])) _
    refine st194 _ ?_
    show Steps p.tables e below (T194.setTop (mkF m 33 #[.val (.ref w7), .val (.ref r185), .val (.int (5 : Int32)), .val (.int (0 : Int32)), .val (.ref w2)] [(.ref r194)])) _
    exact retOut X194 hx (t := (.object "java/util/Optional")) (i := .areturn) Bd.returns rfl (Or.inr (Or.inr (Or.inr (Or.inr ⟨rfl, rfl, rfl⟩)))) (hb hby d_prog_16_method_4_code_33) hr
  · show Qerm42 Z w0 w1 w2 w3 w4 w5 w6 w7 w8 w9 w10 w11 w12 w13 w14 w15 w16 w17 h0 n0 _ T194.heap _
    exact ⟨r194, rfl, N194, Kp194, O_194, E_r194_194, F_r194_value_194, g_r194⟩
set_option maxRecDepth 65536 in
set_option maxHeartbeats 40000000 in
theorem rm46 (l : Launch) (Z : State) (a0 : Array Value) (hw : ∀ d ∈ tables_1, d.before a0 Z = true) (ws : List Jvm.Cond) (w0 w1 w2 w3 w4 w5 w6 w7 w8 w9 w10 w11 w12 w13 w14 w15 w16 w17 : Addr) (a1 : Addr) (h0 : Heap) (n0 : Nat) (hWd : Wd Z w0 w1 w2 w3 w4 w5 w6 w7 w8 w9 w10 w11 w12 w13 w14 w15 w16 w17) (O0 : Old Z n0 h0) (E_a1 : Exa Z h0 a1 "java/util/Optional") (F_a1_value : Fld Z h0 a1 "java/util/Optional" "value" "Ljava/lang/Object;" (.ref w2)) (g_a1 : n0 ≤ a1) :
    MetFree l (⟨"java/util/Optional", "orElse", "(Ljava/lang/Object;)Ljava/lang/Object;"⟩ : MethodName) (head1 (Jvm.Cond.code (⟨"java/util/Optional", "orElse", "(Ljava/lang/Object;)Ljava/lang/Object;"⟩ : MethodName) jdk_32_method_15_code 2 (some (.object "java/lang/Object")) :: ws) ({ frames := 0, cells := 0, slots := 0, locals := 0 } : Room)) (fun a U => a = #[(.ref a1), .null] ∧ Z.Warmed39 U.vm ∧ U.heap = h0) (fun _ _ _ _ _ => True) (fun _ U o U' => ∃ v L, o = .returned v ∧ Qp (some (.ref w2)) h0 n0 v U'.heap L ∧ FrameEnd U o U' L ({ frames := 0, cells := 0, slots := 0, locals := 0 } : Room).cells ({ frames := 0, cells := 0, slots := 0, locals := 0 } : Room).slots) := by
  refine MetFree.of_bodySF (plainFor_of_name pn2) hisR ?_
  intro p e s m args below meth c s₁ Bd hml0 hP hK
  obtain ⟨rfl, hZ, hh⟩ := hP
  have hx := Bd.exec
  have hby := Bd.bytes
  have hml : c.maxLocals = 2 := hml0
  have hown : s.vm.findClass "java/util/Optional" = some m.cls := findClass_of_methodNamed Bd.named
  have hnm := (name_of_methodNamed Bd.named Bd.method).1
  have X0 : Stand p l e ({ frames := 0, cells := 0, slots := 0, locals := 0 } : Room) s m #[(.ref a1), .null] below meth c s₁ [] 0 0 := Stand.of_body Bd
  have e0 : s₁.heap = h0 := by rw [← hh, Bd.state]; rfl
  have N0 := Fr.nil n0
  have hlk := Bd.notSynchronized
  obtain ⟨wS0, wE0, wS1, wE1, wS2, wE2, wS3, wE3, wS4, wE4, wS5, wE5, wS6, wE6, wS7, wE7, wS8, wE8, wS9, wE9, wS10, wE10, wS11, wE11, wS12, wE12, wS13, wE13, wS14, wE14, wS15, wE15, wS16, wE16, wS17, wE17, wF2_type, wF7_ordinal, wF0_ordinal, wF3_type, wF8_ordinal, wF4_type, wF9_ordinal, wF5_type, wF10_ordinal, wF6_type, wF11_ordinal, wF12_ordinal, wF13_ordinal, wF14_ordinal, wF15_ordinal, wF16_ordinal, wF17_value, wA, -⟩ := id hWd
  have pre0 : ∀ t, Steps p.tables e below (s₁.setTop (mkF m 0 #[.val (.ref a1), .val .null] [])) t → Steps p.tables e below (s₁.setTop (entryFrame m #[(.ref a1), .null] 2)) t := fun t k => castTop (ef13 m a1) k
  obtain ⟨T196, X196, e196, st196⟩ := getF X0 hx hZ hown (host := "") (Or.inl (hw _ (List.mem_of_getElem? (i := 52) rfl))) Via.refl e0 F_a1_value (g := (mkF m 1 #[.val (.ref a1), .val .null] [(.ref a1)])) rfl rfl (hb hby d_jdk_32_method_15_code_1)
  obtain ⟨T197, X197, e197, st197⟩ := getF X196 hx hZ hown (host := "") (Or.inl (hw _ (List.mem_of_getElem? (i := 52) rfl))) Via.refl e196 F_a1_value (g := (mkF m 8 #[.val (.ref a1), .val .null] [(.ref a1)])) rfl rfl (hb hby d_jdk_32_method_15_code_8)
  obtain ⟨fs, hr, hrun, hended, hWr, hsame⟩ := X197.leave (v := some (.ref w2)) (fun h => by rw [Bd.returns] at h; cases h) hlk
  refine ⟨_, _, pre0 _ ?_, hrun, hended, _, _, rfl, ?_, ⟨_, rfl⟩, hWr, hsame.mono (Nat.le_of_ble_eq_true rfl) (Nat.le_of_ble_eq_true rfl)⟩
  · show Steps p.tables e below (s₁.setTop (mkF m 0 #[.val (.ref a1), .val .null] [])) _
    refine XS.aloadN X0.here hx rfl (hb hby d_jdk_32_method_15_code_0) rfl rfl ?_
    show Steps p.tables e below (s₁.setTop (mkF m 1 #[.val (.ref a1), .val .null] [(.ref a1)])) _
    refine st196 _ ?_
    show Steps p.tables e below (T196.setTop (mkF m 4 #[.val (.ref a1), .val .null] [(.ref w2)])) _
    refine XS.ifnullNo X196.here hx rfl (hb hby d_jdk_32_method_15_code_4) rfl ?_
    show Steps p.tables e below (T196.setTop (mkF m 7 #[.val (.ref a1), .val .null] [])) _
    refine XS.aloadN X196.here hx rfl (hb hby d_jdk_32_method_15_code_7) rfl rfl ?_
    show Steps p.tables e below (T196.setTop (mkF m 8 #[.val (.ref a1), .val .null] [(.ref a1)])) _
    refine st197 _ ?_
    show Steps p.tables e below (T197.setTop (mkF m 11 #[.val (.ref a1), .val .null] [(.ref w2)])) _
    refine XS.goto X197.here hx rfl (pc0 := 11) (pc' := 15) rfl (hb hby d_jdk_32_method_15_code_11) (by decide) (by decide) ?_
    show Steps p.tables e below (T197.setTop (mkF m 15 #[.val (.ref a1), .val .null] [(.ref w2)])) _
    exact retOut X197 hx (t := (.object "java/lang/Object")) (i := .areturn) Bd.returns rfl (Or.inr (Or.inr (Or.inr (Or.inr ⟨rfl, rfl, rfl⟩)))) (hb hby d_jdk_32_method_15_code_15) hr
  · show Qp (some (.ref w2)) h0 n0 _ T197.heap _
    rw [e197]
    exact ⟨rfl, N0, rfl⟩
theorem d_method_3_code_83 : decode method_3_code 83 = .ok (.iload_n 0, 1) := by decide +kernel
theorem d_method_3_code_84 : decode method_3_code 84 = .ok (.bipush 9, 2) := by decide +kernel
theorem d_method_3_code_86 : decode method_3_code 86 = .ok (.if_icmp .ne 7, 3) := by decide +kernel
theorem d_method_3_code_89 : decode method_3_code 89 = .ok (.getstatic 60, 3) := by decide +kernel
theorem d_method_3_code_92 : decode method_3_code 92 = .ok (.areturn, 1) := by decide +kernel
theorem ef30 (m : MethodId)    : entryFrame m #[(.int (9 : Int32))] 1 = mkF m 0 #[.val (.int (9 : Int32))] [] := by first | (simp [entryFrame, mkF, argsToLocals, Value.category]; done) | rfl
set_option maxRecDepth 65536 in
set_option maxHeartbeats 40000000 in
theorem rm47 (l : Launch) (Z : State) (a0 : Array Value) (hw : ∀ d ∈ tables_1, d.before a0 Z = true) (ws : List Jvm.Cond) (w0 w1 w2 w3 w4 w5 w6 w7 w8 w9 w10 w11 w12 w13 w14 w15 w16 w17 : Addr) (h0 : Heap) (n0 : Nat) (hWd : Wd Z w0 w1 w2 w3 w4 w5 w6 w7 w8 w9 w10 w11 w12 w13 w14 w15 w16 w17) (O0 : Old Z n0 h0) :
    MetFree l (⟨"com/example/weaverbird/weaverbird/queues/RunActionOfPinLaw", "typeAt", "(I)Lcom/example/weaverbird/weaverbird/codes/CommandType;"⟩ : MethodName) (head1 (Jvm.Cond.code (⟨"com/example/weaverbird/weaverbird/queues/RunActionOfPinLaw", "typeAt", "(I)Lcom/example/weaverbird/weaverbird/codes/CommandType;"⟩ : MethodName) method_3_code 1 (some (.object "com/example/weaverbird/weaverbird/codes/CommandType")) :: ws) ({ frames := 0, cells := 0, slots := 0, locals := 0 } : Room)) (fun a U => a = #[(.int (9 : Int32))] ∧ Z.Warmed39 U.vm ∧ U.heap = h0) (fun _ _ _ _ _ => True) (fun _ U o U' => ∃ v L, o = .returned v ∧ Qp (some (.ref w9)) h0 n0 v U'.heap L ∧ FrameEnd U o U' L ({ frames := 0, cells := 0, slots := 0, locals := 0 } : Room).cells ({ frames := 0, cells := 0, slots := 0, locals := 0 } : Room).slots) := by
  refine MetFree.of_bodySF (plainFor_of_name pn0) hisR ?_
  intro p e s m args below meth c s₁ Bd hml0 hP hK
  obtain ⟨rfl, hZ, hh⟩ := hP
  have hx := Bd.exec
  have hby := Bd.bytes
  have hml : c.maxLocals = 1 := hml0
  have hown : s.vm.findClass "com/example/weaverbird/weaverbird/queues/RunActionOfPinLaw" = some m.cls := findClass_of_methodNamed Bd.named
  have hnm := (name_of_methodNamed Bd.named Bd.method).1
  have X0 : Stand p l e ({ frames := 0, cells := 0, slots := 0, locals := 0 } : Room) s m #[(.int (9 : Int32))] below meth c s₁ [] 0 0 := Stand.of_body Bd
  have e0 : s₁.heap = h0 := by rw [← hh, Bd.state]; rfl
  have N0 := Fr.nil n0
  have hlk := Bd.notSynchronized
  obtain ⟨wS0, wE0, wS1, wE1, wS2, wE2, wS3, wE3, wS4, wE4, wS5, wE5, wS6, wE6, wS7, wE7, wS8, wE8, wS9, wE9, wS10, wE10, wS11, wE11, wS12, wE12, wS13, wE13, wS14, wE14, wS15, wE15, wS16, wE16, wS17, wE17, wF2_type, wF7_ordinal, wF0_ordinal, wF3_type, wF8_ordinal, wF4_type, wF9_ordinal, wF5_type, wF10_ordinal, wF6_type, wF11_ordinal, wF12_ordinal, wF13_ordinal, wF14_ordinal, wF15_ordinal, wF16_ordinal, wF17_value, wA, -⟩ := id hWd
  have pre0 : ∀ t, Steps p.tables e below (s₁.setTop (mkF m 0 #[.val (.int (9 : Int32))] [])) t → Steps p.tables e below (s₁.setTop (entryFrame m #[(.int (9 : Int32))] 1)) t := fun t k => castTop (ef30 m ) k
  obtain ⟨T200, X200, e200, st200⟩ := getS2 X0 hx hZ hown (host := "") (Or.inl (hw _ (List.mem_of_getElem? (i := 84) rfl))) Via.refl e0 (wS9.ext O0.2) (g := (mkF m 89 #[.val (.int (9 : Int32))] [])) rfl (hb hby d_method_3_code_89)
  obtain ⟨fs, hr, hrun, hended, hWr, hsame⟩ := X200.leave (v := some (.ref w9)) (fun h => by rw [Bd.returns] at h; cases h) hlk
  refine ⟨_, _, pre0 _ ?_, hrun, hended, _, _, rfl, ?_, ⟨_, rfl⟩, hWr, hsame.mono (Nat.le_of_ble_eq_true rfl) (Nat.le_of_ble_eq_true rfl)⟩
  · show Steps p.tables e below (s₁.setTop (mkF m 0 #[.val (.int (9 : Int32))] [])) _
    refine XS.iloadN X0.here hx rfl (hb hby d_method_3_code_0) rfl ?_
    show Steps p.tables e below (s₁.setTop (mkF m 1 #[.val (.int (9 : Int32))] [(.int (9 : Int32))])) _
    refine XS.ifYes X0.here hx rfl (pc0 := 1) (pc' := 8) rfl (hb hby d_method_3_code_1) rfl (by decide) (by decide) (by decide) ?_
    show Steps p.tables e below (s₁.setTop (mkF m 8 #[.val (.int (9 : Int32))] [])) _
    refine XS.iloadN X0.here hx rfl (hb hby d_method_3_code_8) rfl ?_
    show Steps p.tables e below (s₁.setTop (mkF m 9 #[.val (.int (9 : Int32))] [(.int (9 : Int32))])) _
    refine XS.iconst X0.here hx rfl (hb hby d_method_3_code_9) ?_
    show Steps p.tables e below (s₁.setTop (mkF m 10 #[.val (.int (9 : Int32))] [(.int (1 : Int32)), (.int (9 : Int32))])) _
    refine XS.icmpYes X0.here hx rfl (pc0 := 10) (pc' := 17) rfl (hb hby d_method_3_code_10) rfl (by decide) (by decide) (by decide) ?_
    show Steps p.tables e below (s₁.setTop (mkF m 17 #[.val (.int (9 : Int32))] [])) _
    refine XS.iloadN X0.here hx rfl (hb hby d_method_3_code_17) rfl ?_
    show Steps p.tables e below (s₁.setTop (mkF m 18 #[.val (.int (9 : Int32))] [(.int (9 : Int32))])) _
    refine XS.iconst X0.here hx rfl (hb hby d_method_3_code_18) ?_
    show Steps p.tables e below (s₁.setTop (mkF m 19 #[.val (.int (9 : Int32))] [(.int (2 : Int32)), (.int (9 : Int32))])) _
    refine XS.icmpYes X0.here hx rfl (pc0 := 19) (pc' := 26) rfl (hb hby d_method_3_code_19) rfl (by decide) (by decide) (by decide) ?_
    show Steps p.tables e below (s₁.setTop (mkF m 26 #[.val (.int (9 : Int32))] [])) _
    refine XS.iloadN X0.here hx rfl (hb hby d_method_3_code_26) rfl ?_
    show Steps p.tables e below (s₁.setTop (mkF m 27 #[.val (.int (9 : Int32))] [(.int (9 : Int32))])) _
    refine XS.iconst X0.here hx rfl (hb hby d_method_3_code_27) ?_
    show Steps p.tables e below (s₁.setTop (mkF m 28 #[.val (.int (9 : Int32))] [(.int (3 : Int32)), (.int (9 : Int32))])) _
    refine XS.icmpYes X0.here hx rfl (pc0 := 28) (pc' := 35) rfl (hb hby d_method_3_code_28) rfl (by decide) (by decide) (by decide) ?_
    show Steps p.tables e below (s₁.setTop (mkF m 35 #[.val (.int (9 : Int32))] [])) _
    refine XS.iloadN X0.here hx rfl (hb hby d_method_3_code_35) rfl ?_
    show Steps p.tables e below (s₁.setTop (mkF m 36 #[.val (.int (9 : Int32))] [(.int (9 : Int32))])) _
    refine XS.iconst X0.here hx rfl (hb hby d_method_3_code_36) ?_
    show Steps p.tables e below (s₁.setTop (mkF m 37 #[.val (.int (9 : Int32))] [(.int (4 : Int32)), (.int (9 : Int32))])) _
    refine XS.icmpYes X0.here hx rfl (pc0 := 37) (pc' := 44) rfl (hb hby d_method_3_code_37) rfl (by decide) (by decide) (by decide) ?_
    show Steps p.tables e below (s₁.setTop (mkF m 44 #[.val (.int (9 : Int32))] [])) _
    refine XS.iloadN X0.here hx rfl (hb hby d_method_3_code_44) rfl ?_
    show Steps p.tables e below (s₁.setTop (mkF m 45 #[.val (.int (9 : Int32))] [(.int (9 : Int32))])) _
    refine XS.iconst X0.here hx rfl (hb hby d_method_3_code_45) ?_
    show Steps p.tables e below (s₁.setTop (mkF m 46 #[.val (.int (9 : Int32))] [(.int (5 : Int32)), (.int (9 : Int32))])) _
    refine XS.icmpYes X0.here hx rfl (pc0 := 46) (pc' := 53) rfl (hb hby d_method_3_code_46) rfl (by decide) (by decide) (by decide) ?_
    show Steps p.tables e below (s₁.setTop (mkF m 53 #[.val (.int (9 : Int32))] [])) _
    refine XS.iloadN X0.here hx rfl (hb hby d_method_3_code_53) rfl ?_
    show Steps p.tables e below (s₁.setTop (mkF m 54 #[.val (.int (9 : Int32))] [(.int (9 : Int32))])) _
    refine XS.bipush X0.here hx rfl (hb hby d_method_3_code_54) ?_
    show Steps p.tables e below (s₁.setTop (mkF m 56 #[.val (.int (9 : Int32))] [(.int (6 : Int32)), (.int (9 : Int32))])) _
    refine XS.icmpYes X0.here hx rfl (pc0 := 56) (pc' := 63) rfl (hb hby d_method_3_code_56) rfl (by decide) (by decide) (by decide) ?_
    show Steps p.tables e below (s₁.setTop (mkF m 63 #[.val (.int (9 : Int32))] [])) _
    refine XS.iloadN X0.here hx rfl (hb hby d_method_3_code_63) rfl ?_
    show Steps p.tables e below (s₁.setTop (mkF m 64 #[.val (.int (9 : Int32))] [(.int (9 : Int32))])) _
    refine XS.bipush X0.here hx rfl (hb hby d_method_3_code_64) ?_
    show Steps p.tables e below (s₁.setTop (mkF m 66 #[.val (.int (9 : Int32))] [(.int (7 : Int32)), (.int (9 : Int32))])) _
    refine XS.icmpYes X0.here hx rfl (pc0 := 66) (pc' := 73) rfl (hb hby d_method_3_code_66) rfl (by decide) (by decide) (by decide) ?_
    show Steps p.tables e below (s₁.setTop (mkF m 73 #[.val (.int (9 : Int32))] [])) _
    refine XS.iloadN X0.here hx rfl (hb hby d_method_3_code_73) rfl ?_
    show Steps p.tables e below (s₁.setTop (mkF m 74 #[.val (.int (9 : Int32))] [(.int (9 : Int32))])) _
    refine XS.bipush X0.here hx rfl (hb hby d_method_3_code_74) ?_
    show Steps p.tables e below (s₁.setTop (mkF m 76 #[.val (.int (9 : Int32))] [(.int (8 : Int32)), (.int (9 : Int32))])) _
    refine XS.icmpYes X0.here hx rfl (pc0 := 76) (pc' := 83) rfl (hb hby d_method_3_code_76) rfl (by decide) (by decide) (by decide) ?_
    show Steps p.tables e below (s₁.setTop (mkF m 83 #[.val (.int (9 : Int32))] [])) _
    refine XS.iloadN X0.here hx rfl (hb hby d_method_3_code_83) rfl ?_
    show Steps p.tables e below (s₁.setTop (mkF m 84 #[.val (.int (9 : Int32))] [(.int (9 : Int32))])) _
    refine XS.bipush X0.here hx rfl (hb hby d_method_3_code_84) ?_
    show Steps p.tables e below (s₁.setTop (mkF m 86 #[.val (.int (9 : Int32))] [(.int (9 : Int32)), (.int (9 : Int32))])) _
    refine XS.icmpNo X0.here hx rfl (hb hby d_method_3_code_86) rfl (by decide) ?_
    show Steps p.tables e below (s₁.setTop (mkF m 89 #[.val (.int (9 : Int32))] [])) _
    refine st200 _ ?_
    show Steps p.tables e below (T200.setTop (mkF m 92 #[.val (.int (9 : Int32))] [(.ref w9)])) _
    exact retOut X200 hx (t := (.object "com/example/weaverbird/weaverbird/codes/CommandType")) (i := .areturn) Bd.returns rfl (Or.inr (Or.inr (Or.inr (Or.inr ⟨rfl, rfl, rfl⟩)))) (hb hby d_method_3_code_92) hr
  · show Qp (some (.ref w9)) h0 n0 _ T200.heap _
    rw [e200]
    exact ⟨rfl, N0, rfl⟩
theorem d_method_4_code_44 : decode method_4_code 44 = .ok (.getstatic 77, 3) := by decide +kernel
theorem d_method_4_code_47 : decode method_4_code 47 = .ok (.areturn, 1) := by decide +kernel
set_option maxRecDepth 65536 in
set_option maxHeartbeats 40000000 in
theorem rm48 (l : Launch) (Z : State) (a0 : Array Value) (hw : ∀ d ∈ tables_1, d.before a0 Z = true) (ws : List Jvm.Cond) (w0 w1 w2 w3 w4 w5 w6 w7 w8 w9 w10 w11 w12 w13 w14 w15 w16 w17 : Addr) (h0 : Heap) (n0 : Nat) (hWd : Wd Z w0 w1 w2 w3 w4 w5 w6 w7 w8 w9 w10 w11 w12 w13 w14 w15 w16 w17) (O0 : Old Z n0 h0) :
    MetFree l (⟨"com/example/weaverbird/weaverbird/queues/RunActionOfPinLaw", "expectedFor", "(I)Lcom/example/weaverbird/weaverbird/queues/RunAction;"⟩ : MethodName) (head1 (Jvm.Cond.code (⟨"com/example/weaverbird/weaverbird/queues/RunActionOfPinLaw", "expectedFor", "(I)Lcom/example/weaverbird/weaverbird/queues/RunAction;"⟩ : MethodName) method_4_code 1 (some (.object "com/example/weaverbird/weaverbird/queues/RunAction")) :: ws) ({ frames := 0, cells := 0, slots := 0, locals := 0 } : Room)) (fun a U => a = #[(.int (9 : Int32))] ∧ Z.Warmed39 U.vm ∧ U.heap = h0) (fun _ _ _ _ _ => True) (fun _ U o U' => ∃ v L, o = .returned v ∧ Qp (some (.ref w4)) h0 n0 v U'.heap L ∧ FrameEnd U o U' L ({ frames := 0, cells := 0, slots := 0, locals := 0 } : Room).cells ({ frames := 0, cells := 0, slots := 0, locals := 0 } : Room).slots) := by
  refine MetFree.of_bodySF (plainFor_of_name pn0) hisR ?_
  intro p e s m args below meth c s₁ Bd hml0 hP hK
  obtain ⟨rfl, hZ, hh⟩ := hP
  have hx := Bd.exec
  have hby := Bd.bytes
  have hml : c.maxLocals = 1 := hml0
  have hown : s.vm.findClass "com/example/weaverbird/weaverbird/queues/RunActionOfPinLaw" = some m.cls := findClass_of_methodNamed Bd.named
  have hnm := (name_of_methodNamed Bd.named Bd.method).1
  have X0 : Stand p l e ({ frames := 0, cells := 0, slots := 0, locals := 0 } : Room) s m #[(.int (9 : Int32))] below meth c s₁ [] 0 0 := Stand.of_body Bd
  have e0 : s₁.heap = h0 := by rw [← hh, Bd.state]; rfl
  have N0 := Fr.nil n0
  have hlk := Bd.notSynchronized
  obtain ⟨wS0, wE0, wS1, wE1, wS2, wE2, wS3, wE3, wS4, wE4, wS5, wE5, wS6, wE6, wS7, wE7, wS8, wE8, wS9, wE9, wS10, wE10, wS11, wE11, wS12, wE12, wS13, wE13, wS14, wE14, wS15, wE15, wS16, wE16, wS17, wE17, wF2_type, wF7_ordinal, wF0_ordinal, wF3_type, wF8_ordinal, wF4_type, wF9_ordinal, wF5_type, wF10_ordinal, wF6_type, wF11_ordinal, wF12_ordinal, wF13_ordinal, wF14_ordinal, wF15_ordinal, wF16_ordinal, wF17_value, wA, -⟩ := id hWd
  have pre0 : ∀ t, Steps p.tables e below (s₁.setTop (mkF m 0 #[.val (.int (9 : Int32))] [])) t → Steps p.tables e below (s₁.setTop (entryFrame m #[(.int (9 : Int32))] 1)) t := fun t k => castTop (ef30 m ) k
  obtain ⟨T202, X202, e202, st202⟩ := getS2 X0 hx hZ hown (host := "") (Or.inl (hw _ (List.mem_of_getElem? (i := 85) rfl))) Via.refl e0 (wS4.ext O0.2) (g := (mkF m 44 #[.val (.int (9 : Int32))] [])) rfl (hb hby d_method_4_code_44)
  obtain ⟨fs, hr, hrun, hended, hWr, hsame⟩ := X202.leave (v := some (.ref w4)) (fun h => by rw [Bd.returns] at h; cases h) hlk
  refine ⟨_, _, pre0 _ ?_, hrun, hended, _, _, rfl, ?_, ⟨_, rfl⟩, hWr, hsame.mono (Nat.le_of_ble_eq_true rfl) (Nat.le_of_ble_eq_true rfl)⟩
  · show Steps p.tables e below (s₁.setTop (mkF m 0 #[.val (.int (9 : Int32))] [])) _
    refine XS.iloadN X0.here hx rfl (hb hby d_method_4_code_0) rfl ?_
    show Steps p.tables e below (s₁.setTop (mkF m 1 #[.val (.int (9 : Int32))] [(.int (9 : Int32))])) _
    refine XS.iconst X0.here hx rfl (hb hby d_method_4_code_1) ?_
    show Steps p.tables e below (s₁.setTop (mkF m 2 #[.val (.int (9 : Int32))] [(.int (3 : Int32)), (.int (9 : Int32))])) _
    refine XS.icmpYes X0.here hx rfl (pc0 := 2) (pc' := 9) rfl (hb hby d_method_4_code_2) rfl (by decide) (by decide) (by decide) ?_
    show Steps p.tables e below (s₁.setTop (mkF m 9 #[.val (.int (9 : Int32))] [])) _
    refine XS.iloadN X0.here hx rfl (hb hby d_method_4_code_9) rfl ?_
    show Steps p.tables e below (s₁.setTop (mkF m 10 #[.val (.int (9 : Int32))] [(.int (9 : Int32))])) _
    refine XS.iconst X0.here hx rfl (hb hby d_method_4_code_10) ?_
    show Steps p.tables e below (s₁.setTop (mkF m 11 #[.val (.int (9 : Int32))] [(.int (4 : Int32)), (.int (9 : Int32))])) _
    refine XS.icmpYes X0.here hx rfl (pc0 := 11) (pc' := 18) rfl (hb hby d_method_4_code_11) rfl (by decide) (by decide) (by decide) ?_
    show Steps p.tables e below (s₁.setTop (mkF m 18 #[.val (.int (9 : Int32))] [])) _
    refine XS.iloadN X0.here hx rfl (hb hby d_method_4_code_18) rfl ?_
    show Steps p.tables e below (s₁.setTop (mkF m 19 #[.val (.int (9 : Int32))] [(.int (9 : Int32))])) _
    refine XS.bipush X0.here hx rfl (hb hby d_method_4_code_19) ?_
    show Steps p.tables e below (s₁.setTop (mkF m 21 #[.val (.int (9 : Int32))] [(.int (7 : Int32)), (.int (9 : Int32))])) _
    refine XS.icmpYes X0.here hx rfl (pc0 := 21) (pc' := 28) rfl (hb hby d_method_4_code_21) rfl (by decide) (by decide) (by decide) ?_
    show Steps p.tables e below (s₁.setTop (mkF m 28 #[.val (.int (9 : Int32))] [])) _
    refine XS.iloadN X0.here hx rfl (hb hby d_method_4_code_28) rfl ?_
    show Steps p.tables e below (s₁.setTop (mkF m 29 #[.val (.int (9 : Int32))] [(.int (9 : Int32))])) _
    refine XS.bipush X0.here hx rfl (hb hby d_method_4_code_29) ?_
    show Steps p.tables e below (s₁.setTop (mkF m 31 #[.val (.int (9 : Int32))] [(.int (8 : Int32)), (.int (9 : Int32))])) _
    refine XS.icmpYes X0.here hx rfl (pc0 := 31) (pc' := 38) rfl (hb hby d_method_4_code_31) rfl (by decide) (by decide) (by decide) ?_
    show Steps p.tables e below (s₁.setTop (mkF m 38 #[.val (.int (9 : Int32))] [])) _
    refine XS.iloadN X0.here hx rfl (hb hby d_method_4_code_38) rfl ?_
    show Steps p.tables e below (s₁.setTop (mkF m 39 #[.val (.int (9 : Int32))] [(.int (9 : Int32))])) _
    refine XS.bipush X0.here hx rfl (hb hby d_method_4_code_39) ?_
    show Steps p.tables e below (s₁.setTop (mkF m 41 #[.val (.int (9 : Int32))] [(.int (9 : Int32)), (.int (9 : Int32))])) _
    refine XS.icmpNo X0.here hx rfl (hb hby d_method_4_code_41) rfl (by decide) ?_
    show Steps p.tables e below (s₁.setTop (mkF m 44 #[.val (.int (9 : Int32))] [])) _
    refine st202 _ ?_
    show Steps p.tables e below (T202.setTop (mkF m 47 #[.val (.int (9 : Int32))] [(.ref w4)])) _
    exact retOut X202 hx (t := (.object "com/example/weaverbird/weaverbird/queues/RunAction")) (i := .areturn) Bd.returns rfl (Or.inr (Or.inr (Or.inr (Or.inr ⟨rfl, rfl, rfl⟩)))) (hb hby d_method_4_code_47) hr
  · show Qp (some (.ref w4)) h0 n0 _ T202.heap _
    rw [e202]
    exact ⟨rfl, N0, rfl⟩
theorem ef31 (m : MethodId)   (w4 : Addr) : entryFrame m #[(.ref w4)] 1 = mkF m 0 #[.val (.ref w4)] [] := by first | (simp [entryFrame, mkF, argsToLocals, Value.category]; done) | rfl
set_option maxRecDepth 65536 in
set_option maxHeartbeats 40000000 in
theorem rm51 (l : Launch) (Z : State) (a0 : Array Value) (hw : ∀ d ∈ tables_1, d.before a0 Z = true) (ws : List Jvm.Cond) (w0 w1 w2 w3 w4 w5 w6 w7 w8 w9 w10 w11 w12 w13 w14 w15 w16 w17 : Addr) (h0 : Heap) (n0 : Nat) (hWd : Wd Z w0 w1 w2 w3 w4 w5 w6 w7 w8 w9 w10 w11 w12 w13 w14 w15 w16 w17) (O0 : Old Z n0 h0) :
    MetFree l (⟨"java/util/Objects", "requireNonNull", "(Ljava/lang/Object;)Ljava/lang/Object;"⟩ : MethodName) (head1 (Jvm.Cond.code (⟨"java/util/Objects", "requireNonNull", "(Ljava/lang/Object;)Ljava/lang/Object;"⟩ : MethodName) jdk_31_method_10_code 1 (some (.object "java/lang/Object")) :: ws) ({ frames := 0, cells := 0, slots := 0, locals := 0 } : Room)) (fun a U => a = #[(.ref w4)] ∧ Z.Warmed39 U.vm ∧ U.heap = h0) (fun _ _ _ _ _ => True) (fun _ U o U' => ∃ v L, o = .returned v ∧ Qp (some (.ref w4)) h0 n0 v U'.heap L ∧ FrameEnd U o U' L ({ frames := 0, cells := 0, slots := 0, locals := 0 } : Room).cells ({ frames := 0, cells := 0, slots := 0, locals := 0 } : Room).slots) := by
  refine MetFree.of_bodySF (plainFor_of_name pn3) hisR ?_
  intro p e s m args below meth c s₁ Bd hml0 hP hK
  obtain ⟨rfl, hZ, hh⟩ := hP
  have hx := Bd.exec
  have hby := Bd.bytes
  have hml : c.maxLocals = 1 := hml0
  have hown : s.vm.findClass "java/util/Objects" = some m.cls := findClass_of_methodNamed Bd.named
  have hnm := (name_of_methodNamed Bd.named Bd.method).1
  have X0 : Stand p l e ({ frames := 0, cells := 0, slots := 0, locals := 0 } : Room) s m #[(.ref w4)] below meth c s₁ [] 0 0 := Stand.of_body Bd
  have e0 : s₁.heap = h0 := by rw [← hh, Bd.state]; rfl
  have N0 := Fr.nil n0
  have hlk := Bd.notSynchronized
  obtain ⟨wS0, wE0, wS1, wE1, wS2, wE2, wS3, wE3, wS4, wE4, wS5, wE5, wS6, wE6, wS7, wE7, wS8, wE8, wS9, wE9, wS10, wE10, wS11, wE11, wS12, wE12, wS13, wE13, wS14, wE14, wS15, wE15, wS16, wE16, wS17, wE17, wF2_type, wF7_ordinal, wF0_ordinal, wF3_type, wF8_ordinal, wF4_type, wF9_ordinal, wF5_type, wF10_ordinal, wF6_type, wF11_ordinal, wF12_ordinal, wF13_ordinal, wF14_ordinal, wF15_ordinal, wF16_ordinal, wF17_value, wA, -⟩ := id hWd
  have pre0 : ∀ t, Steps p.tables e below (s₁.setTop (mkF m 0 #[.val (.ref w4)] [])) t → Steps p.tables e below (s₁.setTop (entryFrame m #[(.ref w4)] 1)) t := fun t k => castTop (ef31 m w4) k
  obtain ⟨fs, hr, hrun, hended, hWr, hsame⟩ := X0.leave (v := some (.ref w4)) (fun h => by rw [Bd.returns] at h; cases h) hlk
  refine ⟨_, _, pre0 _ ?_, hrun, hended, _, _, rfl, ?_, ⟨_, rfl⟩, hWr, hsame.mono (Nat.le_of_ble_eq_true rfl) (Nat.le_of_ble_eq_true rfl)⟩
  · show Steps p.tables e below (s₁.setTop (mkF m 0 #[.val (.ref w4)] [])) _
    refine XS.aloadN X0.here hx rfl (hb hby d_jdk_31_method_10_code_0) rfl rfl ?_
    show Steps p.tables e below (s₁.setTop (mkF m 1 #[.val (.ref w4)] [(.ref w4)])) _
    refine XS.ifnonnullYes X0.here hx rfl (pc0 := 1) (pc' := 12) rfl (hb hby d_jdk_31_method_10_code_1) rfl (by decide) (by decide) ?_
    show Steps p.tables e below (s₁.setTop (mkF m 12 #[.val (.ref w4)] [])) _
    refine XS.aloadN X0.here hx rfl (hb hby d_jdk_31_method_10_code_12) rfl rfl ?_
    show Steps p.tables e below (s₁.setTop (mkF m 13 #[.val (.ref w4)] [(.ref w4)])) _
    exact retOut X0 hx (t := (.object "java/lang/Object")) (i := .areturn) Bd.returns rfl (Or.inr (Or.inr (Or.inr (Or.inr ⟨rfl, rfl, rfl⟩)))) (hb hby d_jdk_31_method_10_code_13) hr
  · show Qp (some (.ref w4)) h0 n0 _ s₁.heap _
    rw [e0]
    exact ⟨rfl, N0, rfl⟩
theorem ef32 (m : MethodId)   (a1 : Addr) (w4 : Addr) : entryFrame m #[(.ref a1), (.ref w4)] 2 = mkF m 0 #[.val (.ref a1), .val (.ref w4)] [] := by first | (simp [entryFrame, mkF, argsToLocals, Value.category]; done) | rfl
def Qerm52 (Z : State) (w0 w1 w2 w3 w4 w5 w6 w7 w8 w9 w10 w11 w12 w13 w14 w15 w16 w17 : Addr) (a1 : Addr) (h0 : Heap) (n0 : Nat) (v : Option Value) (h : Heap) (L : List Loc) : Prop := v = none ∧ Fr n0 L ∧ Keep h0 h [a1] ∧ Old Z n0 h ∧ Exa Z h a1 "java/util/Optional" ∧ Fld Z h a1 "java/util/Optional" "value" "Ljava/lang/Object;" (.ref w4)
set_option maxRecDepth 65536 in
set_option maxHeartbeats 40000000 in
theorem rm52 (l : Launch) (Z : State) (a0 : Array Value) (hw : ∀ d ∈ tables_1, d.before a0 Z = true) (ws : List Jvm.Cond) (w0 w1 w2 w3 w4 w5 w6 w7 w8 w9 w10 w11 w12 w13 w14 w15 w16 w17 : Addr) (a1 : Addr) (h0 : Heap) (n0 : Nat) (hWd : Wd Z w0 w1 w2 w3 w4 w5 w6 w7 w8 w9 w10 w11 w12 w13 w14 w15 w16 w17) (O0 : Old Z n0 h0) (E_a1 : Exa Z h0 a1 "java/util/Optional") (F_a1_value : Fld Z h0 a1 "java/util/Optional" "value" "Ljava/lang/Object;" .null) (g_a1 : n0 ≤ a1) :
    MetFree l (⟨"java/util/Optional", "<init>", "(Ljava/lang/Object;)V"⟩ : MethodName) (head1 (Jvm.Cond.code (⟨"java/util/Optional", "<init>", "(Ljava/lang/Object;)V"⟩ : MethodName) jdk_32_method_2_code 2 none :: ws) ({ frames := 1, cells := 0, slots := 0, locals := 12 } : Room)) (fun a U => a = #[(.ref a1), (.ref w4)] ∧ Z.Warmed39 U.vm ∧ U.heap = h0) (fun _ _ _ _ _ => True) (fun _ U o U' => ∃ v L, o = .returned v ∧ Qerm52 Z w0 w1 w2 w3 w4 w5 w6 w7 w8 w9 w10 w11 w12 w13 w14 w15 w16 w17 a1 h0 n0 v U'.heap L ∧ FrameEnd U o U' L ({ frames := 1, cells := 0, slots := 0, locals := 12 } : Room).cells ({ frames := 1, cells := 0, slots := 0, locals := 12 } : Room).slots) := by
  refine MetFree.of_bodySF (plainFor_of_name pn2) hisR ?_
  intro p e s m args below meth c s₁ Bd hml0 hP hK
  obtain ⟨rfl, hZ, hh⟩ := hP
  have hx := Bd.exec
  have hby := Bd.bytes
  have hml : c.maxLocals = 2 := hml0
  have hown : s.vm.findClass "java/util/Optional" = some m.cls := findClass_of_methodNamed Bd.named
  have hnm := (name_of_methodNamed Bd.named Bd.method).1
  have X0 : Stand p l e ({ frames := 1, cells := 0, slots := 0, locals := 12 } : Room) s m #[(.ref a1), (.ref w4)] below meth c s₁ [] 0 0 := Stand.of_body Bd
  have e0 : s₁.heap = h0 := by rw [← hh, Bd.state]; rfl
  have N0 := Fr.nil n0
  have hlk := Bd.notSynchronized
  obtain ⟨wS0, wE0, wS1, wE1, wS2, wE2, wS3, wE3, wS4, wE4, wS5, wE5, wS6, wE6, wS7, wE7, wS8, wE8, wS9, wE9, wS10, wE10, wS11, wE11, wS12, wE12, wS13, wE13, wS14, wE14, wS15, wE15, wS16, wE16, wS17, wE17, wF2_type, wF7_ordinal, wF0_ordinal, wF3_type, wF8_ordinal, wF4_type, wF9_ordinal, wF5_type, wF10_ordinal, wF6_type, wF11_ordinal, wF12_ordinal, wF13_ordinal, wF14_ordinal, wF15_ordinal, wF16_ordinal, wF17_value, wA, -⟩ := id hWd
  have pre0 : ∀ t, Steps p.tables e below (s₁.setTop (mkF m 0 #[.val (.ref a1), .val (.ref w4)] [])) t → Steps p.tables e below (s₁.setTop (entryFrame m #[(.ref a1), (.ref w4)] 2)) t := fun t k => castTop (ef32 m a1 w4) k
  obtain ⟨T214, X214, e214, st214⟩ := initO X0 hx hZ hown (hw _ (List.mem_of_getElem? (i := 69) rfl)) (hw _ (List.mem_of_getElem? (i := 70) rfl)) (hw _ (List.mem_of_getElem? (i := 71) rfl)) e0 (g := (mkF m 1 #[.val (.ref a1), .val (.ref w4)] [(.ref a1)])) rfl (by rw [hml]; rfl) rfl (hb hby d_jdk_32_method_2_code_1) (by decide) (W := 0) (by show 2 * 0 + _ ≤ _; exact Nat.le_of_eq rfl) (by decide)
  obtain ⟨T215, h215, X215, e215, W215, st215⟩ := putF X214 hx hZ hown (host := "") (Or.inl (hw _ (List.mem_of_getElem? (i := 52) rfl))) Via.refl e214 F_a1_value E_a1 (Or.inr ⟨(hw _ (List.mem_of_getElem? (i := 53) rfl)), rfl, hnm⟩) (hw _ (List.mem_of_getElem? (i := 60) rfl)) (ty := (.object "java/lang/Object")) (by decide) rfl rfl (g := (mkF m 6 #[.val (.ref a1), .val (.ref w4)] [(.ref w4), (.ref a1)])) rfl rfl (hb hby d_jdk_32_method_2_code_6)
  have E_a1_215 : Exa Z h215 a1 "java/util/Optional" := E_a1.wr W215
  have F_a1_value_215 : Fld Z h215 a1 "java/util/Optional" "value" "Ljava/lang/Object;" (.ref w4) := F_a1_value.same W215
  have Kp215 : Keep h0 h215 [a1] := (Keep.refl h0 [a1]).wr W215 (Or.inl (List.mem_of_getElem? (i := 0) rfl))
  have N215 := Fr.snoc X215 N0 g_a1
  have O_215 : Old Z n0 h215 := O0.wr W215 g_a1
  obtain ⟨fs, hr, hrun, hended, hWr, hsame⟩ := X215.leave (v := none) (fun _ => rfl) hlk
  refine ⟨_, _, pre0 _ ?_, hrun, hended, _, _, rfl, ?_, ⟨_, rfl⟩, hWr, hsame.mono (Nat.le_of_ble_eq_true rfl) (Nat.le_of_ble_eq_true rfl)⟩
  · show Steps p.tables e below (s₁.setTop (mkF m 0 #[.val (.ref a1), .val (.ref w4)] [])) _
    refine XS.aloadN X0.here hx rfl (hb hby d_jdk_32_method_2_code_0) rfl rfl ?_
    show Steps p.tables e below (s₁.setTop (mkF m 1 #[.val (.ref a1), .val (.ref w4)] [(.ref a1)])) _
    refine st214 _ ?_
    show Steps p.tables e below (T214.setTop (mkF m 4 #[.val (.ref a1), .val (.ref w4)] [])) _
    refine XS.aloadN X214.here hx rfl (hb hby d_jdk_32_method_2_code_4) rfl rfl ?_
    show Steps p.tables e below (T214.setTop (mkF m 5 #[.val (.ref a1), .val (.ref w4)] [(.ref a1)])) _
    refine XS.aloadN X214.here hx rfl (hb hby d_jdk_32_method_2_code_5) rfl rfl ?_
    show Steps p.tables e below (T214.setTop (mkF m 6 #[.val (.ref a1), .val (.ref w4)] [(.ref w4), (.ref a1)])) _
    refine st215 _ ?_
    show Steps p.tables e below (T215.setTop (mkF m 9 #[.val (.ref a1), .val (.ref w4)] [])) _
    exact X215.returnOut hx Bd.returns (hb hby d_jdk_32_method_2_code_9) hr
  · show Qerm52 Z w0 w1 w2 w3 w4 w5 w6 w7 w8 w9 w10 w11 w12 w13 w14 w15 w16 w17 a1 h0 n0 _ T215.heap _
    rw [e215]
    exact ⟨rfl, N215, Kp215, O_215, E_a1_215, F_a1_value_215⟩
def Qerm50 (Z : State) (w0 w1 w2 w3 w4 w5 w6 w7 w8 w9 w10 w11 w12 w13 w14 w15 w16 w17 : Addr) (h0 : Heap) (n0 : Nat) (v : Option Value) (h : Heap) (L : List Loc) : Prop := ∃ r : Addr, v = some (.ref r) ∧ Fr n0 L ∧ Keep h0 h [] ∧ Old Z n0 h ∧ Exa Z h r "java/util/Optional" ∧ Fld Z h r "java/util/Optional" "value" "Ljava/lang/Object;" (.ref w4) ∧ n0 ≤ r
set_option maxRecDepth 65536 in
set_option maxHeartbeats 40000000 in
theorem rm50 (l : Launch) (Z : State) (a0 : Array Value) (hw : ∀ d ∈ tables_1, d.before a0 Z = true) (ws : List Jvm.Cond) (w0 w1 w2 w3 w4 w5 w6 w7 w8 w9 w10 w11 w12 w13 w14 w15 w16 w17 : Addr) (h0 : Heap) (n0 : Nat) (hWd : Wd Z w0 w1 w2 w3 w4 w5 w6 w7 w8 w9 w10 w11 w12 w13 w14 w15 w16 w17) (O0 : Old Z n0 h0) :
    MetFree l (⟨"java/util/Optional", "of", "(Ljava/lang/Object;)Ljava/util/Optional;"⟩ : MethodName) (head1 (Jvm.Cond.code (⟨"java/util/Optional", "of", "(Ljava/lang/Object;)Ljava/util/Optional;"⟩ : MethodName) jdk_32_method_3_code 1 (some (.object "java/util/Optional")) :: ws) ({ frames := 2, cells := 1, slots := 1, locals := 26 } : Room)) (fun a U => a = #[(.ref w4)] ∧ Z.Warmed39 U.vm ∧ U.heap = h0) (fun _ _ _ _ _ => True) (fun _ U o U' => ∃ v L, o = .returned v ∧ Qerm50 Z w0 w1 w2 w3 w4 w5 w6 w7 w8 w9 w10 w11 w12 w13 w14 w15 w16 w17 h0 n0 v U'.heap L ∧ FrameEnd U o U' L ({ frames := 2, cells := 1, slots := 1, locals := 26 } : Room).cells ({ frames := 2, cells := 1, slots := 1, locals := 26 } : Room).slots) := by
  refine MetFree.of_bodySF (plainFor_of_name pn2) hisR ?_
  intro p e s m args below meth c s₁ Bd hml0 hP hK
  obtain ⟨rfl, hZ, hh⟩ := hP
  have hx := Bd.exec
  have hby := Bd.bytes
  have hml : c.maxLocals = 1 := hml0
  have hown : s.vm.findClass "java/util/Optional" = some m.cls := findClass_of_methodNamed Bd.named
  have hnm := (name_of_methodNamed Bd.named Bd.method).1
  have X0 : Stand p l e ({ frames := 2, cells := 1, slots := 1, locals := 26 } : Room) s m #[(.ref w4)] below meth c s₁ [] 0 0 := Stand.of_body Bd
  have e0 : s₁.heap = h0 := by rw [← hh, Bd.state]; rfl
  have N0 := Fr.nil n0
  have hlk := Bd.notSynchronized
  obtain ⟨wS0, wE0, wS1, wE1, wS2, wE2, wS3, wE3, wS4, wE4, wS5, wE5, wS6, wE6, wS7, wE7, wS8, wE8, wS9, wE9, wS10, wE10, wS11, wE11, wS12, wE12, wS13, wE13, wS14, wE14, wS15, wE15, wS16, wE16, wS17, wE17, wF2_type, wF7_ordinal, wF0_ordinal, wF3_type, wF8_ordinal, wF4_type, wF9_ordinal, wF5_type, wF10_ordinal, wF6_type, wF11_ordinal, wF12_ordinal, wF13_ordinal, wF14_ordinal, wF15_ordinal, wF16_ordinal, wF17_value, wA, -⟩ := id hWd
  have pre0 : ∀ t, Steps p.tables e below (s₁.setTop (mkF m 0 #[.val (.ref w4)] [])) t → Steps p.tables e below (s₁.setTop (entryFrame m #[(.ref w4)] 1)) t := fun t k => castTop (ef31 m w4) k
  obtain ⟨T212, h212, X212, e212, E212, A212, D212, -, st212⟩ := newO X0 hx hZ hown (hw _ (List.mem_of_getElem? (i := 59) rfl)) (hw _ (List.mem_of_getElem? (i := 60) rfl)) (hw _ (List.mem_of_getElem? (i := 44) rfl)) e0 (g := (mkF m 0 #[.val (.ref w4)] [])) rfl (hb hby d_jdk_32_method_3_code_0) (by decide) (by decide)
  obtain ⟨b212, g212⟩ : ∃ z, z = h0.size := ⟨_, rfl⟩
  rw [← g212] at A212 D212 st212
  have g_b212 : n0 ≤ b212 := Nat.le_trans (Nat.le_trans (Nat.le_of_eq O0.1.symm) O0.2.1) (Nat.le_of_eq g212.symm)
  have sz_b212 : h0.size ≤ b212 := Nat.le_trans (Keep.refl h0 []).1 (Nat.le_of_eq g212.symm)
  have Kp212 : Keep h0 h212 [] := (Keep.refl h0 []).ext E212
  have O_212 : Old Z n0 h212 := O0.ext E212
  have F_b212_value : Fld Z h212 b212 "java/util/Optional" "value" "Ljava/lang/Object;" .null := D212 (Or.inr (hw _ (List.mem_of_getElem? (i := 53) rfl))) (ty := (.object "java/lang/Object")) (by decide)
  obtain ⟨_, _, ⟨T213, L213, k213, n213⟩, -, X213, ⟨Lc213, hQ213, l213, y213, z213⟩, st213⟩ := Jvm.LawKit.callS X212 hx (y := (⟨"java/util/Objects", "requireNonNull", "(Ljava/lang/Object;)Ljava/lang/Object;"⟩ : MethodName)) hown (mvT hZ (hw _ (List.mem_of_getElem? (i := 61) rfl))) (mvT hZ (hw _ (List.mem_of_getElem? (i := 62) rfl))) (mvT hZ (hw _ (List.mem_of_getElem? (i := 63) rfl))) (mvT hZ (hw _ (List.mem_of_getElem? (i := 64) rfl))) (by decide) (backOf (W := 2) (rm51 l Z a0 hw [] w0 w1 w2 w3 w4 w5 w6 w7 w8 w9 w10 w11 w12 w13 w14 w15 w16 w17 h212 n0 hWd O_212) hZ (hw _ (List.mem_of_getElem? (i := 64) rfl)) (hw _ (List.mem_of_getElem? (i := 63) rfl)) (by decide) (by decide)) (g := (mkF m 5 #[.val (.ref w4)] [(.ref w4), (.ref b212), (.ref b212)])) rfl (by rw [hml]; rfl) (argsL := [(.ref w4)]) (rest := [(.ref b212), (.ref b212)]) (lenOf pd5 rfl) rfl (by show 2 * 0 + _ ≤ _; exact Nat.le_of_eq rfl) (hb hby d_jdk_32_method_3_code_5) (fun _ _ => ⟨rfl, e212, (by decide : 1 + 0 ≤ _), (by decide : 1 + 0 ≤ _)⟩)
  dsimp only [Pt.U, Pt.locs, Pt.cells, Pt.slots] at X213 l213 y213 z213 st213 hQ213
  subst l213 y213 z213
  obtain ⟨rfl, N213q, e213⟩ := hQ213
  have N213 := Fr.app N0 N213q
  obtain ⟨_, _, ⟨T216, L216, k216, n216⟩, -, X216, ⟨Lc216, hQ216, l216, y216, z216⟩, st216⟩ := X213.specialBack hx (y := (⟨"java/util/Optional", "<init>", "(Ljava/lang/Object;)V"⟩ : MethodName)) rfl hown (mvT hZ (hw _ (List.mem_of_getElem? (i := 65) rfl))) (mvT hZ (hw _ (List.mem_of_getElem? (i := 66) rfl))) (mvT hZ (hw _ (List.mem_of_getElem? (i := 68) rfl))) (by decide) (backOf (W := 1) (rm52 l Z a0 hw [] w0 w1 w2 w3 w4 w5 w6 w7 w8 w9 w10 w11 w12 w13 w14 w15 w16 w17 b212 h212 n0 hWd O_212 A212 F_b212_value g_b212) hZ (hw _ (List.mem_of_getElem? (i := 68) rfl)) (hw _ (List.mem_of_getElem? (i := 44) rfl)) (by decide) (by decide)) (g := (mkF m 8 #[.val (.ref w4)] [(.ref w4), (.ref b212), (.ref b212)])) rfl (by rw [hml]; rfl) (Steps.refl _) (a := b212) (argsL := [(.ref w4)]) (rest := [(.ref b212)]) (lenOf pd6 rfl) rfl (by show 2 * 0 + _ ≤ _; exact Nat.le_of_eq rfl) (hb hby d_jdk_32_method_3_code_8) (fun _ _ => ⟨rfl, e213, (by decide : 1 + 0 ≤ _), (by decide : 1 + 0 ≤ _)⟩)
  dsimp only [Pt.U, Pt.locs, Pt.cells, Pt.slots] at X216 l216 y216 z216 st216 hQ216
  subst l216 y216 z216
  obtain ⟨rfl, N216q, K216, O_216, E_b212_216, F_b212_value_216⟩ := hQ216
  have N216 := Fr.app N213 N216q
  have Kp216 : Keep h0 T216.heap [] := Kp212.trans K216 (allS (Or.inr sz_b212) all0)
  obtain ⟨fs, hr, hrun, hended, hWr, hsame⟩ := X216.leave (v := some (.ref b212)) (fun h => by rw [Bd.returns] at h; cases h) hlk
  refine ⟨_, _, pre0 _ ?_, hrun, hended, _, _, rfl, ?_, ⟨_, rfl⟩, hWr, hsame.mono (Nat.le_of_ble_eq_true rfl) (Nat.le_of_ble_eq_true rfl)⟩
  · show Steps p.tables e below (s₁.setTop (mkF m 0 #[.val (.ref w4)] [])) _
    refine st212 _ ?_
    show Steps p.tables e below (T212.setTop (mkF m 3 #[.val (.ref w4)] [(.ref b212)])) _
    refine XS.dup X212.here hx rfl (hb hby d_jdk_32_method_3_code_3) rfl rfl ?_
    show Steps p.tables e below (T212.setTop (mkF m 4 #[.val (.ref w4)] [(.ref b212), (.ref b212)])) _
    refine XS.aloadN X212.here hx rfl (hb hby d_jdk_32_method_3_code_4) rfl rfl ?_
    show Steps p.tables e below (T212.setTop (mkF m 5 #[.val (.ref w4)] [(.ref w4), (.ref b212), (.ref b212)])) _
    refine st213 _ ?_
    show Steps p.tables e below (T213.setTop (mkF m 8 #[.val (.ref w4)] [(.ref w4), (.ref b212), (.ref b212)])) _
    refine st216.trans ?_
    show Steps p.tables e below (T216.setTop (mkF m 11 #[.val (.ref w4)] [(.ref b212)])) _
    exact retOut X216 hx (t := (.object "java/util/Optional")) (i := .areturn) Bd.returns rfl (Or.inr (Or.inr (Or.inr (Or.inr ⟨rfl, rfl, rfl⟩)))) (hb hby d_jdk_32_method_3_code_11) hr
  · show Qerm50 Z w0 w1 w2 w3 w4 w5 w6 w7 w8 w9 w10 w11 w12 w13 w14 w15 w16 w17 h0 n0 _ T216.heap _
    exact ⟨b212, rfl, N216, Kp216, O_216, E_b212_216, F_b212_value_216, g_b212⟩
theorem ef33 (m : MethodId)   (w9 : Addr) : entryFrame m #[(.ref w9)] 5 = mkF m 0 #[.val (.ref w9), .unset, .unset, .unset, .unset] [] := by first | (simp [entryFrame, mkF, argsToLocals, Value.category]; done) | rfl
def Qerm49 (Z : State) (w0 w1 w2 w3 w4 w5 w6 w7 w8 w9 w10 w11 w12 w13 w14 w15 w16 w17 : Addr) (h0 : Heap) (n0 : Nat) (v : Option Value) (h : Heap) (L : List Loc) : Prop := ∃ r : Addr, v = some (.ref r) ∧ Fr n0 L ∧ Keep h0 h [] ∧ Old Z n0 h ∧ Exa Z h r "java/util/Optional" ∧ Fld Z h r "java/util/Optional" "value" "Ljava/lang/Object;" (.ref w4) ∧ n0 ≤ r
set_option maxRecDepth 65536 in
set_option maxHeartbeats 40000000 in
theorem rm49 (l : Launch) (Z : State) (a0 : Array Value) (hw : ∀ d ∈ tables_1, d.before a0 Z = true) (ws : List Jvm.Cond) (w0 w1 w2 w3 w4 w5 w6 w7 w8 w9 w10 w11 w12 w13 w14 w15 w16 w17 : Addr) (h0 : Heap) (n0 : Nat) (hWd : Wd Z w0 w1 w2 w3 w4 w5 w6 w7 w8 w9 w10 w11 w12 w13 w14 w15 w16 w17) (O0 : Old Z n0 h0) :
    MetFree l (⟨"com/example/weaverbird/weaverbird/queues/RunAction", "of", "(Lcom/example/weaverbird/weaverbird/codes/CommandType;)Ljava/util/Optional;"⟩ : MethodName) (head1 (Jvm.Cond.code (⟨"com/example/weaverbird/weaverbird/queues/RunAction", "of", "(Lcom/example/weaverbird/weaverbird/codes/CommandType;)Ljava/util/Optional;"⟩ : MethodName) prog_16_method_4_code 5 (some (.object "java/util/Optional")) :: ws) ({ frames := 3, cells := 2, slots := 6, locals := 38 } : Room)) (fun a U => a = #[(.ref w9)] ∧ Z.Warmed39 U.vm ∧ U.heap = h0) (fun _ _ _ _ _ => True) (fun _ U o U' => ∃ v L, o = .returned v ∧ Qerm49 Z w0 w1 w2 w3 w4 w5 w6 w7 w8 w9 w10 w11 w12 w13 w14 w15 w16 w17 h0 n0 v U'.heap L ∧ FrameEnd U o U' L ({ frames := 3, cells := 2, slots := 6, locals := 38 } : Room).cells ({ frames := 3, cells := 2, slots := 6, locals := 38 } : Room).slots) := by
  refine MetFree.of_bodySF (plainFor_of_name pn1) hisR ?_
  intro p e s m args below meth c s₁ Bd hml0 hP hK
  obtain ⟨rfl, hZ, hh⟩ := hP
  have hx := Bd.exec
  have hby := Bd.bytes
  have hml : c.maxLocals = 5 := hml0
  have hown : s.vm.findClass "com/example/weaverbird/weaverbird/queues/RunAction" = some m.cls := findClass_of_methodNamed Bd.named
  have hnm := (name_of_methodNamed Bd.named Bd.method).1
  have X0 : Stand p l e ({ frames := 3, cells := 2, slots := 6, locals := 38 } : Room) s m #[(.ref w9)] below meth c s₁ [] 0 0 := Stand.of_body Bd
  have e0 : s₁.heap = h0 := by rw [← hh, Bd.state]; rfl
  have N0 := Fr.nil n0
  have hlk := Bd.notSynchronized
  obtain ⟨wS0, wE0, wS1, wE1, wS2, wE2, wS3, wE3, wS4, wE4, wS5, wE5, wS6, wE6, wS7, wE7, wS8, wE8, wS9, wE9, wS10, wE10, wS11, wE11, wS12, wE12, wS13, wE13, wS14, wE14, wS15, wE15, wS16, wE16, wS17, wE17, wF2_type, wF7_ordinal, wF0_ordinal, wF3_type, wF8_ordinal, wF4_type, wF9_ordinal, wF5_type, wF10_ordinal, wF6_type, wF11_ordinal, wF12_ordinal, wF13_ordinal, wF14_ordinal, wF15_ordinal, wF16_ordinal, wF17_value, wA, -⟩ := id hWd
  have pre0 : ∀ t, Steps p.tables e below (s₁.setTop (mkF m 0 #[.val (.ref w9), .unset, .unset, .unset, .unset] [])) t → Steps p.tables e below (s₁.setTop (entryFrame m #[(.ref w9)] 5)) t := fun t k => castTop (ef33 m w9) k
  obtain ⟨_, _, ⟨T204, L204, k204, n204⟩, -, X204, ⟨Lc204, hQ204, l204, y204, z204⟩, st204⟩ := Jvm.LawKit.callS X0 hx (y := (⟨"com/example/weaverbird/weaverbird/queues/RunAction", "values", "()[Lcom/example/weaverbird/weaverbird/queues/RunAction;"⟩ : MethodName)) hown (mvT hZ (hw _ (List.mem_of_getElem? (i := 15) rfl))) (mvT hZ (hw _ (List.mem_of_getElem? (i := 16) rfl))) (mvT hZ (hw _ (List.mem_of_getElem? (i := 13) rfl))) (mvT hZ (hw _ (List.mem_of_getElem? (i := 17) rfl))) (by decide) (backOf (W := 0) (rm4 l Z a0 hw [] w0 w1 w2 w3 w4 w5 w6 w7 w8 w9 w10 w11 w12 w13 w14 w15 w16 w17 h0 n0 hWd O0) hZ (hw _ (List.mem_of_getElem? (i := 17) rfl)) (hw _ (List.mem_of_getElem? (i := 13) rfl)) (by decide) (by decide)) (g := (mkF m 0 #[.val (.ref w9), .unset, .unset, .unset, .unset] [])) rfl (by rw [hml]; rfl) (argsL := []) (rest := []) (lenOf pd2 rfl) rfl (by show 2 * 0 + _ ≤ _; exact Nat.le_of_eq rfl) (hb hby d_prog_16_method_4_code_0) (fun _ _ => ⟨rfl, e0, (by decide : 0 + 1 ≤ _), (by decide : 0 + 5 ≤ _)⟩)
  dsimp only [Pt.U, Pt.locs, Pt.cells, Pt.slots] at X204 l204 y204 z204 st204 hQ204
  subst l204 y204 z204
  obtain ⟨r204, ka204, rfl, N204q, K204, O_204, V204, g_r204⟩ := hQ204
  have N204 := Fr.app N0 N204q
  have Kp204 : Keep h0 T204.heap [] := (Keep.refl h0 []).trans K204 all0
  obtain ⟨cl205, Ar205, q205, S205, M205, H205, G205⟩ := id V204
  obtain ⟨cl206, Ar206, q206, S206, M206, H206, G206⟩ := id V204
  have hin206 : ¬ ((0 : Int32) < 0 ∨ cl206.slots.size ≤ ((0 : Int32)).toNatClampNeg) := inb_of S206 ⟨by decide, by decide⟩
  have hat206 : cl206.slots[((0 : Int32)).toNatClampNeg]? = some (.ref w2) := Has.at H206 hin206 rfl
  obtain ⟨T207, X207, e207, st207⟩ := getF X204 hx hZ hown (host := "") (Or.inl (hw _ (List.mem_of_getElem? (i := 35) rfl))) Via.refl rfl (wF2_type.ext O_204.2) (g := (mkF m 21 #[.val (.ref w9), .val (.ref r204), .val (.int (5 : Int32)), .val (.int (0 : Int32)), .val (.ref w2)] [(.ref w2)])) rfl rfl (hb hby d_prog_16_method_4_code_21)
  obtain ⟨cl208, Ar208, q208, S208, M208, H208, G208⟩ := id V204
  have hin208 : ¬ ((1 : Int32) < 0 ∨ cl208.slots.size ≤ ((1 : Int32)).toNatClampNeg) := inb_of S208 ⟨by decide, by decide⟩
  have hat208 : cl208.slots[((1 : Int32)).toNatClampNeg]? = some (.ref w3) := Has.at H208 hin208 rfl
  obtain ⟨T209, X209, e209, st209⟩ := getF X207 hx hZ hown (host := "") (Or.inl (hw _ (List.mem_of_getElem? (i := 35) rfl))) Via.refl e207 (wF3_type.ext O_204.2) (g := (mkF m 21 #[.val (.ref w9), .val (.ref r204), .val (.int (5 : Int32)), .val (.int (1 : Int32)), .val (.ref w3)] [(.ref w3)])) rfl rfl (hb hby d_prog_16_method_4_code_21)
  obtain ⟨cl210, Ar210, q210, S210, M210, H210, G210⟩ := id V204
  have hin210 : ¬ ((2 : Int32) < 0 ∨ cl210.slots.size ≤ ((2 : Int32)).toNatClampNeg) := inb_of S210 ⟨by decide, by decide⟩
  have hat210 : cl210.slots[((2 : Int32)).toNatClampNeg]? = some (.ref w4) := Has.at H210 hin210 rfl
  obtain ⟨T211, X211, e211, st211⟩ := getF X209 hx hZ hown (host := "") (Or.inl (hw _ (List.mem_of_getElem? (i := 35) rfl))) Via.refl e209 (wF4_type.ext O_204.2) (g := (mkF m 21 #[.val (.ref w9), .val (.ref r204), .val (.int (5 : Int32)), .val (.int (2 : Int32)), .val (.ref w4)] [(.ref w4)])) rfl rfl (hb hby d_prog_16_method_4_code_21)
  obtain ⟨_, _, ⟨T217, L217, k217, n217⟩, -, X217, ⟨Lc217, hQ217, l217, y217, z217⟩, st217⟩ := Jvm.LawKit.callS X211 hx (y := (⟨"java/util/Optional", "of", "(Ljava/lang/Object;)Ljava/util/Optional;"⟩ : MethodName)) hown (mvT hZ (hw _ (List.mem_of_getElem? (i := 56) rfl))) (mvT hZ (hw _ (List.mem_of_getElem? (i := 57) rfl))) (mvT hZ (hw _ (List.mem_of_getElem? (i := 44) rfl))) (mvT hZ (hw _ (List.mem_of_getElem? (i := 58) rfl))) (by decide) (backOf (W := 0) (rm50 l Z a0 hw [] w0 w1 w2 w3 w4 w5 w6 w7 w8 w9 w10 w11 w12 w13 w14 w15 w16 w17 T204.heap n0 hWd O_204) hZ (hw _ (List.mem_of_getElem? (i := 58) rfl)) (hw _ (List.mem_of_getElem? (i := 44) rfl)) (by decide) (by decide)) (g := (mkF m 30 #[.val (.ref w9), .val (.ref r204), .val (.int (5 : Int32)), .val (.int (2 : Int32)), .val (.ref w4)] [(.ref w4)])) rfl (by rw [hml]; rfl) (argsL := [(.ref w4)]) (rest := []) (lenOf pd7 rfl) rfl (by show 2 * 0 + _ ≤ _; exact Nat.le_of_eq rfl) (hb hby d_prog_16_method_4_code_30) (fun _ _ => ⟨rfl, e211, (by decide : 1 + 1 ≤ _), (by decide : 5 + 1 ≤ _)⟩)
  dsimp only [Pt.U, Pt.locs, Pt.cells, Pt.slots] at X217 l217 y217 z217 st217 hQ217
  subst l217 y217 z217
  obtain ⟨r217, rfl, N217q, K217, O_217, E_r217_217, F_r217_value_217, g_r217⟩ := hQ217
  have N217 := Fr.app N204 N217q
  have Kp217 : Keep h0 T217.heap [] := Kp204.trans K217 all0
  obtain ⟨fs, hr, hrun, hended, hWr, hsame⟩ := X217.leave (v := some (.ref r217)) (fun h => by rw [Bd.returns] at h; cases h) hlk
  refine ⟨_, _, pre0 _ ?_, hrun, hended, _, _, rfl, ?_, ⟨_, rfl⟩, hWr, hsame.mono (Nat.le_of_ble_eq_true rfl) (Nat.le_of_ble_eq_true rfl)⟩
  · show Steps p.tables e below (s₁.setTop (mkF m 0 #[.val (.ref w9), .unset, .unset, .unset, .unset] [])) _
    refine st204 _ ?_
    show Steps p.tables e below (T204.setTop (mkF m 3 #[.val (.ref w9), .unset, .unset, .unset, .unset] [(.ref r204)])) _
    refine XS.astoreN X204.here hx rfl (hb hby d_prog_16_method_4_code_3) rfl rfl (l' := #[.val (.ref w9), .val (.ref r204), .unset, .unset, .unset]) rfl ?_
    show Steps p.tables e below (T204.setTop (mkF m 4 #[.val (.ref w9), .val (.ref r204), .unset, .unset, .unset] [])) _
    refine XS.aloadN X204.here hx rfl (hb hby d_prog_16_method_4_code_4) rfl rfl ?_
    show Steps p.tables e below (T204.setTop (mkF m 5 #[.val (.ref w9), .val (.ref r204), .unset, .unset, .unset] [(.ref r204)])) _
    refine X204.arraylength hx Ar205.1 (State.isArrayOf_alike hZ.alike Ar205.2.1) (g := (mkF m 5 #[.val (.ref w9), .val (.ref r204), .unset, .unset, .unset] [(.ref r204)])) rfl rfl (hb hby d_prog_16_method_4_code_5) _ ?_
    rw [len_of S205 M205]
    show Steps p.tables e below (T204.setTop (mkF m 6 #[.val (.ref w9), .val (.ref r204), .unset, .unset, .unset] [(.int (5 : Int32))])) _
    refine XS.istoreN X204.here hx rfl (hb hby d_prog_16_method_4_code_6) rfl (l' := #[.val (.ref w9), .val (.ref r204), .val (.int (5 : Int32)), .unset, .unset]) rfl ?_
    show Steps p.tables e below (T204.setTop (mkF m 7 #[.val (.ref w9), .val (.ref r204), .val (.int (5 : Int32)), .unset, .unset] [])) _
    refine XS.iconst X204.here hx rfl (hb hby d_prog_16_method_4_code_7) ?_
    show Steps p.tables e below (T204.setTop (mkF m 8 #[.val (.ref w9), .val (.ref r204), .val (.int (5 : Int32)), .unset, .unset] [(.int (0 : Int32))])) _
    refine XS.istoreN X204.here hx rfl (hb hby d_prog_16_method_4_code_8) rfl (l' := #[.val (.ref w9), .val (.ref r204), .val (.int (5 : Int32)), .val (.int (0 : Int32)), .unset]) rfl ?_
    show Steps p.tables e below (T204.setTop (mkF m 9 #[.val (.ref w9), .val (.ref r204), .val (.int (5 : Int32)), .val (.int (0 : Int32)), .unset] [])) _
    refine XS.iloadN X204.here hx rfl (hb hby d_prog_16_method_4_code_9) rfl ?_
    show Steps p.tables e below (T204.setTop (mkF m 10 #[.val (.ref w9), .val (.ref r204), .val (.int (5 : Int32)), .val (.int (0 : Int32)), .unset] [(.int (0 : Int32))])) _
    refine XS.iloadN X204.here hx rfl (hb hby d_prog_16_method_4_code_10) rfl ?_
    show Steps p.tables e below (T204.setTop (mkF m 11 #[.val (.ref w9), .val (.ref r204), .val (.int (5 : Int32)), .val (.int (0 : Int32)), .unset] [(.int (5 : Int32)), (.int (0 : Int32))])) _
    refine XS.icmpNo X204.here hx rfl (hb hby d_prog_16_method_4_code_11) rfl (by decide) ?_
    show Steps p.tables e below (T204.setTop (mkF m 14 #[.val (.ref w9), .val (.ref r204), .val (.int (5 : Int32)), .val (.int (0 : Int32)), .unset] [])) _
    refine XS.aloadN X204.here hx rfl (hb hby d_prog_16_method_4_code_14) rfl rfl ?_
    show Steps p.tables e below (T204.setTop (mkF m 15 #[.val (.ref w9), .val (.ref r204), .val (.int (5 : Int32)), .val (.int (0 : Int32)), .unset] [(.ref r204)])) _
    refine XS.iloadN X204.here hx rfl (hb hby d_prog_16_method_4_code_15) rfl ?_
    show Steps p.tables e below (T204.setTop (mkF m 16 #[.val (.ref w9), .val (.ref r204), .val (.int (5 : Int32)), .val (.int (0 : Int32)), .unset] [(.int (0 : Int32)), (.ref r204)])) _
    refine X204.aaload hx (j := (0 : Int32)) (v := (.ref w2)) Ar206.1 (State.isArrayOf_alike hZ.alike Ar206.2.1) rfl Ar206.2.2 hin206 hat206 (g := (mkF m 16 #[.val (.ref w9), .val (.ref r204), .val (.int (5 : Int32)), .val (.int (0 : Int32)), .unset] [(.int (0 : Int32)), (.ref r204)])) rfl rfl (hb hby d_prog_16_method_4_code_16) _ ?_
    show Steps p.tables e below (T204.setTop (mkF m 17 #[.val (.ref w9), .val (.ref r204), .val (.int (5 : Int32)), .val (.int (0 : Int32)), .unset] [(.ref w2)])) _
    refine XS.astore X204.here hx rfl (hb hby d_prog_16_method_4_code_17) rfl rfl (l' := #[.val (.ref w9), .val (.ref r204), .val (.int (5 : Int32)), .val (.int (0 : Int32)), .val (.ref w2)]) rfl ?_
    show Steps p.tables e below (T204.setTop (mkF m 19 #[.val (.ref w9), .val (.ref r204), .val (.int (5 : Int32)), .val (.int (0 : Int32)), .val (.ref w2)] [])) _
    refine XS.aload X204.here hx rfl (hb hby d_prog_16_method_4_code_19) rfl rfl ?_
    show Steps p.tables e below (T204.setTop (mkF m 21 #[.val (.ref w9), .val (.ref r204), .val (.int (5 : Int32)), .val (.int (0 : Int32)), .val (.ref w2)] [(.ref w2)])) _
    refine st207 _ ?_
    show Steps p.tables e below (T207.setTop (mkF m 24 #[.val (.ref w9), .val (.ref r204), .val (.int (5 : Int32)), .val (.int (0 : Int32)), .val (.ref w2)] [(.ref w7)])) _
    refine XS.aloadN X207.here hx rfl (hb hby d_prog_16_method_4_code_24) rfl rfl ?_
    show Steps p.tables e below (T207.setTop (mkF m 25 #[.val (.ref w9), .val (.ref r204), .val (.int (5 : Int32)), .val (.int (0 : Int32)), .val (.ref w2)] [(.ref w9), (.ref w7)])) _
    refine Jvm.RoadKit.acmp (g := (mkF m 25 #[.val (.ref w9), .val (.ref r204), .val (.int (5 : Int32)), .val (.int (0 : Int32)), .val (.ref w2)] [(.ref w9), (.ref w7)])) X207 hx rfl rfl rfl (pc0 := 25) (pc' := 34) (same := false) rfl (hb hby d_prog_16_method_4_code_25) rfl (decide_eq_false fun q => (Fld.ne wF7_ordinal wF9_ordinal (fun q => absurd (Value.int.inj q) (by decide))) (Value.ref.inj q)) (by decide) (by decide) ?_
    show Steps p.tables e below (T207.setTop (mkF m 34 #[.val (.ref w9), .val (.ref r204), .val (.int (5 : Int32)), .val (.int (0 : Int32)), .val (.ref w2)] [])) _
    refine XS.iinc X207.here hx rfl (hb hby d_prog_16_method_4_code_34) rfl (l' := #[.val (.ref w9), .val (.ref r204), .val (.int (5 : Int32)), .val (.int (1 : Int32)), .val (.ref w2)]) rfl ?_
    show Steps p.tables e below (T207.setTop (mkF m 37 #[.val (.ref w9), .val (.ref r204), .val (.int (5 : Int32)), .val (.int (1 : Int32)), .val (.ref w2)] [])) _
    refine XS.goto X207.here hx rfl (pc0 := 37) (pc' := 9) rfl (hb hby d_prog_16_method_4_code_37) (by decide) (by decide) ?_
    show Steps p.tables e below (T207.setTop (mkF m 9 #[.val (.ref w9), .val (.ref r204), .val (.int (5 : Int32)), .val (.int (1 : Int32)), .val (.ref w2)] [])) _
    refine XS.iloadN X207.here hx rfl (hb hby d_prog_16_method_4_code_9) rfl ?_
    show Steps p.tables e below (T207.setTop (mkF m 10 #[.val (.ref w9), .val (.ref r204), .val (.int (5 : Int32)), .val (.int (1 : Int32)), .val (.ref w2)] [(.int (1 : Int32))])) _
    refine XS.iloadN X207.here hx rfl (hb hby d_prog_16_method_4_code_10) rfl ?_
    show Steps p.tables e below (T207.setTop (mkF m 11 #[.val (.ref w9), .val (.ref r204), .val (.int (5 : Int32)), .val (.int (1 : Int32)), .val (.ref w2)] [(.int (5 : Int32)), (.int (1 : Int32))])) _
    refine XS.icmpNo X207.here hx rfl (hb hby d_prog_16_method_4_code_11) rfl (by decide) ?_
    show Steps p.tables e below (T207.setTop (mkF m 14 #[.val (.ref w9), .val (.ref r204), .val (.int (5 : Int32)), .val (.int (1 : Int32)), .val (.ref w2)] [])) _
    refine XS.aloadN X207.here hx rfl (hb hby d_prog_16_method_4_code_14) rfl rfl ?_
    show Steps p.tables e below (T207.setTop (mkF m 15 #[.val (.ref w9), .val (.ref r204), .val (.int (5 : Int32)), .val (.int (1 : Int32)), .val (.ref w2)] [(.ref r204)])) _
    refine XS.iloadN X207.here hx rfl (hb hby d_prog_16_method_4_code_15) rfl ?_
    show Steps p.tables e below (T207.setTop (mkF m 16 #[.val (.ref w9), .val (.ref r204), .val (.int (5 : Int32)), .val (.int (1 : Int32)), .val (.ref w2)] [(.int (1 : Int32)), (.ref r204)])) _
    refine X207.aaload hx (j := (1 : Int32)) (v := (.ref w3)) (by rw [e207]; exact Ar208.1) (State.isArrayOf_alike hZ.alike Ar208.2.1) rfl Ar208.2.2 hin208 hat208 (g := (mkF m 16 #[.val (.ref w9), .val (.ref r204), .val (.int (5 : Int32)), .val (.int (1 : Int32)), .val (.ref w2)] [(.int (1 : Int32)), (.ref r204)])) rfl rfl (hb hby d_prog_16_method_4_code_16) _ ?_
    show Steps p.tables e below (T207.setTop (mkF m 17 #[.val (.ref w9), .val (.ref r204), .val (.int (5 : Int32)), .val (.int (1 : Int32)), .val (.ref w2)] [(.ref w3)])) _
    refine XS.astore X207.here hx rfl (hb hby d_prog_16_method_4_code_17) rfl rfl (l' := #[.val (.ref w9), .val (.ref r204), .val (.int (5 : Int32)), .val (.int (1 : Int32)), .val (.ref w3)]) rfl ?_
    show Steps p.tables e below (T207.setTop (mkF m 19 #[.val (.ref w9), .val (.ref r204), .val (.int (5 : Int32)), .val (.int (1 : Int32)), .val (.ref w3)] [])) _
    refine XS.aload X207.here hx rfl (hb hby d_prog_16_method_4_code_19) rfl rfl ?_
    show Steps p.tables e below (T207.setTop (mkF m 21 #[.val (.ref w9), .val (.ref r204), .val (.int (5 : Int32)), .val (.int (1 : Int32)), .val (.ref w3)] [(.ref w3)])) _
    refine st209 _ ?_
    show Steps p.tables e below (T209.setTop (mkF m 24 #[.val (.ref w9), .val (.ref r204), .val (.int (5 : Int32)), .val (.int (1 : Int32)), .val (.ref w3)] [(.ref w8)])) _
    refine XS.aloadN X209.here hx rfl (hb hby d_prog_16_method_4_code_24) rfl rfl ?_
    show Steps p.tables e below (T209.setTop (mkF m 25 #[.val (.ref w9), .val (.ref r204), .val (.int (5 : Int32)), .val (.int (1 : Int32)), .val (.ref w3)] [(.ref w9), (.ref w8)])) _
    refine Jvm.RoadKit.acmp (g := (mkF m 25 #[.val (.ref w9), .val (.ref r204), .val (.int (5 : Int32)), .val (.int (1 : Int32)), .val (.ref w3)] [(.ref w9), (.ref w8)])) X209 hx rfl rfl rfl (pc0 := 25) (pc' := 34) (same := false) rfl (hb hby d_prog_16_method_4_code_25) rfl (decide_eq_false fun q => (Fld.ne wF8_ordinal wF9_ordinal (fun q => absurd (Value.int.inj q) (by decide))) (Value.ref.inj q)) (by decide) (by decide) ?_
    show Steps p.tables e below (T209.setTop (mkF m 34 #[.val (.ref w9), .val (.ref r204), .val (.int (5 : Int32)), .val (.int (1 : Int32)), .val (.ref w3)] [])) _
    refine XS.iinc X209.here hx rfl (hb hby d_prog_16_method_4_code_34) rfl (l' := #[.val (.ref w9), .val (.ref r204), .val (.int (5 : Int32)), .val (.int (2 : Int32)), .val (.ref w3)]) rfl ?_
    show Steps p.tables e below (T209.setTop (mkF m 37 #[.val (.ref w9), .val (.ref r204), .val (.int (5 : Int32)), .val (.int (2 : Int32)), .val (.ref w3)] [])) _
    refine XS.goto X209.here hx rfl (pc0 := 37) (pc' := 9) rfl (hb hby d_prog_16_method_4_code_37) (by decide) (by decide) ?_
    show Steps p.tables e below (T209.setTop (mkF m 9 #[.val (.ref w9), .val (.ref r204), .val (.int (5 : Int32)), .val (.int (2 : Int32)), .val (.ref w3)] [])) _
    refine XS.iloadN X209.here hx rfl (hb hby d_prog_16_method_4_code_9) rfl ?_
    show Steps p.tables e below (T209.setTop (mkF m 10 #[.val (.ref w9), .val (.ref r204), .val (.int (5 : Int32)), .val (.int (2 : Int32)), .val (.ref w3)] [(.int (2 : Int32))])) _
    refine XS.iloadN X209.here hx rfl (hb hby d_prog_16_method_4_code_10) rfl ?_
    show Steps p.tables e below (T209.setTop (mkF m 11 #[.val (.ref w9), .val (.ref r204), .val (.int (5 : Int32)), .val (.int (2 : Int32)), .val (.ref w3)] [(.int (5 : Int32)), (.int (2 : Int32))])) _
    refine XS.icmpNo X209.here hx rfl (hb hby d_prog_16_method_4_code_11) rfl (by decide) ?_
    show Steps p.tables e below (T209.setTop (mkF m 14 #[.val (.ref w9), .val (.ref r204), .val (.int (5 : Int32)), .val (.int (2 : Int32)), .val (.ref w3)] [])) _
    refine XS.aloadN X209.here hx rfl (hb hby d_prog_16_method_4_code_14) rfl rfl ?_
    show Steps p.tables e below (T209.setTop (mkF m 15 #[.val (.ref w9), .val (.ref r204), .val (.int (5 : Int32)), .val (.int (2 : Int32)), .val (.ref w3)] [(.ref r204)])) _
    refine XS.iloadN X209.here hx rfl (hb hby d_prog_16_method_4_code_15) rfl ?_
    show Steps p.tables e below (T209.setTop (mkF m 16 #[.val (.ref w9), .val (.ref r204), .val (.int (5 : Int32)), .val (.int (2 : Int32)), .val (.ref w3)] [(.int (2 : Int32)), (.ref r204)])) _
    refine X209.aaload hx (j := (2 : Int32)) (v := (.ref w4)) (by rw [e209]; exact Ar210.1) (State.isArrayOf_alike hZ.alike Ar210.2.1) rfl Ar210.2.2 hin210 hat210 (g := (mkF m 16 #[.val (.ref w9), .val (.ref r204), .val (.int (5 : Int32)), .val (.int (2 : Int32)), .val (.ref w3)] [(.int (2 : Int32)), (.ref r204)])) rfl rfl (hb hby d_prog_16_method_4_code_16) _ ?_
    show Steps p.tables e below (T209.setTop (mkF m 17 #[.val (.ref w9), .val (.ref r204), .val (.int (5 : Int32)), .val (.int (2 : Int32)), .val (.ref w3)] [(.ref w4)])) _
    refine XS.astore X209.here hx rfl (hb hby d_prog_16_method_4_code_17) rfl rfl (l' := #[.val (.ref w9), .val (.ref r204), .val (.int (5 : Int32)), .val (.int (2 : Int32)), .val (.ref w4)]) rfl ?_
    show Steps p.tables e below (T209.setTop (mkF m 19 #[.val (.ref w9), .val (.ref r204), .val (.int (5 : Int32)), .val (.int (2 : Int32)), .val (.ref w4)] [])) _
    refine XS.aload X209.here hx rfl (hb hby d_prog_16_method_4_code_19) rfl rfl ?_
    show Steps p.tables e below (T209.setTop (mkF m 21 #[.val (.ref w9), .val (.ref r204), .val (.int (5 : Int32)), .val (.int (2 : Int32)), .val (.ref w4)] [(.ref w4)])) _
    refine st211 _ ?_
    show Steps p.tables e below (T211.setTop (mkF m 24 #[.val (.ref w9), .val (.ref r204), .val (.int (5 : Int32)), .val (.int (2 : Int32)), .val (.ref w4)] [(.ref w9)])) _
    refine XS.aloadN X211.here hx rfl (hb hby d_prog_16_method_4_code_24) rfl rfl ?_
    show Steps p.tables e below (T211.setTop (mkF m 25 #[.val (.ref w9), .val (.ref r204), .val (.int (5 : Int32)), .val (.int (2 : Int32)), .val (.ref w4)] [(.ref w9), (.ref w9)])) _
    refine Jvm.RoadKit.acmp (g := (mkF m 25 #[.val (.ref w9), .val (.ref r204), .val (.int (5 : Int32)), .val (.int (2 : Int32)), .val (.ref w4)] [(.ref w9), (.ref w9)])) X211 hx rfl rfl rfl (pc0 := 25) (pc' := 28) (same := true) rfl (hb hby d_prog_16_method_4_code_25) rfl (decide_eq_true rfl) (by decide) (by decide) ?_
    show Steps p.tables e below (T211.setTop (mkF m 28 #[.val (.ref w9), .val (.ref r204), .val (.int (5 : Int32)), .val (.int (2 : Int32)), .val (.ref w4)] [])) _
    refine XS.aload X211.here hx rfl (hb hby d_prog_16_method_4_code_28) rfl rfl ?_
    show Steps p.tables e below (T211.setTop (mkF m 30 #[.val (.ref w9), .val (.ref r204), .val (.int (5 : Int32)), .val (.int (2 : Int32)), .val (.ref w4)] [(.ref w4)])) _
    refine st217 _ ?_
    show Steps p.tables e below (T217.setTop (mkF m 33 #[.val (.ref w9), .val (.ref r204), .val (.int (5 : Int32)), .val (.int (2 : Int32)), .val (.ref w4)] [(.ref r217)])) _
    exact retOut X217 hx (t := (.object "java/util/Optional")) (i := .areturn) Bd.returns rfl (Or.inr (Or.inr (Or.inr (Or.inr ⟨rfl, rfl, rfl⟩)))) (hb hby d_prog_16_method_4_code_33) hr
  · show Qerm49 Z w0 w1 w2 w3 w4 w5 w6 w7 w8 w9 w10 w11 w12 w13 w14 w15 w16 w17 h0 n0 _ T217.heap _
    exact ⟨r217, rfl, N217, Kp217, O_217, E_r217_217, F_r217_value_217, g_r217⟩
set_option maxRecDepth 65536 in
set_option maxHeartbeats 40000000 in
theorem rm53 (l : Launch) (Z : State) (a0 : Array Value) (hw : ∀ d ∈ tables_1, d.before a0 Z = true) (ws : List Jvm.Cond) (w0 w1 w2 w3 w4 w5 w6 w7 w8 w9 w10 w11 w12 w13 w14 w15 w16 w17 : Addr) (a1 : Addr) (h0 : Heap) (n0 : Nat) (hWd : Wd Z w0 w1 w2 w3 w4 w5 w6 w7 w8 w9 w10 w11 w12 w13 w14 w15 w16 w17) (O0 : Old Z n0 h0) (E_a1 : Exa Z h0 a1 "java/util/Optional") (F_a1_value : Fld Z h0 a1 "java/util/Optional" "value" "Ljava/lang/Object;" (.ref w4)) (g_a1 : n0 ≤ a1) :
    MetFree l (⟨"java/util/Optional", "orElse", "(Ljava/lang/Object;)Ljava/lang/Object;"⟩ : MethodName) (head1 (Jvm.Cond.code (⟨"java/util/Optional", "orElse", "(Ljava/lang/Object;)Ljava/lang/Object;"⟩ : MethodName) jdk_32_method_15_code 2 (some (.object "java/lang/Object")) :: ws) ({ frames := 0, cells := 0, slots := 0, locals := 0 } : Room)) (fun a U => a = #[(.ref a1), .null] ∧ Z.Warmed39 U.vm ∧ U.heap = h0) (fun _ _ _ _ _ => True) (fun _ U o U' => ∃ v L, o = .returned v ∧ Qp (some (.ref w4)) h0 n0 v U'.heap L ∧ FrameEnd U o U' L ({ frames := 0, cells := 0, slots := 0, locals := 0 } : Room).cells ({ frames := 0, cells := 0, slots := 0, locals := 0 } : Room).slots) := by
  refine MetFree.of_bodySF (plainFor_of_name pn2) hisR ?_
  intro p e s m args below meth c s₁ Bd hml0 hP hK
  obtain ⟨rfl, hZ, hh⟩ := hP
  have hx := Bd.exec
  have hby := Bd.bytes
  have hml : c.maxLocals = 2 := hml0
  have hown : s.vm.findClass "java/util/Optional" = some m.cls := findClass_of_methodNamed Bd.named
  have hnm := (name_of_methodNamed Bd.named Bd.method).1
  have X0 : Stand p l e ({ frames := 0, cells := 0, slots := 0, locals := 0 } : Room) s m #[(.ref a1), .null] below meth c s₁ [] 0 0 := Stand.of_body Bd
  have e0 : s₁.heap = h0 := by rw [← hh, Bd.state]; rfl
  have N0 := Fr.nil n0
  have hlk := Bd.notSynchronized
  obtain ⟨wS0, wE0, wS1, wE1, wS2, wE2, wS3, wE3, wS4, wE4, wS5, wE5, wS6, wE6, wS7, wE7, wS8, wE8, wS9, wE9, wS10, wE10, wS11, wE11, wS12, wE12, wS13, wE13, wS14, wE14, wS15, wE15, wS16, wE16, wS17, wE17, wF2_type, wF7_ordinal, wF0_ordinal, wF3_type, wF8_ordinal, wF4_type, wF9_ordinal, wF5_type, wF10_ordinal, wF6_type, wF11_ordinal, wF12_ordinal, wF13_ordinal, wF14_ordinal, wF15_ordinal, wF16_ordinal, wF17_value, wA, -⟩ := id hWd
  have pre0 : ∀ t, Steps p.tables e below (s₁.setTop (mkF m 0 #[.val (.ref a1), .val .null] [])) t → Steps p.tables e below (s₁.setTop (entryFrame m #[(.ref a1), .null] 2)) t := fun t k => castTop (ef13 m a1) k
  obtain ⟨T219, X219, e219, st219⟩ := getF X0 hx hZ hown (host := "") (Or.inl (hw _ (List.mem_of_getElem? (i := 52) rfl))) Via.refl e0 F_a1_value (g := (mkF m 1 #[.val (.ref a1), .val .null] [(.ref a1)])) rfl rfl (hb hby d_jdk_32_method_15_code_1)
  obtain ⟨T220, X220, e220, st220⟩ := getF X219 hx hZ hown (host := "") (Or.inl (hw _ (List.mem_of_getElem? (i := 52) rfl))) Via.refl e219 F_a1_value (g := (mkF m 8 #[.val (.ref a1), .val .null] [(.ref a1)])) rfl rfl (hb hby d_jdk_32_method_15_code_8)
  obtain ⟨fs, hr, hrun, hended, hWr, hsame⟩ := X220.leave (v := some (.ref w4)) (fun h => by rw [Bd.returns] at h; cases h) hlk
  refine ⟨_, _, pre0 _ ?_, hrun, hended, _, _, rfl, ?_, ⟨_, rfl⟩, hWr, hsame.mono (Nat.le_of_ble_eq_true rfl) (Nat.le_of_ble_eq_true rfl)⟩
  · show Steps p.tables e below (s₁.setTop (mkF m 0 #[.val (.ref a1), .val .null] [])) _
    refine XS.aloadN X0.here hx rfl (hb hby d_jdk_32_method_15_code_0) rfl rfl ?_
    show Steps p.tables e below (s₁.setTop (mkF m 1 #[.val (.ref a1), .val .null] [(.ref a1)])) _
    refine st219 _ ?_
    show Steps p.tables e below (T219.setTop (mkF m 4 #[.val (.ref a1), .val .null] [(.ref w4)])) _
    refine XS.ifnullNo X219.here hx rfl (hb hby d_jdk_32_method_15_code_4) rfl ?_
    show Steps p.tables e below (T219.setTop (mkF m 7 #[.val (.ref a1), .val .null] [])) _
    refine XS.aloadN X219.here hx rfl (hb hby d_jdk_32_method_15_code_7) rfl rfl ?_
    show Steps p.tables e below (T219.setTop (mkF m 8 #[.val (.ref a1), .val .null] [(.ref a1)])) _
    refine st220 _ ?_
    show Steps p.tables e below (T220.setTop (mkF m 11 #[.val (.ref a1), .val .null] [(.ref w4)])) _
    refine XS.goto X220.here hx rfl (pc0 := 11) (pc' := 15) rfl (hb hby d_jdk_32_method_15_code_11) (by decide) (by decide) ?_
    show Steps p.tables e below (T220.setTop (mkF m 15 #[.val (.ref a1), .val .null] [(.ref w4)])) _
    exact retOut X220 hx (t := (.object "java/lang/Object")) (i := .areturn) Bd.returns rfl (Or.inr (Or.inr (Or.inr (Or.inr ⟨rfl, rfl, rfl⟩)))) (hb hby d_jdk_32_method_15_code_15) hr
  · show Qp (some (.ref w4)) h0 n0 _ T220.heap _
    rw [e220]
    exact ⟨rfl, N0, rfl⟩
theorem d_method_3_code_93 : decode method_3_code 93 = .ok (.getstatic 63, 3) := by decide +kernel
theorem d_method_3_code_96 : decode method_3_code 96 = .ok (.areturn, 1) := by decide +kernel
theorem ef34 (m : MethodId)    : entryFrame m #[(.int (10 : Int32))] 1 = mkF m 0 #[.val (.int (10 : Int32))] [] := by first | (simp [entryFrame, mkF, argsToLocals, Value.category]; done) | rfl
set_option maxRecDepth 65536 in
set_option maxHeartbeats 40000000 in
theorem rm54 (l : Launch) (Z : State) (a0 : Array Value) (hw : ∀ d ∈ tables_1, d.before a0 Z = true) (ws : List Jvm.Cond) (w0 w1 w2 w3 w4 w5 w6 w7 w8 w9 w10 w11 w12 w13 w14 w15 w16 w17 : Addr) (h0 : Heap) (n0 : Nat) (hWd : Wd Z w0 w1 w2 w3 w4 w5 w6 w7 w8 w9 w10 w11 w12 w13 w14 w15 w16 w17) (O0 : Old Z n0 h0) :
    MetFree l (⟨"com/example/weaverbird/weaverbird/queues/RunActionOfPinLaw", "typeAt", "(I)Lcom/example/weaverbird/weaverbird/codes/CommandType;"⟩ : MethodName) (head1 (Jvm.Cond.code (⟨"com/example/weaverbird/weaverbird/queues/RunActionOfPinLaw", "typeAt", "(I)Lcom/example/weaverbird/weaverbird/codes/CommandType;"⟩ : MethodName) method_3_code 1 (some (.object "com/example/weaverbird/weaverbird/codes/CommandType")) :: ws) ({ frames := 0, cells := 0, slots := 0, locals := 0 } : Room)) (fun a U => a = #[(.int (10 : Int32))] ∧ Z.Warmed39 U.vm ∧ U.heap = h0) (fun _ _ _ _ _ => True) (fun _ U o U' => ∃ v L, o = .returned v ∧ Qp (some (.ref w13)) h0 n0 v U'.heap L ∧ FrameEnd U o U' L ({ frames := 0, cells := 0, slots := 0, locals := 0 } : Room).cells ({ frames := 0, cells := 0, slots := 0, locals := 0 } : Room).slots) := by
  refine MetFree.of_bodySF (plainFor_of_name pn0) hisR ?_
  intro p e s m args below meth c s₁ Bd hml0 hP hK
  obtain ⟨rfl, hZ, hh⟩ := hP
  have hx := Bd.exec
  have hby := Bd.bytes
  have hml : c.maxLocals = 1 := hml0
  have hown : s.vm.findClass "com/example/weaverbird/weaverbird/queues/RunActionOfPinLaw" = some m.cls := findClass_of_methodNamed Bd.named
  have hnm := (name_of_methodNamed Bd.named Bd.method).1
  have X0 : Stand p l e ({ frames := 0, cells := 0, slots := 0, locals := 0 } : Room) s m #[(.int (10 : Int32))] below meth c s₁ [] 0 0 := Stand.of_body Bd
  have e0 : s₁.heap = h0 := by rw [← hh, Bd.state]; rfl
  have N0 := Fr.nil n0
  have hlk := Bd.notSynchronized
  obtain ⟨wS0, wE0, wS1, wE1, wS2, wE2, wS3, wE3, wS4, wE4, wS5, wE5, wS6, wE6, wS7, wE7, wS8, wE8, wS9, wE9, wS10, wE10, wS11, wE11, wS12, wE12, wS13, wE13, wS14, wE14, wS15, wE15, wS16, wE16, wS17, wE17, wF2_type, wF7_ordinal, wF0_ordinal, wF3_type, wF8_ordinal, wF4_type, wF9_ordinal, wF5_type, wF10_ordinal, wF6_type, wF11_ordinal, wF12_ordinal, wF13_ordinal, wF14_ordinal, wF15_ordinal, wF16_ordinal, wF17_value, wA, -⟩ := id hWd
  have pre0 : ∀ t, Steps p.tables e below (s₁.setTop (mkF m 0 #[.val (.int (10 : Int32))] [])) t → Steps p.tables e below (s₁.setTop (entryFrame m #[(.int (10 : Int32))] 1)) t := fun t k => castTop (ef34 m ) k
  obtain ⟨T223, X223, e223, st223⟩ := getS2 X0 hx hZ hown (host := "") (Or.inl (hw _ (List.mem_of_getElem? (i := 80) rfl))) Via.refl e0 (wS13.ext O0.2) (g := (mkF m 93 #[.val (.int (10 : Int32))] [])) rfl (hb hby d_method_3_code_93)
  obtain ⟨fs, hr, hrun, hended, hWr, hsame⟩ := X223.leave (v := some (.ref w13)) (fun h => by rw [Bd.returns] at h; cases h) hlk
  refine ⟨_, _, pre0 _ ?_, hrun, hended, _, _, rfl, ?_, ⟨_, rfl⟩, hWr, hsame.mono (Nat.le_of_ble_eq_true rfl) (Nat.le_of_ble_eq_true rfl)⟩
  · show Steps p.tables e below (s₁.setTop (mkF m 0 #[.val (.int (10 : Int32))] [])) _
    refine XS.iloadN X0.here hx rfl (hb hby d_method_3_code_0) rfl ?_
    show Steps p.tables e below (s₁.setTop (mkF m 1 #[.val (.int (10 : Int32))] [(.int (10 : Int32))])) _
    refine XS.ifYes X0.here hx rfl (pc0 := 1) (pc' := 8) rfl (hb hby d_method_3_code_1) rfl (by decide) (by decide) (by decide) ?_
    show Steps p.tables e below (s₁.setTop (mkF m 8 #[.val (.int (10 : Int32))] [])) _
    refine XS.iloadN X0.here hx rfl (hb hby d_method_3_code_8) rfl ?_
    show Steps p.tables e below (s₁.setTop (mkF m 9 #[.val (.int (10 : Int32))] [(.int (10 : Int32))])) _
    refine XS.iconst X0.here hx rfl (hb hby d_method_3_code_9) ?_
    show Steps p.tables e below (s₁.setTop (mkF m 10 #[.val (.int (10 : Int32))] [(.int (1 : Int32)), (.int (10 : Int32))])) _
    refine XS.icmpYes X0.here hx rfl (pc0 := 10) (pc' := 17) rfl (hb hby d_method_3_code_10) rfl (by decide) (by decide) (by decide) ?_
    show Steps p.tables e below (s₁.setTop (mkF m 17 #[.val (.int (10 : Int32))] [])) _
    refine XS.iloadN X0.here hx rfl (hb hby d_method_3_code_17) rfl ?_
    show Steps p.tables e below (s₁.setTop (mkF m 18 #[.val (.int (10 : Int32))] [(.int (10 : Int32))])) _
    refine XS.iconst X0.here hx rfl (hb hby d_method_3_code_18) ?_
    show Steps p.tables e below (s₁.setTop (mkF m 19 #[.val (.int (10 : Int32))] [(.int (2 : Int32)), (.int (10 : Int32))])) _
    refine XS.icmpYes X0.here hx rfl (pc0 := 19) (pc' := 26) rfl (hb hby d_method_3_code_19) rfl (by decide) (by decide) (by decide) ?_
    show Steps p.tables e below (s₁.setTop (mkF m 26 #[.val (.int (10 : Int32))] [])) _
    refine XS.iloadN X0.here hx rfl (hb hby d_method_3_code_26) rfl ?_
    show Steps p.tables e below (s₁.setTop (mkF m 27 #[.val (.int (10 : Int32))] [(.int (10 : Int32))])) _
    refine XS.iconst X0.here hx rfl (hb hby d_method_3_code_27) ?_
    show Steps p.tables e below (s₁.setTop (mkF m 28 #[.val (.int (10 : Int32))] [(.int (3 : Int32)), (.int (10 : Int32))])) _
    refine XS.icmpYes X0.here hx rfl (pc0 := 28) (pc' := 35) rfl (hb hby d_method_3_code_28) rfl (by decide) (by decide) (by decide) ?_
    show Steps p.tables e below (s₁.setTop (mkF m 35 #[.val (.int (10 : Int32))] [])) _
    refine XS.iloadN X0.here hx rfl (hb hby d_method_3_code_35) rfl ?_
    show Steps p.tables e below (s₁.setTop (mkF m 36 #[.val (.int (10 : Int32))] [(.int (10 : Int32))])) _
    refine XS.iconst X0.here hx rfl (hb hby d_method_3_code_36) ?_
    show Steps p.tables e below (s₁.setTop (mkF m 37 #[.val (.int (10 : Int32))] [(.int (4 : Int32)), (.int (10 : Int32))])) _
    refine XS.icmpYes X0.here hx rfl (pc0 := 37) (pc' := 44) rfl (hb hby d_method_3_code_37) rfl (by decide) (by decide) (by decide) ?_
    show Steps p.tables e below (s₁.setTop (mkF m 44 #[.val (.int (10 : Int32))] [])) _
    refine XS.iloadN X0.here hx rfl (hb hby d_method_3_code_44) rfl ?_
    show Steps p.tables e below (s₁.setTop (mkF m 45 #[.val (.int (10 : Int32))] [(.int (10 : Int32))])) _
    refine XS.iconst X0.here hx rfl (hb hby d_method_3_code_45) ?_
    show Steps p.tables e below (s₁.setTop (mkF m 46 #[.val (.int (10 : Int32))] [(.int (5 : Int32)), (.int (10 : Int32))])) _
    refine XS.icmpYes X0.here hx rfl (pc0 := 46) (pc' := 53) rfl (hb hby d_method_3_code_46) rfl (by decide) (by decide) (by decide) ?_
    show Steps p.tables e below (s₁.setTop (mkF m 53 #[.val (.int (10 : Int32))] [])) _
    refine XS.iloadN X0.here hx rfl (hb hby d_method_3_code_53) rfl ?_
    show Steps p.tables e below (s₁.setTop (mkF m 54 #[.val (.int (10 : Int32))] [(.int (10 : Int32))])) _
    refine XS.bipush X0.here hx rfl (hb hby d_method_3_code_54) ?_
    show Steps p.tables e below (s₁.setTop (mkF m 56 #[.val (.int (10 : Int32))] [(.int (6 : Int32)), (.int (10 : Int32))])) _
    refine XS.icmpYes X0.here hx rfl (pc0 := 56) (pc' := 63) rfl (hb hby d_method_3_code_56) rfl (by decide) (by decide) (by decide) ?_
    show Steps p.tables e below (s₁.setTop (mkF m 63 #[.val (.int (10 : Int32))] [])) _
    refine XS.iloadN X0.here hx rfl (hb hby d_method_3_code_63) rfl ?_
    show Steps p.tables e below (s₁.setTop (mkF m 64 #[.val (.int (10 : Int32))] [(.int (10 : Int32))])) _
    refine XS.bipush X0.here hx rfl (hb hby d_method_3_code_64) ?_
    show Steps p.tables e below (s₁.setTop (mkF m 66 #[.val (.int (10 : Int32))] [(.int (7 : Int32)), (.int (10 : Int32))])) _
    refine XS.icmpYes X0.here hx rfl (pc0 := 66) (pc' := 73) rfl (hb hby d_method_3_code_66) rfl (by decide) (by decide) (by decide) ?_
    show Steps p.tables e below (s₁.setTop (mkF m 73 #[.val (.int (10 : Int32))] [])) _
    refine XS.iloadN X0.here hx rfl (hb hby d_method_3_code_73) rfl ?_
    show Steps p.tables e below (s₁.setTop (mkF m 74 #[.val (.int (10 : Int32))] [(.int (10 : Int32))])) _
    refine XS.bipush X0.here hx rfl (hb hby d_method_3_code_74) ?_
    show Steps p.tables e below (s₁.setTop (mkF m 76 #[.val (.int (10 : Int32))] [(.int (8 : Int32)), (.int (10 : Int32))])) _
    refine XS.icmpYes X0.here hx rfl (pc0 := 76) (pc' := 83) rfl (hb hby d_method_3_code_76) rfl (by decide) (by decide) (by decide) ?_
    show Steps p.tables e below (s₁.setTop (mkF m 83 #[.val (.int (10 : Int32))] [])) _
    refine XS.iloadN X0.here hx rfl (hb hby d_method_3_code_83) rfl ?_
    show Steps p.tables e below (s₁.setTop (mkF m 84 #[.val (.int (10 : Int32))] [(.int (10 : Int32))])) _
    refine XS.bipush X0.here hx rfl (hb hby d_method_3_code_84) ?_
    show Steps p.tables e below (s₁.setTop (mkF m 86 #[.val (.int (10 : Int32))] [(.int (9 : Int32)), (.int (10 : Int32))])) _
    refine XS.icmpYes X0.here hx rfl (pc0 := 86) (pc' := 93) rfl (hb hby d_method_3_code_86) rfl (by decide) (by decide) (by decide) ?_
    show Steps p.tables e below (s₁.setTop (mkF m 93 #[.val (.int (10 : Int32))] [])) _
    refine st223 _ ?_
    show Steps p.tables e below (T223.setTop (mkF m 96 #[.val (.int (10 : Int32))] [(.ref w13)])) _
    exact retOut X223 hx (t := (.object "com/example/weaverbird/weaverbird/codes/CommandType")) (i := .areturn) Bd.returns rfl (Or.inr (Or.inr (Or.inr (Or.inr ⟨rfl, rfl, rfl⟩)))) (hb hby d_method_3_code_96) hr
  · show Qp (some (.ref w13)) h0 n0 _ T223.heap _
    rw [e223]
    exact ⟨rfl, N0, rfl⟩
set_option maxRecDepth 65536 in
set_option maxHeartbeats 40000000 in
theorem rm55 (l : Launch) (Z : State) (a0 : Array Value) (hw : ∀ d ∈ tables_1, d.before a0 Z = true) (ws : List Jvm.Cond) (w0 w1 w2 w3 w4 w5 w6 w7 w8 w9 w10 w11 w12 w13 w14 w15 w16 w17 : Addr) (h0 : Heap) (n0 : Nat) (hWd : Wd Z w0 w1 w2 w3 w4 w5 w6 w7 w8 w9 w10 w11 w12 w13 w14 w15 w16 w17) (O0 : Old Z n0 h0) :
    MetFree l (⟨"com/example/weaverbird/weaverbird/queues/RunActionOfPinLaw", "expectedFor", "(I)Lcom/example/weaverbird/weaverbird/queues/RunAction;"⟩ : MethodName) (head1 (Jvm.Cond.code (⟨"com/example/weaverbird/weaverbird/queues/RunActionOfPinLaw", "expectedFor", "(I)Lcom/example/weaverbird/weaverbird/queues/RunAction;"⟩ : MethodName) method_4_code 1 (some (.object "com/example/weaverbird/weaverbird/queues/RunAction")) :: ws) ({ frames := 0, cells := 0, slots := 0, locals := 0 } : Room)) (fun a U => a = #[(.int (10 : Int32))] ∧ Z.Warmed39 U.vm ∧ U.heap = h0) (fun _ _ _ _ _ => True) (fun _ U o U' => ∃ v L, o = .returned v ∧ Qp (some .null) h0 n0 v U'.heap L ∧ FrameEnd U o U' L ({ frames := 0, cells := 0, slots := 0, locals := 0 } : Room).cells ({ frames := 0, cells := 0, slots := 0, locals := 0 } : Room).slots) := by
  refine MetFree.of_bodySF (plainFor_of_name pn0) hisR ?_
  intro p e s m args below meth c s₁ Bd hml0 hP hK
  obtain ⟨rfl, hZ, hh⟩ := hP
  have hx := Bd.exec
  have hby := Bd.bytes
  have hml : c.maxLocals = 1 := hml0
  have hown : s.vm.findClass "com/example/weaverbird/weaverbird/queues/RunActionOfPinLaw" = some m.cls := findClass_of_methodNamed Bd.named
  have hnm := (name_of_methodNamed Bd.named Bd.method).1
  have X0 : Stand p l e ({ frames := 0, cells := 0, slots := 0, locals := 0 } : Room) s m #[(.int (10 : Int32))] below meth c s₁ [] 0 0 := Stand.of_body Bd
  have e0 : s₁.heap = h0 := by rw [← hh, Bd.state]; rfl
  have N0 := Fr.nil n0
  have hlk := Bd.notSynchronized
  obtain ⟨wS0, wE0, wS1, wE1, wS2, wE2, wS3, wE3, wS4, wE4, wS5, wE5, wS6, wE6, wS7, wE7, wS8, wE8, wS9, wE9, wS10, wE10, wS11, wE11, wS12, wE12, wS13, wE13, wS14, wE14, wS15, wE15, wS16, wE16, wS17, wE17, wF2_type, wF7_ordinal, wF0_ordinal, wF3_type, wF8_ordinal, wF4_type, wF9_ordinal, wF5_type, wF10_ordinal, wF6_type, wF11_ordinal, wF12_ordinal, wF13_ordinal, wF14_ordinal, wF15_ordinal, wF16_ordinal, wF17_value, wA, -⟩ := id hWd
  have pre0 : ∀ t, Steps p.tables e below (s₁.setTop (mkF m 0 #[.val (.int (10 : Int32))] [])) t → Steps p.tables e below (s₁.setTop (entryFrame m #[(.int (10 : Int32))] 1)) t := fun t k => castTop (ef34 m ) k
  obtain ⟨fs, hr, hrun, hended, hWr, hsame⟩ := X0.leave (v := some .null) (fun h => by rw [Bd.returns] at h; cases h) hlk
  refine ⟨_, _, pre0 _ ?_, hrun, hended, _, _, rfl, ?_, ⟨_, rfl⟩, hWr, hsame.mono (Nat.le_of_ble_eq_true rfl) (Nat.le_of_ble_eq_true rfl)⟩
  · show Steps p.tables e below (s₁.setTop (mkF m 0 #[.val (.int (10 : Int32))] [])) _
    refine XS.iloadN X0.here hx rfl (hb hby d_method_4_code_0) rfl ?_
    show Steps p.tables e below (s₁.setTop (mkF m 1 #[.val (.int (10 : Int32))] [(.int (10 : Int32))])) _
    refine XS.iconst X0.here hx rfl (hb hby d_method_4_code_1) ?_
    show Steps p.tables e below (s₁.setTop (mkF m 2 #[.val (.int (10 : Int32))] [(.int (3 : Int32)), (.int (10 : Int32))])) _
    refine XS.icmpYes X0.here hx rfl (pc0 := 2) (pc' := 9) rfl (hb hby d_method_4_code_2) rfl (by decide) (by decide) (by decide) ?_
    show Steps p.tables e below (s₁.setTop (mkF m 9 #[.val (.int (10 : Int32))] [])) _
    refine XS.iloadN X0.here hx rfl (hb hby d_method_4_code_9) rfl ?_
    show Steps p.tables e below (s₁.setTop (mkF m 10 #[.val (.int (10 : Int32))] [(.int (10 : Int32))])) _
    refine XS.iconst X0.here hx rfl (hb hby d_method_4_code_10) ?_
    show Steps p.tables e below (s₁.setTop (mkF m 11 #[.val (.int (10 : Int32))] [(.int (4 : Int32)), (.int (10 : Int32))])) _
    refine XS.icmpYes X0.here hx rfl (pc0 := 11) (pc' := 18) rfl (hb hby d_method_4_code_11) rfl (by decide) (by decide) (by decide) ?_
    show Steps p.tables e below (s₁.setTop (mkF m 18 #[.val (.int (10 : Int32))] [])) _
    refine XS.iloadN X0.here hx rfl (hb hby d_method_4_code_18) rfl ?_
    show Steps p.tables e below (s₁.setTop (mkF m 19 #[.val (.int (10 : Int32))] [(.int (10 : Int32))])) _
    refine XS.bipush X0.here hx rfl (hb hby d_method_4_code_19) ?_
    show Steps p.tables e below (s₁.setTop (mkF m 21 #[.val (.int (10 : Int32))] [(.int (7 : Int32)), (.int (10 : Int32))])) _
    refine XS.icmpYes X0.here hx rfl (pc0 := 21) (pc' := 28) rfl (hb hby d_method_4_code_21) rfl (by decide) (by decide) (by decide) ?_
    show Steps p.tables e below (s₁.setTop (mkF m 28 #[.val (.int (10 : Int32))] [])) _
    refine XS.iloadN X0.here hx rfl (hb hby d_method_4_code_28) rfl ?_
    show Steps p.tables e below (s₁.setTop (mkF m 29 #[.val (.int (10 : Int32))] [(.int (10 : Int32))])) _
    refine XS.bipush X0.here hx rfl (hb hby d_method_4_code_29) ?_
    show Steps p.tables e below (s₁.setTop (mkF m 31 #[.val (.int (10 : Int32))] [(.int (8 : Int32)), (.int (10 : Int32))])) _
    refine XS.icmpYes X0.here hx rfl (pc0 := 31) (pc' := 38) rfl (hb hby d_method_4_code_31) rfl (by decide) (by decide) (by decide) ?_
    show Steps p.tables e below (s₁.setTop (mkF m 38 #[.val (.int (10 : Int32))] [])) _
    refine XS.iloadN X0.here hx rfl (hb hby d_method_4_code_38) rfl ?_
    show Steps p.tables e below (s₁.setTop (mkF m 39 #[.val (.int (10 : Int32))] [(.int (10 : Int32))])) _
    refine XS.bipush X0.here hx rfl (hb hby d_method_4_code_39) ?_
    show Steps p.tables e below (s₁.setTop (mkF m 41 #[.val (.int (10 : Int32))] [(.int (9 : Int32)), (.int (10 : Int32))])) _
    refine XS.icmpYes X0.here hx rfl (pc0 := 41) (pc' := 48) rfl (hb hby d_method_4_code_41) rfl (by decide) (by decide) (by decide) ?_
    show Steps p.tables e below (s₁.setTop (mkF m 48 #[.val (.int (10 : Int32))] [])) _
    refine XS.aconstNull X0.here hx rfl (hb hby d_method_4_code_48) ?_
    show Steps p.tables e below (s₁.setTop (mkF m 49 #[.val (.int (10 : Int32))] [.null])) _
    exact retOut X0 hx (t := (.object "com/example/weaverbird/weaverbird/queues/RunAction")) (i := .areturn) Bd.returns rfl (Or.inr (Or.inr (Or.inr (Or.inr ⟨rfl, rfl, rfl⟩)))) (hb hby d_method_4_code_49) hr
  · show Qp (some .null) h0 n0 _ s₁.heap _
    rw [e0]
    exact ⟨rfl, N0, rfl⟩
theorem ef35 (m : MethodId)   (w13 : Addr) : entryFrame m #[(.ref w13)] 5 = mkF m 0 #[.val (.ref w13), .unset, .unset, .unset, .unset] [] := by first | (simp [entryFrame, mkF, argsToLocals, Value.category]; done) | rfl
def Qerm56 (Z : State) (w0 w1 w2 w3 w4 w5 w6 w7 w8 w9 w10 w11 w12 w13 w14 w15 w16 w17 : Addr) (h0 : Heap) (n0 : Nat) (v : Option Value) (h : Heap) (L : List Loc) : Prop := v = some (.ref w17) ∧ Fr n0 L ∧ Keep h0 h [] ∧ Old Z n0 h
set_option maxRecDepth 65536 in
set_option maxHeartbeats 40000000 in
theorem rm56 (l : Launch) (Z : State) (a0 : Array Value) (hw : ∀ d ∈ tables_1, d.before a0 Z = true) (ws : List Jvm.Cond) (w0 w1 w2 w3 w4 w5 w6 w7 w8 w9 w10 w11 w12 w13 w14 w15 w16 w17 : Addr) (h0 : Heap) (n0 : Nat) (hWd : Wd Z w0 w1 w2 w3 w4 w5 w6 w7 w8 w9 w10 w11 w12 w13 w14 w15 w16 w17) (O0 : Old Z n0 h0) :
    MetFree l (⟨"com/example/weaverbird/weaverbird/queues/RunAction", "of", "(Lcom/example/weaverbird/weaverbird/codes/CommandType;)Ljava/util/Optional;"⟩ : MethodName) (head1 (Jvm.Cond.code (⟨"com/example/weaverbird/weaverbird/queues/RunAction", "of", "(Lcom/example/weaverbird/weaverbird/codes/CommandType;)Ljava/util/Optional;"⟩ : MethodName) prog_16_method_4_code 5 (some (.object "java/util/Optional")) :: ws) ({ frames := 2, cells := 1, slots := 5, locals := 25 } : Room)) (fun a U => a = #[(.ref w13)] ∧ Z.Warmed39 U.vm ∧ U.heap = h0) (fun _ _ _ _ _ => True) (fun _ U o U' => ∃ v L, o = .returned v ∧ Qerm56 Z w0 w1 w2 w3 w4 w5 w6 w7 w8 w9 w10 w11 w12 w13 w14 w15 w16 w17 h0 n0 v U'.heap L ∧ FrameEnd U o U' L ({ frames := 2, cells := 1, slots := 5, locals := 25 } : Room).cells ({ frames := 2, cells := 1, slots := 5, locals := 25 } : Room).slots) := by
  refine MetFree.of_bodySF (plainFor_of_name pn1) hisR ?_
  intro p e s m args below meth c s₁ Bd hml0 hP hK
  obtain ⟨rfl, hZ, hh⟩ := hP
  have hx := Bd.exec
  have hby := Bd.bytes
  have hml : c.maxLocals = 5 := hml0
  have hown : s.vm.findClass "com/example/weaverbird/weaverbird/queues/RunAction" = some m.cls := findClass_of_methodNamed Bd.named
  have hnm := (name_of_methodNamed Bd.named Bd.method).1
  have X0 : Stand p l e ({ frames := 2, cells := 1, slots := 5, locals := 25 } : Room) s m #[(.ref w13)] below meth c s₁ [] 0 0 := Stand.of_body Bd
  have e0 : s₁.heap = h0 := by rw [← hh, Bd.state]; rfl
  have N0 := Fr.nil n0
  have hlk := Bd.notSynchronized
  obtain ⟨wS0, wE0, wS1, wE1, wS2, wE2, wS3, wE3, wS4, wE4, wS5, wE5, wS6, wE6, wS7, wE7, wS8, wE8, wS9, wE9, wS10, wE10, wS11, wE11, wS12, wE12, wS13, wE13, wS14, wE14, wS15, wE15, wS16, wE16, wS17, wE17, wF2_type, wF7_ordinal, wF0_ordinal, wF3_type, wF8_ordinal, wF4_type, wF9_ordinal, wF5_type, wF10_ordinal, wF6_type, wF11_ordinal, wF12_ordinal, wF13_ordinal, wF14_ordinal, wF15_ordinal, wF16_ordinal, wF17_value, wA, -⟩ := id hWd
  have pre0 : ∀ t, Steps p.tables e below (s₁.setTop (mkF m 0 #[.val (.ref w13), .unset, .unset, .unset, .unset] [])) t → Steps p.tables e below (s₁.setTop (entryFrame m #[(.ref w13)] 5)) t := fun t k => castTop (ef35 m w13) k
  obtain ⟨_, _, ⟨T226, L226, k226, n226⟩, -, X226, ⟨Lc226, hQ226, l226, y226, z226⟩, st226⟩ := Jvm.LawKit.callS X0 hx (y := (⟨"com/example/weaverbird/weaverbird/queues/RunAction", "values", "()[Lcom/example/weaverbird/weaverbird/queues/RunAction;"⟩ : MethodName)) hown (mvT hZ (hw _ (List.mem_of_getElem? (i := 15) rfl))) (mvT hZ (hw _ (List.mem_of_getElem? (i := 16) rfl))) (mvT hZ (hw _ (List.mem_of_getElem? (i := 13) rfl))) (mvT hZ (hw _ (List.mem_of_getElem? (i := 17) rfl))) (by decide) (backOf (W := 0) (rm4 l Z a0 hw [] w0 w1 w2 w3 w4 w5 w6 w7 w8 w9 w10 w11 w12 w13 w14 w15 w16 w17 h0 n0 hWd O0) hZ (hw _ (List.mem_of_getElem? (i := 17) rfl)) (hw _ (List.mem_of_getElem? (i := 13) rfl)) (by decide) (by decide)) (g := (mkF m 0 #[.val (.ref w13), .unset, .unset, .unset, .unset] [])) rfl (by rw [hml]; rfl) (argsL := []) (rest := []) (lenOf pd2 rfl) rfl (by show 2 * 0 + _ ≤ _; exact Nat.le_of_eq rfl) (hb hby d_prog_16_method_4_code_0) (fun _ _ => ⟨rfl, e0, (by decide : 0 + 1 ≤ _), (by decide : 0 + 5 ≤ _)⟩)
  dsimp only [Pt.U, Pt.locs, Pt.cells, Pt.slots] at X226 l226 y226 z226 st226 hQ226
  subst l226 y226 z226
  obtain ⟨r226, ka226, rfl, N226q, K226, O_226, V226, g_r226⟩ := hQ226
  have N226 := Fr.app N0 N226q
  have Kp226 : Keep h0 T226.heap [] := (Keep.refl h0 []).trans K226 all0
  obtain ⟨cl227, Ar227, q227, S227, M227, H227, G227⟩ := id V226
  obtain ⟨cl228, Ar228, q228, S228, M228, H228, G228⟩ := id V226
  have hin228 : ¬ ((0 : Int32) < 0 ∨ cl228.slots.size ≤ ((0 : Int32)).toNatClampNeg) := inb_of S228 ⟨by decide, by decide⟩
  have hat228 : cl228.slots[((0 : Int32)).toNatClampNeg]? = some (.ref w2) := Has.at H228 hin228 rfl
  obtain ⟨T229, X229, e229, st229⟩ := getF X226 hx hZ hown (host := "") (Or.inl (hw _ (List.mem_of_getElem? (i := 35) rfl))) Via.refl rfl (wF2_type.ext O_226.2) (g := (mkF m 21 #[.val (.ref w13), .val (.ref r226), .val (.int (5 : Int32)), .val (.int (0 : Int32)), .val (.ref w2)] [(.ref w2)])) rfl rfl (hb hby d_prog_16_method_4_code_21)
  obtain ⟨cl230, Ar230, q230, S230, M230, H230, G230⟩ := id V226
  have hin230 : ¬ ((1 : Int32) < 0 ∨ cl230.slots.size ≤ ((1 : Int32)).toNatClampNeg) := inb_of S230 ⟨by decide, by decide⟩
  have hat230 : cl230.slots[((1 : Int32)).toNatClampNeg]? = some (.ref w3) := Has.at H230 hin230 rfl
  obtain ⟨T231, X231, e231, st231⟩ := getF X229 hx hZ hown (host := "") (Or.inl (hw _ (List.mem_of_getElem? (i := 35) rfl))) Via.refl e229 (wF3_type.ext O_226.2) (g := (mkF m 21 #[.val (.ref w13), .val (.ref r226), .val (.int (5 : Int32)), .val (.int (1 : Int32)), .val (.ref w3)] [(.ref w3)])) rfl rfl (hb hby d_prog_16_method_4_code_21)
  obtain ⟨cl232, Ar232, q232, S232, M232, H232, G232⟩ := id V226
  have hin232 : ¬ ((2 : Int32) < 0 ∨ cl232.slots.size ≤ ((2 : Int32)).toNatClampNeg) := inb_of S232 ⟨by decide, by decide⟩
  have hat232 : cl232.slots[((2 : Int32)).toNatClampNeg]? = some (.ref w4) := Has.at H232 hin232 rfl
  obtain ⟨T233, X233, e233, st233⟩ := getF X231 hx hZ hown (host := "") (Or.inl (hw _ (List.mem_of_getElem? (i := 35) rfl))) Via.refl e231 (wF4_type.ext O_226.2) (g := (mkF m 21 #[.val (.ref w13), .val (.ref r226), .val (.int (5 : Int32)), .val (.int (2 : Int32)), .val (.ref w4)] [(.ref w4)])) rfl rfl (hb hby d_prog_16_method_4_code_21)
  obtain ⟨cl234, Ar234, q234, S234, M234, H234, G234⟩ := id V226
  have hin234 : ¬ ((3 : Int32) < 0 ∨ cl234.slots.size ≤ ((3 : Int32)).toNatClampNeg) := inb_of S234 ⟨by decide, by decide⟩
  have hat234 : cl234.slots[((3 : Int32)).toNatClampNeg]? = some (.ref w5) := Has.at H234 hin234 rfl
  obtain ⟨T235, X235, e235, st235⟩ := getF X233 hx hZ hown (host := "") (Or.inl (hw _ (List.mem_of_getElem? (i := 35) rfl))) Via.refl e233 (wF5_type.ext O_226.2) (g := (mkF m 21 #[.val (.ref w13), .val (.ref r226), .val (.int (5 : Int32)), .val (.int (3 : Int32)), .val (.ref w5)] [(.ref w5)])) rfl rfl (hb hby d_prog_16_method_4_code_21)
  obtain ⟨cl236, Ar236, q236, S236, M236, H236, G236⟩ := id V226
  have hin236 : ¬ ((4 : Int32) < 0 ∨ cl236.slots.size ≤ ((4 : Int32)).toNatClampNeg) := inb_of S236 ⟨by decide, by decide⟩
  have hat236 : cl236.slots[((4 : Int32)).toNatClampNeg]? = some (.ref w6) := Has.at H236 hin236 rfl
  obtain ⟨T237, X237, e237, st237⟩ := getF X235 hx hZ hown (host := "") (Or.inl (hw _ (List.mem_of_getElem? (i := 35) rfl))) Via.refl e235 (wF6_type.ext O_226.2) (g := (mkF m 21 #[.val (.ref w13), .val (.ref r226), .val (.int (5 : Int32)), .val (.int (4 : Int32)), .val (.ref w6)] [(.ref w6)])) rfl rfl (hb hby d_prog_16_method_4_code_21)
  obtain ⟨_, _, ⟨T238, L238, k238, n238⟩, -, X238, ⟨Lc238, hQ238, l238, y238, z238⟩, st238⟩ := Jvm.LawKit.callS X237 hx (y := (⟨"java/util/Optional", "empty", "()Ljava/util/Optional;"⟩ : MethodName)) hown (mvT hZ (hw _ (List.mem_of_getElem? (i := 42) rfl))) (mvT hZ (hw _ (List.mem_of_getElem? (i := 43) rfl))) (mvT hZ (hw _ (List.mem_of_getElem? (i := 44) rfl))) (mvT hZ (hw _ (List.mem_of_getElem? (i := 45) rfl))) (by decide) (backOf (W := 0) (rm5 l Z a0 hw [] w0 w1 w2 w3 w4 w5 w6 w7 w8 w9 w10 w11 w12 w13 w14 w15 w16 w17 T226.heap n0 hWd O_226) hZ (hw _ (List.mem_of_getElem? (i := 45) rfl)) (hw _ (List.mem_of_getElem? (i := 44) rfl)) (by decide) (by decide)) (g := (mkF m 40 #[.val (.ref w13), .val (.ref r226), .val (.int (5 : Int32)), .val (.int (5 : Int32)), .val (.ref w6)] [])) rfl (by rw [hml]; rfl) (argsL := []) (rest := []) (lenOf pd3 rfl) rfl (by show 2 * 0 + _ ≤ _; exact Nat.le_of_eq rfl) (hb hby d_prog_16_method_4_code_40) (fun _ _ => ⟨rfl, e237, (by decide : 1 + 0 ≤ _), (by decide : 5 + 0 ≤ _)⟩)
  dsimp only [Pt.U, Pt.locs, Pt.cells, Pt.slots] at X238 l238 y238 z238 st238 hQ238
  subst l238 y238 z238
  obtain ⟨rfl, N238q, e238⟩ := hQ238
  have N238 := Fr.app N226 N238q
  obtain ⟨fs, hr, hrun, hended, hWr, hsame⟩ := X238.leave (v := some (.ref w17)) (fun h => by rw [Bd.returns] at h; cases h) hlk
  refine ⟨_, _, pre0 _ ?_, hrun, hended, _, _, rfl, ?_, ⟨_, rfl⟩, hWr, hsame.mono (Nat.le_of_ble_eq_true rfl) (Nat.le_of_ble_eq_true rfl)⟩
  · show Steps p.tables e below (s₁.setTop (mkF m 0 #[.val (.ref w13), .unset, .unset, .unset, .unset] [])) _
    refine st226 _ ?_
    show Steps p.tables e below (T226.setTop (mkF m 3 #[.val (.ref w13), .unset, .unset, .unset, .unset] [(.ref r226)])) _
    refine XS.astoreN X226.here hx rfl (hb hby d_prog_16_method_4_code_3) rfl rfl (l' := #[.val (.ref w13), .val (.ref r226), .unset, .unset, .unset]) rfl ?_
    show Steps p.tables e below (T226.setTop (mkF m 4 #[.val (.ref w13), .val (.ref r226), .unset, .unset, .unset] [])) _
    refine XS.aloadN X226.here hx rfl (hb hby d_prog_16_method_4_code_4) rfl rfl ?_
    show Steps p.tables e below (T226.setTop (mkF m 5 #[.val (.ref w13), .val (.ref r226), .unset, .unset, .unset] [(.ref r226)])) _
    refine X226.arraylength hx Ar227.1 (State.isArrayOf_alike hZ.alike Ar227.2.1) (g := (mkF m 5 #[.val (.ref w13), .val (.ref r226), .unset, .unset, .unset] [(.ref r226)])) rfl rfl (hb hby d_prog_16_method_4_code_5) _ ?_
    rw [len_of S227 M227]
    show Steps p.tables e below (T226.setTop (mkF m 6 #[.val (.ref w13), .val (.ref r226), .unset, .unset, .unset] [(.int (5 : Int32))])) _
    refine XS.istoreN X226.here hx rfl (hb hby d_prog_16_method_4_code_6) rfl (l' := #[.val (.ref w13), .val (.ref r226), .val (.int (5 : Int32)), .unset, .unset]) rfl ?_
    show Steps p.tables e below (T226.setTop (mkF m 7 #[.val (.ref w13), .val (.ref r226), .val (.int (5 : Int32)), .unset, .unset] [])) _
    refine XS.iconst X226.here hx rfl (hb hby d_prog_16_method_4_code_7) ?_
    show Steps p.tables e below (T226.setTop (mkF m 8 #[.val (.ref w13), .val (.ref r226), .val (.int (5 : Int32)), .unset, .unset] [(.int (0 : Int32))])) _
    refine XS.istoreN X226.here hx rfl (hb hby d_prog_16_method_4_code_8) rfl (l' := #[.val (.ref w13), .val (.ref r226), .val (.int (5 : Int32)), .val (.int (0 : Int32)), .unset]) rfl ?_
    show Steps p.tables e below (T226.setTop (mkF m 9 #[.val (.ref w13), .val (.ref r226), .val (.int (5 : Int32)), .val (.int (0 : Int32)), .unset] [])) _
    refine XS.iloadN X226.here hx rfl (hb hby d_prog_16_method_4_code_9) rfl ?_
    show Steps p.tables e below (T226.setTop (mkF m 10 #[.val (.ref w13), .val (.ref r226), .val (.int (5 : Int32)), .val (.int (0 : Int32)), .unset] [(.int (0 : Int32))])) _
    refine XS.iloadN X226.here hx rfl (hb hby d_prog_16_method_4_code_10) rfl ?_
    show Steps p.tables e below (T226.setTop (mkF m 11 #[.val (.ref w13), .val (.ref r226), .val (.int (5 : Int32)), .val (.int (0 : Int32)), .unset] [(.int (5 : Int32)), (.int (0 : Int32))])) _
    refine XS.icmpNo X226.here hx rfl (hb hby d_prog_16_method_4_code_11) rfl (by decide) ?_
    show Steps p.tables e below (T226.setTop (mkF m 14 #[.val (.ref w13), .val (.ref r226), .val (.int (5 : Int32)), .val (.int (0 : Int32)), .unset] [])) _
    refine XS.aloadN X226.here hx rfl (hb hby d_prog_16_method_4_code_14) rfl rfl ?_
    show Steps p.tables e below (T226.setTop (mkF m 15 #[.val (.ref w13), .val (.ref r226), .val (.int (5 : Int32)), .val (.int (0 : Int32)), .unset] [(.ref r226)])) _
    refine XS.iloadN X226.here hx rfl (hb hby d_prog_16_method_4_code_15) rfl ?_
    show Steps p.tables e below (T226.setTop (mkF m 16 #[.val (.ref w13), .val (.ref r226), .val (.int (5 : Int32)), .val (.int (0 : Int32)), .unset] [(.int (0 : Int32)), (.ref r226)])) _
    refine X226.aaload hx (j := (0 : Int32)) (v := (.ref w2)) Ar228.1 (State.isArrayOf_alike hZ.alike Ar228.2.1) rfl Ar228.2.2 hin228 hat228 (g := (mkF m 16 #[.val (.ref w13), .val (.ref r226), .val (.int (5 : Int32)), .val (.int (0 : Int32)), .unset] [(.int (0 : Int32)), (.ref r226)])) rfl rfl (hb hby d_prog_16_method_4_code_16) _ ?_
    show Steps p.tables e below (T226.setTop (mkF m 17 #[.val (.ref w13), .val (.ref r226), .val (.int (5 : Int32)), .val (.int (0 : Int32)), .unset] [(.ref w2)])) _
    refine XS.astore X226.here hx rfl (hb hby d_prog_16_method_4_code_17) rfl rfl (l' := #[.val (.ref w13), .val (.ref r226), .val (.int (5 : Int32)), .val (.int (0 : Int32)), .val (.ref w2)]) rfl ?_
    show Steps p.tables e below (T226.setTop (mkF m 19 #[.val (.ref w13), .val (.ref r226), .val (.int (5 : Int32)), .val (.int (0 : Int32)), .val (.ref w2)] [])) _
    refine XS.aload X226.here hx rfl (hb hby d_prog_16_method_4_code_19) rfl rfl ?_
    show Steps p.tables e below (T226.setTop (mkF m 21 #[.val (.ref w13), .val (.ref r226), .val (.int (5 : Int32)), .val (.int (0 : Int32)), .val (.ref w2)] [(.ref w2)])) _
    refine st229 _ ?_
    show Steps p.tables e below (T229.setTop (mkF m 24 #[.val (.ref w13), .val (.ref r226), .val (.int (5 : Int32)), .val (.int (0 : Int32)), .val (.ref w2)] [(.ref w7)])) _
    refine XS.aloadN X229.here hx rfl (hb hby d_prog_16_method_4_code_24) rfl rfl ?_
    show Steps p.tables e below (T229.setTop (mkF m 25 #[.val (.ref w13), .val (.ref r226), .val (.int (5 : Int32)), .val (.int (0 : Int32)), .val (.ref w2)] [(.ref w13), (.ref w7)])) _
    refine Jvm.RoadKit.acmp (g := (mkF m 25 #[.val (.ref w13), .val (.ref r226), .val (.int (5 : Int32)), .val (.int (0 : Int32)), .val (.ref w2)] [(.ref w13), (.ref w7)])) X229 hx rfl rfl rfl (pc0 := 25) (pc' := 34) (same := false) rfl (hb hby d_prog_16_method_4_code_25) rfl (decide_eq_false fun q => (Fld.ne wF7_ordinal wF13_ordinal (fun q => absurd (Value.int.inj q) (by decide))) (Value.ref.inj q)) (by decide) (by decide) ?_
    show Steps p.tables e below (T229.setTop (mkF m 34 #[.val (.ref w13), .val (.ref r226), .val (.int (5 : Int32)), .val (.int (0 : Int32)), .val (.ref w2)] [])) _
    refine XS.iinc X229.here hx rfl (hb hby d_prog_16_method_4_code_34) rfl (l' := #[.val (.ref w13), .val (.ref r226), .val (.int (5 : Int32)), .val (.int (1 : Int32)), .val (.ref w2)]) rfl ?_
    show Steps p.tables e below (T229.setTop (mkF m 37 #[.val (.ref w13), .val (.ref r226), .val (.int (5 : Int32)), .val (.int (1 : Int32)), .val (.ref w2)] [])) _
    refine XS.goto X229.here hx rfl (pc0 := 37) (pc' := 9) rfl (hb hby d_prog_16_method_4_code_37) (by decide) (by decide) ?_
    show Steps p.tables e below (T229.setTop (mkF m 9 #[.val (.ref w13), .val (.ref r226), .val (.int (5 : Int32)), .val (.int (1 : Int32)), .val (.ref w2)] [])) _
    refine XS.iloadN X229.here hx rfl (hb hby d_prog_16_method_4_code_9) rfl ?_
    show Steps p.tables e below (T229.setTop (mkF m 10 #[.val (.ref w13), .val (.ref r226), .val (.int (5 : Int32)), .val (.int (1 : Int32)), .val (.ref w2)] [(.int (1 : Int32))])) _
    refine XS.iloadN X229.here hx rfl (hb hby d_prog_16_method_4_code_10) rfl ?_
    show Steps p.tables e below (T229.setTop (mkF m 11 #[.val (.ref w13), .val (.ref r226), .val (.int (5 : Int32)), .val (.int (1 : Int32)), .val (.ref w2)] [(.int (5 : Int32)), (.int (1 : Int32))])) _
    refine XS.icmpNo X229.here hx rfl (hb hby d_prog_16_method_4_code_11) rfl (by decide) ?_
    show Steps p.tables e below (T229.setTop (mkF m 14 #[.val (.ref w13), .val (.ref r226), .val (.int (5 : Int32)), .val (.int (1 : Int32)), .val (.ref w2)] [])) _
    refine XS.aloadN X229.here hx rfl (hb hby d_prog_16_method_4_code_14) rfl rfl ?_
    show Steps p.tables e below (T229.setTop (mkF m 15 #[.val (.ref w13), .val (.ref r226), .val (.int (5 : Int32)), .val (.int (1 : Int32)), .val (.ref w2)] [(.ref r226)])) _
    refine XS.iloadN X229.here hx rfl (hb hby d_prog_16_method_4_code_15) rfl ?_
    show Steps p.tables e below (T229.setTop (mkF m 16 #[.val (.ref w13), .val (.ref r226), .val (.int (5 : Int32)), .val (.int (1 : Int32)), .val (.ref w2)] [(.int (1 : Int32)), (.ref r226)])) _
    refine X229.aaload hx (j := (1 : Int32)) (v := (.ref w3)) (by rw [e229]; exact Ar230.1) (State.isArrayOf_alike hZ.alike Ar230.2.1) rfl Ar230.2.2 hin230 hat230 (g := (mkF m 16 #[.val (.ref w13), .val (.ref r226), .val (.int (5 : Int32)), .val (.int (1 : Int32)), .val (.ref w2)] [(.int (1 : Int32)), (.ref r226)])) rfl rfl (hb hby d_prog_16_method_4_code_16) _ ?_
    show Steps p.tables e below (T229.setTop (mkF m 17 #[.val (.ref w13), .val (.ref r226), .val (.int (5 : Int32)), .val (.int (1 : Int32)), .val (.ref w2)] [(.ref w3)])) _
    refine XS.astore X229.here hx rfl (hb hby d_prog_16_method_4_code_17) rfl rfl (l' := #[.val (.ref w13), .val (.ref r226), .val (.int (5 : Int32)), .val (.int (1 : Int32)), .val (.ref w3)]) rfl ?_
    show Steps p.tables e below (T229.setTop (mkF m 19 #[.val (.ref w13), .val (.ref r226), .val (.int (5 : Int32)), .val (.int (1 : Int32)), .val (.ref w3)] [])) _
    refine XS.aload X229.here hx rfl (hb hby d_prog_16_method_4_code_19) rfl rfl ?_
    show Steps p.tables e below (T229.setTop (mkF m 21 #[.val (.ref w13), .val (.ref r226), .val (.int (5 : Int32)), .val (.int (1 : Int32)), .val (.ref w3)] [(.ref w3)])) _
    refine st231 _ ?_
    show Steps p.tables e below (T231.setTop (mkF m 24 #[.val (.ref w13), .val (.ref r226), .val (.int (5 : Int32)), .val (.int (1 : Int32)), .val (.ref w3)] [(.ref w8)])) _
    refine XS.aloadN X231.here hx rfl (hb hby d_prog_16_method_4_code_24) rfl rfl ?_
    show Steps p.tables e below (T231.setTop (mkF m 25 #[.val (.ref w13), .val (.ref r226), .val (.int (5 : Int32)), .val (.int (1 : Int32)), .val (.ref w3)] [(.ref w13), (.ref w8)])) _
    refine Jvm.RoadKit.acmp (g := (mkF m 25 #[.val (.ref w13), .val (.ref r226), .val (.int (5 : Int32)), .val (.int (1 : Int32)), .val (.ref w3)] [(.ref w13), (.ref w8)])) X231 hx rfl rfl rfl (pc0 := 25) (pc' := 34) (same := false) rfl (hb hby d_prog_16_method_4_code_25) rfl (decide_eq_false fun q => (Fld.ne wF8_ordinal wF13_ordinal (fun q => absurd (Value.int.inj q) (by decide))) (Value.ref.inj q)) (by decide) (by decide) ?_
    show Steps p.tables e below (T231.setTop (mkF m 34 #[.val (.ref w13), .val (.ref r226), .val (.int (5 : Int32)), .val (.int (1 : Int32)), .val (.ref w3)] [])) _
    refine XS.iinc X231.here hx rfl (hb hby d_prog_16_method_4_code_34) rfl (l' := #[.val (.ref w13), .val (.ref r226), .val (.int (5 : Int32)), .val (.int (2 : Int32)), .val (.ref w3)]) rfl ?_
    show Steps p.tables e below (T231.setTop (mkF m 37 #[.val (.ref w13), .val (.ref r226), .val (.int (5 : Int32)), .val (.int (2 : Int32)), .val (.ref w3)] [])) _
    refine XS.goto X231.here hx rfl (pc0 := 37) (pc' := 9) rfl (hb hby d_prog_16_method_4_code_37) (by decide) (by decide) ?_
    show Steps p.tables e below (T231.setTop (mkF m 9 #[.val (.ref w13), .val (.ref r226), .val (.int (5 : Int32)), .val (.int (2 : Int32)), .val (.ref w3)] [])) _
    refine XS.iloadN X231.here hx rfl (hb hby d_prog_16_method_4_code_9) rfl ?_
    show Steps p.tables e below (T231.setTop (mkF m 10 #[.val (.ref w13), .val (.ref r226), .val (.int (5 : Int32)), .val (.int (2 : Int32)), .val (.ref w3)] [(.int (2 : Int32))])) _
    refine XS.iloadN X231.here hx rfl (hb hby d_prog_16_method_4_code_10) rfl ?_
    show Steps p.tables e below (T231.setTop (mkF m 11 #[.val (.ref w13), .val (.ref r226), .val (.int (5 : Int32)), .val (.int (2 : Int32)), .val (.ref w3)] [(.int (5 : Int32)), (.int (2 : Int32))])) _
    refine XS.icmpNo X231.here hx rfl (hb hby d_prog_16_method_4_code_11) rfl (by decide) ?_
    show Steps p.tables e below (T231.setTop (mkF m 14 #[.val (.ref w13), .val (.ref r226), .val (.int (5 : Int32)), .val (.int (2 : Int32)), .val (.ref w3)] [])) _
    refine XS.aloadN X231.here hx rfl (hb hby d_prog_16_method_4_code_14) rfl rfl ?_
    show Steps p.tables e below (T231.setTop (mkF m 15 #[.val (.ref w13), .val (.ref r226), .val (.int (5 : Int32)), .val (.int (2 : Int32)), .val (.ref w3)] [(.ref r226)])) _
    refine XS.iloadN X231.here hx rfl (hb hby d_prog_16_method_4_code_15) rfl ?_
    show Steps p.tables e below (T231.setTop (mkF m 16 #[.val (.ref w13), .val (.ref r226), .val (.int (5 : Int32)), .val (.int (2 : Int32)), .val (.ref w3)] [(.int (2 : Int32)), (.ref r226)])) _
    refine X231.aaload hx (j := (2 : Int32)) (v := (.ref w4)) (by rw [e231]; exact Ar232.1) (State.isArrayOf_alike hZ.alike Ar232.2.1) rfl Ar232.2.2 hin232 hat232 (g := (mkF m 16 #[.val (.ref w13), .val (.ref r226), .val (.int (5 : Int32)), .val (.int (2 : Int32)), .val (.ref w3)] [(.int (2 : Int32)), (.ref r226)])) rfl rfl (hb hby d_prog_16_method_4_code_16) _ ?_
    show Steps p.tables e below (T231.setTop (mkF m 17 #[.val (.ref w13), .val (.ref r226), .val (.int (5 : Int32)), .val (.int (2 : Int32)), .val (.ref w3)] [(.ref w4)])) _
    refine XS.astore X231.here hx rfl (hb hby d_prog_16_method_4_code_17) rfl rfl (l' := #[.val (.ref w13), .val (.ref r226), .val (.int (5 : Int32)), .val (.int (2 : Int32)), .val (.ref w4)]) rfl ?_
    show Steps p.tables e below (T231.setTop (mkF m 19 #[.val (.ref w13), .val (.ref r226), .val (.int (5 : Int32)), .val (.int (2 : Int32)), .val (.ref w4)] [])) _
    refine XS.aload X231.here hx rfl (hb hby d_prog_16_method_4_code_19) rfl rfl ?_
    show Steps p.tables e below (T231.setTop (mkF m 21 #[.val (.ref w13), .val (.ref r226), .val (.int (5 : Int32)), .val (.int (2 : Int32)), .val (.ref w4)] [(.ref w4)])) _
    refine st233 _ ?_
    show Steps p.tables e below (T233.setTop (mkF m 24 #[.val (.ref w13), .val (.ref r226), .val (.int (5 : Int32)), .val (.int (2 : Int32)), .val (.ref w4)] [(.ref w9)])) _
    refine XS.aloadN X233.here hx rfl (hb hby d_prog_16_method_4_code_24) rfl rfl ?_
    show Steps p.tables e below (T233.setTop (mkF m 25 #[.val (.ref w13), .val (.ref r226), .val (.int (5 : Int32)), .val (.int (2 : Int32)), .val (.ref w4)] [(.ref w13), (.ref w9)])) _
    refine Jvm.RoadKit.acmp (g := (mkF m 25 #[.val (.ref w13), .val (.ref r226), .val (.int (5 : Int32)), .val (.int (2 : Int32)), .val (.ref w4)] [(.ref w13), (.ref w9)])) X233 hx rfl rfl rfl (pc0 := 25) (pc' := 34) (same := false) rfl (hb hby d_prog_16_method_4_code_25) rfl (decide_eq_false fun q => (Fld.ne wF9_ordinal wF13_ordinal (fun q => absurd (Value.int.inj q) (by decide))) (Value.ref.inj q)) (by decide) (by decide) ?_
    show Steps p.tables e below (T233.setTop (mkF m 34 #[.val (.ref w13), .val (.ref r226), .val (.int (5 : Int32)), .val (.int (2 : Int32)), .val (.ref w4)] [])) _
    refine XS.iinc X233.here hx rfl (hb hby d_prog_16_method_4_code_34) rfl (l' := #[.val (.ref w13), .val (.ref r226), .val (.int (5 : Int32)), .val (.int (3 : Int32)), .val (.ref w4)]) rfl ?_
    show Steps p.tables e below (T233.setTop (mkF m 37 #[.val (.ref w13), .val (.ref r226), .val (.int (5 : Int32)), .val (.int (3 : Int32)), .val (.ref w4)] [])) _
    refine XS.goto X233.here hx rfl (pc0 := 37) (pc' := 9) rfl (hb hby d_prog_16_method_4_code_37) (by decide) (by decide) ?_
    show Steps p.tables e below (T233.setTop (mkF m 9 #[.val (.ref w13), .val (.ref r226), .val (.int (5 : Int32)), .val (.int (3 : Int32)), .val (.ref w4)] [])) _
    refine XS.iloadN X233.here hx rfl (hb hby d_prog_16_method_4_code_9) rfl ?_
    show Steps p.tables e below (T233.setTop (mkF m 10 #[.val (.ref w13), .val (.ref r226), .val (.int (5 : Int32)), .val (.int (3 : Int32)), .val (.ref w4)] [(.int (3 : Int32))])) _
    refine XS.iloadN X233.here hx rfl (hb hby d_prog_16_method_4_code_10) rfl ?_
    show Steps p.tables e below (T233.setTop (mkF m 11 #[.val (.ref w13), .val (.ref r226), .val (.int (5 : Int32)), .val (.int (3 : Int32)), .val (.ref w4)] [(.int (5 : Int32)), (.int (3 : Int32))])) _
    refine XS.icmpNo X233.here hx rfl (hb hby d_prog_16_method_4_code_11) rfl (by decide) ?_
    show Steps p.tables e below (T233.setTop (mkF m 14 #[.val (.ref w13), .val (.ref r226), .val (.int (5 : Int32)), .val (.int (3 : Int32)), .val (.ref w4)] [])) _
    refine XS.aloadN X233.here hx rfl (hb hby d_prog_16_method_4_code_14) rfl rfl ?_
    show Steps p.tables e below (T233.setTop (mkF m 15 #[.val (.ref w13), .val (.ref r226), .val (.int (5 : Int32)), .val (.int (3 : Int32)), .val (.ref w4)] [(.ref r226)])) _
    refine XS.iloadN X233.here hx rfl (hb hby d_prog_16_method_4_code_15) rfl ?_
    show Steps p.tables e below (T233.setTop (mkF m 16 #[.val (.ref w13), .val (.ref r226), .val (.int (5 : Int32)), .val (.int (3 : Int32)), .val (.ref w4)] [(.int (3 : Int32)), (.ref r226)])) _
    refine X233.aaload hx (j := (3 : Int32)) (v := (.ref w5)) (by rw [e233]; exact Ar234.1) (State.isArrayOf_alike hZ.alike Ar234.2.1) rfl Ar234.2.2 hin234 hat234 (g := (mkF m 16 #[.val (.ref w13), .val (.ref r226), .val (.int (5 : Int32)), .val (.int (3 : Int32)), .val (.ref w4)] [(.int (3 : Int32)), (.ref r226)])) rfl rfl (hb hby d_prog_16_method_4_code_16) _ ?_
    show Steps p.tables e below (T233.setTop (mkF m 17 #[.val (.ref w13), .val (.ref r226), .val (.int (5 : Int32)), .val (.int (3 : Int32)), .val (.ref w4)] [(.ref w5)])) _
    refine XS.astore X233.here hx rfl (hb hby d_prog_16_method_4_code_17) rfl rfl (l' := #[.val (.ref w13), .val (.ref r226), .val (.int (5 : Int32)), .val (.int (3 : Int32)), .val (.ref w5)]) rfl ?_
    show Steps p.tables e below (T233.setTop (mkF m 19 #[.val (.ref w13), .val (.ref r226), .val (.int (5 : Int32)), .val (.int (3 : Int32)), .val (.ref w5)] [])) _
    refine XS.aload X233.here hx rfl (hb hby d_prog_16_method_4_code_19) rfl rfl ?_
    show Steps p.tables e below (T233.setTop (mkF m 21 #[.val (.ref w13), .val (.ref r226), .val (.int (5 : Int32)), .val (.int (3 : Int32)), .val (.ref w5)] [(.ref w5)])) _
    refine st235 _ ?_
    show Steps p.tables e below (T235.setTop (mkF m 24 #[.val (.ref w13), .val (.ref r226), .val (.int (5 : Int32)), .val (.int (3 : Int32)), .val (.ref w5)] [(.ref w10)])) _
    refine XS.aloadN X235.here hx rfl (hb hby d_prog_16_method_4_code_24) rfl rfl ?_
    show Steps p.tables e below (T235.setTop (mkF m 25 #[.val (.ref w13), .val (.ref r226), .val (.int (5 : Int32)), .val (.int (3 : Int32)), .val (.ref w5)] [(.ref w13), (.ref w10)])) _
    refine Jvm.RoadKit.acmp (g := (mkF m 25 #[.val (.ref w13), .val (.ref r226), .val (.int (5 : Int32)), .val (.int (3 : Int32)), .val (.ref w5)] [(.ref w13), (.ref w10)])) X235 hx rfl rfl rfl (pc0 := 25) (pc' := 34) (same := false) rfl (hb hby d_prog_16_method_4_code_25) rfl (decide_eq_false fun q => (Fld.ne wF10_ordinal wF13_ordinal (fun q => absurd (Value.int.inj q) (by decide))) (Value.ref.inj q)) (by decide) (by decide) ?_
    show Steps p.tables e below (T235.setTop (mkF m 34 #[.val (.ref w13), .val (.ref r226), .val (.int (5 : Int32)), .val (.int (3 : Int32)), .val (.ref w5)] [])) _
    refine XS.iinc X235.here hx rfl (hb hby d_prog_16_method_4_code_34) rfl (l' := #[.val (.ref w13), .val (.ref r226), .val (.int (5 : Int32)), .val (.int (4 : Int32)), .val (.ref w5)]) rfl ?_
    show Steps p.tables e below (T235.setTop (mkF m 37 #[.val (.ref w13), .val (.ref r226), .val (.int (5 : Int32)), .val (.int (4 : Int32)), .val (.ref w5)] [])) _
    refine XS.goto X235.here hx rfl (pc0 := 37) (pc' := 9) rfl (hb hby d_prog_16_method_4_code_37) (by decide) (by decide) ?_
    show Steps p.tables e below (T235.setTop (mkF m 9 #[.val (.ref w13), .val (.ref r226), .val (.int (5 : Int32)), .val (.int (4 : Int32)), .val (.ref w5)] [])) _
    refine XS.iloadN X235.here hx rfl (hb hby d_prog_16_method_4_code_9) rfl ?_
    show Steps p.tables e below (T235.setTop (mkF m 10 #[.val (.ref w13), .val (.ref r226), .val (.int (5 : Int32)), .val (.int (4 : Int32)), .val (.ref w5)] [(.int (4 : Int32))])) _
    refine XS.iloadN X235.here hx rfl (hb hby d_prog_16_method_4_code_10) rfl ?_
    show Steps p.tables e below (T235.setTop (mkF m 11 #[.val (.ref w13), .val (.ref r226), .val (.int (5 : Int32)), .val (.int (4 : Int32)), .val (.ref w5)] [(.int (5 : Int32)), (.int (4 : Int32))])) _
    refine XS.icmpNo X235.here hx rfl (hb hby d_prog_16_method_4_code_11) rfl (by decide) ?_
    show Steps p.tables e below (T235.setTop (mkF m 14 #[.val (.ref w13), .val (.ref r226), .val (.int (5 : Int32)), .val (.int (4 : Int32)), .val (.ref w5)] [])) _
    refine XS.aloadN X235.here hx rfl (hb hby d_prog_16_method_4_code_14) rfl rfl ?_
    show Steps p.tables e below (T235.setTop (mkF m 15 #[.val (.ref w13), .val (.ref r226), .val (.int (5 : Int32)), .val (.int (4 : Int32)), .val (.ref w5)] [(.ref r226)])) _
    refine XS.iloadN X235.here hx rfl (hb hby d_prog_16_method_4_code_15) rfl ?_
    show Steps p.tables e below (T235.setTop (mkF m 16 #[.val (.ref w13), .val (.ref r226), .val (.int (5 : Int32)), .val (.int (4 : Int32)), .val (.ref w5)] [(.int (4 : Int32)), (.ref r226)])) _
    refine X235.aaload hx (j := (4 : Int32)) (v := (.ref w6)) (by rw [e235]; exact Ar236.1) (State.isArrayOf_alike hZ.alike Ar236.2.1) rfl Ar236.2.2 hin236 hat236 (g := (mkF m 16 #[.val (.ref w13), .val (.ref r226), .val (.int (5 : Int32)), .val (.int (4 : Int32)), .val (.ref w5)] [(.int (4 : Int32)), (.ref r226)])) rfl rfl (hb hby d_prog_16_method_4_code_16) _ ?_
    show Steps p.tables e below (T235.setTop (mkF m 17 #[.val (.ref w13), .val (.ref r226), .val (.int (5 : Int32)), .val (.int (4 : Int32)), .val (.ref w5)] [(.ref w6)])) _
    refine XS.astore X235.here hx rfl (hb hby d_prog_16_method_4_code_17) rfl rfl (l' := #[.val (.ref w13), .val (.ref r226), .val (.int (5 : Int32)), .val (.int (4 : Int32)), .val (.ref w6)]) rfl ?_
    show Steps p.tables e below (T235.setTop (mkF m 19 #[.val (.ref w13), .val (.ref r226), .val (.int (5 : Int32)), .val (.int (4 : Int32)), .val (.ref w6)] [])) _
    refine XS.aload X235.here hx rfl (hb hby d_prog_16_method_4_code_19) rfl rfl ?_
    show Steps p.tables e below (T235.setTop (mkF m 21 #[.val (.ref w13), .val (.ref r226), .val (.int (5 : Int32)), .val (.int (4 : Int32)), .val (.ref w6)] [(.ref w6)])) _
    refine st237 _ ?_
    show Steps p.tables e below (T237.setTop (mkF m 24 #[.val (.ref w13), .val (.ref r226), .val (.int (5 : Int32)), .val (.int (4 : Int32)), .val (.ref w6)] [(.ref w11)])) _
    refine XS.aloadN X237.here hx rfl (hb hby d_prog_16_method_4_code_24) rfl rfl ?_
    show Steps p.tables e below (T237.setTop (mkF m 25 #[.val (.ref w13), .val (.ref r226), .val (.int (5 : Int32)), .val (.int (4 : Int32)), .val (.ref w6)] [(.ref w13), (.ref w11)])) _
    refine Jvm.RoadKit.acmp (g := (mkF m 25 #[.val (.ref w13), .val (.ref r226), .val (.int (5 : Int32)), .val (.int (4 : Int32)), .val (.ref w6)] [(.ref w13), (.ref w11)])) X237 hx rfl rfl rfl (pc0 := 25) (pc' := 34) (same := false) rfl (hb hby d_prog_16_method_4_code_25) rfl (decide_eq_false fun q => (Fld.ne wF11_ordinal wF13_ordinal (fun q => absurd (Value.int.inj q) (by decide))) (Value.ref.inj q)) (by decide) (by decide) ?_
    show Steps p.tables e below (T237.setTop (mkF m 34 #[.val (.ref w13), .val (.ref r226), .val (.int (5 : Int32)), .val (.int (4 : Int32)), .val (.ref w6)] [])) _
    refine XS.iinc X237.here hx rfl (hb hby d_prog_16_method_4_code_34) rfl (l' := #[.val (.ref w13), .val (.ref r226), .val (.int (5 : Int32)), .val (.int (5 : Int32)), .val (.ref w6)]) rfl ?_
    show Steps p.tables e below (T237.setTop (mkF m 37 #[.val (.ref w13), .val (.ref r226), .val (.int (5 : Int32)), .val (.int (5 : Int32)), .val (.ref w6)] [])) _
    refine XS.goto X237.here hx rfl (pc0 := 37) (pc' := 9) rfl (hb hby d_prog_16_method_4_code_37) (by decide) (by decide) ?_
    show Steps p.tables e below (T237.setTop (mkF m 9 #[.val (.ref w13), .val (.ref r226), .val (.int (5 : Int32)), .val (.int (5 : Int32)), .val (.ref w6)] [])) _
    refine XS.iloadN X237.here hx rfl (hb hby d_prog_16_method_4_code_9) rfl ?_
    show Steps p.tables e below (T237.setTop (mkF m 10 #[.val (.ref w13), .val (.ref r226), .val (.int (5 : Int32)), .val (.int (5 : Int32)), .val (.ref w6)] [(.int (5 : Int32))])) _
    refine XS.iloadN X237.here hx rfl (hb hby d_prog_16_method_4_code_10) rfl ?_
    show Steps p.tables e below (T237.setTop (mkF m 11 #[.val (.ref w13), .val (.ref r226), .val (.int (5 : Int32)), .val (.int (5 : Int32)), .val (.ref w6)] [(.int (5 : Int32)), (.int (5 : Int32))])) _
    refine XS.icmpYes X237.here hx rfl (pc0 := 11) (pc' := 40) rfl (hb hby d_prog_16_method_4_code_11) rfl (by decide) (by decide) (by decide) ?_
    show Steps p.tables e below (T237.setTop (mkF m 40 #[.val (.ref w13), .val (.ref r226), .val (.int (5 : Int32)), .val (.int (5 : Int32)), .val (.ref w6)] [])) _
    refine st238 _ ?_
    show Steps p.tables e below (T238.setTop (mkF m 43 #[.val (.ref w13), .val (.ref r226), .val (.int (5 : Int32)), .val (.int (5 : Int32)), .val (.ref w6)] [(.ref w17)])) _
    exact retOut X238 hx (t := (.object "java/util/Optional")) (i := .areturn) Bd.returns rfl (Or.inr (Or.inr (Or.inr (Or.inr ⟨rfl, rfl, rfl⟩)))) (hb hby d_prog_16_method_4_code_43) hr
  · show Qerm56 Z w0 w1 w2 w3 w4 w5 w6 w7 w8 w9 w10 w11 w12 w13 w14 w15 w16 w17 h0 n0 _ T238.heap _
    rw [e238]
    exact ⟨rfl, N238, Kp226, O_226⟩
theorem ef36 (m : MethodId) (i0 : Int32)   : entryFrame m #[(.int i0)] maxLocals = mkF m 0 #[.val (.int i0), .unset, .unset, .unset, .unset] [] := by first | (simp [entryFrame, mkF, argsToLocals, Value.category, maxLocals]; done) | rfl
set_option maxRecDepth 65536 in
set_option maxHeartbeats 40000000 in
theorem rm0 (l : Launch) (Z : State) (a0 : Array Value) (hw : ∀ d ∈ tables_1, d.before a0 Z = true) (ws : List Jvm.Cond) (w0 w1 w2 w3 w4 w5 w6 w7 w8 w9 w10 w11 w12 w13 w14 w15 w16 w17 : Addr) (i0 : Int32) (h0 : Heap) (n0 : Nat) (hWd : Wd Z w0 w1 w2 w3 w4 w5 w6 w7 w8 w9 w10 w11 w12 w13 w14 w15 w16 w17) (O0 : Old Z n0 h0) :
    MetFree l x (head1 (Jvm.Cond.code x code maxLocals ret :: ws) room_1) (fun a U => a = #[(.int i0)] ∧ Z.Warmed39 U.vm ∧ U.heap = h0) (fun _ _ _ _ _ => True) (fun _ U o U' => ∃ v L, o = .returned v ∧ Ql n0 v U'.heap L ∧ FrameEnd U o U' L room_1.cells room_1.slots) := by
  refine MetFree.of_bodySF (plainFor_of_name pn0) hisR ?_
  intro p e s m args below meth c s₁ Bd hml0 hP hK
  obtain ⟨rfl, hZ, hh⟩ := hP
  have hx := Bd.exec
  have hby := Bd.bytes
  have hml : c.maxLocals = 5 := hml0
  have hown : s.vm.findClass "com/example/weaverbird/weaverbird/queues/RunActionOfPinLaw" = some m.cls := findClass_of_methodNamed Bd.named
  have hnm := (name_of_methodNamed Bd.named Bd.method).1
  have X0 : Stand p l e room_1 s m #[(.int i0)] below meth c s₁ [] 0 0 := Stand.of_body Bd
  have e0 : s₁.heap = h0 := by rw [← hh, Bd.state]; rfl
  have N0 := Fr.nil n0
  have hlk := Bd.notSynchronized
  obtain ⟨wS0, wE0, wS1, wE1, wS2, wE2, wS3, wE3, wS4, wE4, wS5, wE5, wS6, wE6, wS7, wE7, wS8, wE8, wS9, wE9, wS10, wE10, wS11, wE11, wS12, wE12, wS13, wE13, wS14, wE14, wS15, wE15, wS16, wE16, wS17, wE17, wF2_type, wF7_ordinal, wF0_ordinal, wF3_type, wF8_ordinal, wF4_type, wF9_ordinal, wF5_type, wF10_ordinal, wF6_type, wF11_ordinal, wF12_ordinal, wF13_ordinal, wF14_ordinal, wF15_ordinal, wF16_ordinal, wF17_value, wA, -⟩ := id hWd
  have pre0 : ∀ t, Steps p.tables e below (s₁.setTop (mkF m 0 #[.val (.int i0), .unset, .unset, .unset, .unset] [])) t → Steps p.tables e below (s₁.setTop (entryFrame m #[(.int i0)] maxLocals)) t := fun t k => castTop (ef36 m i0) k
  have pre1 : ∀ t, Steps p.tables e below (s₁.setTop (mkF m 6 #[.val (.int i0), .unset, .unset, .unset, .unset] [(.int (11 : Int32)), (.int (i0 &&& (2147483647 : Int32)))])) t → Steps p.tables e below (s₁.setTop (entryFrame m #[(.int i0)] maxLocals)) t := by
    intro t k
    refine pre0 _ ?_
    show Steps p.tables e below (s₁.setTop (mkF m 0 #[.val (.int i0), .unset, .unset, .unset, .unset] [])) _
    refine XS.iloadN X0.here hx rfl (hb hby at_0) rfl ?_
    show Steps p.tables e below (s₁.setTop (mkF m 1 #[.val (.int i0), .unset, .unset, .unset, .unset] [(.int i0)])) _
    refine X0.ldcInt hx hown (mvT hZ (hw _ (List.mem_of_getElem? (i := 0) rfl))) (g := (mkF m 1 #[.val (.int i0), .unset, .unset, .unset, .unset] [(.int i0)])) rfl (hb hby at_1) _ ?_
    show Steps p.tables e below (s₁.setTop (mkF m 3 #[.val (.int i0), .unset, .unset, .unset, .unset] [(.int (2147483647 : Int32)), (.int i0)])) _
    refine XS.iand X0.here hx rfl (hb hby at_3) rfl ?_
    show Steps p.tables e below (s₁.setTop (mkF m 4 #[.val (.int i0), .unset, .unset, .unset, .unset] [(.int (i0 &&& (2147483647 : Int32)))])) _
    refine XS.bipush X0.here hx rfl (hb hby at_4) ?_
    show Steps p.tables e below (s₁.setTop (mkF m 6 #[.val (.int i0), .unset, .unset, .unset, .unset] [(.int (11 : Int32)), (.int (i0 &&& (2147483647 : Int32)))])) _
    exact k
  rcases own_rem_11 i0 with hk2 | hk3 | hk4 | hk5 | hk6 | hk7 | hk8 | hk9 | hk10 | hk11 | hk12
  · obtain ⟨_, _, ⟨T14, L14, k14, n14⟩, -, X14, ⟨Lc14, hQ14, l14, y14, z14⟩, st14⟩ := Jvm.LawKit.callS X0 hx (y := (⟨"com/example/weaverbird/weaverbird/queues/RunActionOfPinLaw", "typeAt", "(I)Lcom/example/weaverbird/weaverbird/codes/CommandType;"⟩ : MethodName)) hown (mvT hZ (hw _ (List.mem_of_getElem? (i := 1) rfl))) (mvT hZ (hw _ (List.mem_of_getElem? (i := 2) rfl))) (mvT hZ (hw _ (List.mem_of_getElem? (i := 3) rfl))) (mvT hZ (hw _ (List.mem_of_getElem? (i := 4) rfl))) (by decide) (backOf (W := 0) (rm1 l Z a0 hw [] w0 w1 w2 w3 w4 w5 w6 w7 w8 w9 w10 w11 w12 w13 w14 w15 w16 w17 h0 n0 hWd O0) hZ (hw _ (List.mem_of_getElem? (i := 4) rfl)) (hw _ (List.mem_of_getElem? (i := 3) rfl)) (by decide) (by decide)) (g := (mkF m 9 #[.val (.int i0), .val (.int (0 : Int32)), .unset, .unset, .unset] [(.int (0 : Int32))])) rfl (by rw [hml]; rfl) (argsL := [(.int (0 : Int32))]) (rest := []) (lenOf pd0 rfl) rfl (by show 2 * 0 + _ ≤ _; exact Nat.le_of_eq rfl) (hb hby at_9) (fun _ _ => ⟨rfl, e0, (by decide : 0 + 0 ≤ _), (by decide : 0 + 0 ≤ _)⟩)
    dsimp only [Pt.U, Pt.locs, Pt.cells, Pt.slots] at X14 l14 y14 z14 st14 hQ14
    subst l14 y14 z14
    obtain ⟨rfl, N14q, e14⟩ := hQ14
    have N14 := Fr.app N0 N14q
    obtain ⟨_, _, ⟨T15, L15, k15, n15⟩, -, X15, ⟨Lc15, hQ15, l15, y15, z15⟩, st15⟩ := Jvm.LawKit.callS X14 hx (y := (⟨"com/example/weaverbird/weaverbird/queues/RunActionOfPinLaw", "expectedFor", "(I)Lcom/example/weaverbird/weaverbird/queues/RunAction;"⟩ : MethodName)) hown (mvT hZ (hw _ (List.mem_of_getElem? (i := 8) rfl))) (mvT hZ (hw _ (List.mem_of_getElem? (i := 9) rfl))) (mvT hZ (hw _ (List.mem_of_getElem? (i := 3) rfl))) (mvT hZ (hw _ (List.mem_of_getElem? (i := 10) rfl))) (by decide) (backOf (W := 0) (rm2 l Z a0 hw [] w0 w1 w2 w3 w4 w5 w6 w7 w8 w9 w10 w11 w12 w13 w14 w15 w16 w17 h0 n0 hWd O0) hZ (hw _ (List.mem_of_getElem? (i := 10) rfl)) (hw _ (List.mem_of_getElem? (i := 3) rfl)) (by decide) (by decide)) (g := (mkF m 14 #[.val (.int i0), .val (.int (0 : Int32)), .val (.ref w0), .unset, .unset] [(.int (0 : Int32))])) rfl (by rw [hml]; rfl) (argsL := [(.int (0 : Int32))]) (rest := []) (lenOf pd1 rfl) rfl (by show 2 * 0 + _ ≤ _; exact Nat.le_of_eq rfl) (hb hby at_14) (fun _ _ => ⟨rfl, e14, (by decide : 0 + 0 ≤ _), (by decide : 0 + 0 ≤ _)⟩)
    dsimp only [Pt.U, Pt.locs, Pt.cells, Pt.slots] at X15 l15 y15 z15 st15 hQ15
    subst l15 y15 z15
    obtain ⟨rfl, N15q, e15⟩ := hQ15
    have N15 := Fr.app N14 N15q
    obtain ⟨_, _, ⟨T33, L33, k33, n33⟩, -, X33, ⟨Lc33, hQ33, l33, y33, z33⟩, st33⟩ := Jvm.LawKit.callS X15 hx (y := (⟨"com/example/weaverbird/weaverbird/queues/RunAction", "of", "(Lcom/example/weaverbird/weaverbird/codes/CommandType;)Ljava/util/Optional;"⟩ : MethodName)) hown (mvT hZ (hw _ (List.mem_of_getElem? (i := 11) rfl))) (mvT hZ (hw _ (List.mem_of_getElem? (i := 12) rfl))) (mvT hZ (hw _ (List.mem_of_getElem? (i := 13) rfl))) (mvT hZ (hw _ (List.mem_of_getElem? (i := 14) rfl))) (by decide) (backOf (W := 0) (rm3 l Z a0 hw [] w0 w1 w2 w3 w4 w5 w6 w7 w8 w9 w10 w11 w12 w13 w14 w15 w16 w17 h0 n0 hWd O0) hZ (hw _ (List.mem_of_getElem? (i := 14) rfl)) (hw _ (List.mem_of_getElem? (i := 13) rfl)) (by decide) (by decide)) (g := (mkF m 19 #[.val (.int i0), .val (.int (0 : Int32)), .val (.ref w0), .val .null, .unset] [(.ref w0)])) rfl (by rw [hml]; rfl) (argsL := [(.ref w0)]) (rest := []) (lenOf pd4 rfl) rfl (by show 2 * 0 + _ ≤ _; exact Nat.le_of_eq rfl) (hb hby at_19) (fun _ _ => ⟨rfl, e15, (by decide : 0 + 1 ≤ _), (by decide : 0 + 5 ≤ _)⟩)
    dsimp only [Pt.U, Pt.locs, Pt.cells, Pt.slots] at X33 l33 y33 z33 st33 hQ33
    subst l33 y33 z33
    obtain ⟨rfl, N33q, K33, O_33⟩ := hQ33
    have N33 := Fr.app N15 N33q
    obtain ⟨cq35, kq35, q35a, q35b, q35c⟩ := isOf hZ rfl (wE17.ext O_33.2)
    obtain ⟨_, _, ⟨T35, L35, k35, n35⟩, -, X35, ⟨Lc35, hQ35, l35, y35, z35⟩, st35⟩ := X33.virtualBack hx (y := (⟨"java/util/Optional", "orElse", "(Ljava/lang/Object;)Ljava/lang/Object;"⟩ : MethodName)) (z := (⟨"java/util/Optional", "orElse", "(Ljava/lang/Object;)Ljava/lang/Object;"⟩ : MethodName)) hown (mvT hZ (hw _ (List.mem_of_getElem? (i := 47) rfl))) (mvT hZ (hw _ (List.mem_of_getElem? (i := 48) rfl))) (notFace_of_selects (args := #[]) (mvT hZ (hw _ (List.mem_of_getElem? (i := 50) rfl)))) (mvT hZ (hw _ (List.mem_of_getElem? (i := 50) rfl))) (mvT hZ (hw _ (List.mem_of_getElem? (i := 49) rfl))) (by decide) (backOf (W := 0) (rm6 l Z a0 hw [] w0 w1 w2 w3 w4 w5 w6 w7 w8 w9 w10 w11 w12 w13 w14 w15 w16 w17 T33.heap n0 hWd O_33) hZ (hw _ (List.mem_of_getElem? (i := 51) rfl)) (hw _ (List.mem_of_getElem? (i := 44) rfl)) (by decide) (by decide)) q35a q35c (g := (mkF m 23 #[.val (.int i0), .val (.int (0 : Int32)), .val (.ref w0), .val .null, .unset] [.null, (.ref w17)])) rfl (by rw [hml]; rfl) (Steps.refl _) (argsL := [.null]) (rest := []) (lenOf pd5 rfl) rfl (by show 2 * 0 + _ ≤ _; exact Nat.le_of_eq rfl) (hb hby at_23) (fun _ _ => ⟨rfl, rfl, (by decide : 1 + 0 ≤ _), (by decide : 5 + 0 ≤ _)⟩)
    dsimp only [Pt.U, Pt.locs, Pt.cells, Pt.slots] at X35 l35 y35 z35 st35 hQ35
    subst l35 y35 z35
    obtain ⟨rfl, N35q, e35⟩ := hQ35
    have N35 := Fr.app N33 N35q
    obtain ⟨fs, hr, hrun, hended, hWr, hsame⟩ := X35.leave (v := some (.int (1 : Int32))) (fun h => by rw [Bd.returns] at h; cases h) hlk
    refine ⟨_, _, pre1 _ ?_, hrun, hended, _, _, rfl, ?_, ⟨_, rfl⟩, hWr, hsame.mono (Nat.le_of_ble_eq_true rfl) (Nat.le_of_ble_eq_true rfl)⟩
    · show Steps p.tables e below (s₁.setTop (mkF m 6 #[.val (.int i0), .unset, .unset, .unset, .unset] [(.int (11 : Int32)), (.int (i0 &&& (2147483647 : Int32)))])) _
      refine iremM X0 hx rfl (hb hby at_6) rfl (by decide) ?_
      show Steps p.tables e below (s₁.setTop (mkF m 7 #[.val (.int i0), .unset, .unset, .unset, .unset] [(.int ((i0 &&& (2147483647 : Int32)) % (11 : Int32)))])) _
      rw [hk2]
      show Steps p.tables e below (s₁.setTop (mkF m 7 #[.val (.int i0), .unset, .unset, .unset, .unset] [(.int (0 : Int32))])) _
      refine XS.istoreN X0.here hx rfl (hb hby at_7) rfl (l' := #[.val (.int i0), .val (.int (0 : Int32)), .unset, .unset, .unset]) rfl ?_
      show Steps p.tables e below (s₁.setTop (mkF m 8 #[.val (.int i0), .val (.int (0 : Int32)), .unset, .unset, .unset] [])) _
      refine XS.iloadN X0.here hx rfl (hb hby at_8) rfl ?_
      show Steps p.tables e below (s₁.setTop (mkF m 9 #[.val (.int i0), .val (.int (0 : Int32)), .unset, .unset, .unset] [(.int (0 : Int32))])) _
      refine st14 _ ?_
      show Steps p.tables e below (T14.setTop (mkF m 12 #[.val (.int i0), .val (.int (0 : Int32)), .unset, .unset, .unset] [(.ref w0)])) _
      refine XS.astoreN X14.here hx rfl (hb hby at_12) rfl rfl (l' := #[.val (.int i0), .val (.int (0 : Int32)), .val (.ref w0), .unset, .unset]) rfl ?_
      show Steps p.tables e below (T14.setTop (mkF m 13 #[.val (.int i0), .val (.int (0 : Int32)), .val (.ref w0), .unset, .unset] [])) _
      refine XS.iloadN X14.here hx rfl (hb hby at_13) rfl ?_
      show Steps p.tables e below (T14.setTop (mkF m 14 #[.val (.int i0), .val (.int (0 : Int32)), .val (.ref w0), .unset, .unset] [(.int (0 : Int32))])) _
      refine st15 _ ?_
      show Steps p.tables e below (T15.setTop (mkF m 17 #[.val (.int i0), .val (.int (0 : Int32)), .val (.ref w0), .unset, .unset] [.null])) _
      refine XS.astoreN X15.here hx rfl (hb hby at_17) rfl rfl (l' := #[.val (.int i0), .val (.int (0 : Int32)), .val (.ref w0), .val .null, .unset]) rfl ?_
      show Steps p.tables e below (T15.setTop (mkF m 18 #[.val (.int i0), .val (.int (0 : Int32)), .val (.ref w0), .val .null, .unset] [])) _
      refine XS.aloadN X15.here hx rfl (hb hby at_18) rfl rfl ?_
      show Steps p.tables e below (T15.setTop (mkF m 19 #[.val (.int i0), .val (.int (0 : Int32)), .val (.ref w0), .val .null, .unset] [(.ref w0)])) _
      refine st33 _ ?_
      show Steps p.tables e below (T33.setTop (mkF m 22 #[.val (.int i0), .val (.int (0 : Int32)), .val (.ref w0), .val .null, .unset] [(.ref w17)])) _
      refine XS.aconstNull X33.here hx rfl (hb hby at_22) ?_
      show Steps p.tables e below (T33.setTop (mkF m 23 #[.val (.int i0), .val (.int (0 : Int32)), .val (.ref w0), .val .null, .unset] [.null, (.ref w17)])) _
      refine st35.trans ?_
      show Steps p.tables e below (T35.setTop (mkF m 26 #[.val (.int i0), .val (.int (0 : Int32)), .val (.ref w0), .val .null, .unset] [.null])) _
      refine X35.checkcastNull hx (g := (mkF m 26 #[.val (.int i0), .val (.int (0 : Int32)), .val (.ref w0), .val .null, .unset] [.null])) rfl rfl (hb hby at_26) _ ?_
      show Steps p.tables e below (T35.setTop (mkF m 29 #[.val (.int i0), .val (.int (0 : Int32)), .val (.ref w0), .val .null, .unset] [.null])) _
      refine XS.astore X35.here hx rfl (hb hby at_29) rfl rfl (l' := #[.val (.int i0), .val (.int (0 : Int32)), .val (.ref w0), .val .null, .val .null]) rfl ?_
      show Steps p.tables e below (T35.setTop (mkF m 31 #[.val (.int i0), .val (.int (0 : Int32)), .val (.ref w0), .val .null, .val .null] [])) _
      refine XS.aload X35.here hx rfl (hb hby at_31) rfl rfl ?_
      show Steps p.tables e below (T35.setTop (mkF m 33 #[.val (.int i0), .val (.int (0 : Int32)), .val (.ref w0), .val .null, .val .null] [.null])) _
      refine XS.aloadN X35.here hx rfl (hb hby at_33) rfl rfl ?_
      show Steps p.tables e below (T35.setTop (mkF m 34 #[.val (.int i0), .val (.int (0 : Int32)), .val (.ref w0), .val .null, .val .null] [.null, .null])) _
      refine Jvm.RoadKit.acmp (g := (mkF m 34 #[.val (.int i0), .val (.int (0 : Int32)), .val (.ref w0), .val .null, .val .null] [.null, .null])) X35 hx rfl rfl rfl (pc0 := 34) (pc' := 37) (same := true) rfl (hb hby at_34) rfl (decide_eq_true rfl) (by decide) (by decide) ?_
      show Steps p.tables e below (T35.setTop (mkF m 37 #[.val (.int i0), .val (.int (0 : Int32)), .val (.ref w0), .val .null, .val .null] [])) _
      refine XS.iconst X35.here hx rfl (hb hby at_37) ?_
      show Steps p.tables e below (T35.setTop (mkF m 38 #[.val (.int i0), .val (.int (0 : Int32)), .val (.ref w0), .val .null, .val .null] [(.int (1 : Int32))])) _
      refine XS.goto X35.here hx rfl (pc0 := 38) (pc' := 42) rfl (hb hby at_38) (by decide) (by decide) ?_
      show Steps p.tables e below (T35.setTop (mkF m 42 #[.val (.int i0), .val (.int (0 : Int32)), .val (.ref w0), .val .null, .val .null] [(.int (1 : Int32))])) _
      exact retN X35 hx (t := .boolean) Bd.returns (by simp) (hb hby at_42) hr
    · show Ql n0 _ T35.heap _
      exact ⟨rfl, N35⟩
  · obtain ⟨_, _, ⟨T37, L37, k37, n37⟩, -, X37, ⟨Lc37, hQ37, l37, y37, z37⟩, st37⟩ := Jvm.LawKit.callS X0 hx (y := (⟨"com/example/weaverbird/weaverbird/queues/RunActionOfPinLaw", "typeAt", "(I)Lcom/example/weaverbird/weaverbird/codes/CommandType;"⟩ : MethodName)) hown (mvT hZ (hw _ (List.mem_of_getElem? (i := 1) rfl))) (mvT hZ (hw _ (List.mem_of_getElem? (i := 2) rfl))) (mvT hZ (hw _ (List.mem_of_getElem? (i := 3) rfl))) (mvT hZ (hw _ (List.mem_of_getElem? (i := 4) rfl))) (by decide) (backOf (W := 0) (rm7 l Z a0 hw [] w0 w1 w2 w3 w4 w5 w6 w7 w8 w9 w10 w11 w12 w13 w14 w15 w16 w17 h0 n0 hWd O0) hZ (hw _ (List.mem_of_getElem? (i := 4) rfl)) (hw _ (List.mem_of_getElem? (i := 3) rfl)) (by decide) (by decide)) (g := (mkF m 9 #[.val (.int i0), .val (.int (1 : Int32)), .unset, .unset, .unset] [(.int (1 : Int32))])) rfl (by rw [hml]; rfl) (argsL := [(.int (1 : Int32))]) (rest := []) (lenOf pd0 rfl) rfl (by show 2 * 0 + _ ≤ _; exact Nat.le_of_eq rfl) (hb hby at_9) (fun _ _ => ⟨rfl, e0, (by decide : 0 + 0 ≤ _), (by decide : 0 + 0 ≤ _)⟩)
    dsimp only [Pt.U, Pt.locs, Pt.cells, Pt.slots] at X37 l37 y37 z37 st37 hQ37
    subst l37 y37 z37
    obtain ⟨rfl, N37q, e37⟩ := hQ37
    have N37 := Fr.app N0 N37q
    obtain ⟨_, _, ⟨T38, L38, k38, n38⟩, -, X38, ⟨Lc38, hQ38, l38, y38, z38⟩, st38⟩ := Jvm.LawKit.callS X37 hx (y := (⟨"com/example/weaverbird/weaverbird/queues/RunActionOfPinLaw", "expectedFor", "(I)Lcom/example/weaverbird/weaverbird/queues/RunAction;"⟩ : MethodName)) hown (mvT hZ (hw _ (List.mem_of_getElem? (i := 8) rfl))) (mvT hZ (hw _ (List.mem_of_getElem? (i := 9) rfl))) (mvT hZ (hw _ (List.mem_of_getElem? (i := 3) rfl))) (mvT hZ (hw _ (List.mem_of_getElem? (i := 10) rfl))) (by decide) (backOf (W := 0) (rm8 l Z a0 hw [] w0 w1 w2 w3 w4 w5 w6 w7 w8 w9 w10 w11 w12 w13 w14 w15 w16 w17 h0 n0 hWd O0) hZ (hw _ (List.mem_of_getElem? (i := 10) rfl)) (hw _ (List.mem_of_getElem? (i := 3) rfl)) (by decide) (by decide)) (g := (mkF m 14 #[.val (.int i0), .val (.int (1 : Int32)), .val (.ref w14), .unset, .unset] [(.int (1 : Int32))])) rfl (by rw [hml]; rfl) (argsL := [(.int (1 : Int32))]) (rest := []) (lenOf pd1 rfl) rfl (by show 2 * 0 + _ ≤ _; exact Nat.le_of_eq rfl) (hb hby at_14) (fun _ _ => ⟨rfl, e37, (by decide : 0 + 0 ≤ _), (by decide : 0 + 0 ≤ _)⟩)
    dsimp only [Pt.U, Pt.locs, Pt.cells, Pt.slots] at X38 l38 y38 z38 st38 hQ38
    subst l38 y38 z38
    obtain ⟨rfl, N38q, e38⟩ := hQ38
    have N38 := Fr.app N37 N38q
    obtain ⟨_, _, ⟨T52, L52, k52, n52⟩, -, X52, ⟨Lc52, hQ52, l52, y52, z52⟩, st52⟩ := Jvm.LawKit.callS X38 hx (y := (⟨"com/example/weaverbird/weaverbird/queues/RunAction", "of", "(Lcom/example/weaverbird/weaverbird/codes/CommandType;)Ljava/util/Optional;"⟩ : MethodName)) hown (mvT hZ (hw _ (List.mem_of_getElem? (i := 11) rfl))) (mvT hZ (hw _ (List.mem_of_getElem? (i := 12) rfl))) (mvT hZ (hw _ (List.mem_of_getElem? (i := 13) rfl))) (mvT hZ (hw _ (List.mem_of_getElem? (i := 14) rfl))) (by decide) (backOf (W := 0) (rm9 l Z a0 hw [] w0 w1 w2 w3 w4 w5 w6 w7 w8 w9 w10 w11 w12 w13 w14 w15 w16 w17 h0 n0 hWd O0) hZ (hw _ (List.mem_of_getElem? (i := 14) rfl)) (hw _ (List.mem_of_getElem? (i := 13) rfl)) (by decide) (by decide)) (g := (mkF m 19 #[.val (.int i0), .val (.int (1 : Int32)), .val (.ref w14), .val .null, .unset] [(.ref w14)])) rfl (by rw [hml]; rfl) (argsL := [(.ref w14)]) (rest := []) (lenOf pd4 rfl) rfl (by show 2 * 0 + _ ≤ _; exact Nat.le_of_eq rfl) (hb hby at_19) (fun _ _ => ⟨rfl, e38, (by decide : 0 + 1 ≤ _), (by decide : 0 + 5 ≤ _)⟩)
    dsimp only [Pt.U, Pt.locs, Pt.cells, Pt.slots] at X52 l52 y52 z52 st52 hQ52
    subst l52 y52 z52
    obtain ⟨rfl, N52q, K52, O_52⟩ := hQ52
    have N52 := Fr.app N38 N52q
    obtain ⟨cq53, kq53, q53a, q53b, q53c⟩ := isOf hZ rfl (wE17.ext O_52.2)
    obtain ⟨_, _, ⟨T53, L53, k53, n53⟩, -, X53, ⟨Lc53, hQ53, l53, y53, z53⟩, st53⟩ := X52.virtualBack hx (y := (⟨"java/util/Optional", "orElse", "(Ljava/lang/Object;)Ljava/lang/Object;"⟩ : MethodName)) (z := (⟨"java/util/Optional", "orElse", "(Ljava/lang/Object;)Ljava/lang/Object;"⟩ : MethodName)) hown (mvT hZ (hw _ (List.mem_of_getElem? (i := 47) rfl))) (mvT hZ (hw _ (List.mem_of_getElem? (i := 48) rfl))) (notFace_of_selects (args := #[]) (mvT hZ (hw _ (List.mem_of_getElem? (i := 50) rfl)))) (mvT hZ (hw _ (List.mem_of_getElem? (i := 50) rfl))) (mvT hZ (hw _ (List.mem_of_getElem? (i := 49) rfl))) (by decide) (backOf (W := 0) (rm6 l Z a0 hw [] w0 w1 w2 w3 w4 w5 w6 w7 w8 w9 w10 w11 w12 w13 w14 w15 w16 w17 T52.heap n0 hWd O_52) hZ (hw _ (List.mem_of_getElem? (i := 51) rfl)) (hw _ (List.mem_of_getElem? (i := 44) rfl)) (by decide) (by decide)) q53a q53c (g := (mkF m 23 #[.val (.int i0), .val (.int (1 : Int32)), .val (.ref w14), .val .null, .unset] [.null, (.ref w17)])) rfl (by rw [hml]; rfl) (Steps.refl _) (argsL := [.null]) (rest := []) (lenOf pd5 rfl) rfl (by show 2 * 0 + _ ≤ _; exact Nat.le_of_eq rfl) (hb hby at_23) (fun _ _ => ⟨rfl, rfl, (by decide : 1 + 0 ≤ _), (by decide : 5 + 0 ≤ _)⟩)
    dsimp only [Pt.U, Pt.locs, Pt.cells, Pt.slots] at X53 l53 y53 z53 st53 hQ53
    subst l53 y53 z53
    obtain ⟨rfl, N53q, e53⟩ := hQ53
    have N53 := Fr.app N52 N53q
    obtain ⟨fs, hr, hrun, hended, hWr, hsame⟩ := X53.leave (v := some (.int (1 : Int32))) (fun h => by rw [Bd.returns] at h; cases h) hlk
    refine ⟨_, _, pre1 _ ?_, hrun, hended, _, _, rfl, ?_, ⟨_, rfl⟩, hWr, hsame.mono (Nat.le_of_ble_eq_true rfl) (Nat.le_of_ble_eq_true rfl)⟩
    · show Steps p.tables e below (s₁.setTop (mkF m 6 #[.val (.int i0), .unset, .unset, .unset, .unset] [(.int (11 : Int32)), (.int (i0 &&& (2147483647 : Int32)))])) _
      refine iremM X0 hx rfl (hb hby at_6) rfl (by decide) ?_
      show Steps p.tables e below (s₁.setTop (mkF m 7 #[.val (.int i0), .unset, .unset, .unset, .unset] [(.int ((i0 &&& (2147483647 : Int32)) % (11 : Int32)))])) _
      rw [hk3]
      show Steps p.tables e below (s₁.setTop (mkF m 7 #[.val (.int i0), .unset, .unset, .unset, .unset] [(.int (1 : Int32))])) _
      refine XS.istoreN X0.here hx rfl (hb hby at_7) rfl (l' := #[.val (.int i0), .val (.int (1 : Int32)), .unset, .unset, .unset]) rfl ?_
      show Steps p.tables e below (s₁.setTop (mkF m 8 #[.val (.int i0), .val (.int (1 : Int32)), .unset, .unset, .unset] [])) _
      refine XS.iloadN X0.here hx rfl (hb hby at_8) rfl ?_
      show Steps p.tables e below (s₁.setTop (mkF m 9 #[.val (.int i0), .val (.int (1 : Int32)), .unset, .unset, .unset] [(.int (1 : Int32))])) _
      refine st37 _ ?_
      show Steps p.tables e below (T37.setTop (mkF m 12 #[.val (.int i0), .val (.int (1 : Int32)), .unset, .unset, .unset] [(.ref w14)])) _
      refine XS.astoreN X37.here hx rfl (hb hby at_12) rfl rfl (l' := #[.val (.int i0), .val (.int (1 : Int32)), .val (.ref w14), .unset, .unset]) rfl ?_
      show Steps p.tables e below (T37.setTop (mkF m 13 #[.val (.int i0), .val (.int (1 : Int32)), .val (.ref w14), .unset, .unset] [])) _
      refine XS.iloadN X37.here hx rfl (hb hby at_13) rfl ?_
      show Steps p.tables e below (T37.setTop (mkF m 14 #[.val (.int i0), .val (.int (1 : Int32)), .val (.ref w14), .unset, .unset] [(.int (1 : Int32))])) _
      refine st38 _ ?_
      show Steps p.tables e below (T38.setTop (mkF m 17 #[.val (.int i0), .val (.int (1 : Int32)), .val (.ref w14), .unset, .unset] [.null])) _
      refine XS.astoreN X38.here hx rfl (hb hby at_17) rfl rfl (l' := #[.val (.int i0), .val (.int (1 : Int32)), .val (.ref w14), .val .null, .unset]) rfl ?_
      show Steps p.tables e below (T38.setTop (mkF m 18 #[.val (.int i0), .val (.int (1 : Int32)), .val (.ref w14), .val .null, .unset] [])) _
      refine XS.aloadN X38.here hx rfl (hb hby at_18) rfl rfl ?_
      show Steps p.tables e below (T38.setTop (mkF m 19 #[.val (.int i0), .val (.int (1 : Int32)), .val (.ref w14), .val .null, .unset] [(.ref w14)])) _
      refine st52 _ ?_
      show Steps p.tables e below (T52.setTop (mkF m 22 #[.val (.int i0), .val (.int (1 : Int32)), .val (.ref w14), .val .null, .unset] [(.ref w17)])) _
      refine XS.aconstNull X52.here hx rfl (hb hby at_22) ?_
      show Steps p.tables e below (T52.setTop (mkF m 23 #[.val (.int i0), .val (.int (1 : Int32)), .val (.ref w14), .val .null, .unset] [.null, (.ref w17)])) _
      refine st53.trans ?_
      show Steps p.tables e below (T53.setTop (mkF m 26 #[.val (.int i0), .val (.int (1 : Int32)), .val (.ref w14), .val .null, .unset] [.null])) _
      refine X53.checkcastNull hx (g := (mkF m 26 #[.val (.int i0), .val (.int (1 : Int32)), .val (.ref w14), .val .null, .unset] [.null])) rfl rfl (hb hby at_26) _ ?_
      show Steps p.tables e below (T53.setTop (mkF m 29 #[.val (.int i0), .val (.int (1 : Int32)), .val (.ref w14), .val .null, .unset] [.null])) _
      refine XS.astore X53.here hx rfl (hb hby at_29) rfl rfl (l' := #[.val (.int i0), .val (.int (1 : Int32)), .val (.ref w14), .val .null, .val .null]) rfl ?_
      show Steps p.tables e below (T53.setTop (mkF m 31 #[.val (.int i0), .val (.int (1 : Int32)), .val (.ref w14), .val .null, .val .null] [])) _
      refine XS.aload X53.here hx rfl (hb hby at_31) rfl rfl ?_
      show Steps p.tables e below (T53.setTop (mkF m 33 #[.val (.int i0), .val (.int (1 : Int32)), .val (.ref w14), .val .null, .val .null] [.null])) _
      refine XS.aloadN X53.here hx rfl (hb hby at_33) rfl rfl ?_
      show Steps p.tables e below (T53.setTop (mkF m 34 #[.val (.int i0), .val (.int (1 : Int32)), .val (.ref w14), .val .null, .val .null] [.null, .null])) _
      refine Jvm.RoadKit.acmp (g := (mkF m 34 #[.val (.int i0), .val (.int (1 : Int32)), .val (.ref w14), .val .null, .val .null] [.null, .null])) X53 hx rfl rfl rfl (pc0 := 34) (pc' := 37) (same := true) rfl (hb hby at_34) rfl (decide_eq_true rfl) (by decide) (by decide) ?_
      show Steps p.tables e below (T53.setTop (mkF m 37 #[.val (.int i0), .val (.int (1 : Int32)), .val (.ref w14), .val .null, .val .null] [])) _
      refine XS.iconst X53.here hx rfl (hb hby at_37) ?_
      show Steps p.tables e below (T53.setTop (mkF m 38 #[.val (.int i0), .val (.int (1 : Int32)), .val (.ref w14), .val .null, .val .null] [(.int (1 : Int32))])) _
      refine XS.goto X53.here hx rfl (pc0 := 38) (pc' := 42) rfl (hb hby at_38) (by decide) (by decide) ?_
      show Steps p.tables e below (T53.setTop (mkF m 42 #[.val (.int i0), .val (.int (1 : Int32)), .val (.ref w14), .val .null, .val .null] [(.int (1 : Int32))])) _
      exact retN X53 hx (t := .boolean) Bd.returns (by simp) (hb hby at_42) hr
    · show Ql n0 _ T53.heap _
      exact ⟨rfl, N53⟩
  · obtain ⟨_, _, ⟨T55, L55, k55, n55⟩, -, X55, ⟨Lc55, hQ55, l55, y55, z55⟩, st55⟩ := Jvm.LawKit.callS X0 hx (y := (⟨"com/example/weaverbird/weaverbird/queues/RunActionOfPinLaw", "typeAt", "(I)Lcom/example/weaverbird/weaverbird/codes/CommandType;"⟩ : MethodName)) hown (mvT hZ (hw _ (List.mem_of_getElem? (i := 1) rfl))) (mvT hZ (hw _ (List.mem_of_getElem? (i := 2) rfl))) (mvT hZ (hw _ (List.mem_of_getElem? (i := 3) rfl))) (mvT hZ (hw _ (List.mem_of_getElem? (i := 4) rfl))) (by decide) (backOf (W := 0) (rm10 l Z a0 hw [] w0 w1 w2 w3 w4 w5 w6 w7 w8 w9 w10 w11 w12 w13 w14 w15 w16 w17 h0 n0 hWd O0) hZ (hw _ (List.mem_of_getElem? (i := 4) rfl)) (hw _ (List.mem_of_getElem? (i := 3) rfl)) (by decide) (by decide)) (g := (mkF m 9 #[.val (.int i0), .val (.int (2 : Int32)), .unset, .unset, .unset] [(.int (2 : Int32))])) rfl (by rw [hml]; rfl) (argsL := [(.int (2 : Int32))]) (rest := []) (lenOf pd0 rfl) rfl (by show 2 * 0 + _ ≤ _; exact Nat.le_of_eq rfl) (hb hby at_9) (fun _ _ => ⟨rfl, e0, (by decide : 0 + 0 ≤ _), (by decide : 0 + 0 ≤ _)⟩)
    dsimp only [Pt.U, Pt.locs, Pt.cells, Pt.slots] at X55 l55 y55 z55 st55 hQ55
    subst l55 y55 z55
    obtain ⟨rfl, N55q, e55⟩ := hQ55
    have N55 := Fr.app N0 N55q
    obtain ⟨_, _, ⟨T56, L56, k56, n56⟩, -, X56, ⟨Lc56, hQ56, l56, y56, z56⟩, st56⟩ := Jvm.LawKit.callS X55 hx (y := (⟨"com/example/weaverbird/weaverbird/queues/RunActionOfPinLaw", "expectedFor", "(I)Lcom/example/weaverbird/weaverbird/queues/RunAction;"⟩ : MethodName)) hown (mvT hZ (hw _ (List.mem_of_getElem? (i := 8) rfl))) (mvT hZ (hw _ (List.mem_of_getElem? (i := 9) rfl))) (mvT hZ (hw _ (List.mem_of_getElem? (i := 3) rfl))) (mvT hZ (hw _ (List.mem_of_getElem? (i := 10) rfl))) (by decide) (backOf (W := 0) (rm11 l Z a0 hw [] w0 w1 w2 w3 w4 w5 w6 w7 w8 w9 w10 w11 w12 w13 w14 w15 w16 w17 h0 n0 hWd O0) hZ (hw _ (List.mem_of_getElem? (i := 10) rfl)) (hw _ (List.mem_of_getElem? (i := 3) rfl)) (by decide) (by decide)) (g := (mkF m 14 #[.val (.int i0), .val (.int (2 : Int32)), .val (.ref w12), .unset, .unset] [(.int (2 : Int32))])) rfl (by rw [hml]; rfl) (argsL := [(.int (2 : Int32))]) (rest := []) (lenOf pd1 rfl) rfl (by show 2 * 0 + _ ≤ _; exact Nat.le_of_eq rfl) (hb hby at_14) (fun _ _ => ⟨rfl, e55, (by decide : 0 + 0 ≤ _), (by decide : 0 + 0 ≤ _)⟩)
    dsimp only [Pt.U, Pt.locs, Pt.cells, Pt.slots] at X56 l56 y56 z56 st56 hQ56
    subst l56 y56 z56
    obtain ⟨rfl, N56q, e56⟩ := hQ56
    have N56 := Fr.app N55 N56q
    obtain ⟨_, _, ⟨T70, L70, k70, n70⟩, -, X70, ⟨Lc70, hQ70, l70, y70, z70⟩, st70⟩ := Jvm.LawKit.callS X56 hx (y := (⟨"com/example/weaverbird/weaverbird/queues/RunAction", "of", "(Lcom/example/weaverbird/weaverbird/codes/CommandType;)Ljava/util/Optional;"⟩ : MethodName)) hown (mvT hZ (hw _ (List.mem_of_getElem? (i := 11) rfl))) (mvT hZ (hw _ (List.mem_of_getElem? (i := 12) rfl))) (mvT hZ (hw _ (List.mem_of_getElem? (i := 13) rfl))) (mvT hZ (hw _ (List.mem_of_getElem? (i := 14) rfl))) (by decide) (backOf (W := 0) (rm12 l Z a0 hw [] w0 w1 w2 w3 w4 w5 w6 w7 w8 w9 w10 w11 w12 w13 w14 w15 w16 w17 h0 n0 hWd O0) hZ (hw _ (List.mem_of_getElem? (i := 14) rfl)) (hw _ (List.mem_of_getElem? (i := 13) rfl)) (by decide) (by decide)) (g := (mkF m 19 #[.val (.int i0), .val (.int (2 : Int32)), .val (.ref w12), .val .null, .unset] [(.ref w12)])) rfl (by rw [hml]; rfl) (argsL := [(.ref w12)]) (rest := []) (lenOf pd4 rfl) rfl (by show 2 * 0 + _ ≤ _; exact Nat.le_of_eq rfl) (hb hby at_19) (fun _ _ => ⟨rfl, e56, (by decide : 0 + 1 ≤ _), (by decide : 0 + 5 ≤ _)⟩)
    dsimp only [Pt.U, Pt.locs, Pt.cells, Pt.slots] at X70 l70 y70 z70 st70 hQ70
    subst l70 y70 z70
    obtain ⟨rfl, N70q, K70, O_70⟩ := hQ70
    have N70 := Fr.app N56 N70q
    obtain ⟨cq71, kq71, q71a, q71b, q71c⟩ := isOf hZ rfl (wE17.ext O_70.2)
    obtain ⟨_, _, ⟨T71, L71, k71, n71⟩, -, X71, ⟨Lc71, hQ71, l71, y71, z71⟩, st71⟩ := X70.virtualBack hx (y := (⟨"java/util/Optional", "orElse", "(Ljava/lang/Object;)Ljava/lang/Object;"⟩ : MethodName)) (z := (⟨"java/util/Optional", "orElse", "(Ljava/lang/Object;)Ljava/lang/Object;"⟩ : MethodName)) hown (mvT hZ (hw _ (List.mem_of_getElem? (i := 47) rfl))) (mvT hZ (hw _ (List.mem_of_getElem? (i := 48) rfl))) (notFace_of_selects (args := #[]) (mvT hZ (hw _ (List.mem_of_getElem? (i := 50) rfl)))) (mvT hZ (hw _ (List.mem_of_getElem? (i := 50) rfl))) (mvT hZ (hw _ (List.mem_of_getElem? (i := 49) rfl))) (by decide) (backOf (W := 0) (rm6 l Z a0 hw [] w0 w1 w2 w3 w4 w5 w6 w7 w8 w9 w10 w11 w12 w13 w14 w15 w16 w17 T70.heap n0 hWd O_70) hZ (hw _ (List.mem_of_getElem? (i := 51) rfl)) (hw _ (List.mem_of_getElem? (i := 44) rfl)) (by decide) (by decide)) q71a q71c (g := (mkF m 23 #[.val (.int i0), .val (.int (2 : Int32)), .val (.ref w12), .val .null, .unset] [.null, (.ref w17)])) rfl (by rw [hml]; rfl) (Steps.refl _) (argsL := [.null]) (rest := []) (lenOf pd5 rfl) rfl (by show 2 * 0 + _ ≤ _; exact Nat.le_of_eq rfl) (hb hby at_23) (fun _ _ => ⟨rfl, rfl, (by decide : 1 + 0 ≤ _), (by decide : 5 + 0 ≤ _)⟩)
    dsimp only [Pt.U, Pt.locs, Pt.cells, Pt.slots] at X71 l71 y71 z71 st71 hQ71
    subst l71 y71 z71
    obtain ⟨rfl, N71q, e71⟩ := hQ71
    have N71 := Fr.app N70 N71q
    obtain ⟨fs, hr, hrun, hended, hWr, hsame⟩ := X71.leave (v := some (.int (1 : Int32))) (fun h => by rw [Bd.returns] at h; cases h) hlk
    refine ⟨_, _, pre1 _ ?_, hrun, hended, _, _, rfl, ?_, ⟨_, rfl⟩, hWr, hsame.mono (Nat.le_of_ble_eq_true rfl) (Nat.le_of_ble_eq_true rfl)⟩
    · show Steps p.tables e below (s₁.setTop (mkF m 6 #[.val (.int i0), .unset, .unset, .unset, .unset] [(.int (11 : Int32)), (.int (i0 &&& (2147483647 : Int32)))])) _
      refine iremM X0 hx rfl (hb hby at_6) rfl (by decide) ?_
      show Steps p.tables e below (s₁.setTop (mkF m 7 #[.val (.int i0), .unset, .unset, .unset, .unset] [(.int ((i0 &&& (2147483647 : Int32)) % (11 : Int32)))])) _
      rw [hk4]
      show Steps p.tables e below (s₁.setTop (mkF m 7 #[.val (.int i0), .unset, .unset, .unset, .unset] [(.int (2 : Int32))])) _
      refine XS.istoreN X0.here hx rfl (hb hby at_7) rfl (l' := #[.val (.int i0), .val (.int (2 : Int32)), .unset, .unset, .unset]) rfl ?_
      show Steps p.tables e below (s₁.setTop (mkF m 8 #[.val (.int i0), .val (.int (2 : Int32)), .unset, .unset, .unset] [])) _
      refine XS.iloadN X0.here hx rfl (hb hby at_8) rfl ?_
      show Steps p.tables e below (s₁.setTop (mkF m 9 #[.val (.int i0), .val (.int (2 : Int32)), .unset, .unset, .unset] [(.int (2 : Int32))])) _
      refine st55 _ ?_
      show Steps p.tables e below (T55.setTop (mkF m 12 #[.val (.int i0), .val (.int (2 : Int32)), .unset, .unset, .unset] [(.ref w12)])) _
      refine XS.astoreN X55.here hx rfl (hb hby at_12) rfl rfl (l' := #[.val (.int i0), .val (.int (2 : Int32)), .val (.ref w12), .unset, .unset]) rfl ?_
      show Steps p.tables e below (T55.setTop (mkF m 13 #[.val (.int i0), .val (.int (2 : Int32)), .val (.ref w12), .unset, .unset] [])) _
      refine XS.iloadN X55.here hx rfl (hb hby at_13) rfl ?_
      show Steps p.tables e below (T55.setTop (mkF m 14 #[.val (.int i0), .val (.int (2 : Int32)), .val (.ref w12), .unset, .unset] [(.int (2 : Int32))])) _
      refine st56 _ ?_
      show Steps p.tables e below (T56.setTop (mkF m 17 #[.val (.int i0), .val (.int (2 : Int32)), .val (.ref w12), .unset, .unset] [.null])) _
      refine XS.astoreN X56.here hx rfl (hb hby at_17) rfl rfl (l' := #[.val (.int i0), .val (.int (2 : Int32)), .val (.ref w12), .val .null, .unset]) rfl ?_
      show Steps p.tables e below (T56.setTop (mkF m 18 #[.val (.int i0), .val (.int (2 : Int32)), .val (.ref w12), .val .null, .unset] [])) _
      refine XS.aloadN X56.here hx rfl (hb hby at_18) rfl rfl ?_
      show Steps p.tables e below (T56.setTop (mkF m 19 #[.val (.int i0), .val (.int (2 : Int32)), .val (.ref w12), .val .null, .unset] [(.ref w12)])) _
      refine st70 _ ?_
      show Steps p.tables e below (T70.setTop (mkF m 22 #[.val (.int i0), .val (.int (2 : Int32)), .val (.ref w12), .val .null, .unset] [(.ref w17)])) _
      refine XS.aconstNull X70.here hx rfl (hb hby at_22) ?_
      show Steps p.tables e below (T70.setTop (mkF m 23 #[.val (.int i0), .val (.int (2 : Int32)), .val (.ref w12), .val .null, .unset] [.null, (.ref w17)])) _
      refine st71.trans ?_
      show Steps p.tables e below (T71.setTop (mkF m 26 #[.val (.int i0), .val (.int (2 : Int32)), .val (.ref w12), .val .null, .unset] [.null])) _
      refine X71.checkcastNull hx (g := (mkF m 26 #[.val (.int i0), .val (.int (2 : Int32)), .val (.ref w12), .val .null, .unset] [.null])) rfl rfl (hb hby at_26) _ ?_
      show Steps p.tables e below (T71.setTop (mkF m 29 #[.val (.int i0), .val (.int (2 : Int32)), .val (.ref w12), .val .null, .unset] [.null])) _
      refine XS.astore X71.here hx rfl (hb hby at_29) rfl rfl (l' := #[.val (.int i0), .val (.int (2 : Int32)), .val (.ref w12), .val .null, .val .null]) rfl ?_
      show Steps p.tables e below (T71.setTop (mkF m 31 #[.val (.int i0), .val (.int (2 : Int32)), .val (.ref w12), .val .null, .val .null] [])) _
      refine XS.aload X71.here hx rfl (hb hby at_31) rfl rfl ?_
      show Steps p.tables e below (T71.setTop (mkF m 33 #[.val (.int i0), .val (.int (2 : Int32)), .val (.ref w12), .val .null, .val .null] [.null])) _
      refine XS.aloadN X71.here hx rfl (hb hby at_33) rfl rfl ?_
      show Steps p.tables e below (T71.setTop (mkF m 34 #[.val (.int i0), .val (.int (2 : Int32)), .val (.ref w12), .val .null, .val .null] [.null, .null])) _
      refine Jvm.RoadKit.acmp (g := (mkF m 34 #[.val (.int i0), .val (.int (2 : Int32)), .val (.ref w12), .val .null, .val .null] [.null, .null])) X71 hx rfl rfl rfl (pc0 := 34) (pc' := 37) (same := true) rfl (hb hby at_34) rfl (decide_eq_true rfl) (by decide) (by decide) ?_
      show Steps p.tables e below (T71.setTop (mkF m 37 #[.val (.int i0), .val (.int (2 : Int32)), .val (.ref w12), .val .null, .val .null] [])) _
      refine XS.iconst X71.here hx rfl (hb hby at_37) ?_
      show Steps p.tables e below (T71.setTop (mkF m 38 #[.val (.int i0), .val (.int (2 : Int32)), .val (.ref w12), .val .null, .val .null] [(.int (1 : Int32))])) _
      refine XS.goto X71.here hx rfl (pc0 := 38) (pc' := 42) rfl (hb hby at_38) (by decide) (by decide) ?_
      show Steps p.tables e below (T71.setTop (mkF m 42 #[.val (.int i0), .val (.int (2 : Int32)), .val (.ref w12), .val .null, .val .null] [(.int (1 : Int32))])) _
      exact retN X71 hx (t := .boolean) Bd.returns (by simp) (hb hby at_42) hr
    · show Ql n0 _ T71.heap _
      exact ⟨rfl, N71⟩
  · obtain ⟨_, _, ⟨T73, L73, k73, n73⟩, -, X73, ⟨Lc73, hQ73, l73, y73, z73⟩, st73⟩ := Jvm.LawKit.callS X0 hx (y := (⟨"com/example/weaverbird/weaverbird/queues/RunActionOfPinLaw", "typeAt", "(I)Lcom/example/weaverbird/weaverbird/codes/CommandType;"⟩ : MethodName)) hown (mvT hZ (hw _ (List.mem_of_getElem? (i := 1) rfl))) (mvT hZ (hw _ (List.mem_of_getElem? (i := 2) rfl))) (mvT hZ (hw _ (List.mem_of_getElem? (i := 3) rfl))) (mvT hZ (hw _ (List.mem_of_getElem? (i := 4) rfl))) (by decide) (backOf (W := 0) (rm13 l Z a0 hw [] w0 w1 w2 w3 w4 w5 w6 w7 w8 w9 w10 w11 w12 w13 w14 w15 w16 w17 h0 n0 hWd O0) hZ (hw _ (List.mem_of_getElem? (i := 4) rfl)) (hw _ (List.mem_of_getElem? (i := 3) rfl)) (by decide) (by decide)) (g := (mkF m 9 #[.val (.int i0), .val (.int (3 : Int32)), .unset, .unset, .unset] [(.int (3 : Int32))])) rfl (by rw [hml]; rfl) (argsL := [(.int (3 : Int32))]) (rest := []) (lenOf pd0 rfl) rfl (by show 2 * 0 + _ ≤ _; exact Nat.le_of_eq rfl) (hb hby at_9) (fun _ _ => ⟨rfl, e0, (by decide : 0 + 0 ≤ _), (by decide : 0 + 0 ≤ _)⟩)
    dsimp only [Pt.U, Pt.locs, Pt.cells, Pt.slots] at X73 l73 y73 z73 st73 hQ73
    subst l73 y73 z73
    obtain ⟨rfl, N73q, e73⟩ := hQ73
    have N73 := Fr.app N0 N73q
    obtain ⟨_, _, ⟨T75, L75, k75, n75⟩, -, X75, ⟨Lc75, hQ75, l75, y75, z75⟩, st75⟩ := Jvm.LawKit.callS X73 hx (y := (⟨"com/example/weaverbird/weaverbird/queues/RunActionOfPinLaw", "expectedFor", "(I)Lcom/example/weaverbird/weaverbird/queues/RunAction;"⟩ : MethodName)) hown (mvT hZ (hw _ (List.mem_of_getElem? (i := 8) rfl))) (mvT hZ (hw _ (List.mem_of_getElem? (i := 9) rfl))) (mvT hZ (hw _ (List.mem_of_getElem? (i := 3) rfl))) (mvT hZ (hw _ (List.mem_of_getElem? (i := 10) rfl))) (by decide) (backOf (W := 0) (rm14 l Z a0 hw [] w0 w1 w2 w3 w4 w5 w6 w7 w8 w9 w10 w11 w12 w13 w14 w15 w16 w17 h0 n0 hWd O0) hZ (hw _ (List.mem_of_getElem? (i := 10) rfl)) (hw _ (List.mem_of_getElem? (i := 3) rfl)) (by decide) (by decide)) (g := (mkF m 14 #[.val (.int i0), .val (.int (3 : Int32)), .val (.ref w8), .unset, .unset] [(.int (3 : Int32))])) rfl (by rw [hml]; rfl) (argsL := [(.int (3 : Int32))]) (rest := []) (lenOf pd1 rfl) rfl (by show 2 * 0 + _ ≤ _; exact Nat.le_of_eq rfl) (hb hby at_14) (fun _ _ => ⟨rfl, e73, (by decide : 0 + 0 ≤ _), (by decide : 0 + 0 ≤ _)⟩)
    dsimp only [Pt.U, Pt.locs, Pt.cells, Pt.slots] at X75 l75 y75 z75 st75 hQ75
    subst l75 y75 z75
    obtain ⟨rfl, N75q, e75⟩ := hQ75
    have N75 := Fr.app N73 N75q
    obtain ⟨_, _, ⟨T88, L88, k88, n88⟩, -, X88, ⟨Lc88, hQ88, l88, y88, z88⟩, st88⟩ := Jvm.LawKit.callS X75 hx (y := (⟨"com/example/weaverbird/weaverbird/queues/RunAction", "of", "(Lcom/example/weaverbird/weaverbird/codes/CommandType;)Ljava/util/Optional;"⟩ : MethodName)) hown (mvT hZ (hw _ (List.mem_of_getElem? (i := 11) rfl))) (mvT hZ (hw _ (List.mem_of_getElem? (i := 12) rfl))) (mvT hZ (hw _ (List.mem_of_getElem? (i := 13) rfl))) (mvT hZ (hw _ (List.mem_of_getElem? (i := 14) rfl))) (by decide) (backOf (W := 0) (rm15 l Z a0 hw [] w0 w1 w2 w3 w4 w5 w6 w7 w8 w9 w10 w11 w12 w13 w14 w15 w16 w17 h0 n0 hWd O0) hZ (hw _ (List.mem_of_getElem? (i := 14) rfl)) (hw _ (List.mem_of_getElem? (i := 13) rfl)) (by decide) (by decide)) (g := (mkF m 19 #[.val (.int i0), .val (.int (3 : Int32)), .val (.ref w8), .val (.ref w3), .unset] [(.ref w8)])) rfl (by rw [hml]; rfl) (argsL := [(.ref w8)]) (rest := []) (lenOf pd4 rfl) rfl (by show 2 * 0 + _ ≤ _; exact Nat.le_of_eq rfl) (hb hby at_19) (fun _ _ => ⟨rfl, e75, (by decide : 0 + 2 ≤ _), (by decide : 0 + 6 ≤ _)⟩)
    dsimp only [Pt.U, Pt.locs, Pt.cells, Pt.slots] at X88 l88 y88 z88 st88 hQ88
    subst l88 y88 z88
    obtain ⟨r88, rfl, N88q, K88, O_88, E_r88_88, F_r88_value_88, g_r88⟩ := hQ88
    have N88 := Fr.app N75 N88q
    obtain ⟨cq91, kq91, q91a, q91b, q91c⟩ := isOf hZ rfl E_r88_88
    obtain ⟨_, _, ⟨T91, L91, k91, n91⟩, -, X91, ⟨Lc91, hQ91, l91, y91, z91⟩, st91⟩ := X88.virtualBack hx (y := (⟨"java/util/Optional", "orElse", "(Ljava/lang/Object;)Ljava/lang/Object;"⟩ : MethodName)) (z := (⟨"java/util/Optional", "orElse", "(Ljava/lang/Object;)Ljava/lang/Object;"⟩ : MethodName)) hown (mvT hZ (hw _ (List.mem_of_getElem? (i := 47) rfl))) (mvT hZ (hw _ (List.mem_of_getElem? (i := 48) rfl))) (notFace_of_selects (args := #[]) (mvT hZ (hw _ (List.mem_of_getElem? (i := 50) rfl)))) (mvT hZ (hw _ (List.mem_of_getElem? (i := 50) rfl))) (mvT hZ (hw _ (List.mem_of_getElem? (i := 49) rfl))) (by decide) (backOf (W := 0) (rm19 l Z a0 hw [] w0 w1 w2 w3 w4 w5 w6 w7 w8 w9 w10 w11 w12 w13 w14 w15 w16 w17 r88 T88.heap n0 hWd O_88 E_r88_88 F_r88_value_88 g_r88) hZ (hw _ (List.mem_of_getElem? (i := 51) rfl)) (hw _ (List.mem_of_getElem? (i := 44) rfl)) (by decide) (by decide)) q91a q91c (g := (mkF m 23 #[.val (.int i0), .val (.int (3 : Int32)), .val (.ref w8), .val (.ref w3), .unset] [.null, (.ref r88)])) rfl (by rw [hml]; rfl) (Steps.refl _) (argsL := [.null]) (rest := []) (lenOf pd5 rfl) rfl (by show 2 * 0 + _ ≤ _; exact Nat.le_of_eq rfl) (hb hby at_23) (fun _ _ => ⟨rfl, rfl, (by decide : 2 + 0 ≤ _), (by decide : 6 + 0 ≤ _)⟩)
    dsimp only [Pt.U, Pt.locs, Pt.cells, Pt.slots] at X91 l91 y91 z91 st91 hQ91
    subst l91 y91 z91
    obtain ⟨rfl, N91q, e91⟩ := hQ91
    have N91 := Fr.app N88 N91q
    obtain ⟨T92, X92, e92, st92⟩ := castY X91 hx hZ hown (hw _ (List.mem_of_getElem? (i := 72) rfl)) e91 (Ins.self (wE3.ext O_88.2)) (g := (mkF m 26 #[.val (.int i0), .val (.int (3 : Int32)), .val (.ref w8), .val (.ref w3), .unset] [(.ref w3)])) rfl rfl (hb hby at_26)
    obtain ⟨fs, hr, hrun, hended, hWr, hsame⟩ := X92.leave (v := some (.int (1 : Int32))) (fun h => by rw [Bd.returns] at h; cases h) hlk
    refine ⟨_, _, pre1 _ ?_, hrun, hended, _, _, rfl, ?_, ⟨_, rfl⟩, hWr, hsame.mono (Nat.le_of_ble_eq_true rfl) (Nat.le_of_ble_eq_true rfl)⟩
    · show Steps p.tables e below (s₁.setTop (mkF m 6 #[.val (.int i0), .unset, .unset, .unset, .unset] [(.int (11 : Int32)), (.int (i0 &&& (2147483647 : Int32)))])) _
      refine iremM X0 hx rfl (hb hby at_6) rfl (by decide) ?_
      show Steps p.tables e below (s₁.setTop (mkF m 7 #[.val (.int i0), .unset, .unset, .unset, .unset] [(.int ((i0 &&& (2147483647 : Int32)) % (11 : Int32)))])) _
      rw [hk5]
      show Steps p.tables e below (s₁.setTop (mkF m 7 #[.val (.int i0), .unset, .unset, .unset, .unset] [(.int (3 : Int32))])) _
      refine XS.istoreN X0.here hx rfl (hb hby at_7) rfl (l' := #[.val (.int i0), .val (.int (3 : Int32)), .unset, .unset, .unset]) rfl ?_
      show Steps p.tables e below (s₁.setTop (mkF m 8 #[.val (.int i0), .val (.int (3 : Int32)), .unset, .unset, .unset] [])) _
      refine XS.iloadN X0.here hx rfl (hb hby at_8) rfl ?_
      show Steps p.tables e below (s₁.setTop (mkF m 9 #[.val (.int i0), .val (.int (3 : Int32)), .unset, .unset, .unset] [(.int (3 : Int32))])) _
      refine st73 _ ?_
      show Steps p.tables e below (T73.setTop (mkF m 12 #[.val (.int i0), .val (.int (3 : Int32)), .unset, .unset, .unset] [(.ref w8)])) _
      refine XS.astoreN X73.here hx rfl (hb hby at_12) rfl rfl (l' := #[.val (.int i0), .val (.int (3 : Int32)), .val (.ref w8), .unset, .unset]) rfl ?_
      show Steps p.tables e below (T73.setTop (mkF m 13 #[.val (.int i0), .val (.int (3 : Int32)), .val (.ref w8), .unset, .unset] [])) _
      refine XS.iloadN X73.here hx rfl (hb hby at_13) rfl ?_
      show Steps p.tables e below (T73.setTop (mkF m 14 #[.val (.int i0), .val (.int (3 : Int32)), .val (.ref w8), .unset, .unset] [(.int (3 : Int32))])) _
      refine st75 _ ?_
      show Steps p.tables e below (T75.setTop (mkF m 17 #[.val (.int i0), .val (.int (3 : Int32)), .val (.ref w8), .unset, .unset] [(.ref w3)])) _
      refine XS.astoreN X75.here hx rfl (hb hby at_17) rfl rfl (l' := #[.val (.int i0), .val (.int (3 : Int32)), .val (.ref w8), .val (.ref w3), .unset]) rfl ?_
      show Steps p.tables e below (T75.setTop (mkF m 18 #[.val (.int i0), .val (.int (3 : Int32)), .val (.ref w8), .val (.ref w3), .unset] [])) _
      refine XS.aloadN X75.here hx rfl (hb hby at_18) rfl rfl ?_
      show Steps p.tables e below (T75.setTop (mkF m 19 #[.val (.int i0), .val (.int (3 : Int32)), .val (.ref w8), .val (.ref w3), .unset] [(.ref w8)])) _
      refine st88 _ ?_
      show Steps p.tables e below (T88.setTop (mkF m 22 #[.val (.int i0), .val (.int (3 : Int32)), .val (.ref w8), .val (.ref w3), .unset] [(.ref r88)])) _
      refine XS.aconstNull X88.here hx rfl (hb hby at_22) ?_
      show Steps p.tables e below (T88.setTop (mkF m 23 #[.val (.int i0), .val (.int (3 : Int32)), .val (.ref w8), .val (.ref w3), .unset] [.null, (.ref r88)])) _
      refine st91.trans ?_
      show Steps p.tables e below (T91.setTop (mkF m 26 #[.val (.int i0), .val (.int (3 : Int32)), .val (.ref w8), .val (.ref w3), .unset] [(.ref w3)])) _
      refine st92 _ ?_
      show Steps p.tables e below (T92.setTop (mkF m 29 #[.val (.int i0), .val (.int (3 : Int32)), .val (.ref w8), .val (.ref w3), .unset] [(.ref w3)])) _
      refine XS.astore X92.here hx rfl (hb hby at_29) rfl rfl (l' := #[.val (.int i0), .val (.int (3 : Int32)), .val (.ref w8), .val (.ref w3), .val (.ref w3)]) rfl ?_
      show Steps p.tables e below (T92.setTop (mkF m 31 #[.val (.int i0), .val (.int (3 : Int32)), .val (.ref w8), .val (.ref w3), .val (.ref w3)] [])) _
      refine XS.aload X92.here hx rfl (hb hby at_31) rfl rfl ?_
      show Steps p.tables e below (T92.setTop (mkF m 33 #[.val (.int i0), .val (.int (3 : Int32)), .val (.ref w8), .val (.ref w3), .val (.ref w3)] [(.ref w3)])) _
      refine XS.aloadN X92.here hx rfl (hb hby at_33) rfl rfl ?_
      show Steps p.tables e below (T92.setTop (mkF m 34 #[.val (.int i0), .val (.int (3 : Int32)), .val (.ref w8), .val (.ref w3), .val (.ref w3)] [(.ref w3), (.ref w3)])) _
      refine Jvm.RoadKit.acmp (g := (mkF m 34 #[.val (.int i0), .val (.int (3 : Int32)), .val (.ref w8), .val (.ref w3), .val (.ref w3)] [(.ref w3), (.ref w3)])) X92 hx rfl rfl rfl (pc0 := 34) (pc' := 37) (same := true) rfl (hb hby at_34) rfl (decide_eq_true rfl) (by decide) (by decide) ?_
      show Steps p.tables e below (T92.setTop (mkF m 37 #[.val (.int i0), .val (.int (3 : Int32)), .val (.ref w8), .val (.ref w3), .val (.ref w3)] [])) _
      refine XS.iconst X92.here hx rfl (hb hby at_37) ?_
      show Steps p.tables e below (T92.setTop (mkF m 38 #[.val (.int i0), .val (.int (3 : Int32)), .val (.ref w8), .val (.ref w3), .val (.ref w3)] [(.int (1 : Int32))])) _
      refine XS.goto X92.here hx rfl (pc0 := 38) (pc' := 42) rfl (hb hby at_38) (by decide) (by decide) ?_
      show Steps p.tables e below (T92.setTop (mkF m 42 #[.val (.int i0), .val (.int (3 : Int32)), .val (.ref w8), .val (.ref w3), .val (.ref w3)] [(.int (1 : Int32))])) _
      exact retN X92 hx (t := .boolean) Bd.returns (by simp) (hb hby at_42) hr
    · show Ql n0 _ T92.heap _
      exact ⟨rfl, N91⟩
  · obtain ⟨_, _, ⟨T94, L94, k94, n94⟩, -, X94, ⟨Lc94, hQ94, l94, y94, z94⟩, st94⟩ := Jvm.LawKit.callS X0 hx (y := (⟨"com/example/weaverbird/weaverbird/queues/RunActionOfPinLaw", "typeAt", "(I)Lcom/example/weaverbird/weaverbird/codes/CommandType;"⟩ : MethodName)) hown (mvT hZ (hw _ (List.mem_of_getElem? (i := 1) rfl))) (mvT hZ (hw _ (List.mem_of_getElem? (i := 2) rfl))) (mvT hZ (hw _ (List.mem_of_getElem? (i := 3) rfl))) (mvT hZ (hw _ (List.mem_of_getElem? (i := 4) rfl))) (by decide) (backOf (W := 0) (rm20 l Z a0 hw [] w0 w1 w2 w3 w4 w5 w6 w7 w8 w9 w10 w11 w12 w13 w14 w15 w16 w17 h0 n0 hWd O0) hZ (hw _ (List.mem_of_getElem? (i := 4) rfl)) (hw _ (List.mem_of_getElem? (i := 3) rfl)) (by decide) (by decide)) (g := (mkF m 9 #[.val (.int i0), .val (.int (4 : Int32)), .unset, .unset, .unset] [(.int (4 : Int32))])) rfl (by rw [hml]; rfl) (argsL := [(.int (4 : Int32))]) (rest := []) (lenOf pd0 rfl) rfl (by show 2 * 0 + _ ≤ _; exact Nat.le_of_eq rfl) (hb hby at_9) (fun _ _ => ⟨rfl, e0, (by decide : 0 + 0 ≤ _), (by decide : 0 + 0 ≤ _)⟩)
    dsimp only [Pt.U, Pt.locs, Pt.cells, Pt.slots] at X94 l94 y94 z94 st94 hQ94
    subst l94 y94 z94
    obtain ⟨rfl, N94q, e94⟩ := hQ94
    have N94 := Fr.app N0 N94q
    obtain ⟨_, _, ⟨T96, L96, k96, n96⟩, -, X96, ⟨Lc96, hQ96, l96, y96, z96⟩, st96⟩ := Jvm.LawKit.callS X94 hx (y := (⟨"com/example/weaverbird/weaverbird/queues/RunActionOfPinLaw", "expectedFor", "(I)Lcom/example/weaverbird/weaverbird/queues/RunAction;"⟩ : MethodName)) hown (mvT hZ (hw _ (List.mem_of_getElem? (i := 8) rfl))) (mvT hZ (hw _ (List.mem_of_getElem? (i := 9) rfl))) (mvT hZ (hw _ (List.mem_of_getElem? (i := 3) rfl))) (mvT hZ (hw _ (List.mem_of_getElem? (i := 10) rfl))) (by decide) (backOf (W := 0) (rm21 l Z a0 hw [] w0 w1 w2 w3 w4 w5 w6 w7 w8 w9 w10 w11 w12 w13 w14 w15 w16 w17 h0 n0 hWd O0) hZ (hw _ (List.mem_of_getElem? (i := 10) rfl)) (hw _ (List.mem_of_getElem? (i := 3) rfl)) (by decide) (by decide)) (g := (mkF m 14 #[.val (.int i0), .val (.int (4 : Int32)), .val (.ref w11), .unset, .unset] [(.int (4 : Int32))])) rfl (by rw [hml]; rfl) (argsL := [(.int (4 : Int32))]) (rest := []) (lenOf pd1 rfl) rfl (by show 2 * 0 + _ ≤ _; exact Nat.le_of_eq rfl) (hb hby at_14) (fun _ _ => ⟨rfl, e94, (by decide : 0 + 0 ≤ _), (by decide : 0 + 0 ≤ _)⟩)
    dsimp only [Pt.U, Pt.locs, Pt.cells, Pt.slots] at X96 l96 y96 z96 st96 hQ96
    subst l96 y96 z96
    obtain ⟨rfl, N96q, e96⟩ := hQ96
    have N96 := Fr.app N94 N96q
    obtain ⟨_, _, ⟨T115, L115, k115, n115⟩, -, X115, ⟨Lc115, hQ115, l115, y115, z115⟩, st115⟩ := Jvm.LawKit.callS X96 hx (y := (⟨"com/example/weaverbird/weaverbird/queues/RunAction", "of", "(Lcom/example/weaverbird/weaverbird/codes/CommandType;)Ljava/util/Optional;"⟩ : MethodName)) hown (mvT hZ (hw _ (List.mem_of_getElem? (i := 11) rfl))) (mvT hZ (hw _ (List.mem_of_getElem? (i := 12) rfl))) (mvT hZ (hw _ (List.mem_of_getElem? (i := 13) rfl))) (mvT hZ (hw _ (List.mem_of_getElem? (i := 14) rfl))) (by decide) (backOf (W := 0) (rm22 l Z a0 hw [] w0 w1 w2 w3 w4 w5 w6 w7 w8 w9 w10 w11 w12 w13 w14 w15 w16 w17 h0 n0 hWd O0) hZ (hw _ (List.mem_of_getElem? (i := 14) rfl)) (hw _ (List.mem_of_getElem? (i := 13) rfl)) (by decide) (by decide)) (g := (mkF m 19 #[.val (.int i0), .val (.int (4 : Int32)), .val (.ref w11), .val (.ref w6), .unset] [(.ref w11)])) rfl (by rw [hml]; rfl) (argsL := [(.ref w11)]) (rest := []) (lenOf pd4 rfl) rfl (by show 2 * 0 + _ ≤ _; exact Nat.le_of_eq rfl) (hb hby at_19) (fun _ _ => ⟨rfl, e96, (by decide : 0 + 2 ≤ _), (by decide : 0 + 6 ≤ _)⟩)
    dsimp only [Pt.U, Pt.locs, Pt.cells, Pt.slots] at X115 l115 y115 z115 st115 hQ115
    subst l115 y115 z115
    obtain ⟨r115, rfl, N115q, K115, O_115, E_r115_115, F_r115_value_115, g_r115⟩ := hQ115
    have N115 := Fr.app N96 N115q
    obtain ⟨cq118, kq118, q118a, q118b, q118c⟩ := isOf hZ rfl E_r115_115
    obtain ⟨_, _, ⟨T118, L118, k118, n118⟩, -, X118, ⟨Lc118, hQ118, l118, y118, z118⟩, st118⟩ := X115.virtualBack hx (y := (⟨"java/util/Optional", "orElse", "(Ljava/lang/Object;)Ljava/lang/Object;"⟩ : MethodName)) (z := (⟨"java/util/Optional", "orElse", "(Ljava/lang/Object;)Ljava/lang/Object;"⟩ : MethodName)) hown (mvT hZ (hw _ (List.mem_of_getElem? (i := 47) rfl))) (mvT hZ (hw _ (List.mem_of_getElem? (i := 48) rfl))) (notFace_of_selects (args := #[]) (mvT hZ (hw _ (List.mem_of_getElem? (i := 50) rfl)))) (mvT hZ (hw _ (List.mem_of_getElem? (i := 50) rfl))) (mvT hZ (hw _ (List.mem_of_getElem? (i := 49) rfl))) (by decide) (backOf (W := 0) (rm26 l Z a0 hw [] w0 w1 w2 w3 w4 w5 w6 w7 w8 w9 w10 w11 w12 w13 w14 w15 w16 w17 r115 T115.heap n0 hWd O_115 E_r115_115 F_r115_value_115 g_r115) hZ (hw _ (List.mem_of_getElem? (i := 51) rfl)) (hw _ (List.mem_of_getElem? (i := 44) rfl)) (by decide) (by decide)) q118a q118c (g := (mkF m 23 #[.val (.int i0), .val (.int (4 : Int32)), .val (.ref w11), .val (.ref w6), .unset] [.null, (.ref r115)])) rfl (by rw [hml]; rfl) (Steps.refl _) (argsL := [.null]) (rest := []) (lenOf pd5 rfl) rfl (by show 2 * 0 + _ ≤ _; exact Nat.le_of_eq rfl) (hb hby at_23) (fun _ _ => ⟨rfl, rfl, (by decide : 2 + 0 ≤ _), (by decide : 6 + 0 ≤ _)⟩)
    dsimp only [Pt.U, Pt.locs, Pt.cells, Pt.slots] at X118 l118 y118 z118 st118 hQ118
    subst l118 y118 z118
    obtain ⟨rfl, N118q, e118⟩ := hQ118
    have N118 := Fr.app N115 N118q
    obtain ⟨T119, X119, e119, st119⟩ := castY X118 hx hZ hown (hw _ (List.mem_of_getElem? (i := 72) rfl)) e118 (Ins.self (wE6.ext O_115.2)) (g := (mkF m 26 #[.val (.int i0), .val (.int (4 : Int32)), .val (.ref w11), .val (.ref w6), .unset] [(.ref w6)])) rfl rfl (hb hby at_26)
    obtain ⟨fs, hr, hrun, hended, hWr, hsame⟩ := X119.leave (v := some (.int (1 : Int32))) (fun h => by rw [Bd.returns] at h; cases h) hlk
    refine ⟨_, _, pre1 _ ?_, hrun, hended, _, _, rfl, ?_, ⟨_, rfl⟩, hWr, hsame.mono (Nat.le_of_ble_eq_true rfl) (Nat.le_of_ble_eq_true rfl)⟩
    · show Steps p.tables e below (s₁.setTop (mkF m 6 #[.val (.int i0), .unset, .unset, .unset, .unset] [(.int (11 : Int32)), (.int (i0 &&& (2147483647 : Int32)))])) _
      refine iremM X0 hx rfl (hb hby at_6) rfl (by decide) ?_
      show Steps p.tables e below (s₁.setTop (mkF m 7 #[.val (.int i0), .unset, .unset, .unset, .unset] [(.int ((i0 &&& (2147483647 : Int32)) % (11 : Int32)))])) _
      rw [hk6]
      show Steps p.tables e below (s₁.setTop (mkF m 7 #[.val (.int i0), .unset, .unset, .unset, .unset] [(.int (4 : Int32))])) _
      refine XS.istoreN X0.here hx rfl (hb hby at_7) rfl (l' := #[.val (.int i0), .val (.int (4 : Int32)), .unset, .unset, .unset]) rfl ?_
      show Steps p.tables e below (s₁.setTop (mkF m 8 #[.val (.int i0), .val (.int (4 : Int32)), .unset, .unset, .unset] [])) _
      refine XS.iloadN X0.here hx rfl (hb hby at_8) rfl ?_
      show Steps p.tables e below (s₁.setTop (mkF m 9 #[.val (.int i0), .val (.int (4 : Int32)), .unset, .unset, .unset] [(.int (4 : Int32))])) _
      refine st94 _ ?_
      show Steps p.tables e below (T94.setTop (mkF m 12 #[.val (.int i0), .val (.int (4 : Int32)), .unset, .unset, .unset] [(.ref w11)])) _
      refine XS.astoreN X94.here hx rfl (hb hby at_12) rfl rfl (l' := #[.val (.int i0), .val (.int (4 : Int32)), .val (.ref w11), .unset, .unset]) rfl ?_
      show Steps p.tables e below (T94.setTop (mkF m 13 #[.val (.int i0), .val (.int (4 : Int32)), .val (.ref w11), .unset, .unset] [])) _
      refine XS.iloadN X94.here hx rfl (hb hby at_13) rfl ?_
      show Steps p.tables e below (T94.setTop (mkF m 14 #[.val (.int i0), .val (.int (4 : Int32)), .val (.ref w11), .unset, .unset] [(.int (4 : Int32))])) _
      refine st96 _ ?_
      show Steps p.tables e below (T96.setTop (mkF m 17 #[.val (.int i0), .val (.int (4 : Int32)), .val (.ref w11), .unset, .unset] [(.ref w6)])) _
      refine XS.astoreN X96.here hx rfl (hb hby at_17) rfl rfl (l' := #[.val (.int i0), .val (.int (4 : Int32)), .val (.ref w11), .val (.ref w6), .unset]) rfl ?_
      show Steps p.tables e below (T96.setTop (mkF m 18 #[.val (.int i0), .val (.int (4 : Int32)), .val (.ref w11), .val (.ref w6), .unset] [])) _
      refine XS.aloadN X96.here hx rfl (hb hby at_18) rfl rfl ?_
      show Steps p.tables e below (T96.setTop (mkF m 19 #[.val (.int i0), .val (.int (4 : Int32)), .val (.ref w11), .val (.ref w6), .unset] [(.ref w11)])) _
      refine st115 _ ?_
      show Steps p.tables e below (T115.setTop (mkF m 22 #[.val (.int i0), .val (.int (4 : Int32)), .val (.ref w11), .val (.ref w6), .unset] [(.ref r115)])) _
      refine XS.aconstNull X115.here hx rfl (hb hby at_22) ?_
      show Steps p.tables e below (T115.setTop (mkF m 23 #[.val (.int i0), .val (.int (4 : Int32)), .val (.ref w11), .val (.ref w6), .unset] [.null, (.ref r115)])) _
      refine st118.trans ?_
      show Steps p.tables e below (T118.setTop (mkF m 26 #[.val (.int i0), .val (.int (4 : Int32)), .val (.ref w11), .val (.ref w6), .unset] [(.ref w6)])) _
      refine st119 _ ?_
      show Steps p.tables e below (T119.setTop (mkF m 29 #[.val (.int i0), .val (.int (4 : Int32)), .val (.ref w11), .val (.ref w6), .unset] [(.ref w6)])) _
      refine XS.astore X119.here hx rfl (hb hby at_29) rfl rfl (l' := #[.val (.int i0), .val (.int (4 : Int32)), .val (.ref w11), .val (.ref w6), .val (.ref w6)]) rfl ?_
      show Steps p.tables e below (T119.setTop (mkF m 31 #[.val (.int i0), .val (.int (4 : Int32)), .val (.ref w11), .val (.ref w6), .val (.ref w6)] [])) _
      refine XS.aload X119.here hx rfl (hb hby at_31) rfl rfl ?_
      show Steps p.tables e below (T119.setTop (mkF m 33 #[.val (.int i0), .val (.int (4 : Int32)), .val (.ref w11), .val (.ref w6), .val (.ref w6)] [(.ref w6)])) _
      refine XS.aloadN X119.here hx rfl (hb hby at_33) rfl rfl ?_
      show Steps p.tables e below (T119.setTop (mkF m 34 #[.val (.int i0), .val (.int (4 : Int32)), .val (.ref w11), .val (.ref w6), .val (.ref w6)] [(.ref w6), (.ref w6)])) _
      refine Jvm.RoadKit.acmp (g := (mkF m 34 #[.val (.int i0), .val (.int (4 : Int32)), .val (.ref w11), .val (.ref w6), .val (.ref w6)] [(.ref w6), (.ref w6)])) X119 hx rfl rfl rfl (pc0 := 34) (pc' := 37) (same := true) rfl (hb hby at_34) rfl (decide_eq_true rfl) (by decide) (by decide) ?_
      show Steps p.tables e below (T119.setTop (mkF m 37 #[.val (.int i0), .val (.int (4 : Int32)), .val (.ref w11), .val (.ref w6), .val (.ref w6)] [])) _
      refine XS.iconst X119.here hx rfl (hb hby at_37) ?_
      show Steps p.tables e below (T119.setTop (mkF m 38 #[.val (.int i0), .val (.int (4 : Int32)), .val (.ref w11), .val (.ref w6), .val (.ref w6)] [(.int (1 : Int32))])) _
      refine XS.goto X119.here hx rfl (pc0 := 38) (pc' := 42) rfl (hb hby at_38) (by decide) (by decide) ?_
      show Steps p.tables e below (T119.setTop (mkF m 42 #[.val (.int i0), .val (.int (4 : Int32)), .val (.ref w11), .val (.ref w6), .val (.ref w6)] [(.int (1 : Int32))])) _
      exact retN X119 hx (t := .boolean) Bd.returns (by simp) (hb hby at_42) hr
    · show Ql n0 _ T119.heap _
      exact ⟨rfl, N118⟩
  · obtain ⟨_, _, ⟨T121, L121, k121, n121⟩, -, X121, ⟨Lc121, hQ121, l121, y121, z121⟩, st121⟩ := Jvm.LawKit.callS X0 hx (y := (⟨"com/example/weaverbird/weaverbird/queues/RunActionOfPinLaw", "typeAt", "(I)Lcom/example/weaverbird/weaverbird/codes/CommandType;"⟩ : MethodName)) hown (mvT hZ (hw _ (List.mem_of_getElem? (i := 1) rfl))) (mvT hZ (hw _ (List.mem_of_getElem? (i := 2) rfl))) (mvT hZ (hw _ (List.mem_of_getElem? (i := 3) rfl))) (mvT hZ (hw _ (List.mem_of_getElem? (i := 4) rfl))) (by decide) (backOf (W := 0) (rm27 l Z a0 hw [] w0 w1 w2 w3 w4 w5 w6 w7 w8 w9 w10 w11 w12 w13 w14 w15 w16 w17 h0 n0 hWd O0) hZ (hw _ (List.mem_of_getElem? (i := 4) rfl)) (hw _ (List.mem_of_getElem? (i := 3) rfl)) (by decide) (by decide)) (g := (mkF m 9 #[.val (.int i0), .val (.int (5 : Int32)), .unset, .unset, .unset] [(.int (5 : Int32))])) rfl (by rw [hml]; rfl) (argsL := [(.int (5 : Int32))]) (rest := []) (lenOf pd0 rfl) rfl (by show 2 * 0 + _ ≤ _; exact Nat.le_of_eq rfl) (hb hby at_9) (fun _ _ => ⟨rfl, e0, (by decide : 0 + 0 ≤ _), (by decide : 0 + 0 ≤ _)⟩)
    dsimp only [Pt.U, Pt.locs, Pt.cells, Pt.slots] at X121 l121 y121 z121 st121 hQ121
    subst l121 y121 z121
    obtain ⟨rfl, N121q, e121⟩ := hQ121
    have N121 := Fr.app N0 N121q
    obtain ⟨_, _, ⟨T122, L122, k122, n122⟩, -, X122, ⟨Lc122, hQ122, l122, y122, z122⟩, st122⟩ := Jvm.LawKit.callS X121 hx (y := (⟨"com/example/weaverbird/weaverbird/queues/RunActionOfPinLaw", "expectedFor", "(I)Lcom/example/weaverbird/weaverbird/queues/RunAction;"⟩ : MethodName)) hown (mvT hZ (hw _ (List.mem_of_getElem? (i := 8) rfl))) (mvT hZ (hw _ (List.mem_of_getElem? (i := 9) rfl))) (mvT hZ (hw _ (List.mem_of_getElem? (i := 3) rfl))) (mvT hZ (hw _ (List.mem_of_getElem? (i := 10) rfl))) (by decide) (backOf (W := 0) (rm28 l Z a0 hw [] w0 w1 w2 w3 w4 w5 w6 w7 w8 w9 w10 w11 w12 w13 w14 w15 w16 w17 h0 n0 hWd O0) hZ (hw _ (List.mem_of_getElem? (i := 10) rfl)) (hw _ (List.mem_of_getElem? (i := 3) rfl)) (by decide) (by decide)) (g := (mkF m 14 #[.val (.int i0), .val (.int (5 : Int32)), .val (.ref w15), .unset, .unset] [(.int (5 : Int32))])) rfl (by rw [hml]; rfl) (argsL := [(.int (5 : Int32))]) (rest := []) (lenOf pd1 rfl) rfl (by show 2 * 0 + _ ≤ _; exact Nat.le_of_eq rfl) (hb hby at_14) (fun _ _ => ⟨rfl, e121, (by decide : 0 + 0 ≤ _), (by decide : 0 + 0 ≤ _)⟩)
    dsimp only [Pt.U, Pt.locs, Pt.cells, Pt.slots] at X122 l122 y122 z122 st122 hQ122
    subst l122 y122 z122
    obtain ⟨rfl, N122q, e122⟩ := hQ122
    have N122 := Fr.app N121 N122q
    obtain ⟨_, _, ⟨T136, L136, k136, n136⟩, -, X136, ⟨Lc136, hQ136, l136, y136, z136⟩, st136⟩ := Jvm.LawKit.callS X122 hx (y := (⟨"com/example/weaverbird/weaverbird/queues/RunAction", "of", "(Lcom/example/weaverbird/weaverbird/codes/CommandType;)Ljava/util/Optional;"⟩ : MethodName)) hown (mvT hZ (hw _ (List.mem_of_getElem? (i := 11) rfl))) (mvT hZ (hw _ (List.mem_of_getElem? (i := 12) rfl))) (mvT hZ (hw _ (List.mem_of_getElem? (i := 13) rfl))) (mvT hZ (hw _ (List.mem_of_getElem? (i := 14) rfl))) (by decide) (backOf (W := 0) (rm29 l Z a0 hw [] w0 w1 w2 w3 w4 w5 w6 w7 w8 w9 w10 w11 w12 w13 w14 w15 w16 w17 h0 n0 hWd O0) hZ (hw _ (List.mem_of_getElem? (i := 14) rfl)) (hw _ (List.mem_of_getElem? (i := 13) rfl)) (by decide) (by decide)) (g := (mkF m 19 #[.val (.int i0), .val (.int (5 : Int32)), .val (.ref w15), .val .null, .unset] [(.ref w15)])) rfl (by rw [hml]; rfl) (argsL := [(.ref w15)]) (rest := []) (lenOf pd4 rfl) rfl (by show 2 * 0 + _ ≤ _; exact Nat.le_of_eq rfl) (hb hby at_19) (fun _ _ => ⟨rfl, e122, (by decide : 0 + 1 ≤ _), (by decide : 0 + 5 ≤ _)⟩)
    dsimp only [Pt.U, Pt.locs, Pt.cells, Pt.slots] at X136 l136 y136 z136 st136 hQ136
    subst l136 y136 z136
    obtain ⟨rfl, N136q, K136, O_136⟩ := hQ136
    have N136 := Fr.app N122 N136q
    obtain ⟨cq137, kq137, q137a, q137b, q137c⟩ := isOf hZ rfl (wE17.ext O_136.2)
    obtain ⟨_, _, ⟨T137, L137, k137, n137⟩, -, X137, ⟨Lc137, hQ137, l137, y137, z137⟩, st137⟩ := X136.virtualBack hx (y := (⟨"java/util/Optional", "orElse", "(Ljava/lang/Object;)Ljava/lang/Object;"⟩ : MethodName)) (z := (⟨"java/util/Optional", "orElse", "(Ljava/lang/Object;)Ljava/lang/Object;"⟩ : MethodName)) hown (mvT hZ (hw _ (List.mem_of_getElem? (i := 47) rfl))) (mvT hZ (hw _ (List.mem_of_getElem? (i := 48) rfl))) (notFace_of_selects (args := #[]) (mvT hZ (hw _ (List.mem_of_getElem? (i := 50) rfl)))) (mvT hZ (hw _ (List.mem_of_getElem? (i := 50) rfl))) (mvT hZ (hw _ (List.mem_of_getElem? (i := 49) rfl))) (by decide) (backOf (W := 0) (rm6 l Z a0 hw [] w0 w1 w2 w3 w4 w5 w6 w7 w8 w9 w10 w11 w12 w13 w14 w15 w16 w17 T136.heap n0 hWd O_136) hZ (hw _ (List.mem_of_getElem? (i := 51) rfl)) (hw _ (List.mem_of_getElem? (i := 44) rfl)) (by decide) (by decide)) q137a q137c (g := (mkF m 23 #[.val (.int i0), .val (.int (5 : Int32)), .val (.ref w15), .val .null, .unset] [.null, (.ref w17)])) rfl (by rw [hml]; rfl) (Steps.refl _) (argsL := [.null]) (rest := []) (lenOf pd5 rfl) rfl (by show 2 * 0 + _ ≤ _; exact Nat.le_of_eq rfl) (hb hby at_23) (fun _ _ => ⟨rfl, rfl, (by decide : 1 + 0 ≤ _), (by decide : 5 + 0 ≤ _)⟩)
    dsimp only [Pt.U, Pt.locs, Pt.cells, Pt.slots] at X137 l137 y137 z137 st137 hQ137
    subst l137 y137 z137
    obtain ⟨rfl, N137q, e137⟩ := hQ137
    have N137 := Fr.app N136 N137q
    obtain ⟨fs, hr, hrun, hended, hWr, hsame⟩ := X137.leave (v := some (.int (1 : Int32))) (fun h => by rw [Bd.returns] at h; cases h) hlk
    refine ⟨_, _, pre1 _ ?_, hrun, hended, _, _, rfl, ?_, ⟨_, rfl⟩, hWr, hsame.mono (Nat.le_of_ble_eq_true rfl) (Nat.le_of_ble_eq_true rfl)⟩
    · show Steps p.tables e below (s₁.setTop (mkF m 6 #[.val (.int i0), .unset, .unset, .unset, .unset] [(.int (11 : Int32)), (.int (i0 &&& (2147483647 : Int32)))])) _
      refine iremM X0 hx rfl (hb hby at_6) rfl (by decide) ?_
      show Steps p.tables e below (s₁.setTop (mkF m 7 #[.val (.int i0), .unset, .unset, .unset, .unset] [(.int ((i0 &&& (2147483647 : Int32)) % (11 : Int32)))])) _
      rw [hk7]
      show Steps p.tables e below (s₁.setTop (mkF m 7 #[.val (.int i0), .unset, .unset, .unset, .unset] [(.int (5 : Int32))])) _
      refine XS.istoreN X0.here hx rfl (hb hby at_7) rfl (l' := #[.val (.int i0), .val (.int (5 : Int32)), .unset, .unset, .unset]) rfl ?_
      show Steps p.tables e below (s₁.setTop (mkF m 8 #[.val (.int i0), .val (.int (5 : Int32)), .unset, .unset, .unset] [])) _
      refine XS.iloadN X0.here hx rfl (hb hby at_8) rfl ?_
      show Steps p.tables e below (s₁.setTop (mkF m 9 #[.val (.int i0), .val (.int (5 : Int32)), .unset, .unset, .unset] [(.int (5 : Int32))])) _
      refine st121 _ ?_
      show Steps p.tables e below (T121.setTop (mkF m 12 #[.val (.int i0), .val (.int (5 : Int32)), .unset, .unset, .unset] [(.ref w15)])) _
      refine XS.astoreN X121.here hx rfl (hb hby at_12) rfl rfl (l' := #[.val (.int i0), .val (.int (5 : Int32)), .val (.ref w15), .unset, .unset]) rfl ?_
      show Steps p.tables e below (T121.setTop (mkF m 13 #[.val (.int i0), .val (.int (5 : Int32)), .val (.ref w15), .unset, .unset] [])) _
      refine XS.iloadN X121.here hx rfl (hb hby at_13) rfl ?_
      show Steps p.tables e below (T121.setTop (mkF m 14 #[.val (.int i0), .val (.int (5 : Int32)), .val (.ref w15), .unset, .unset] [(.int (5 : Int32))])) _
      refine st122 _ ?_
      show Steps p.tables e below (T122.setTop (mkF m 17 #[.val (.int i0), .val (.int (5 : Int32)), .val (.ref w15), .unset, .unset] [.null])) _
      refine XS.astoreN X122.here hx rfl (hb hby at_17) rfl rfl (l' := #[.val (.int i0), .val (.int (5 : Int32)), .val (.ref w15), .val .null, .unset]) rfl ?_
      show Steps p.tables e below (T122.setTop (mkF m 18 #[.val (.int i0), .val (.int (5 : Int32)), .val (.ref w15), .val .null, .unset] [])) _
      refine XS.aloadN X122.here hx rfl (hb hby at_18) rfl rfl ?_
      show Steps p.tables e below (T122.setTop (mkF m 19 #[.val (.int i0), .val (.int (5 : Int32)), .val (.ref w15), .val .null, .unset] [(.ref w15)])) _
      refine st136 _ ?_
      show Steps p.tables e below (T136.setTop (mkF m 22 #[.val (.int i0), .val (.int (5 : Int32)), .val (.ref w15), .val .null, .unset] [(.ref w17)])) _
      refine XS.aconstNull X136.here hx rfl (hb hby at_22) ?_
      show Steps p.tables e below (T136.setTop (mkF m 23 #[.val (.int i0), .val (.int (5 : Int32)), .val (.ref w15), .val .null, .unset] [.null, (.ref w17)])) _
      refine st137.trans ?_
      show Steps p.tables e below (T137.setTop (mkF m 26 #[.val (.int i0), .val (.int (5 : Int32)), .val (.ref w15), .val .null, .unset] [.null])) _
      refine X137.checkcastNull hx (g := (mkF m 26 #[.val (.int i0), .val (.int (5 : Int32)), .val (.ref w15), .val .null, .unset] [.null])) rfl rfl (hb hby at_26) _ ?_
      show Steps p.tables e below (T137.setTop (mkF m 29 #[.val (.int i0), .val (.int (5 : Int32)), .val (.ref w15), .val .null, .unset] [.null])) _
      refine XS.astore X137.here hx rfl (hb hby at_29) rfl rfl (l' := #[.val (.int i0), .val (.int (5 : Int32)), .val (.ref w15), .val .null, .val .null]) rfl ?_
      show Steps p.tables e below (T137.setTop (mkF m 31 #[.val (.int i0), .val (.int (5 : Int32)), .val (.ref w15), .val .null, .val .null] [])) _
      refine XS.aload X137.here hx rfl (hb hby at_31) rfl rfl ?_
      show Steps p.tables e below (T137.setTop (mkF m 33 #[.val (.int i0), .val (.int (5 : Int32)), .val (.ref w15), .val .null, .val .null] [.null])) _
      refine XS.aloadN X137.here hx rfl (hb hby at_33) rfl rfl ?_
      show Steps p.tables e below (T137.setTop (mkF m 34 #[.val (.int i0), .val (.int (5 : Int32)), .val (.ref w15), .val .null, .val .null] [.null, .null])) _
      refine Jvm.RoadKit.acmp (g := (mkF m 34 #[.val (.int i0), .val (.int (5 : Int32)), .val (.ref w15), .val .null, .val .null] [.null, .null])) X137 hx rfl rfl rfl (pc0 := 34) (pc' := 37) (same := true) rfl (hb hby at_34) rfl (decide_eq_true rfl) (by decide) (by decide) ?_
      show Steps p.tables e below (T137.setTop (mkF m 37 #[.val (.int i0), .val (.int (5 : Int32)), .val (.ref w15), .val .null, .val .null] [])) _
      refine XS.iconst X137.here hx rfl (hb hby at_37) ?_
      show Steps p.tables e below (T137.setTop (mkF m 38 #[.val (.int i0), .val (.int (5 : Int32)), .val (.ref w15), .val .null, .val .null] [(.int (1 : Int32))])) _
      refine XS.goto X137.here hx rfl (pc0 := 38) (pc' := 42) rfl (hb hby at_38) (by decide) (by decide) ?_
      show Steps p.tables e below (T137.setTop (mkF m 42 #[.val (.int i0), .val (.int (5 : Int32)), .val (.ref w15), .val .null, .val .null] [(.int (1 : Int32))])) _
      exact retN X137 hx (t := .boolean) Bd.returns (by simp) (hb hby at_42) hr
    · show Ql n0 _ T137.heap _
      exact ⟨rfl, N137⟩
  · obtain ⟨_, _, ⟨T139, L139, k139, n139⟩, -, X139, ⟨Lc139, hQ139, l139, y139, z139⟩, st139⟩ := Jvm.LawKit.callS X0 hx (y := (⟨"com/example/weaverbird/weaverbird/queues/RunActionOfPinLaw", "typeAt", "(I)Lcom/example/weaverbird/weaverbird/codes/CommandType;"⟩ : MethodName)) hown (mvT hZ (hw _ (List.mem_of_getElem? (i := 1) rfl))) (mvT hZ (hw _ (List.mem_of_getElem? (i := 2) rfl))) (mvT hZ (hw _ (List.mem_of_getElem? (i := 3) rfl))) (mvT hZ (hw _ (List.mem_of_getElem? (i := 4) rfl))) (by decide) (backOf (W := 0) (rm30 l Z a0 hw [] w0 w1 w2 w3 w4 w5 w6 w7 w8 w9 w10 w11 w12 w13 w14 w15 w16 w17 h0 n0 hWd O0) hZ (hw _ (List.mem_of_getElem? (i := 4) rfl)) (hw _ (List.mem_of_getElem? (i := 3) rfl)) (by decide) (by decide)) (g := (mkF m 9 #[.val (.int i0), .val (.int (6 : Int32)), .unset, .unset, .unset] [(.int (6 : Int32))])) rfl (by rw [hml]; rfl) (argsL := [(.int (6 : Int32))]) (rest := []) (lenOf pd0 rfl) rfl (by show 2 * 0 + _ ≤ _; exact Nat.le_of_eq rfl) (hb hby at_9) (fun _ _ => ⟨rfl, e0, (by decide : 0 + 0 ≤ _), (by decide : 0 + 0 ≤ _)⟩)
    dsimp only [Pt.U, Pt.locs, Pt.cells, Pt.slots] at X139 l139 y139 z139 st139 hQ139
    subst l139 y139 z139
    obtain ⟨rfl, N139q, e139⟩ := hQ139
    have N139 := Fr.app N0 N139q
    obtain ⟨_, _, ⟨T140, L140, k140, n140⟩, -, X140, ⟨Lc140, hQ140, l140, y140, z140⟩, st140⟩ := Jvm.LawKit.callS X139 hx (y := (⟨"com/example/weaverbird/weaverbird/queues/RunActionOfPinLaw", "expectedFor", "(I)Lcom/example/weaverbird/weaverbird/queues/RunAction;"⟩ : MethodName)) hown (mvT hZ (hw _ (List.mem_of_getElem? (i := 8) rfl))) (mvT hZ (hw _ (List.mem_of_getElem? (i := 9) rfl))) (mvT hZ (hw _ (List.mem_of_getElem? (i := 3) rfl))) (mvT hZ (hw _ (List.mem_of_getElem? (i := 10) rfl))) (by decide) (backOf (W := 0) (rm31 l Z a0 hw [] w0 w1 w2 w3 w4 w5 w6 w7 w8 w9 w10 w11 w12 w13 w14 w15 w16 w17 h0 n0 hWd O0) hZ (hw _ (List.mem_of_getElem? (i := 10) rfl)) (hw _ (List.mem_of_getElem? (i := 3) rfl)) (by decide) (by decide)) (g := (mkF m 14 #[.val (.int i0), .val (.int (6 : Int32)), .val (.ref w16), .unset, .unset] [(.int (6 : Int32))])) rfl (by rw [hml]; rfl) (argsL := [(.int (6 : Int32))]) (rest := []) (lenOf pd1 rfl) rfl (by show 2 * 0 + _ ≤ _; exact Nat.le_of_eq rfl) (hb hby at_14) (fun _ _ => ⟨rfl, e139, (by decide : 0 + 0 ≤ _), (by decide : 0 + 0 ≤ _)⟩)
    dsimp only [Pt.U, Pt.locs, Pt.cells, Pt.slots] at X140 l140 y140 z140 st140 hQ140
    subst l140 y140 z140
    obtain ⟨rfl, N140q, e140⟩ := hQ140
    have N140 := Fr.app N139 N140q
    obtain ⟨_, _, ⟨T154, L154, k154, n154⟩, -, X154, ⟨Lc154, hQ154, l154, y154, z154⟩, st154⟩ := Jvm.LawKit.callS X140 hx (y := (⟨"com/example/weaverbird/weaverbird/queues/RunAction", "of", "(Lcom/example/weaverbird/weaverbird/codes/CommandType;)Ljava/util/Optional;"⟩ : MethodName)) hown (mvT hZ (hw _ (List.mem_of_getElem? (i := 11) rfl))) (mvT hZ (hw _ (List.mem_of_getElem? (i := 12) rfl))) (mvT hZ (hw _ (List.mem_of_getElem? (i := 13) rfl))) (mvT hZ (hw _ (List.mem_of_getElem? (i := 14) rfl))) (by decide) (backOf (W := 0) (rm32 l Z a0 hw [] w0 w1 w2 w3 w4 w5 w6 w7 w8 w9 w10 w11 w12 w13 w14 w15 w16 w17 h0 n0 hWd O0) hZ (hw _ (List.mem_of_getElem? (i := 14) rfl)) (hw _ (List.mem_of_getElem? (i := 13) rfl)) (by decide) (by decide)) (g := (mkF m 19 #[.val (.int i0), .val (.int (6 : Int32)), .val (.ref w16), .val .null, .unset] [(.ref w16)])) rfl (by rw [hml]; rfl) (argsL := [(.ref w16)]) (rest := []) (lenOf pd4 rfl) rfl (by show 2 * 0 + _ ≤ _; exact Nat.le_of_eq rfl) (hb hby at_19) (fun _ _ => ⟨rfl, e140, (by decide : 0 + 1 ≤ _), (by decide : 0 + 5 ≤ _)⟩)
    dsimp only [Pt.U, Pt.locs, Pt.cells, Pt.slots] at X154 l154 y154 z154 st154 hQ154
    subst l154 y154 z154
    obtain ⟨rfl, N154q, K154, O_154⟩ := hQ154
    have N154 := Fr.app N140 N154q
    obtain ⟨cq155, kq155, q155a, q155b, q155c⟩ := isOf hZ rfl (wE17.ext O_154.2)
    obtain ⟨_, _, ⟨T155, L155, k155, n155⟩, -, X155, ⟨Lc155, hQ155, l155, y155, z155⟩, st155⟩ := X154.virtualBack hx (y := (⟨"java/util/Optional", "orElse", "(Ljava/lang/Object;)Ljava/lang/Object;"⟩ : MethodName)) (z := (⟨"java/util/Optional", "orElse", "(Ljava/lang/Object;)Ljava/lang/Object;"⟩ : MethodName)) hown (mvT hZ (hw _ (List.mem_of_getElem? (i := 47) rfl))) (mvT hZ (hw _ (List.mem_of_getElem? (i := 48) rfl))) (notFace_of_selects (args := #[]) (mvT hZ (hw _ (List.mem_of_getElem? (i := 50) rfl)))) (mvT hZ (hw _ (List.mem_of_getElem? (i := 50) rfl))) (mvT hZ (hw _ (List.mem_of_getElem? (i := 49) rfl))) (by decide) (backOf (W := 0) (rm6 l Z a0 hw [] w0 w1 w2 w3 w4 w5 w6 w7 w8 w9 w10 w11 w12 w13 w14 w15 w16 w17 T154.heap n0 hWd O_154) hZ (hw _ (List.mem_of_getElem? (i := 51) rfl)) (hw _ (List.mem_of_getElem? (i := 44) rfl)) (by decide) (by decide)) q155a q155c (g := (mkF m 23 #[.val (.int i0), .val (.int (6 : Int32)), .val (.ref w16), .val .null, .unset] [.null, (.ref w17)])) rfl (by rw [hml]; rfl) (Steps.refl _) (argsL := [.null]) (rest := []) (lenOf pd5 rfl) rfl (by show 2 * 0 + _ ≤ _; exact Nat.le_of_eq rfl) (hb hby at_23) (fun _ _ => ⟨rfl, rfl, (by decide : 1 + 0 ≤ _), (by decide : 5 + 0 ≤ _)⟩)
    dsimp only [Pt.U, Pt.locs, Pt.cells, Pt.slots] at X155 l155 y155 z155 st155 hQ155
    subst l155 y155 z155
    obtain ⟨rfl, N155q, e155⟩ := hQ155
    have N155 := Fr.app N154 N155q
    obtain ⟨fs, hr, hrun, hended, hWr, hsame⟩ := X155.leave (v := some (.int (1 : Int32))) (fun h => by rw [Bd.returns] at h; cases h) hlk
    refine ⟨_, _, pre1 _ ?_, hrun, hended, _, _, rfl, ?_, ⟨_, rfl⟩, hWr, hsame.mono (Nat.le_of_ble_eq_true rfl) (Nat.le_of_ble_eq_true rfl)⟩
    · show Steps p.tables e below (s₁.setTop (mkF m 6 #[.val (.int i0), .unset, .unset, .unset, .unset] [(.int (11 : Int32)), (.int (i0 &&& (2147483647 : Int32)))])) _
      refine iremM X0 hx rfl (hb hby at_6) rfl (by decide) ?_
      show Steps p.tables e below (s₁.setTop (mkF m 7 #[.val (.int i0), .unset, .unset, .unset, .unset] [(.int ((i0 &&& (2147483647 : Int32)) % (11 : Int32)))])) _
      rw [hk8]
      show Steps p.tables e below (s₁.setTop (mkF m 7 #[.val (.int i0), .unset, .unset, .unset, .unset] [(.int (6 : Int32))])) _
      refine XS.istoreN X0.here hx rfl (hb hby at_7) rfl (l' := #[.val (.int i0), .val (.int (6 : Int32)), .unset, .unset, .unset]) rfl ?_
      show Steps p.tables e below (s₁.setTop (mkF m 8 #[.val (.int i0), .val (.int (6 : Int32)), .unset, .unset, .unset] [])) _
      refine XS.iloadN X0.here hx rfl (hb hby at_8) rfl ?_
      show Steps p.tables e below (s₁.setTop (mkF m 9 #[.val (.int i0), .val (.int (6 : Int32)), .unset, .unset, .unset] [(.int (6 : Int32))])) _
      refine st139 _ ?_
      show Steps p.tables e below (T139.setTop (mkF m 12 #[.val (.int i0), .val (.int (6 : Int32)), .unset, .unset, .unset] [(.ref w16)])) _
      refine XS.astoreN X139.here hx rfl (hb hby at_12) rfl rfl (l' := #[.val (.int i0), .val (.int (6 : Int32)), .val (.ref w16), .unset, .unset]) rfl ?_
      show Steps p.tables e below (T139.setTop (mkF m 13 #[.val (.int i0), .val (.int (6 : Int32)), .val (.ref w16), .unset, .unset] [])) _
      refine XS.iloadN X139.here hx rfl (hb hby at_13) rfl ?_
      show Steps p.tables e below (T139.setTop (mkF m 14 #[.val (.int i0), .val (.int (6 : Int32)), .val (.ref w16), .unset, .unset] [(.int (6 : Int32))])) _
      refine st140 _ ?_
      show Steps p.tables e below (T140.setTop (mkF m 17 #[.val (.int i0), .val (.int (6 : Int32)), .val (.ref w16), .unset, .unset] [.null])) _
      refine XS.astoreN X140.here hx rfl (hb hby at_17) rfl rfl (l' := #[.val (.int i0), .val (.int (6 : Int32)), .val (.ref w16), .val .null, .unset]) rfl ?_
      show Steps p.tables e below (T140.setTop (mkF m 18 #[.val (.int i0), .val (.int (6 : Int32)), .val (.ref w16), .val .null, .unset] [])) _
      refine XS.aloadN X140.here hx rfl (hb hby at_18) rfl rfl ?_
      show Steps p.tables e below (T140.setTop (mkF m 19 #[.val (.int i0), .val (.int (6 : Int32)), .val (.ref w16), .val .null, .unset] [(.ref w16)])) _
      refine st154 _ ?_
      show Steps p.tables e below (T154.setTop (mkF m 22 #[.val (.int i0), .val (.int (6 : Int32)), .val (.ref w16), .val .null, .unset] [(.ref w17)])) _
      refine XS.aconstNull X154.here hx rfl (hb hby at_22) ?_
      show Steps p.tables e below (T154.setTop (mkF m 23 #[.val (.int i0), .val (.int (6 : Int32)), .val (.ref w16), .val .null, .unset] [.null, (.ref w17)])) _
      refine st155.trans ?_
      show Steps p.tables e below (T155.setTop (mkF m 26 #[.val (.int i0), .val (.int (6 : Int32)), .val (.ref w16), .val .null, .unset] [.null])) _
      refine X155.checkcastNull hx (g := (mkF m 26 #[.val (.int i0), .val (.int (6 : Int32)), .val (.ref w16), .val .null, .unset] [.null])) rfl rfl (hb hby at_26) _ ?_
      show Steps p.tables e below (T155.setTop (mkF m 29 #[.val (.int i0), .val (.int (6 : Int32)), .val (.ref w16), .val .null, .unset] [.null])) _
      refine XS.astore X155.here hx rfl (hb hby at_29) rfl rfl (l' := #[.val (.int i0), .val (.int (6 : Int32)), .val (.ref w16), .val .null, .val .null]) rfl ?_
      show Steps p.tables e below (T155.setTop (mkF m 31 #[.val (.int i0), .val (.int (6 : Int32)), .val (.ref w16), .val .null, .val .null] [])) _
      refine XS.aload X155.here hx rfl (hb hby at_31) rfl rfl ?_
      show Steps p.tables e below (T155.setTop (mkF m 33 #[.val (.int i0), .val (.int (6 : Int32)), .val (.ref w16), .val .null, .val .null] [.null])) _
      refine XS.aloadN X155.here hx rfl (hb hby at_33) rfl rfl ?_
      show Steps p.tables e below (T155.setTop (mkF m 34 #[.val (.int i0), .val (.int (6 : Int32)), .val (.ref w16), .val .null, .val .null] [.null, .null])) _
      refine Jvm.RoadKit.acmp (g := (mkF m 34 #[.val (.int i0), .val (.int (6 : Int32)), .val (.ref w16), .val .null, .val .null] [.null, .null])) X155 hx rfl rfl rfl (pc0 := 34) (pc' := 37) (same := true) rfl (hb hby at_34) rfl (decide_eq_true rfl) (by decide) (by decide) ?_
      show Steps p.tables e below (T155.setTop (mkF m 37 #[.val (.int i0), .val (.int (6 : Int32)), .val (.ref w16), .val .null, .val .null] [])) _
      refine XS.iconst X155.here hx rfl (hb hby at_37) ?_
      show Steps p.tables e below (T155.setTop (mkF m 38 #[.val (.int i0), .val (.int (6 : Int32)), .val (.ref w16), .val .null, .val .null] [(.int (1 : Int32))])) _
      refine XS.goto X155.here hx rfl (pc0 := 38) (pc' := 42) rfl (hb hby at_38) (by decide) (by decide) ?_
      show Steps p.tables e below (T155.setTop (mkF m 42 #[.val (.int i0), .val (.int (6 : Int32)), .val (.ref w16), .val .null, .val .null] [(.int (1 : Int32))])) _
      exact retN X155 hx (t := .boolean) Bd.returns (by simp) (hb hby at_42) hr
    · show Ql n0 _ T155.heap _
      exact ⟨rfl, N155⟩
  · obtain ⟨_, _, ⟨T157, L157, k157, n157⟩, -, X157, ⟨Lc157, hQ157, l157, y157, z157⟩, st157⟩ := Jvm.LawKit.callS X0 hx (y := (⟨"com/example/weaverbird/weaverbird/queues/RunActionOfPinLaw", "typeAt", "(I)Lcom/example/weaverbird/weaverbird/codes/CommandType;"⟩ : MethodName)) hown (mvT hZ (hw _ (List.mem_of_getElem? (i := 1) rfl))) (mvT hZ (hw _ (List.mem_of_getElem? (i := 2) rfl))) (mvT hZ (hw _ (List.mem_of_getElem? (i := 3) rfl))) (mvT hZ (hw _ (List.mem_of_getElem? (i := 4) rfl))) (by decide) (backOf (W := 0) (rm33 l Z a0 hw [] w0 w1 w2 w3 w4 w5 w6 w7 w8 w9 w10 w11 w12 w13 w14 w15 w16 w17 h0 n0 hWd O0) hZ (hw _ (List.mem_of_getElem? (i := 4) rfl)) (hw _ (List.mem_of_getElem? (i := 3) rfl)) (by decide) (by decide)) (g := (mkF m 9 #[.val (.int i0), .val (.int (7 : Int32)), .unset, .unset, .unset] [(.int (7 : Int32))])) rfl (by rw [hml]; rfl) (argsL := [(.int (7 : Int32))]) (rest := []) (lenOf pd0 rfl) rfl (by show 2 * 0 + _ ≤ _; exact Nat.le_of_eq rfl) (hb hby at_9) (fun _ _ => ⟨rfl, e0, (by decide : 0 + 0 ≤ _), (by decide : 0 + 0 ≤ _)⟩)
    dsimp only [Pt.U, Pt.locs, Pt.cells, Pt.slots] at X157 l157 y157 z157 st157 hQ157
    subst l157 y157 z157
    obtain ⟨rfl, N157q, e157⟩ := hQ157
    have N157 := Fr.app N0 N157q
    obtain ⟨_, _, ⟨T159, L159, k159, n159⟩, -, X159, ⟨Lc159, hQ159, l159, y159, z159⟩, st159⟩ := Jvm.LawKit.callS X157 hx (y := (⟨"com/example/weaverbird/weaverbird/queues/RunActionOfPinLaw", "expectedFor", "(I)Lcom/example/weaverbird/weaverbird/queues/RunAction;"⟩ : MethodName)) hown (mvT hZ (hw _ (List.mem_of_getElem? (i := 8) rfl))) (mvT hZ (hw _ (List.mem_of_getElem? (i := 9) rfl))) (mvT hZ (hw _ (List.mem_of_getElem? (i := 3) rfl))) (mvT hZ (hw _ (List.mem_of_getElem? (i := 10) rfl))) (by decide) (backOf (W := 0) (rm34 l Z a0 hw [] w0 w1 w2 w3 w4 w5 w6 w7 w8 w9 w10 w11 w12 w13 w14 w15 w16 w17 h0 n0 hWd O0) hZ (hw _ (List.mem_of_getElem? (i := 10) rfl)) (hw _ (List.mem_of_getElem? (i := 3) rfl)) (by decide) (by decide)) (g := (mkF m 14 #[.val (.int i0), .val (.int (7 : Int32)), .val (.ref w10), .unset, .unset] [(.int (7 : Int32))])) rfl (by rw [hml]; rfl) (argsL := [(.int (7 : Int32))]) (rest := []) (lenOf pd1 rfl) rfl (by show 2 * 0 + _ ≤ _; exact Nat.le_of_eq rfl) (hb hby at_14) (fun _ _ => ⟨rfl, e157, (by decide : 0 + 0 ≤ _), (by decide : 0 + 0 ≤ _)⟩)
    dsimp only [Pt.U, Pt.locs, Pt.cells, Pt.slots] at X159 l159 y159 z159 st159 hQ159
    subst l159 y159 z159
    obtain ⟨rfl, N159q, e159⟩ := hQ159
    have N159 := Fr.app N157 N159q
    obtain ⟨_, _, ⟨T176, L176, k176, n176⟩, -, X176, ⟨Lc176, hQ176, l176, y176, z176⟩, st176⟩ := Jvm.LawKit.callS X159 hx (y := (⟨"com/example/weaverbird/weaverbird/queues/RunAction", "of", "(Lcom/example/weaverbird/weaverbird/codes/CommandType;)Ljava/util/Optional;"⟩ : MethodName)) hown (mvT hZ (hw _ (List.mem_of_getElem? (i := 11) rfl))) (mvT hZ (hw _ (List.mem_of_getElem? (i := 12) rfl))) (mvT hZ (hw _ (List.mem_of_getElem? (i := 13) rfl))) (mvT hZ (hw _ (List.mem_of_getElem? (i := 14) rfl))) (by decide) (backOf (W := 0) (rm35 l Z a0 hw [] w0 w1 w2 w3 w4 w5 w6 w7 w8 w9 w10 w11 w12 w13 w14 w15 w16 w17 h0 n0 hWd O0) hZ (hw _ (List.mem_of_getElem? (i := 14) rfl)) (hw _ (List.mem_of_getElem? (i := 13) rfl)) (by decide) (by decide)) (g := (mkF m 19 #[.val (.int i0), .val (.int (7 : Int32)), .val (.ref w10), .val (.ref w5), .unset] [(.ref w10)])) rfl (by rw [hml]; rfl) (argsL := [(.ref w10)]) (rest := []) (lenOf pd4 rfl) rfl (by show 2 * 0 + _ ≤ _; exact Nat.le_of_eq rfl) (hb hby at_19) (fun _ _ => ⟨rfl, e159, (by decide : 0 + 2 ≤ _), (by decide : 0 + 6 ≤ _)⟩)
    dsimp only [Pt.U, Pt.locs, Pt.cells, Pt.slots] at X176 l176 y176 z176 st176 hQ176
    subst l176 y176 z176
    obtain ⟨r176, rfl, N176q, K176, O_176, E_r176_176, F_r176_value_176, g_r176⟩ := hQ176
    have N176 := Fr.app N159 N176q
    obtain ⟨cq179, kq179, q179a, q179b, q179c⟩ := isOf hZ rfl E_r176_176
    obtain ⟨_, _, ⟨T179, L179, k179, n179⟩, -, X179, ⟨Lc179, hQ179, l179, y179, z179⟩, st179⟩ := X176.virtualBack hx (y := (⟨"java/util/Optional", "orElse", "(Ljava/lang/Object;)Ljava/lang/Object;"⟩ : MethodName)) (z := (⟨"java/util/Optional", "orElse", "(Ljava/lang/Object;)Ljava/lang/Object;"⟩ : MethodName)) hown (mvT hZ (hw _ (List.mem_of_getElem? (i := 47) rfl))) (mvT hZ (hw _ (List.mem_of_getElem? (i := 48) rfl))) (notFace_of_selects (args := #[]) (mvT hZ (hw _ (List.mem_of_getElem? (i := 50) rfl)))) (mvT hZ (hw _ (List.mem_of_getElem? (i := 50) rfl))) (mvT hZ (hw _ (List.mem_of_getElem? (i := 49) rfl))) (by decide) (backOf (W := 0) (rm39 l Z a0 hw [] w0 w1 w2 w3 w4 w5 w6 w7 w8 w9 w10 w11 w12 w13 w14 w15 w16 w17 r176 T176.heap n0 hWd O_176 E_r176_176 F_r176_value_176 g_r176) hZ (hw _ (List.mem_of_getElem? (i := 51) rfl)) (hw _ (List.mem_of_getElem? (i := 44) rfl)) (by decide) (by decide)) q179a q179c (g := (mkF m 23 #[.val (.int i0), .val (.int (7 : Int32)), .val (.ref w10), .val (.ref w5), .unset] [.null, (.ref r176)])) rfl (by rw [hml]; rfl) (Steps.refl _) (argsL := [.null]) (rest := []) (lenOf pd5 rfl) rfl (by show 2 * 0 + _ ≤ _; exact Nat.le_of_eq rfl) (hb hby at_23) (fun _ _ => ⟨rfl, rfl, (by decide : 2 + 0 ≤ _), (by decide : 6 + 0 ≤ _)⟩)
    dsimp only [Pt.U, Pt.locs, Pt.cells, Pt.slots] at X179 l179 y179 z179 st179 hQ179
    subst l179 y179 z179
    obtain ⟨rfl, N179q, e179⟩ := hQ179
    have N179 := Fr.app N176 N179q
    obtain ⟨T180, X180, e180, st180⟩ := castY X179 hx hZ hown (hw _ (List.mem_of_getElem? (i := 72) rfl)) e179 (Ins.self (wE5.ext O_176.2)) (g := (mkF m 26 #[.val (.int i0), .val (.int (7 : Int32)), .val (.ref w10), .val (.ref w5), .unset] [(.ref w5)])) rfl rfl (hb hby at_26)
    obtain ⟨fs, hr, hrun, hended, hWr, hsame⟩ := X180.leave (v := some (.int (1 : Int32))) (fun h => by rw [Bd.returns] at h; cases h) hlk
    refine ⟨_, _, pre1 _ ?_, hrun, hended, _, _, rfl, ?_, ⟨_, rfl⟩, hWr, hsame.mono (Nat.le_of_ble_eq_true rfl) (Nat.le_of_ble_eq_true rfl)⟩
    · show Steps p.tables e below (s₁.setTop (mkF m 6 #[.val (.int i0), .unset, .unset, .unset, .unset] [(.int (11 : Int32)), (.int (i0 &&& (2147483647 : Int32)))])) _
      refine iremM X0 hx rfl (hb hby at_6) rfl (by decide) ?_
      show Steps p.tables e below (s₁.setTop (mkF m 7 #[.val (.int i0), .unset, .unset, .unset, .unset] [(.int ((i0 &&& (2147483647 : Int32)) % (11 : Int32)))])) _
      rw [hk9]
      show Steps p.tables e below (s₁.setTop (mkF m 7 #[.val (.int i0), .unset, .unset, .unset, .unset] [(.int (7 : Int32))])) _
      refine XS.istoreN X0.here hx rfl (hb hby at_7) rfl (l' := #[.val (.int i0), .val (.int (7 : Int32)), .unset, .unset, .unset]) rfl ?_
      show Steps p.tables e below (s₁.setTop (mkF m 8 #[.val (.int i0), .val (.int (7 : Int32)), .unset, .unset, .unset] [])) _
      refine XS.iloadN X0.here hx rfl (hb hby at_8) rfl ?_
      show Steps p.tables e below (s₁.setTop (mkF m 9 #[.val (.int i0), .val (.int (7 : Int32)), .unset, .unset, .unset] [(.int (7 : Int32))])) _
      refine st157 _ ?_
      show Steps p.tables e below (T157.setTop (mkF m 12 #[.val (.int i0), .val (.int (7 : Int32)), .unset, .unset, .unset] [(.ref w10)])) _
      refine XS.astoreN X157.here hx rfl (hb hby at_12) rfl rfl (l' := #[.val (.int i0), .val (.int (7 : Int32)), .val (.ref w10), .unset, .unset]) rfl ?_
      show Steps p.tables e below (T157.setTop (mkF m 13 #[.val (.int i0), .val (.int (7 : Int32)), .val (.ref w10), .unset, .unset] [])) _
      refine XS.iloadN X157.here hx rfl (hb hby at_13) rfl ?_
      show Steps p.tables e below (T157.setTop (mkF m 14 #[.val (.int i0), .val (.int (7 : Int32)), .val (.ref w10), .unset, .unset] [(.int (7 : Int32))])) _
      refine st159 _ ?_
      show Steps p.tables e below (T159.setTop (mkF m 17 #[.val (.int i0), .val (.int (7 : Int32)), .val (.ref w10), .unset, .unset] [(.ref w5)])) _
      refine XS.astoreN X159.here hx rfl (hb hby at_17) rfl rfl (l' := #[.val (.int i0), .val (.int (7 : Int32)), .val (.ref w10), .val (.ref w5), .unset]) rfl ?_
      show Steps p.tables e below (T159.setTop (mkF m 18 #[.val (.int i0), .val (.int (7 : Int32)), .val (.ref w10), .val (.ref w5), .unset] [])) _
      refine XS.aloadN X159.here hx rfl (hb hby at_18) rfl rfl ?_
      show Steps p.tables e below (T159.setTop (mkF m 19 #[.val (.int i0), .val (.int (7 : Int32)), .val (.ref w10), .val (.ref w5), .unset] [(.ref w10)])) _
      refine st176 _ ?_
      show Steps p.tables e below (T176.setTop (mkF m 22 #[.val (.int i0), .val (.int (7 : Int32)), .val (.ref w10), .val (.ref w5), .unset] [(.ref r176)])) _
      refine XS.aconstNull X176.here hx rfl (hb hby at_22) ?_
      show Steps p.tables e below (T176.setTop (mkF m 23 #[.val (.int i0), .val (.int (7 : Int32)), .val (.ref w10), .val (.ref w5), .unset] [.null, (.ref r176)])) _
      refine st179.trans ?_
      show Steps p.tables e below (T179.setTop (mkF m 26 #[.val (.int i0), .val (.int (7 : Int32)), .val (.ref w10), .val (.ref w5), .unset] [(.ref w5)])) _
      refine st180 _ ?_
      show Steps p.tables e below (T180.setTop (mkF m 29 #[.val (.int i0), .val (.int (7 : Int32)), .val (.ref w10), .val (.ref w5), .unset] [(.ref w5)])) _
      refine XS.astore X180.here hx rfl (hb hby at_29) rfl rfl (l' := #[.val (.int i0), .val (.int (7 : Int32)), .val (.ref w10), .val (.ref w5), .val (.ref w5)]) rfl ?_
      show Steps p.tables e below (T180.setTop (mkF m 31 #[.val (.int i0), .val (.int (7 : Int32)), .val (.ref w10), .val (.ref w5), .val (.ref w5)] [])) _
      refine XS.aload X180.here hx rfl (hb hby at_31) rfl rfl ?_
      show Steps p.tables e below (T180.setTop (mkF m 33 #[.val (.int i0), .val (.int (7 : Int32)), .val (.ref w10), .val (.ref w5), .val (.ref w5)] [(.ref w5)])) _
      refine XS.aloadN X180.here hx rfl (hb hby at_33) rfl rfl ?_
      show Steps p.tables e below (T180.setTop (mkF m 34 #[.val (.int i0), .val (.int (7 : Int32)), .val (.ref w10), .val (.ref w5), .val (.ref w5)] [(.ref w5), (.ref w5)])) _
      refine Jvm.RoadKit.acmp (g := (mkF m 34 #[.val (.int i0), .val (.int (7 : Int32)), .val (.ref w10), .val (.ref w5), .val (.ref w5)] [(.ref w5), (.ref w5)])) X180 hx rfl rfl rfl (pc0 := 34) (pc' := 37) (same := true) rfl (hb hby at_34) rfl (decide_eq_true rfl) (by decide) (by decide) ?_
      show Steps p.tables e below (T180.setTop (mkF m 37 #[.val (.int i0), .val (.int (7 : Int32)), .val (.ref w10), .val (.ref w5), .val (.ref w5)] [])) _
      refine XS.iconst X180.here hx rfl (hb hby at_37) ?_
      show Steps p.tables e below (T180.setTop (mkF m 38 #[.val (.int i0), .val (.int (7 : Int32)), .val (.ref w10), .val (.ref w5), .val (.ref w5)] [(.int (1 : Int32))])) _
      refine XS.goto X180.here hx rfl (pc0 := 38) (pc' := 42) rfl (hb hby at_38) (by decide) (by decide) ?_
      show Steps p.tables e below (T180.setTop (mkF m 42 #[.val (.int i0), .val (.int (7 : Int32)), .val (.ref w10), .val (.ref w5), .val (.ref w5)] [(.int (1 : Int32))])) _
      exact retN X180 hx (t := .boolean) Bd.returns (by simp) (hb hby at_42) hr
    · show Ql n0 _ T180.heap _
      exact ⟨rfl, N179⟩
  · obtain ⟨_, _, ⟨T182, L182, k182, n182⟩, -, X182, ⟨Lc182, hQ182, l182, y182, z182⟩, st182⟩ := Jvm.LawKit.callS X0 hx (y := (⟨"com/example/weaverbird/weaverbird/queues/RunActionOfPinLaw", "typeAt", "(I)Lcom/example/weaverbird/weaverbird/codes/CommandType;"⟩ : MethodName)) hown (mvT hZ (hw _ (List.mem_of_getElem? (i := 1) rfl))) (mvT hZ (hw _ (List.mem_of_getElem? (i := 2) rfl))) (mvT hZ (hw _ (List.mem_of_getElem? (i := 3) rfl))) (mvT hZ (hw _ (List.mem_of_getElem? (i := 4) rfl))) (by decide) (backOf (W := 0) (rm40 l Z a0 hw [] w0 w1 w2 w3 w4 w5 w6 w7 w8 w9 w10 w11 w12 w13 w14 w15 w16 w17 h0 n0 hWd O0) hZ (hw _ (List.mem_of_getElem? (i := 4) rfl)) (hw _ (List.mem_of_getElem? (i := 3) rfl)) (by decide) (by decide)) (g := (mkF m 9 #[.val (.int i0), .val (.int (8 : Int32)), .unset, .unset, .unset] [(.int (8 : Int32))])) rfl (by rw [hml]; rfl) (argsL := [(.int (8 : Int32))]) (rest := []) (lenOf pd0 rfl) rfl (by show 2 * 0 + _ ≤ _; exact Nat.le_of_eq rfl) (hb hby at_9) (fun _ _ => ⟨rfl, e0, (by decide : 0 + 0 ≤ _), (by decide : 0 + 0 ≤ _)⟩)
    dsimp only [Pt.U, Pt.locs, Pt.cells, Pt.slots] at X182 l182 y182 z182 st182 hQ182
    subst l182 y182 z182
    obtain ⟨rfl, N182q, e182⟩ := hQ182
    have N182 := Fr.app N0 N182q
    obtain ⟨_, _, ⟨T184, L184, k184, n184⟩, -, X184, ⟨Lc184, hQ184, l184, y184, z184⟩, st184⟩ := Jvm.LawKit.callS X182 hx (y := (⟨"com/example/weaverbird/weaverbird/queues/RunActionOfPinLaw", "expectedFor", "(I)Lcom/example/weaverbird/weaverbird/queues/RunAction;"⟩ : MethodName)) hown (mvT hZ (hw _ (List.mem_of_getElem? (i := 8) rfl))) (mvT hZ (hw _ (List.mem_of_getElem? (i := 9) rfl))) (mvT hZ (hw _ (List.mem_of_getElem? (i := 3) rfl))) (mvT hZ (hw _ (List.mem_of_getElem? (i := 10) rfl))) (by decide) (backOf (W := 0) (rm41 l Z a0 hw [] w0 w1 w2 w3 w4 w5 w6 w7 w8 w9 w10 w11 w12 w13 w14 w15 w16 w17 h0 n0 hWd O0) hZ (hw _ (List.mem_of_getElem? (i := 10) rfl)) (hw _ (List.mem_of_getElem? (i := 3) rfl)) (by decide) (by decide)) (g := (mkF m 14 #[.val (.int i0), .val (.int (8 : Int32)), .val (.ref w7), .unset, .unset] [(.int (8 : Int32))])) rfl (by rw [hml]; rfl) (argsL := [(.int (8 : Int32))]) (rest := []) (lenOf pd1 rfl) rfl (by show 2 * 0 + _ ≤ _; exact Nat.le_of_eq rfl) (hb hby at_14) (fun _ _ => ⟨rfl, e182, (by decide : 0 + 0 ≤ _), (by decide : 0 + 0 ≤ _)⟩)
    dsimp only [Pt.U, Pt.locs, Pt.cells, Pt.slots] at X184 l184 y184 z184 st184 hQ184
    subst l184 y184 z184
    obtain ⟨rfl, N184q, e184⟩ := hQ184
    have N184 := Fr.app N182 N184q
    obtain ⟨_, _, ⟨T195, L195, k195, n195⟩, -, X195, ⟨Lc195, hQ195, l195, y195, z195⟩, st195⟩ := Jvm.LawKit.callS X184 hx (y := (⟨"com/example/weaverbird/weaverbird/queues/RunAction", "of", "(Lcom/example/weaverbird/weaverbird/codes/CommandType;)Ljava/util/Optional;"⟩ : MethodName)) hown (mvT hZ (hw _ (List.mem_of_getElem? (i := 11) rfl))) (mvT hZ (hw _ (List.mem_of_getElem? (i := 12) rfl))) (mvT hZ (hw _ (List.mem_of_getElem? (i := 13) rfl))) (mvT hZ (hw _ (List.mem_of_getElem? (i := 14) rfl))) (by decide) (backOf (W := 0) (rm42 l Z a0 hw [] w0 w1 w2 w3 w4 w5 w6 w7 w8 w9 w10 w11 w12 w13 w14 w15 w16 w17 h0 n0 hWd O0) hZ (hw _ (List.mem_of_getElem? (i := 14) rfl)) (hw _ (List.mem_of_getElem? (i := 13) rfl)) (by decide) (by decide)) (g := (mkF m 19 #[.val (.int i0), .val (.int (8 : Int32)), .val (.ref w7), .val (.ref w2), .unset] [(.ref w7)])) rfl (by rw [hml]; rfl) (argsL := [(.ref w7)]) (rest := []) (lenOf pd4 rfl) rfl (by show 2 * 0 + _ ≤ _; exact Nat.le_of_eq rfl) (hb hby at_19) (fun _ _ => ⟨rfl, e184, (by decide : 0 + 2 ≤ _), (by decide : 0 + 6 ≤ _)⟩)
    dsimp only [Pt.U, Pt.locs, Pt.cells, Pt.slots] at X195 l195 y195 z195 st195 hQ195
    subst l195 y195 z195
    obtain ⟨r195, rfl, N195q, K195, O_195, E_r195_195, F_r195_value_195, g_r195⟩ := hQ195
    have N195 := Fr.app N184 N195q
    obtain ⟨cq198, kq198, q198a, q198b, q198c⟩ := isOf hZ rfl E_r195_195
    obtain ⟨_, _, ⟨T198, L198, k198, n198⟩, -, X198, ⟨Lc198, hQ198, l198, y198, z198⟩, st198⟩ := X195.virtualBack hx (y := (⟨"java/util/Optional", "orElse", "(Ljava/lang/Object;)Ljava/lang/Object;"⟩ : MethodName)) (z := (⟨"java/util/Optional", "orElse", "(Ljava/lang/Object;)Ljava/lang/Object;"⟩ : MethodName)) hown (mvT hZ (hw _ (List.mem_of_getElem? (i := 47) rfl))) (mvT hZ (hw _ (List.mem_of_getElem? (i := 48) rfl))) (notFace_of_selects (args := #[]) (mvT hZ (hw _ (List.mem_of_getElem? (i := 50) rfl)))) (mvT hZ (hw _ (List.mem_of_getElem? (i := 50) rfl))) (mvT hZ (hw _ (List.mem_of_getElem? (i := 49) rfl))) (by decide) (backOf (W := 0) (rm46 l Z a0 hw [] w0 w1 w2 w3 w4 w5 w6 w7 w8 w9 w10 w11 w12 w13 w14 w15 w16 w17 r195 T195.heap n0 hWd O_195 E_r195_195 F_r195_value_195 g_r195) hZ (hw _ (List.mem_of_getElem? (i := 51) rfl)) (hw _ (List.mem_of_getElem? (i := 44) rfl)) (by decide) (by decide)) q198a q198c (g := (mkF m 23 #[.val (.int i0), .val (.int (8 : Int32)), .val (.ref w7), .val (.ref w2), .unset] [.null, (.ref r195)])) rfl (by rw [hml]; rfl) (Steps.refl _) (argsL := [.null]) (rest := []) (lenOf pd5 rfl) rfl (by show 2 * 0 + _ ≤ _; exact Nat.le_of_eq rfl) (hb hby at_23) (fun _ _ => ⟨rfl, rfl, (by decide : 2 + 0 ≤ _), (by decide : 6 + 0 ≤ _)⟩)
    dsimp only [Pt.U, Pt.locs, Pt.cells, Pt.slots] at X198 l198 y198 z198 st198 hQ198
    subst l198 y198 z198
    obtain ⟨rfl, N198q, e198⟩ := hQ198
    have N198 := Fr.app N195 N198q
    obtain ⟨T199, X199, e199, st199⟩ := castY X198 hx hZ hown (hw _ (List.mem_of_getElem? (i := 72) rfl)) e198 (Ins.self (wE2.ext O_195.2)) (g := (mkF m 26 #[.val (.int i0), .val (.int (8 : Int32)), .val (.ref w7), .val (.ref w2), .unset] [(.ref w2)])) rfl rfl (hb hby at_26)
    obtain ⟨fs, hr, hrun, hended, hWr, hsame⟩ := X199.leave (v := some (.int (1 : Int32))) (fun h => by rw [Bd.returns] at h; cases h) hlk
    refine ⟨_, _, pre1 _ ?_, hrun, hended, _, _, rfl, ?_, ⟨_, rfl⟩, hWr, hsame.mono (Nat.le_of_ble_eq_true rfl) (Nat.le_of_ble_eq_true rfl)⟩
    · show Steps p.tables e below (s₁.setTop (mkF m 6 #[.val (.int i0), .unset, .unset, .unset, .unset] [(.int (11 : Int32)), (.int (i0 &&& (2147483647 : Int32)))])) _
      refine iremM X0 hx rfl (hb hby at_6) rfl (by decide) ?_
      show Steps p.tables e below (s₁.setTop (mkF m 7 #[.val (.int i0), .unset, .unset, .unset, .unset] [(.int ((i0 &&& (2147483647 : Int32)) % (11 : Int32)))])) _
      rw [hk10]
      show Steps p.tables e below (s₁.setTop (mkF m 7 #[.val (.int i0), .unset, .unset, .unset, .unset] [(.int (8 : Int32))])) _
      refine XS.istoreN X0.here hx rfl (hb hby at_7) rfl (l' := #[.val (.int i0), .val (.int (8 : Int32)), .unset, .unset, .unset]) rfl ?_
      show Steps p.tables e below (s₁.setTop (mkF m 8 #[.val (.int i0), .val (.int (8 : Int32)), .unset, .unset, .unset] [])) _
      refine XS.iloadN X0.here hx rfl (hb hby at_8) rfl ?_
      show Steps p.tables e below (s₁.setTop (mkF m 9 #[.val (.int i0), .val (.int (8 : Int32)), .unset, .unset, .unset] [(.int (8 : Int32))])) _
      refine st182 _ ?_
      show Steps p.tables e below (T182.setTop (mkF m 12 #[.val (.int i0), .val (.int (8 : Int32)), .unset, .unset, .unset] [(.ref w7)])) _
      refine XS.astoreN X182.here hx rfl (hb hby at_12) rfl rfl (l' := #[.val (.int i0), .val (.int (8 : Int32)), .val (.ref w7), .unset, .unset]) rfl ?_
      show Steps p.tables e below (T182.setTop (mkF m 13 #[.val (.int i0), .val (.int (8 : Int32)), .val (.ref w7), .unset, .unset] [])) _
      refine XS.iloadN X182.here hx rfl (hb hby at_13) rfl ?_
      show Steps p.tables e below (T182.setTop (mkF m 14 #[.val (.int i0), .val (.int (8 : Int32)), .val (.ref w7), .unset, .unset] [(.int (8 : Int32))])) _
      refine st184 _ ?_
      show Steps p.tables e below (T184.setTop (mkF m 17 #[.val (.int i0), .val (.int (8 : Int32)), .val (.ref w7), .unset, .unset] [(.ref w2)])) _
      refine XS.astoreN X184.here hx rfl (hb hby at_17) rfl rfl (l' := #[.val (.int i0), .val (.int (8 : Int32)), .val (.ref w7), .val (.ref w2), .unset]) rfl ?_
      show Steps p.tables e below (T184.setTop (mkF m 18 #[.val (.int i0), .val (.int (8 : Int32)), .val (.ref w7), .val (.ref w2), .unset] [])) _
      refine XS.aloadN X184.here hx rfl (hb hby at_18) rfl rfl ?_
      show Steps p.tables e below (T184.setTop (mkF m 19 #[.val (.int i0), .val (.int (8 : Int32)), .val (.ref w7), .val (.ref w2), .unset] [(.ref w7)])) _
      refine st195 _ ?_
      show Steps p.tables e below (T195.setTop (mkF m 22 #[.val (.int i0), .val (.int (8 : Int32)), .val (.ref w7), .val (.ref w2), .unset] [(.ref r195)])) _
      refine XS.aconstNull X195.here hx rfl (hb hby at_22) ?_
      show Steps p.tables e below (T195.setTop (mkF m 23 #[.val (.int i0), .val (.int (8 : Int32)), .val (.ref w7), .val (.ref w2), .unset] [.null, (.ref r195)])) _
      refine st198.trans ?_
      show Steps p.tables e below (T198.setTop (mkF m 26 #[.val (.int i0), .val (.int (8 : Int32)), .val (.ref w7), .val (.ref w2), .unset] [(.ref w2)])) _
      refine st199 _ ?_
      show Steps p.tables e below (T199.setTop (mkF m 29 #[.val (.int i0), .val (.int (8 : Int32)), .val (.ref w7), .val (.ref w2), .unset] [(.ref w2)])) _
      refine XS.astore X199.here hx rfl (hb hby at_29) rfl rfl (l' := #[.val (.int i0), .val (.int (8 : Int32)), .val (.ref w7), .val (.ref w2), .val (.ref w2)]) rfl ?_
      show Steps p.tables e below (T199.setTop (mkF m 31 #[.val (.int i0), .val (.int (8 : Int32)), .val (.ref w7), .val (.ref w2), .val (.ref w2)] [])) _
      refine XS.aload X199.here hx rfl (hb hby at_31) rfl rfl ?_
      show Steps p.tables e below (T199.setTop (mkF m 33 #[.val (.int i0), .val (.int (8 : Int32)), .val (.ref w7), .val (.ref w2), .val (.ref w2)] [(.ref w2)])) _
      refine XS.aloadN X199.here hx rfl (hb hby at_33) rfl rfl ?_
      show Steps p.tables e below (T199.setTop (mkF m 34 #[.val (.int i0), .val (.int (8 : Int32)), .val (.ref w7), .val (.ref w2), .val (.ref w2)] [(.ref w2), (.ref w2)])) _
      refine Jvm.RoadKit.acmp (g := (mkF m 34 #[.val (.int i0), .val (.int (8 : Int32)), .val (.ref w7), .val (.ref w2), .val (.ref w2)] [(.ref w2), (.ref w2)])) X199 hx rfl rfl rfl (pc0 := 34) (pc' := 37) (same := true) rfl (hb hby at_34) rfl (decide_eq_true rfl) (by decide) (by decide) ?_
      show Steps p.tables e below (T199.setTop (mkF m 37 #[.val (.int i0), .val (.int (8 : Int32)), .val (.ref w7), .val (.ref w2), .val (.ref w2)] [])) _
      refine XS.iconst X199.here hx rfl (hb hby at_37) ?_
      show Steps p.tables e below (T199.setTop (mkF m 38 #[.val (.int i0), .val (.int (8 : Int32)), .val (.ref w7), .val (.ref w2), .val (.ref w2)] [(.int (1 : Int32))])) _
      refine XS.goto X199.here hx rfl (pc0 := 38) (pc' := 42) rfl (hb hby at_38) (by decide) (by decide) ?_
      show Steps p.tables e below (T199.setTop (mkF m 42 #[.val (.int i0), .val (.int (8 : Int32)), .val (.ref w7), .val (.ref w2), .val (.ref w2)] [(.int (1 : Int32))])) _
      exact retN X199 hx (t := .boolean) Bd.returns (by simp) (hb hby at_42) hr
    · show Ql n0 _ T199.heap _
      exact ⟨rfl, N198⟩
  · obtain ⟨_, _, ⟨T201, L201, k201, n201⟩, -, X201, ⟨Lc201, hQ201, l201, y201, z201⟩, st201⟩ := Jvm.LawKit.callS X0 hx (y := (⟨"com/example/weaverbird/weaverbird/queues/RunActionOfPinLaw", "typeAt", "(I)Lcom/example/weaverbird/weaverbird/codes/CommandType;"⟩ : MethodName)) hown (mvT hZ (hw _ (List.mem_of_getElem? (i := 1) rfl))) (mvT hZ (hw _ (List.mem_of_getElem? (i := 2) rfl))) (mvT hZ (hw _ (List.mem_of_getElem? (i := 3) rfl))) (mvT hZ (hw _ (List.mem_of_getElem? (i := 4) rfl))) (by decide) (backOf (W := 0) (rm47 l Z a0 hw [] w0 w1 w2 w3 w4 w5 w6 w7 w8 w9 w10 w11 w12 w13 w14 w15 w16 w17 h0 n0 hWd O0) hZ (hw _ (List.mem_of_getElem? (i := 4) rfl)) (hw _ (List.mem_of_getElem? (i := 3) rfl)) (by decide) (by decide)) (g := (mkF m 9 #[.val (.int i0), .val (.int (9 : Int32)), .unset, .unset, .unset] [(.int (9 : Int32))])) rfl (by rw [hml]; rfl) (argsL := [(.int (9 : Int32))]) (rest := []) (lenOf pd0 rfl) rfl (by show 2 * 0 + _ ≤ _; exact Nat.le_of_eq rfl) (hb hby at_9) (fun _ _ => ⟨rfl, e0, (by decide : 0 + 0 ≤ _), (by decide : 0 + 0 ≤ _)⟩)
    dsimp only [Pt.U, Pt.locs, Pt.cells, Pt.slots] at X201 l201 y201 z201 st201 hQ201
    subst l201 y201 z201
    obtain ⟨rfl, N201q, e201⟩ := hQ201
    have N201 := Fr.app N0 N201q
    obtain ⟨_, _, ⟨T203, L203, k203, n203⟩, -, X203, ⟨Lc203, hQ203, l203, y203, z203⟩, st203⟩ := Jvm.LawKit.callS X201 hx (y := (⟨"com/example/weaverbird/weaverbird/queues/RunActionOfPinLaw", "expectedFor", "(I)Lcom/example/weaverbird/weaverbird/queues/RunAction;"⟩ : MethodName)) hown (mvT hZ (hw _ (List.mem_of_getElem? (i := 8) rfl))) (mvT hZ (hw _ (List.mem_of_getElem? (i := 9) rfl))) (mvT hZ (hw _ (List.mem_of_getElem? (i := 3) rfl))) (mvT hZ (hw _ (List.mem_of_getElem? (i := 10) rfl))) (by decide) (backOf (W := 0) (rm48 l Z a0 hw [] w0 w1 w2 w3 w4 w5 w6 w7 w8 w9 w10 w11 w12 w13 w14 w15 w16 w17 h0 n0 hWd O0) hZ (hw _ (List.mem_of_getElem? (i := 10) rfl)) (hw _ (List.mem_of_getElem? (i := 3) rfl)) (by decide) (by decide)) (g := (mkF m 14 #[.val (.int i0), .val (.int (9 : Int32)), .val (.ref w9), .unset, .unset] [(.int (9 : Int32))])) rfl (by rw [hml]; rfl) (argsL := [(.int (9 : Int32))]) (rest := []) (lenOf pd1 rfl) rfl (by show 2 * 0 + _ ≤ _; exact Nat.le_of_eq rfl) (hb hby at_14) (fun _ _ => ⟨rfl, e201, (by decide : 0 + 0 ≤ _), (by decide : 0 + 0 ≤ _)⟩)
    dsimp only [Pt.U, Pt.locs, Pt.cells, Pt.slots] at X203 l203 y203 z203 st203 hQ203
    subst l203 y203 z203
    obtain ⟨rfl, N203q, e203⟩ := hQ203
    have N203 := Fr.app N201 N203q
    obtain ⟨_, _, ⟨T218, L218, k218, n218⟩, -, X218, ⟨Lc218, hQ218, l218, y218, z218⟩, st218⟩ := Jvm.LawKit.callS X203 hx (y := (⟨"com/example/weaverbird/weaverbird/queues/RunAction", "of", "(Lcom/example/weaverbird/weaverbird/codes/CommandType;)Ljava/util/Optional;"⟩ : MethodName)) hown (mvT hZ (hw _ (List.mem_of_getElem? (i := 11) rfl))) (mvT hZ (hw _ (List.mem_of_getElem? (i := 12) rfl))) (mvT hZ (hw _ (List.mem_of_getElem? (i := 13) rfl))) (mvT hZ (hw _ (List.mem_of_getElem? (i := 14) rfl))) (by decide) (backOf (W := 0) (rm49 l Z a0 hw [] w0 w1 w2 w3 w4 w5 w6 w7 w8 w9 w10 w11 w12 w13 w14 w15 w16 w17 h0 n0 hWd O0) hZ (hw _ (List.mem_of_getElem? (i := 14) rfl)) (hw _ (List.mem_of_getElem? (i := 13) rfl)) (by decide) (by decide)) (g := (mkF m 19 #[.val (.int i0), .val (.int (9 : Int32)), .val (.ref w9), .val (.ref w4), .unset] [(.ref w9)])) rfl (by rw [hml]; rfl) (argsL := [(.ref w9)]) (rest := []) (lenOf pd4 rfl) rfl (by show 2 * 0 + _ ≤ _; exact Nat.le_of_eq rfl) (hb hby at_19) (fun _ _ => ⟨rfl, e203, (by decide : 0 + 2 ≤ _), (by decide : 0 + 6 ≤ _)⟩)
    dsimp only [Pt.U, Pt.locs, Pt.cells, Pt.slots] at X218 l218 y218 z218 st218 hQ218
    subst l218 y218 z218
    obtain ⟨r218, rfl, N218q, K218, O_218, E_r218_218, F_r218_value_218, g_r218⟩ := hQ218
    have N218 := Fr.app N203 N218q
    obtain ⟨cq221, kq221, q221a, q221b, q221c⟩ := isOf hZ rfl E_r218_218
    obtain ⟨_, _, ⟨T221, L221, k221, n221⟩, -, X221, ⟨Lc221, hQ221, l221, y221, z221⟩, st221⟩ := X218.virtualBack hx (y := (⟨"java/util/Optional", "orElse", "(Ljava/lang/Object;)Ljava/lang/Object;"⟩ : MethodName)) (z := (⟨"java/util/Optional", "orElse", "(Ljava/lang/Object;)Ljava/lang/Object;"⟩ : MethodName)) hown (mvT hZ (hw _ (List.mem_of_getElem? (i := 47) rfl))) (mvT hZ (hw _ (List.mem_of_getElem? (i := 48) rfl))) (notFace_of_selects (args := #[]) (mvT hZ (hw _ (List.mem_of_getElem? (i := 50) rfl)))) (mvT hZ (hw _ (List.mem_of_getElem? (i := 50) rfl))) (mvT hZ (hw _ (List.mem_of_getElem? (i := 49) rfl))) (by decide) (backOf (W := 0) (rm53 l Z a0 hw [] w0 w1 w2 w3 w4 w5 w6 w7 w8 w9 w10 w11 w12 w13 w14 w15 w16 w17 r218 T218.heap n0 hWd O_218 E_r218_218 F_r218_value_218 g_r218) hZ (hw _ (List.mem_of_getElem? (i := 51) rfl)) (hw _ (List.mem_of_getElem? (i := 44) rfl)) (by decide) (by decide)) q221a q221c (g := (mkF m 23 #[.val (.int i0), .val (.int (9 : Int32)), .val (.ref w9), .val (.ref w4), .unset] [.null, (.ref r218)])) rfl (by rw [hml]; rfl) (Steps.refl _) (argsL := [.null]) (rest := []) (lenOf pd5 rfl) rfl (by show 2 * 0 + _ ≤ _; exact Nat.le_of_eq rfl) (hb hby at_23) (fun _ _ => ⟨rfl, rfl, (by decide : 2 + 0 ≤ _), (by decide : 6 + 0 ≤ _)⟩)
    dsimp only [Pt.U, Pt.locs, Pt.cells, Pt.slots] at X221 l221 y221 z221 st221 hQ221
    subst l221 y221 z221
    obtain ⟨rfl, N221q, e221⟩ := hQ221
    have N221 := Fr.app N218 N221q
    obtain ⟨T222, X222, e222, st222⟩ := castY X221 hx hZ hown (hw _ (List.mem_of_getElem? (i := 72) rfl)) e221 (Ins.self (wE4.ext O_218.2)) (g := (mkF m 26 #[.val (.int i0), .val (.int (9 : Int32)), .val (.ref w9), .val (.ref w4), .unset] [(.ref w4)])) rfl rfl (hb hby at_26)
    obtain ⟨fs, hr, hrun, hended, hWr, hsame⟩ := X222.leave (v := some (.int (1 : Int32))) (fun h => by rw [Bd.returns] at h; cases h) hlk
    refine ⟨_, _, pre1 _ ?_, hrun, hended, _, _, rfl, ?_, ⟨_, rfl⟩, hWr, hsame.mono (Nat.le_of_ble_eq_true rfl) (Nat.le_of_ble_eq_true rfl)⟩
    · show Steps p.tables e below (s₁.setTop (mkF m 6 #[.val (.int i0), .unset, .unset, .unset, .unset] [(.int (11 : Int32)), (.int (i0 &&& (2147483647 : Int32)))])) _
      refine iremM X0 hx rfl (hb hby at_6) rfl (by decide) ?_
      show Steps p.tables e below (s₁.setTop (mkF m 7 #[.val (.int i0), .unset, .unset, .unset, .unset] [(.int ((i0 &&& (2147483647 : Int32)) % (11 : Int32)))])) _
      rw [hk11]
      show Steps p.tables e below (s₁.setTop (mkF m 7 #[.val (.int i0), .unset, .unset, .unset, .unset] [(.int (9 : Int32))])) _
      refine XS.istoreN X0.here hx rfl (hb hby at_7) rfl (l' := #[.val (.int i0), .val (.int (9 : Int32)), .unset, .unset, .unset]) rfl ?_
      show Steps p.tables e below (s₁.setTop (mkF m 8 #[.val (.int i0), .val (.int (9 : Int32)), .unset, .unset, .unset] [])) _
      refine XS.iloadN X0.here hx rfl (hb hby at_8) rfl ?_
      show Steps p.tables e below (s₁.setTop (mkF m 9 #[.val (.int i0), .val (.int (9 : Int32)), .unset, .unset, .unset] [(.int (9 : Int32))])) _
      refine st201 _ ?_
      show Steps p.tables e below (T201.setTop (mkF m 12 #[.val (.int i0), .val (.int (9 : Int32)), .unset, .unset, .unset] [(.ref w9)])) _
      refine XS.astoreN X201.here hx rfl (hb hby at_12) rfl rfl (l' := #[.val (.int i0), .val (.int (9 : Int32)), .val (.ref w9), .unset, .unset]) rfl ?_
      show Steps p.tables e below (T201.setTop (mkF m 13 #[.val (.int i0), .val (.int (9 : Int32)), .val (.ref w9), .unset, .unset] [])) _
      refine XS.iloadN X201.here hx rfl (hb hby at_13) rfl ?_
      show Steps p.tables e below (T201.setTop (mkF m 14 #[.val (.int i0), .val (.int (9 : Int32)), .val (.ref w9), .unset, .unset] [(.int (9 : Int32))])) _
      refine st203 _ ?_
      show Steps p.tables e below (T203.setTop (mkF m 17 #[.val (.int i0), .val (.int (9 : Int32)), .val (.ref w9), .unset, .unset] [(.ref w4)])) _
      refine XS.astoreN X203.here hx rfl (hb hby at_17) rfl rfl (l' := #[.val (.int i0), .val (.int (9 : Int32)), .val (.ref w9), .val (.ref w4), .unset]) rfl ?_
      show Steps p.tables e below (T203.setTop (mkF m 18 #[.val (.int i0), .val (.int (9 : Int32)), .val (.ref w9), .val (.ref w4), .unset] [])) _
      refine XS.aloadN X203.here hx rfl (hb hby at_18) rfl rfl ?_
      show Steps p.tables e below (T203.setTop (mkF m 19 #[.val (.int i0), .val (.int (9 : Int32)), .val (.ref w9), .val (.ref w4), .unset] [(.ref w9)])) _
      refine st218 _ ?_
      show Steps p.tables e below (T218.setTop (mkF m 22 #[.val (.int i0), .val (.int (9 : Int32)), .val (.ref w9), .val (.ref w4), .unset] [(.ref r218)])) _
      refine XS.aconstNull X218.here hx rfl (hb hby at_22) ?_
      show Steps p.tables e below (T218.setTop (mkF m 23 #[.val (.int i0), .val (.int (9 : Int32)), .val (.ref w9), .val (.ref w4), .unset] [.null, (.ref r218)])) _
      refine st221.trans ?_
      show Steps p.tables e below (T221.setTop (mkF m 26 #[.val (.int i0), .val (.int (9 : Int32)), .val (.ref w9), .val (.ref w4), .unset] [(.ref w4)])) _
      refine st222 _ ?_
      show Steps p.tables e below (T222.setTop (mkF m 29 #[.val (.int i0), .val (.int (9 : Int32)), .val (.ref w9), .val (.ref w4), .unset] [(.ref w4)])) _
      refine XS.astore X222.here hx rfl (hb hby at_29) rfl rfl (l' := #[.val (.int i0), .val (.int (9 : Int32)), .val (.ref w9), .val (.ref w4), .val (.ref w4)]) rfl ?_
      show Steps p.tables e below (T222.setTop (mkF m 31 #[.val (.int i0), .val (.int (9 : Int32)), .val (.ref w9), .val (.ref w4), .val (.ref w4)] [])) _
      refine XS.aload X222.here hx rfl (hb hby at_31) rfl rfl ?_
      show Steps p.tables e below (T222.setTop (mkF m 33 #[.val (.int i0), .val (.int (9 : Int32)), .val (.ref w9), .val (.ref w4), .val (.ref w4)] [(.ref w4)])) _
      refine XS.aloadN X222.here hx rfl (hb hby at_33) rfl rfl ?_
      show Steps p.tables e below (T222.setTop (mkF m 34 #[.val (.int i0), .val (.int (9 : Int32)), .val (.ref w9), .val (.ref w4), .val (.ref w4)] [(.ref w4), (.ref w4)])) _
      refine Jvm.RoadKit.acmp (g := (mkF m 34 #[.val (.int i0), .val (.int (9 : Int32)), .val (.ref w9), .val (.ref w4), .val (.ref w4)] [(.ref w4), (.ref w4)])) X222 hx rfl rfl rfl (pc0 := 34) (pc' := 37) (same := true) rfl (hb hby at_34) rfl (decide_eq_true rfl) (by decide) (by decide) ?_
      show Steps p.tables e below (T222.setTop (mkF m 37 #[.val (.int i0), .val (.int (9 : Int32)), .val (.ref w9), .val (.ref w4), .val (.ref w4)] [])) _
      refine XS.iconst X222.here hx rfl (hb hby at_37) ?_
      show Steps p.tables e below (T222.setTop (mkF m 38 #[.val (.int i0), .val (.int (9 : Int32)), .val (.ref w9), .val (.ref w4), .val (.ref w4)] [(.int (1 : Int32))])) _
      refine XS.goto X222.here hx rfl (pc0 := 38) (pc' := 42) rfl (hb hby at_38) (by decide) (by decide) ?_
      show Steps p.tables e below (T222.setTop (mkF m 42 #[.val (.int i0), .val (.int (9 : Int32)), .val (.ref w9), .val (.ref w4), .val (.ref w4)] [(.int (1 : Int32))])) _
      exact retN X222 hx (t := .boolean) Bd.returns (by simp) (hb hby at_42) hr
    · show Ql n0 _ T222.heap _
      exact ⟨rfl, N221⟩
  · obtain ⟨_, _, ⟨T224, L224, k224, n224⟩, -, X224, ⟨Lc224, hQ224, l224, y224, z224⟩, st224⟩ := Jvm.LawKit.callS X0 hx (y := (⟨"com/example/weaverbird/weaverbird/queues/RunActionOfPinLaw", "typeAt", "(I)Lcom/example/weaverbird/weaverbird/codes/CommandType;"⟩ : MethodName)) hown (mvT hZ (hw _ (List.mem_of_getElem? (i := 1) rfl))) (mvT hZ (hw _ (List.mem_of_getElem? (i := 2) rfl))) (mvT hZ (hw _ (List.mem_of_getElem? (i := 3) rfl))) (mvT hZ (hw _ (List.mem_of_getElem? (i := 4) rfl))) (by decide) (backOf (W := 0) (rm54 l Z a0 hw [] w0 w1 w2 w3 w4 w5 w6 w7 w8 w9 w10 w11 w12 w13 w14 w15 w16 w17 h0 n0 hWd O0) hZ (hw _ (List.mem_of_getElem? (i := 4) rfl)) (hw _ (List.mem_of_getElem? (i := 3) rfl)) (by decide) (by decide)) (g := (mkF m 9 #[.val (.int i0), .val (.int (10 : Int32)), .unset, .unset, .unset] [(.int (10 : Int32))])) rfl (by rw [hml]; rfl) (argsL := [(.int (10 : Int32))]) (rest := []) (lenOf pd0 rfl) rfl (by show 2 * 0 + _ ≤ _; exact Nat.le_of_eq rfl) (hb hby at_9) (fun _ _ => ⟨rfl, e0, (by decide : 0 + 0 ≤ _), (by decide : 0 + 0 ≤ _)⟩)
    dsimp only [Pt.U, Pt.locs, Pt.cells, Pt.slots] at X224 l224 y224 z224 st224 hQ224
    subst l224 y224 z224
    obtain ⟨rfl, N224q, e224⟩ := hQ224
    have N224 := Fr.app N0 N224q
    obtain ⟨_, _, ⟨T225, L225, k225, n225⟩, -, X225, ⟨Lc225, hQ225, l225, y225, z225⟩, st225⟩ := Jvm.LawKit.callS X224 hx (y := (⟨"com/example/weaverbird/weaverbird/queues/RunActionOfPinLaw", "expectedFor", "(I)Lcom/example/weaverbird/weaverbird/queues/RunAction;"⟩ : MethodName)) hown (mvT hZ (hw _ (List.mem_of_getElem? (i := 8) rfl))) (mvT hZ (hw _ (List.mem_of_getElem? (i := 9) rfl))) (mvT hZ (hw _ (List.mem_of_getElem? (i := 3) rfl))) (mvT hZ (hw _ (List.mem_of_getElem? (i := 10) rfl))) (by decide) (backOf (W := 0) (rm55 l Z a0 hw [] w0 w1 w2 w3 w4 w5 w6 w7 w8 w9 w10 w11 w12 w13 w14 w15 w16 w17 h0 n0 hWd O0) hZ (hw _ (List.mem_of_getElem? (i := 10) rfl)) (hw _ (List.mem_of_getElem? (i := 3) rfl)) (by decide) (by decide)) (g := (mkF m 14 #[.val (.int i0), .val (.int (10 : Int32)), .val (.ref w13), .unset, .unset] [(.int (10 : Int32))])) rfl (by rw [hml]; rfl) (argsL := [(.int (10 : Int32))]) (rest := []) (lenOf pd1 rfl) rfl (by show 2 * 0 + _ ≤ _; exact Nat.le_of_eq rfl) (hb hby at_14) (fun _ _ => ⟨rfl, e224, (by decide : 0 + 0 ≤ _), (by decide : 0 + 0 ≤ _)⟩)
    dsimp only [Pt.U, Pt.locs, Pt.cells, Pt.slots] at X225 l225 y225 z225 st225 hQ225
    subst l225 y225 z225
    obtain ⟨rfl, N225q, e225⟩ := hQ225
    have N225 := Fr.app N224 N225q
    obtain ⟨_, _, ⟨T239, L239, k239, n239⟩, -, X239, ⟨Lc239, hQ239, l239, y239, z239⟩, st239⟩ := Jvm.LawKit.callS X225 hx (y := (⟨"com/example/weaverbird/weaverbird/queues/RunAction", "of", "(Lcom/example/weaverbird/weaverbird/codes/CommandType;)Ljava/util/Optional;"⟩ : MethodName)) hown (mvT hZ (hw _ (List.mem_of_getElem? (i := 11) rfl))) (mvT hZ (hw _ (List.mem_of_getElem? (i := 12) rfl))) (mvT hZ (hw _ (List.mem_of_getElem? (i := 13) rfl))) (mvT hZ (hw _ (List.mem_of_getElem? (i := 14) rfl))) (by decide) (backOf (W := 0) (rm56 l Z a0 hw [] w0 w1 w2 w3 w4 w5 w6 w7 w8 w9 w10 w11 w12 w13 w14 w15 w16 w17 h0 n0 hWd O0) hZ (hw _ (List.mem_of_getElem? (i := 14) rfl)) (hw _ (List.mem_of_getElem? (i := 13) rfl)) (by decide) (by decide)) (g := (mkF m 19 #[.val (.int i0), .val (.int (10 : Int32)), .val (.ref w13), .val .null, .unset] [(.ref w13)])) rfl (by rw [hml]; rfl) (argsL := [(.ref w13)]) (rest := []) (lenOf pd4 rfl) rfl (by show 2 * 0 + _ ≤ _; exact Nat.le_of_eq rfl) (hb hby at_19) (fun _ _ => ⟨rfl, e225, (by decide : 0 + 1 ≤ _), (by decide : 0 + 5 ≤ _)⟩)
    dsimp only [Pt.U, Pt.locs, Pt.cells, Pt.slots] at X239 l239 y239 z239 st239 hQ239
    subst l239 y239 z239
    obtain ⟨rfl, N239q, K239, O_239⟩ := hQ239
    have N239 := Fr.app N225 N239q
    obtain ⟨cq240, kq240, q240a, q240b, q240c⟩ := isOf hZ rfl (wE17.ext O_239.2)
    obtain ⟨_, _, ⟨T240, L240, k240, n240⟩, -, X240, ⟨Lc240, hQ240, l240, y240, z240⟩, st240⟩ := X239.virtualBack hx (y := (⟨"java/util/Optional", "orElse", "(Ljava/lang/Object;)Ljava/lang/Object;"⟩ : MethodName)) (z := (⟨"java/util/Optional", "orElse", "(Ljava/lang/Object;)Ljava/lang/Object;"⟩ : MethodName)) hown (mvT hZ (hw _ (List.mem_of_getElem? (i := 47) rfl))) (mvT hZ (hw _ (List.mem_of_getElem? (i := 48) rfl))) (notFace_of_selects (args := #[]) (mvT hZ (hw _ (List.mem_of_getElem? (i := 50) rfl)))) (mvT hZ (hw _ (List.mem_of_getElem? (i := 50) rfl))) (mvT hZ (hw _ (List.mem_of_getElem? (i := 49) rfl))) (by decide) (backOf (W := 0) (rm6 l Z a0 hw [] w0 w1 w2 w3 w4 w5 w6 w7 w8 w9 w10 w11 w12 w13 w14 w15 w16 w17 T239.heap n0 hWd O_239) hZ (hw _ (List.mem_of_getElem? (i := 51) rfl)) (hw _ (List.mem_of_getElem? (i := 44) rfl)) (by decide) (by decide)) q240a q240c (g := (mkF m 23 #[.val (.int i0), .val (.int (10 : Int32)), .val (.ref w13), .val .null, .unset] [.null, (.ref w17)])) rfl (by rw [hml]; rfl) (Steps.refl _) (argsL := [.null]) (rest := []) (lenOf pd5 rfl) rfl (by show 2 * 0 + _ ≤ _; exact Nat.le_of_eq rfl) (hb hby at_23) (fun _ _ => ⟨rfl, rfl, (by decide : 1 + 0 ≤ _), (by decide : 5 + 0 ≤ _)⟩)
    dsimp only [Pt.U, Pt.locs, Pt.cells, Pt.slots] at X240 l240 y240 z240 st240 hQ240
    subst l240 y240 z240
    obtain ⟨rfl, N240q, e240⟩ := hQ240
    have N240 := Fr.app N239 N240q
    obtain ⟨fs, hr, hrun, hended, hWr, hsame⟩ := X240.leave (v := some (.int (1 : Int32))) (fun h => by rw [Bd.returns] at h; cases h) hlk
    refine ⟨_, _, pre1 _ ?_, hrun, hended, _, _, rfl, ?_, ⟨_, rfl⟩, hWr, hsame.mono (Nat.le_of_ble_eq_true rfl) (Nat.le_of_ble_eq_true rfl)⟩
    · show Steps p.tables e below (s₁.setTop (mkF m 6 #[.val (.int i0), .unset, .unset, .unset, .unset] [(.int (11 : Int32)), (.int (i0 &&& (2147483647 : Int32)))])) _
      refine iremM X0 hx rfl (hb hby at_6) rfl (by decide) ?_
      show Steps p.tables e below (s₁.setTop (mkF m 7 #[.val (.int i0), .unset, .unset, .unset, .unset] [(.int ((i0 &&& (2147483647 : Int32)) % (11 : Int32)))])) _
      rw [hk12]
      show Steps p.tables e below (s₁.setTop (mkF m 7 #[.val (.int i0), .unset, .unset, .unset, .unset] [(.int (10 : Int32))])) _
      refine XS.istoreN X0.here hx rfl (hb hby at_7) rfl (l' := #[.val (.int i0), .val (.int (10 : Int32)), .unset, .unset, .unset]) rfl ?_
      show Steps p.tables e below (s₁.setTop (mkF m 8 #[.val (.int i0), .val (.int (10 : Int32)), .unset, .unset, .unset] [])) _
      refine XS.iloadN X0.here hx rfl (hb hby at_8) rfl ?_
      show Steps p.tables e below (s₁.setTop (mkF m 9 #[.val (.int i0), .val (.int (10 : Int32)), .unset, .unset, .unset] [(.int (10 : Int32))])) _
      refine st224 _ ?_
      show Steps p.tables e below (T224.setTop (mkF m 12 #[.val (.int i0), .val (.int (10 : Int32)), .unset, .unset, .unset] [(.ref w13)])) _
      refine XS.astoreN X224.here hx rfl (hb hby at_12) rfl rfl (l' := #[.val (.int i0), .val (.int (10 : Int32)), .val (.ref w13), .unset, .unset]) rfl ?_
      show Steps p.tables e below (T224.setTop (mkF m 13 #[.val (.int i0), .val (.int (10 : Int32)), .val (.ref w13), .unset, .unset] [])) _
      refine XS.iloadN X224.here hx rfl (hb hby at_13) rfl ?_
      show Steps p.tables e below (T224.setTop (mkF m 14 #[.val (.int i0), .val (.int (10 : Int32)), .val (.ref w13), .unset, .unset] [(.int (10 : Int32))])) _
      refine st225 _ ?_
      show Steps p.tables e below (T225.setTop (mkF m 17 #[.val (.int i0), .val (.int (10 : Int32)), .val (.ref w13), .unset, .unset] [.null])) _
      refine XS.astoreN X225.here hx rfl (hb hby at_17) rfl rfl (l' := #[.val (.int i0), .val (.int (10 : Int32)), .val (.ref w13), .val .null, .unset]) rfl ?_
      show Steps p.tables e below (T225.setTop (mkF m 18 #[.val (.int i0), .val (.int (10 : Int32)), .val (.ref w13), .val .null, .unset] [])) _
      refine XS.aloadN X225.here hx rfl (hb hby at_18) rfl rfl ?_
      show Steps p.tables e below (T225.setTop (mkF m 19 #[.val (.int i0), .val (.int (10 : Int32)), .val (.ref w13), .val .null, .unset] [(.ref w13)])) _
      refine st239 _ ?_
      show Steps p.tables e below (T239.setTop (mkF m 22 #[.val (.int i0), .val (.int (10 : Int32)), .val (.ref w13), .val .null, .unset] [(.ref w17)])) _
      refine XS.aconstNull X239.here hx rfl (hb hby at_22) ?_
      show Steps p.tables e below (T239.setTop (mkF m 23 #[.val (.int i0), .val (.int (10 : Int32)), .val (.ref w13), .val .null, .unset] [.null, (.ref w17)])) _
      refine st240.trans ?_
      show Steps p.tables e below (T240.setTop (mkF m 26 #[.val (.int i0), .val (.int (10 : Int32)), .val (.ref w13), .val .null, .unset] [.null])) _
      refine X240.checkcastNull hx (g := (mkF m 26 #[.val (.int i0), .val (.int (10 : Int32)), .val (.ref w13), .val .null, .unset] [.null])) rfl rfl (hb hby at_26) _ ?_
      show Steps p.tables e below (T240.setTop (mkF m 29 #[.val (.int i0), .val (.int (10 : Int32)), .val (.ref w13), .val .null, .unset] [.null])) _
      refine XS.astore X240.here hx rfl (hb hby at_29) rfl rfl (l' := #[.val (.int i0), .val (.int (10 : Int32)), .val (.ref w13), .val .null, .val .null]) rfl ?_
      show Steps p.tables e below (T240.setTop (mkF m 31 #[.val (.int i0), .val (.int (10 : Int32)), .val (.ref w13), .val .null, .val .null] [])) _
      refine XS.aload X240.here hx rfl (hb hby at_31) rfl rfl ?_
      show Steps p.tables e below (T240.setTop (mkF m 33 #[.val (.int i0), .val (.int (10 : Int32)), .val (.ref w13), .val .null, .val .null] [.null])) _
      refine XS.aloadN X240.here hx rfl (hb hby at_33) rfl rfl ?_
      show Steps p.tables e below (T240.setTop (mkF m 34 #[.val (.int i0), .val (.int (10 : Int32)), .val (.ref w13), .val .null, .val .null] [.null, .null])) _
      refine Jvm.RoadKit.acmp (g := (mkF m 34 #[.val (.int i0), .val (.int (10 : Int32)), .val (.ref w13), .val .null, .val .null] [.null, .null])) X240 hx rfl rfl rfl (pc0 := 34) (pc' := 37) (same := true) rfl (hb hby at_34) rfl (decide_eq_true rfl) (by decide) (by decide) ?_
      show Steps p.tables e below (T240.setTop (mkF m 37 #[.val (.int i0), .val (.int (10 : Int32)), .val (.ref w13), .val .null, .val .null] [])) _
      refine XS.iconst X240.here hx rfl (hb hby at_37) ?_
      show Steps p.tables e below (T240.setTop (mkF m 38 #[.val (.int i0), .val (.int (10 : Int32)), .val (.ref w13), .val .null, .val .null] [(.int (1 : Int32))])) _
      refine XS.goto X240.here hx rfl (pc0 := 38) (pc' := 42) rfl (hb hby at_38) (by decide) (by decide) ?_
      show Steps p.tables e below (T240.setTop (mkF m 42 #[.val (.int i0), .val (.int (10 : Int32)), .val (.ref w13), .val .null, .val .null] [(.int (1 : Int32))])) _
      exact retN X240 hx (t := .boolean) Bd.returns (by simp) (hb hby at_42) hr
    · show Ql n0 _ T240.heap _
      exact ⟨rfl, N240⟩
set_option maxRecDepth 65536 in
set_option maxHeartbeats 40000000 in
theorem comes_1 {Post : Tables → Env → Array Value → State → Outcome → State → Prop} (hpost : ∀ tb e args s v u, (limb_1_1.after args s (.returned v) u = true ∧ limb_1_2.after args s (.returned v) u = true ∧ True) → FrameEnd s (.returned v) u (Jvm.fieldLocs frame_1_writes args s ++ Jvm.arrayLocs frame_1_arrays args s ++ Jvm.staticLocs frame_1_statics s) 16 128 → Post tb e args s (.returned v) u) :
    ArmFor flags0 classFile x code maxLocals ret World_1 tables_1 room_1 Calls_1 rest_1 Pre_1 Post := by
  intro l hfl _ _ p e ha hc hk s m args below hf hA hF happ hP
  obtain ⟨hcalls, hrest, hpre⟩ := hP
  obtain ⟨-, -, -, hnamed, -, -, -, hat⟩ := (Spec.applies_iff hf).mp happ
  obtain ⟨hg, hn⟩ := and_e (Cond.before_iff.mp (show (Jvm.Cond.and given_1 narrow_1).before args s = true from hpre))
  obtain ⟨gc, g0⟩ := and_e hg
  obtain ⟨x0, rfl⟩ : ∃ x0 : Value, args = #[x0] := by
    have hs : args.size = 1 := by simpa [Cond.value, given_1] using gc
    obtain ⟨L⟩ := args
    match L, hs with
    | [x0], _ => exact ⟨x0, rfl⟩
  have hw := fun d (hd : d ∈ tables_1) => atoms_spec (ws := Jvm.Cond.code x code maxLocals ret :: tables_1) hat d (List.mem_cons_of_mem _ hd)
  have hfit : Fit s := fun {y c} hc i hi => by
    obtain ⟨ha, rfl⟩ := Array.getElem?_eq_some_iff.mp hc
    have q := List.all_eq_true.mp ((Array.all_eq_true_iff_forall_mem.mp hF) _ (Array.getElem_mem ha)) i (List.mem_range.mpr hi)
    simpa [Array.getElem?_eq_getElem hi] using q
  obtain ⟨hsets, hown0⟩ := atoms_of _ (rest_1_c_eq ▸ (show rest_1_c.before _ s = true from hrest))
  obtain ⟨i0, ei0⟩ := is_v g0
  obtain rfl : x0 = (.int i0) := Option.some.inj ei0
  obtain ⟨c0, r0⟩ := and_e hn
  obtain ⟨c1, r1⟩ := and_e r0
  obtain ⟨c2, r2⟩ := and_e r1
  obtain ⟨c3, r3⟩ := and_e r2
  obtain ⟨c4, r4⟩ := and_e r3
  obtain ⟨c5, r5⟩ := and_e r4
  obtain ⟨c6, r6⟩ := and_e r5
  obtain ⟨c7, r7⟩ := and_e r6
  obtain ⟨c8, r8⟩ := and_e r7
  obtain ⟨c9, r9⟩ := and_e r8
  obtain ⟨c10, r10⟩ := and_e r9
  obtain ⟨c11, r11⟩ := and_e r10
  obtain ⟨c12, r12⟩ := and_e r11
  obtain ⟨c13, r13⟩ := and_e r12
  obtain ⟨c14, r14⟩ := and_e r13
  obtain ⟨c15, r15⟩ := and_e r14
  obtain ⟨c16, r16⟩ := and_e r15
  obtain ⟨c17, r17⟩ := and_e r16
  obtain ⟨c18, r18⟩ := and_e r17
  obtain ⟨c19, r19⟩ := and_e r18
  obtain ⟨c20, r20⟩ := and_e r19
  obtain ⟨c21, r21⟩ := and_e r20
  obtain ⟨c22, r22⟩ := and_e r21
  obtain ⟨c23, r23⟩ := and_e r22
  obtain ⟨c24, r24⟩ := and_e r23
  obtain ⟨c25, r25⟩ := and_e r24
  obtain ⟨c26, r26⟩ := and_e r25
  obtain ⟨c27, r27⟩ := and_e r26
  obtain ⟨c28, r28⟩ := and_e r27
  obtain ⟨c29, r29⟩ := and_e r28
  obtain ⟨c30, r30⟩ := and_e r29
  obtain ⟨c31, r31⟩ := and_e r30
  obtain ⟨c32, r32⟩ := and_e r31
  obtain ⟨c33, r33⟩ := and_e r32
  obtain ⟨c34, r34⟩ := and_e r33
  obtain ⟨c35, r35⟩ := and_e r34
  obtain ⟨c36, r36⟩ := and_e r35
  obtain ⟨c37, r37⟩ := and_e r36
  obtain ⟨c38, r38⟩ := and_e r37
  obtain ⟨w0, ev0⟩ := exa_v c0
  have wE0 : Exa s s.heap w0 "com/example/weaverbird/weaverbird/codes/CommandType" := Exa.start ev0 c0
  have wS0 : Sta s s.heap "com/example/weaverbird/weaverbird/codes/CommandType" "START" "Lcom/example/weaverbird/weaverbird/codes/CommandType;" (.ref w0) := Sta.start ev0 (Or.inr ⟨(hw _ (List.mem_of_getElem? (i := 6) rfl)), (hw _ (List.mem_of_getElem? (i := 7) rfl))⟩)
  obtain ⟨w1, ev1⟩ := exa_v c2
  have wE1 : Exa s s.heap w1 "[Lcom/example/weaverbird/weaverbird/queues/RunAction;" := Exa.start ev1 c2
  have wS1 : Sta s s.heap "com/example/weaverbird/weaverbird/queues/RunAction" "$VALUES" "[Lcom/example/weaverbird/weaverbird/queues/RunAction;" (.ref w1) := Sta.start ev1 (Or.inl (hw _ (List.mem_of_getElem? (i := 32) rfl)))
  obtain ⟨w2, ev2⟩ := exa_v c4
  have wE2 : Exa s s.heap w2 "com/example/weaverbird/weaverbird/queues/RunAction" := Exa.start ev2 c4
  have wS2 : Sta s s.heap "com/example/weaverbird/weaverbird/queues/RunAction" "PAUSE" "Lcom/example/weaverbird/weaverbird/queues/RunAction;" (.ref w2) := Sta.start ev2 (Or.inr ⟨(hw _ (List.mem_of_getElem? (i := 13) rfl)), (hw _ (List.mem_of_getElem? (i := 27) rfl))⟩)
  obtain ⟨w3, ev3⟩ := exa_v c6
  have wE3 : Exa s s.heap w3 "com/example/weaverbird/weaverbird/queues/RunAction" := Exa.start ev3 c6
  have wS3 : Sta s s.heap "com/example/weaverbird/weaverbird/queues/RunAction" "RESUME" "Lcom/example/weaverbird/weaverbird/queues/RunAction;" (.ref w3) := Sta.start ev3 (Or.inr ⟨(hw _ (List.mem_of_getElem? (i := 13) rfl)), (hw _ (List.mem_of_getElem? (i := 28) rfl))⟩)
  obtain ⟨w4, ev4⟩ := exa_v c8
  have wE4 : Exa s s.heap w4 "com/example/weaverbird/weaverbird/queues/RunAction" := Exa.start ev4 c8
  have wS4 : Sta s s.heap "com/example/weaverbird/weaverbird/queues/RunAction" "STOP" "Lcom/example/weaverbird/weaverbird/queues/RunAction;" (.ref w4) := Sta.start ev4 (Or.inr ⟨(hw _ (List.mem_of_getElem? (i := 13) rfl)), (hw _ (List.mem_of_getElem? (i := 29) rfl))⟩)
  obtain ⟨w5, ev5⟩ := exa_v c10
  have wE5 : Exa s s.heap w5 "com/example/weaverbird/weaverbird/queues/RunAction" := Exa.start ev5 c10
  have wS5 : Sta s s.heap "com/example/weaverbird/weaverbird/queues/RunAction" "RERUN" "Lcom/example/weaverbird/weaverbird/queues/RunAction;" (.ref w5) := Sta.start ev5 (Or.inr ⟨(hw _ (List.mem_of_getElem? (i := 13) rfl)), (hw _ (List.mem_of_getElem? (i := 30) rfl))⟩)
  obtain ⟨w6, ev6⟩ := exa_v c12
  have wE6 : Exa s s.heap w6 "com/example/weaverbird/weaverbird/queues/RunAction" := Exa.start ev6 c12
  have wS6 : Sta s s.heap "com/example/weaverbird/weaverbird/queues/RunAction" "RESUME_FAILED" "Lcom/example/weaverbird/weaverbird/queues/RunAction;" (.ref w6) := Sta.start ev6 (Or.inr ⟨(hw _ (List.mem_of_getElem? (i := 13) rfl)), (hw _ (List.mem_of_getElem? (i := 31) rfl))⟩)
  obtain ⟨w7, ev7⟩ := exa_v c14
  have wE7 : Exa s s.heap w7 "com/example/weaverbird/weaverbird/codes/CommandType" := Exa.start ev7 c14
  have wS7 : Sta s s.heap "com/example/weaverbird/weaverbird/codes/CommandType" "PAUSE" "Lcom/example/weaverbird/weaverbird/codes/CommandType;" (.ref w7) := Sta.start ev7 (Or.inr ⟨(hw _ (List.mem_of_getElem? (i := 6) rfl)), (hw _ (List.mem_of_getElem? (i := 37) rfl))⟩)
  obtain ⟨w8, ev8⟩ := exa_v c18
  have wE8 : Exa s s.heap w8 "com/example/weaverbird/weaverbird/codes/CommandType" := Exa.start ev8 c18
  have wS8 : Sta s s.heap "com/example/weaverbird/weaverbird/codes/CommandType" "RESUME_PAUSED" "Lcom/example/weaverbird/weaverbird/codes/CommandType;" (.ref w8) := Sta.start ev8 (Or.inr ⟨(hw _ (List.mem_of_getElem? (i := 6) rfl)), (hw _ (List.mem_of_getElem? (i := 38) rfl))⟩)
  obtain ⟨w9, ev9⟩ := exa_v c21
  have wE9 : Exa s s.heap w9 "com/example/weaverbird/weaverbird/codes/CommandType" := Exa.start ev9 c21
  have wS9 : Sta s s.heap "com/example/weaverbird/weaverbird/codes/CommandType" "STOP" "Lcom/example/weaverbird/weaverbird/codes/CommandType;" (.ref w9) := Sta.start ev9 (Or.inr ⟨(hw _ (List.mem_of_getElem? (i := 6) rfl)), (hw _ (List.mem_of_getElem? (i := 39) rfl))⟩)
  obtain ⟨w10, ev10⟩ := exa_v c24
  have wE10 : Exa s s.heap w10 "com/example/weaverbird/weaverbird/codes/CommandType" := Exa.start ev10 c24
  have wS10 : Sta s s.heap "com/example/weaverbird/weaverbird/codes/CommandType" "RERUN" "Lcom/example/weaverbird/weaverbird/codes/CommandType;" (.ref w10) := Sta.start ev10 (Or.inr ⟨(hw _ (List.mem_of_getElem? (i := 6) rfl)), (hw _ (List.mem_of_getElem? (i := 40) rfl))⟩)
  obtain ⟨w11, ev11⟩ := exa_v c27
  have wE11 : Exa s s.heap w11 "com/example/weaverbird/weaverbird/codes/CommandType" := Exa.start ev11 c27
  have wS11 : Sta s s.heap "com/example/weaverbird/weaverbird/codes/CommandType" "START_FAILED_NODE" "Lcom/example/weaverbird/weaverbird/codes/CommandType;" (.ref w11) := Sta.start ev11 (Or.inr ⟨(hw _ (List.mem_of_getElem? (i := 6) rfl)), (hw _ (List.mem_of_getElem? (i := 41) rfl))⟩)
  obtain ⟨w12, ev12⟩ := exa_v c30
  have wE12 : Exa s s.heap w12 "com/example/weaverbird/weaverbird/codes/CommandType" := Exa.start ev12 c30
  have wS12 : Sta s s.heap "com/example/weaverbird/weaverbird/codes/CommandType" "RESUME_FAILOVER" "Lcom/example/weaverbird/weaverbird/codes/CommandType;" (.ref w12) := Sta.start ev12 (Or.inr ⟨(hw _ (List.mem_of_getElem? (i := 6) rfl)), (hw _ (List.mem_of_getElem? (i := 79) rfl))⟩)
  obtain ⟨w13, ev13⟩ := exa_v c32
  have wE13 : Exa s s.heap w13 "com/example/weaverbird/weaverbird/codes/CommandType" := Exa.start ev13 c32
  have wS13 : Sta s s.heap "com/example/weaverbird/weaverbird/codes/CommandType" "RESUME_WAITING_THREAD" "Lcom/example/weaverbird/weaverbird/codes/CommandType;" (.ref w13) := Sta.start ev13 (Or.inr ⟨(hw _ (List.mem_of_getElem? (i := 6) rfl)), (hw _ (List.mem_of_getElem? (i := 81) rfl))⟩)
  obtain ⟨w14, ev14⟩ := exa_v c34
  have wE14 : Exa s s.heap w14 "com/example/weaverbird/weaverbird/codes/CommandType" := Exa.start ev14 c34
  have wS14 : Sta s s.heap "com/example/weaverbird/weaverbird/codes/CommandType" "START_CURRENT_NODE" "Lcom/example/weaverbird/weaverbird/codes/CommandType;" (.ref w14) := Sta.start ev14 (Or.inr ⟨(hw _ (List.mem_of_getElem? (i := 6) rfl)), (hw _ (List.mem_of_getElem? (i := 83) rfl))⟩)
  obtain ⟨w15, ev15⟩ := exa_v c36
  have wE15 : Exa s s.heap w15 "com/example/weaverbird/weaverbird/codes/CommandType" := Exa.start ev15 c36
  have wS15 : Sta s s.heap "com/example/weaverbird/weaverbird/codes/CommandType" "COMPLEMENT" "Lcom/example/weaverbird/weaverbird/codes/CommandType;" (.ref w15) := Sta.start ev15 (Or.inr ⟨(hw _ (List.mem_of_getElem? (i := 6) rfl)), (hw _ (List.mem_of_getElem? (i := 87) rfl))⟩)
  obtain ⟨w16, ev16⟩ := exa_v c38
  have wE16 : Exa s s.heap w16 "com/example/weaverbird/weaverbird/codes/CommandType" := Exa.start ev16 c38
  have wS16 : Sta s s.heap "com/example/weaverbird/weaverbird/codes/CommandType" "SCHEDULE" "Lcom/example/weaverbird/weaverbird/codes/CommandType;" (.ref w16) := Sta.start ev16 (Or.inr ⟨(hw _ (List.mem_of_getElem? (i := 6) rfl)), (hw _ (List.mem_of_getElem? (i := 89) rfl))⟩)
  obtain ⟨w17, ev17⟩ := exa_v (Cond.before_iff.mp (hsets _ (List.mem_of_getElem? (i := 2) rfl)))
  have wE17 : Exa s s.heap w17 "java/util/Optional" := Exa.start ev17 (Cond.before_iff.mp (hsets _ (List.mem_of_getElem? (i := 2) rfl)))
  have wS17 : Sta s s.heap "java/util/Optional" "EMPTY" "Ljava/util/Optional;" (.ref w17) := Sta.start ev17 (Or.inl (hsets _ (List.mem_of_getElem? (i := 1) rfl)))
  have wF2_type : Fld s s.heap w2 "com/example/weaverbird/weaverbird/queues/RunAction" "type" "Lcom/example/weaverbird/weaverbird/codes/CommandType;" (.ref w7) := Fld.start ((fld_at ev2).symm.trans (own_eqv_r ev7 c15))
  have wF7_ordinal : Fld s s.heap w7 "java/lang/Enum" "ordinal" "I" (.int (8 : Int32)) := Fld.start ((fld_at ev7).symm.trans (eqv_i (Term.int_eval _) c16))
  have wF0_ordinal : Fld s s.heap w0 "java/lang/Enum" "ordinal" "I" (.int (0 : Int32)) := Fld.start ((fld_at ev0).symm.trans (eqv_i (Term.int_eval _) c17))
  have wF3_type : Fld s s.heap w3 "com/example/weaverbird/weaverbird/queues/RunAction" "type" "Lcom/example/weaverbird/weaverbird/codes/CommandType;" (.ref w8) := Fld.start ((fld_at ev3).symm.trans (own_eqv_r ev8 c19))
  have wF8_ordinal : Fld s s.heap w8 "java/lang/Enum" "ordinal" "I" (.int (3 : Int32)) := Fld.start ((fld_at ev8).symm.trans (eqv_i (Term.int_eval _) c20))
  have wF4_type : Fld s s.heap w4 "com/example/weaverbird/weaverbird/queues/RunAction" "type" "Lcom/example/weaverbird/weaverbird/codes/CommandType;" (.ref w9) := Fld.start ((fld_at ev4).symm.trans (own_eqv_r ev9 c22))
  have wF9_ordinal : Fld s s.heap w9 "java/lang/Enum" "ordinal" "I" (.int (9 : Int32)) := Fld.start ((fld_at ev9).symm.trans (eqv_i (Term.int_eval _) c23))
  have wF5_type : Fld s s.heap w5 "com/example/weaverbird/weaverbird/queues/RunAction" "type" "Lcom/example/weaverbird/weaverbird/codes/CommandType;" (.ref w10) := Fld.start ((fld_at ev5).symm.trans (own_eqv_r ev10 c25))
  have wF10_ordinal : Fld s s.heap w10 "java/lang/Enum" "ordinal" "I" (.int (7 : Int32)) := Fld.start ((fld_at ev10).symm.trans (eqv_i (Term.int_eval _) c26))
  have wF6_type : Fld s s.heap w6 "com/example/weaverbird/weaverbird/queues/RunAction" "type" "Lcom/example/weaverbird/weaverbird/codes/CommandType;" (.ref w11) := Fld.start ((fld_at ev6).symm.trans (own_eqv_r ev11 c28))
  have wF11_ordinal : Fld s s.heap w11 "java/lang/Enum" "ordinal" "I" (.int (4 : Int32)) := Fld.start ((fld_at ev11).symm.trans (eqv_i (Term.int_eval _) c29))
  have wF12_ordinal : Fld s s.heap w12 "java/lang/Enum" "ordinal" "I" (.int (2 : Int32)) := Fld.start ((fld_at ev12).symm.trans (eqv_i (Term.int_eval _) c31))
  have wF13_ordinal : Fld s s.heap w13 "java/lang/Enum" "ordinal" "I" (.int (10 : Int32)) := Fld.start ((fld_at ev13).symm.trans (eqv_i (Term.int_eval _) c33))
  have wF14_ordinal : Fld s s.heap w14 "java/lang/Enum" "ordinal" "I" (.int (1 : Int32)) := Fld.start ((fld_at ev14).symm.trans (eqv_i (Term.int_eval _) c35))
  have wF15_ordinal : Fld s s.heap w15 "java/lang/Enum" "ordinal" "I" (.int (5 : Int32)) := Fld.start ((fld_at ev15).symm.trans (eqv_i (Term.int_eval _) c37))
  have wF16_ordinal : Fld s s.heap w16 "java/lang/Enum" "ordinal" "I" (.int (6 : Int32)) := Fld.start ((fld_at ev16).symm.trans (eqv_i (Term.int_eval _) r38))
  have wF17_value : Fld s s.heap w17 "java/util/Optional" "value" "Ljava/lang/Object;" .null := Fld.start ((fld_at ev17).symm.trans (null_v (Cond.before_iff.mp (hsets _ (List.mem_of_getElem? (i := 3) rfl)))))
  obtain ⟨cl, hA⟩ := Arr.start ev1 c1
  have hfin := hA.fin (Vm.Alike.refl _)
  obtain ⟨hsz, hzz⟩ : cl.slots.size < 2 ^ 31 ∧ cl.slots.size.toInt32 = (5 : Int32) := own_len ev1 hfin (eqv_i (Term.int_eval _) c3)
  have hel0 := (elem_in (own_eqv_r ev2 c5) ev1 (Term.int_eval _) hA.1).2
  have hel1 := (elem_in (own_eqv_r ev3 c7) ev1 (Term.int_eval _) hA.1).2
  have hel2 := (elem_in (own_eqv_r ev4 c9) ev1 (Term.int_eval _) hA.1).2
  have hel3 := (elem_in (own_eqv_r ev5 c11) ev1 (Term.int_eval _) hA.1).2
  have hel4 := (elem_in (own_eqv_r ev6 c13) ev1 (Term.int_eval _) hA.1).2
  obtain ⟨cl', hA', -, hS', -, hH', hG'⟩ := Arv.start (vs := [(.ref w2), (.ref w3), (.ref w4), (.ref w5), (.ref w6)]) (dv := .null) hfit hA hsz hzz (by decide) rfl ⟨hel0, hel1, hel2, hel3, hel4, trivial⟩
  cases hA.1.symm.trans hA'.1
  have wA : ∃ cl : Cell, Arr s s.heap w1 cl (.object "com/example/weaverbird/weaverbird/queues/RunAction") ∧ FitC s cl ∧ cl.slots.size = (5 : Int32).toNatClampNeg ∧ Has cl [(.ref w2), (.ref w3), (.ref w4), (.ref w5), (.ref w6)] .null ∧ ∀ i, i < cl.slots.size → fits (.object "com/example/weaverbird/weaverbird/queues/RunAction") (([(.ref w2), (.ref w3), (.ref w4), (.ref w5), (.ref w6)] : List Value).getD i .null) = true := ⟨cl, hA, FitC.start hfit hA, hS', hH', hG'⟩
  have hWd : Wd s w0 w1 w2 w3 w4 w5 w6 w7 w8 w9 w10 w11 w12 w13 w14 w15 w16 w17 := ⟨wS0, wE0, wS1, wE1, wS2, wE2, wS3, wE3, wS4, wE4, wS5, wE5, wS6, wE6, wS7, wE7, wS8, wE8, wS9, wE9, wS10, wE10, wS11, wE11, wS12, wE12, wS13, wE13, wS14, wE14, wS15, wE15, wS16, wE16, wS17, wE17, wF2_type, wF7_ordinal, wF0_ordinal, wF3_type, wF8_ordinal, wF4_type, wF9_ordinal, wF5_type, wF10_ordinal, wF6_type, wF11_ordinal, wF12_ordinal, wF13_ordinal, wF14_ordinal, wF15_ordinal, wF16_ordinal, wF17_value, wA, trivial⟩
  obtain ⟨n, o, h1, h2, h3, _, L, rfl, ⟨rfl, N⟩, hq⟩ := rm0 l s _ hw tables_1 w0 w1 w2 w3 w4 w5 w6 w7 w8 w9 w10 w11 w12 w13 w14 w15 w16 w17 i0 s.heap s.heap.size hWd (Old.start s) p e ha hc hk s m _ below hf ((Spec.applies_iff_loose hf).mp happ).1 ⟨rfl, State.Warmed39.refl s, rfl⟩ trivial
  exact ⟨n, _, h1, h2, h3, hpost _ _ _ _ _ _ ⟨Cond.after_iff.mpr rfl, Cond.after_iff.mpr (eq_i res_at (Term.int_eval (1)) rfl), trivial⟩ ⟨hq.1, hq.2.1, (hq.2.2.sift fun y hy => Or.inr (N y hy)).mono (by decide) (by decide)⟩⟩
theorem main_1_1 : Claimed_1_1 := comes_1 fun _ _ _ _ _ _ h hF => ⟨h.1, hF⟩
theorem main_1_2 : Claimed_1_2 := comes_1 fun _ _ _ _ _ _ h hF => ⟨h.2.1, hF⟩
end Jvm.Pilot.@@N@@
namespace Jvm.Pilot.@@N@@
open Jvm Jvm.ClassFile Sem Op Lib Jvm.Free Jvm.Stand Jvm.Pilot.@@N@@.Jvm.D
/-! MADE BY PROGRAM (witnessworld.py) out of the Statement's table words and the real class files: 17 classes; the members and pool entries that the words name. The judged class is class 1, her method 1. -/
namespace start1
open Jvm.ClassFile
def u (s : String) : CpInfo := .utf8 (stringToUtf16 s)
/-- a pool by its gaps: so many unusable entries, then the entry; so many at the end -/
def gap : Nat → List CpInfo → List CpInfo
  | 0, r => r
  | n + 1, r => .unusable :: gap n r
def poolList (es : List (Nat × CpInfo)) (last : Nat) : List CpInfo := es.foldr (fun e r => gap e.1 (e.2 :: r)) (gap last [])
def pool (es : List (Nat × CpInfo)) (last : Nat) : Array CpInfo := ⟨poolList es last⟩
def fileOf (pool : Array CpInfo) (this : Nat) (attrs : Array Attribute := #[]) (ms : Array MethodInfo := #[]) (fl : Nat := 33) (sup : Nat := 0) (ifs : Array Nat := #[]) (fds : Array FieldInfo := #[]) : ClassFile where
  minorVersion := 0
  majorVersion := 65
  constantPool := pool
  accessFlags := fl
  thisClass := this
  superClass := sup
  interfaces := ifs
  fields := fds
  methods := ms
  attributes := attrs
def plain (name : String) (sup : Option ClassId) : Class where
  name := name
  kind := .ordinary
  loader := none
  accessFlags := 33
  super := sup
  interfaces := #[]
  cf := none
  fields := #[]
  methods := #[]
  instanceTypes := #[]
  staticTypes := #[]
  resolved := #[]
  callSites := []
  init := .initialized
  statics := none
  mirror := none

def pool0 : Array CpInfo := pool [(5, u "<init>"), (0, u "()V"), (1, .class_ 10), (1, u "java/lang/Object"), (85, u "clone"), (0, u "()Ljava/lang/Object;")] 26

def k0c0 : Code := { maxStack := 0, maxLocals := 1, code := object_method_1_code, exceptionTable := #[], attributes := #[] }
def k0m0 : Method := { name := "<init>", desc := "()V", sig := { parameters := [], returnType := none }, accessFlags := 1, code := some k0c0 }
def k0m1 : Method := { name := "clone", desc := "()Ljava/lang/Object;", sig := { parameters := [], returnType := some (.object "java/lang/Object") }, accessFlags := 260, code := none }
/-- java/lang/Object -/
def k0 : Class := { plain "java/lang/Object" none with
  accessFlags := 33
  interfaces := #[]
  cf := some (fileOf pool0 8 #[] #[{ accessFlags := 1, nameIndex := 5, descriptorIndex := 6, attributes := #[] }, { accessFlags := 260, nameIndex := 96, descriptorIndex := 97, attributes := #[] }] 33 0 #[] #[])
  fields := #[]
  methods := #[k0m0, k0m1]
  instanceTypes := #[]
  staticTypes := #[]
  resolved := Array.replicate 124 none
  statics := none }

def pool1 : Array CpInfo := pool [(2, .class_ 4), (1, u "java/lang/Object"), (0, u "<init>"), (0, u "()V"), (0, .integer 2147483647), (0, .methodref 9 10), (0, .class_ 11), (0, .nameAndType 12 13), (0, u "com/example/weaverbird/weaverbird/queues/RunActionOfPinLaw"), (0, u "typeAt"), (0, u "(I)Lcom/example/weaverbird/weaverbird/codes/CommandType;"), (0, .methodref 9 15), (0, .nameAndType 16 17), (0, u "expectedFor"), (0, u "(I)Lcom/example/weaverbird/weaverbird/queues/RunAction;"), (0, .methodref 19 20), (0, .class_ 21), (0, .nameAndType 22 23), (0, u "com/example/weaverbird/weaverbird/queues/RunAction"), (0, u "of"), (0, u "(Lcom/example/weaverbird/weaverbird/codes/CommandType;)Ljava/util/Optional;"), (0, .methodref 25 26), (0, .class_ 27), (0, .nameAndType 28 29), (0, u "java/util/Optional"), (0, u "orElse"), (0, u "(Ljava/lang/Object;)Ljava/lang/Object;"), (0, .fieldref 31 32), (0, .class_ 33), (0, .nameAndType 34 35), (0, u "com/example/weaverbird/weaverbird/codes/CommandType"), (0, u "START"), (0, u "Lcom/example/weaverbird/weaverbird/codes/CommandType;"), (0, .fieldref 31 37), (0, .nameAndType 38 35), (0, u "START_CURRENT_NODE"), (0, .fieldref 31 40), (0, .nameAndType 41 35), (0, u "RESUME_FAILOVER"), (0, .fieldref 31 43), (0, .nameAndType 44 35), (0, u "RESUME_PAUSED"), (0, .fieldref 31 46), (0, .nameAndType 47 35), (0, u "START_FAILED_NODE"), (0, .fieldref 31 49), (0, .nameAndType 50 35), (0, u "COMPLEMENT"), (0, .fieldref 31 52), (0, .nameAndType 53 35), (0, u "SCHEDULE"), (0, .fieldref 31 55), (0, .nameAndType 56 35), (0, u "RERUN"), (0, .fieldref 31 58), (0, .nameAndType 59 35), (0, u "PAUSE"), (0, .fieldref 31 61), (0, .nameAndType 62 35), (0, u "STOP"), (0, .fieldref 31 64), (0, .nameAndType 65 35), (0, u "RESUME_WAITING_THREAD"), (0, .fieldref 19 67), (0, .nameAndType 68 69), (0, u "RESUME"), (0, u "Lcom/example/weaverbird/weaverbird/queues/RunAction;"), (0, .fieldref 19 71), (0, .nameAndType 72 69), (0, u "RESUME_FAILED"), (0, .fieldref 19 74), (0, .nameAndType 56 69), (0, .fieldref 19 76), (0, .nameAndType 59 69), (0, .fieldref 19 78), (0, .nameAndType 62 69), (2, u "law"), (0, u "(I)Z")] 3

def k1m0 : Method := { name := "<init>", desc := "()V", sig := { parameters := [], returnType := none }, accessFlags := 1, code := none }
def k1c1 : Code := { maxStack := 2, maxLocals := 5, code := code, exceptionTable := #[], attributes := #[] }
def k1m1 : Method := { name := "law", desc := "(I)Z", sig := { parameters := [.int], returnType := some .boolean }, accessFlags := 9, code := some k1c1 }
def k1c2 : Code := { maxStack := 2, maxLocals := 1, code := method_3_code, exceptionTable := #[], attributes := #[] }
def k1m2 : Method := { name := "typeAt", desc := "(I)Lcom/example/weaverbird/weaverbird/codes/CommandType;", sig := { parameters := [.int], returnType := some (.object "com/example/weaverbird/weaverbird/codes/CommandType") }, accessFlags := 10, code := some k1c2 }
def k1c3 : Code := { maxStack := 2, maxLocals := 1, code := method_4_code, exceptionTable := #[], attributes := #[] }
def k1m3 : Method := { name := "expectedFor", desc := "(I)Lcom/example/weaverbird/weaverbird/queues/RunAction;", sig := { parameters := [.int], returnType := some (.object "com/example/weaverbird/weaverbird/queues/RunAction") }, accessFlags := 10, code := some k1c3 }
/-- com/example/weaverbird/weaverbird/queues/RunActionOfPinLaw -/
def k1 : Class := { plain "com/example/weaverbird/weaverbird/queues/RunActionOfPinLaw" (some 0) with
  accessFlags := 49
  interfaces := #[]
  cf := some (fileOf pool1 9 #[] #[{ accessFlags := 1, nameIndex := 5, descriptorIndex := 6, attributes := #[] }, { accessFlags := 9, nameIndex := 81, descriptorIndex := 82, attributes := #[] }, { accessFlags := 10, nameIndex := 12, descriptorIndex := 13, attributes := #[] }, { accessFlags := 10, nameIndex := 16, descriptorIndex := 17, attributes := #[] }] 49 2 #[] #[])
  fields := #[]
  methods := #[k1m0, k1m1, k1m2, k1m3]
  instanceTypes := #[]
  staticTypes := #[]
  resolved := Array.replicate 86 none
  statics := none }

def pool2 : Array CpInfo := pool [(1, .class_ 2), (0, u "java/lang/constant/Constable"), (0, .class_ 4), (0, u "java/lang/Object")] 6

/-- java/lang/constant/Constable -/
def k2 : Class := { plain "java/lang/constant/Constable" (some 0) with
  accessFlags := 1537
  interfaces := #[]
  cf := some (fileOf pool2 1 #[] #[] 1537 3 #[] #[])
  fields := #[]
  methods := #[]
  instanceTypes := #[]
  staticTypes := #[]
  resolved := Array.replicate 11 none
  statics := none }

def pool3 : Array CpInfo := pool [(1, .class_ 2), (0, u "java/lang/Comparable"), (0, .class_ 4), (0, u "java/lang/Object")] 7

/-- java/lang/Comparable -/
def k3 : Class := { plain "java/lang/Comparable" (some 0) with
  accessFlags := 1537
  interfaces := #[]
  cf := some (fileOf pool3 1 #[] #[] 1537 3 #[] #[])
  fields := #[]
  methods := #[]
  instanceTypes := #[]
  staticTypes := #[]
  resolved := Array.replicate 12 none
  statics := none }

def pool4 : Array CpInfo := pool [(1, .class_ 2), (0, u "java/io/Serializable"), (0, .class_ 4), (0, u "java/lang/Object")] 2

/-- java/io/Serializable -/
def k4 : Class := { plain "java/io/Serializable" (some 0) with
  accessFlags := 1537
  interfaces := #[]
  cf := some (fileOf pool4 1 #[] #[] 1537 3 #[] #[])
  fields := #[]
  methods := #[]
  instanceTypes := #[]
  staticTypes := #[]
  resolved := Array.replicate 7 none
  statics := none }

def pool5 : Array CpInfo := pool [(2, .class_ 4), (1, u "java/lang/Enum"), (0, u "name"), (0, u "Ljava/lang/String;"), (2, u "ordinal"), (0, u "I"), (1, .class_ 14), (1, u "java/lang/Object"), (4, u "hash"), (86, .class_ 108), (1, u "java/lang/Enum$EnumDesc"), (2, .class_ 112), (0, u "java/lang/constant/Constable"), (0, .class_ 114), (0, u "java/lang/Comparable"), (0, .class_ 116), (0, u "java/io/Serializable")] 87

/-- java/lang/Enum -/
def k5 : Class := { plain "java/lang/Enum" (some 0) with
  accessFlags := 1057
  interfaces := #[2, 3, 4]
  cf := some (fileOf pool5 2 #[.nestMembers #[106]] #[] 1057 12 #[111, 113, 115] #[{ accessFlags := 18, nameIndex := 5, descriptorIndex := 6, attributes := #[] }, { accessFlags := 18, nameIndex := 9, descriptorIndex := 10, attributes := #[] }, { accessFlags := 2, nameIndex := 19, descriptorIndex := 10, attributes := #[] }])
  fields := #[{ name := "name", type := (.object "java/lang/String"), accessFlags := 18, slot := 0, constantValue := 0 }, { name := "ordinal", type := .int, accessFlags := 18, slot := 1, constantValue := 0 }, { name := "hash", type := .int, accessFlags := 2, slot := 2, constantValue := 0 }]
  methods := #[]
  instanceTypes := #[(.object "java/lang/String"), .int, .int]
  staticTypes := #[]
  resolved := Array.replicate 204 none
  statics := none }

def pool6 : Array CpInfo := pool [(9, .class_ 10), (0, u "com/example/weaverbird/weaverbird/codes/StoredCode"), (68, .class_ 80), (0, u "java/lang/Object")] 35

/-- com/example/weaverbird/weaverbird/codes/StoredCode -/
def k6 : Class := { plain "com/example/weaverbird/weaverbird/codes/StoredCode" (some 0) with
  accessFlags := 1537
  interfaces := #[]
  cf := some (fileOf pool6 9 #[] #[] 1537 79 #[] #[])
  fields := #[]
  methods := #[]
  instanceTypes := #[]
  staticTypes := #[]
  resolved := Array.replicate 116 none
  statics := none }

def pool7 : Array CpInfo := pool [(1, .class_ 2), (0, u "com/example/weaverbird/weaverbird/codes/CommandType"), (2, u "START"), (0, u "Lcom/example/weaverbird/weaverbird/codes/CommandType;"), (2, u "START_CURRENT_NODE"), (2, u "RESUME_FAILOVER"), (2, u "RESUME_PAUSED"), (2, u "START_FAILED_NODE"), (2, u "COMPLEMENT"), (2, u "SCHEDULE"), (2, u "RERUN"), (2, u "PAUSE"), (2, u "STOP"), (2, u "RESUME_WAITING_THREAD"), (2, u "$VALUES"), (0, u "[Lcom/example/weaverbird/weaverbird/codes/CommandType;"), (6, .class_ 49), (1, u "java/lang/Enum"), (8, u "code"), (0, u "I"), (18, .class_ 79), (0, u "com/example/weaverbird/weaverbird/codes/StoredCode")] 13

/-- com/example/weaverbird/weaverbird/codes/CommandType -/
def k7 : Class := { plain "com/example/weaverbird/weaverbird/codes/CommandType" (some 5) with
  accessFlags := 16433
  interfaces := #[6]
  cf := some (fileOf pool7 1 #[] #[] 16433 47 #[78] #[{ accessFlags := 16409, nameIndex := 5, descriptorIndex := 6, attributes := #[] }, { accessFlags := 16409, nameIndex := 9, descriptorIndex := 6, attributes := #[] }, { accessFlags := 16409, nameIndex := 12, descriptorIndex := 6, attributes := #[] }, { accessFlags := 16409, nameIndex := 15, descriptorIndex := 6, attributes := #[] }, { accessFlags := 16409, nameIndex := 18, descriptorIndex := 6, attributes := #[] }, { accessFlags := 16409, nameIndex := 21, descriptorIndex := 6, attributes := #[] }, { accessFlags := 16409, nameIndex := 24, descriptorIndex := 6, attributes := #[] }, { accessFlags := 16409, nameIndex := 27, descriptorIndex := 6, attributes := #[] }, { accessFlags := 16409, nameIndex := 30, descriptorIndex := 6, attributes := #[] }, { accessFlags := 16409, nameIndex := 33, descriptorIndex := 6, attributes := #[] }, { accessFlags := 16409, nameIndex := 36, descriptorIndex := 6, attributes := #[] }, { accessFlags := 18, nameIndex := 58, descriptorIndex := 59, attributes := #[] }, { accessFlags := 4122, nameIndex := 39, descriptorIndex := 40, attributes := #[] }])
  fields := #[{ name := "START", type := (.object "com/example/weaverbird/weaverbird/codes/CommandType"), accessFlags := 16409, slot := 0, constantValue := 0 }, { name := "START_CURRENT_NODE", type := (.object "com/example/weaverbird/weaverbird/codes/CommandType"), accessFlags := 16409, slot := 1, constantValue := 0 }, { name := "RESUME_FAILOVER", type := (.object "com/example/weaverbird/weaverbird/codes/CommandType"), accessFlags := 16409, slot := 2, constantValue := 0 }, { name := "RESUME_PAUSED", type := (.object "com/example/weaverbird/weaverbird/codes/CommandType"), accessFlags := 16409, slot := 3, constantValue := 0 }, { name := "START_FAILED_NODE", type := (.object "com/example/weaverbird/weaverbird/codes/CommandType"), accessFlags := 16409, slot := 4, constantValue := 0 }, { name := "COMPLEMENT", type := (.object "com/example/weaverbird/weaverbird/codes/CommandType"), accessFlags := 16409, slot := 5, constantValue := 0 }, { name := "SCHEDULE", type := (.object "com/example/weaverbird/weaverbird/codes/CommandType"), accessFlags := 16409, slot := 6, constantValue := 0 }, { name := "RERUN", type := (.object "com/example/weaverbird/weaverbird/codes/CommandType"), accessFlags := 16409, slot := 7, constantValue := 0 }, { name := "PAUSE", type := (.object "com/example/weaverbird/weaverbird/codes/CommandType"), accessFlags := 16409, slot := 8, constantValue := 0 }, { name := "STOP", type := (.object "com/example/weaverbird/weaverbird/codes/CommandType"), accessFlags := 16409, slot := 9, constantValue := 0 }, { name := "RESUME_WAITING_THREAD", type := (.object "com/example/weaverbird/weaverbird/codes/CommandType"), accessFlags := 16409, slot := 10, constantValue := 0 }, { name := "code", type := .int, accessFlags := 18, slot := 3, constantValue := 0 }, { name := "$VALUES", type := (.array (.object "com/example/weaverbird/weaverbird/codes/CommandType")), accessFlags := 4122, slot := 11, constantValue := 0 }]
  methods := #[]
  instanceTypes := #[(.object "java/lang/String"), .int, .int, .int]
  staticTypes := #[(.object "com/example/weaverbird/weaverbird/codes/CommandType"), (.object "com/example/weaverbird/weaverbird/codes/CommandType"), (.object "com/example/weaverbird/weaverbird/codes/CommandType"), (.object "com/example/weaverbird/weaverbird/codes/CommandType"), (.object "com/example/weaverbird/weaverbird/codes/CommandType"), (.object "com/example/weaverbird/weaverbird/codes/CommandType"), (.object "com/example/weaverbird/weaverbird/codes/CommandType"), (.object "com/example/weaverbird/weaverbird/codes/CommandType"), (.object "com/example/weaverbird/weaverbird/codes/CommandType"), (.object "com/example/weaverbird/weaverbird/codes/CommandType"), (.object "com/example/weaverbird/weaverbird/codes/CommandType"), (.array (.object "com/example/weaverbird/weaverbird/codes/CommandType"))]
  resolved := Array.replicate 93 none
  statics := some 0 }

def pool8 : Array CpInfo := pool [(1, .class_ 2), (0, u "com/example/weaverbird/weaverbird/queues/RunAction"), (2, u "PAUSE"), (0, u "Lcom/example/weaverbird/weaverbird/queues/RunAction;"), (2, u "RESUME"), (2, u "STOP"), (2, u "RERUN"), (2, u "RESUME_FAILED"), (0, .fieldref 1 20), (0, .nameAndType 21 22), (0, u "$VALUES"), (0, u "[Lcom/example/weaverbird/weaverbird/queues/RunAction;"), (0, .methodref 24 25), (0, .class_ 22), (0, .nameAndType 26 27), (0, u "clone"), (0, u "()Ljava/lang/Object;"), (1, .class_ 31), (1, u "java/lang/Enum"), (6, .fieldref 1 39), (0, .nameAndType 40 41), (0, u "type"), (0, u "Lcom/example/weaverbird/weaverbird/codes/CommandType;"), (2, u "path"), (0, u "Ljava/lang/String;"), (4, u "of"), (3, u "actsOn"), (0, u "Ljava/util/Set;"), (0, .methodref 1 57), (0, .nameAndType 58 59), (0, u "values"), (0, u "()[Lcom/example/weaverbird/weaverbird/queues/RunAction;"), (0, .methodref 61 62), (0, .class_ 63), (0, .nameAndType 50 64), (0, u "java/util/Optional"), (0, u "(Ljava/lang/Object;)Ljava/util/Optional;"), (0, .methodref 61 66), (0, .nameAndType 67 68), (0, u "empty"), (0, u "()Ljava/util/Optional;"), (139, u "(Lcom/example/weaverbird/weaverbird/codes/CommandType;)Ljava/util/Optional;")] 41

def k8c0 : Code := { maxStack := 1, maxLocals := 0, code := prog_16_method_1_code, exceptionTable := #[], attributes := #[] }
def k8m0 : Method := { name := "values", desc := "()[Lcom/example/weaverbird/weaverbird/queues/RunAction;", sig := { parameters := [], returnType := some (.array (.object "com/example/weaverbird/weaverbird/queues/RunAction")) }, accessFlags := 9, code := some k8c0 }
def k8c1 : Code := { maxStack := 2, maxLocals := 5, code := prog_16_method_4_code, exceptionTable := #[], attributes := #[] }
def k8m1 : Method := { name := "of", desc := "(Lcom/example/weaverbird/weaverbird/codes/CommandType;)Ljava/util/Optional;", sig := { parameters := [(.object "com/example/weaverbird/weaverbird/codes/CommandType")], returnType := some (.object "java/util/Optional") }, accessFlags := 9, code := some k8c1 }
/-- com/example/weaverbird/weaverbird/queues/RunAction -/
def k8 : Class := { plain "com/example/weaverbird/weaverbird/queues/RunAction" (some 5) with
  accessFlags := 16433
  interfaces := #[]
  cf := some (fileOf pool8 1 #[] #[{ accessFlags := 9, nameIndex := 58, descriptorIndex := 59, attributes := #[] }, { accessFlags := 9, nameIndex := 50, descriptorIndex := 208, attributes := #[] }] 16433 29 #[] #[{ accessFlags := 16409, nameIndex := 5, descriptorIndex := 6, attributes := #[] }, { accessFlags := 16409, nameIndex := 9, descriptorIndex := 6, attributes := #[] }, { accessFlags := 16409, nameIndex := 12, descriptorIndex := 6, attributes := #[] }, { accessFlags := 16409, nameIndex := 15, descriptorIndex := 6, attributes := #[] }, { accessFlags := 16409, nameIndex := 18, descriptorIndex := 6, attributes := #[] }, { accessFlags := 18, nameIndex := 40, descriptorIndex := 41, attributes := #[] }, { accessFlags := 18, nameIndex := 44, descriptorIndex := 45, attributes := #[] }, { accessFlags := 18, nameIndex := 54, descriptorIndex := 55, attributes := #[] }, { accessFlags := 4122, nameIndex := 21, descriptorIndex := 22, attributes := #[] }])
  fields := #[{ name := "PAUSE", type := (.object "com/example/weaverbird/weaverbird/queues/RunAction"), accessFlags := 16409, slot := 0, constantValue := 0 }, { name := "RESUME", type := (.object "com/example/weaverbird/weaverbird/queues/RunAction"), accessFlags := 16409, slot := 1, constantValue := 0 }, { name := "STOP", type := (.object "com/example/weaverbird/weaverbird/queues/RunAction"), accessFlags := 16409, slot := 2, constantValue := 0 }, { name := "RERUN", type := (.object "com/example/weaverbird/weaverbird/queues/RunAction"), accessFlags := 16409, slot := 3, constantValue := 0 }, { name := "RESUME_FAILED", type := (.object "com/example/weaverbird/weaverbird/queues/RunAction"), accessFlags := 16409, slot := 4, constantValue := 0 }, { name := "type", type := (.object "com/example/weaverbird/weaverbird/codes/CommandType"), accessFlags := 18, slot := 3, constantValue := 0 }, { name := "path", type := (.object "java/lang/String"), accessFlags := 18, slot := 4, constantValue := 0 }, { name := "actsOn", type := (.object "java/util/Set"), accessFlags := 18, slot := 5, constantValue := 0 }, { name := "$VALUES", type := (.array (.object "com/example/weaverbird/weaverbird/queues/RunAction")), accessFlags := 4122, slot := 5, constantValue := 0 }]
  methods := #[k8m0, k8m1]
  instanceTypes := #[(.object "java/lang/String"), .int, .int, (.object "com/example/weaverbird/weaverbird/codes/CommandType"), (.object "java/lang/String"), (.object "java/util/Set")]
  staticTypes := #[(.object "com/example/weaverbird/weaverbird/queues/RunAction"), (.object "com/example/weaverbird/weaverbird/queues/RunAction"), (.object "com/example/weaverbird/weaverbird/queues/RunAction"), (.object "com/example/weaverbird/weaverbird/queues/RunAction"), (.object "com/example/weaverbird/weaverbird/queues/RunAction"), (.array (.object "com/example/weaverbird/weaverbird/queues/RunAction"))]
  resolved := Array.replicate 250 none
  statics := some 1 }

def pool9 : Array CpInfo := pool [(1, .class_ 2), (0, u "java/lang/Cloneable"), (0, .class_ 4), (0, u "java/lang/Object")] 2

/-- java/lang/Cloneable -/
def k9 : Class := { plain "java/lang/Cloneable" (some 0) with
  accessFlags := 1537
  interfaces := #[]
  cf := some (fileOf pool9 1 #[] #[] 1537 3 #[] #[])
  fields := #[]
  methods := #[]
  instanceTypes := #[]
  staticTypes := #[]
  resolved := Array.replicate 7 none
  statics := none }

def pool10 : Array CpInfo := pool [(1, .fieldref 2 3), (0, .class_ 4), (0, .nameAndType 5 6), (0, u "java/util/Optional"), (0, u "EMPTY"), (0, u "Ljava/util/Optional;"), (0, .methodref 8 9), (0, .class_ 10), (0, .nameAndType 11 12), (0, u "java/lang/Object"), (0, u "<init>"), (0, u "()V"), (0, .fieldref 2 14), (0, .nameAndType 15 16), (0, u "value"), (0, u "Ljava/lang/Object;"), (0, .methodref 18 19), (0, .class_ 20), (0, .nameAndType 21 22), (0, u "java/util/Objects"), (0, u "requireNonNull"), (0, u "(Ljava/lang/Object;)Ljava/lang/Object;"), (0, .methodref 2 24), (0, .nameAndType 11 25), (0, u "(Ljava/lang/Object;)V"), (29, u "empty"), (0, u "()Ljava/util/Optional;"), (8, u "(Ljava/lang/Object;)Ljava/util/Optional;"), (16, u "of"), (82, u "orElse")] 21

def k10c0 : Code := { maxStack := 1, maxLocals := 1, code := jdk_32_method_1_code, exceptionTable := #[], attributes := #[] }
def k10m0 : Method := { name := "empty", desc := "()Ljava/util/Optional;", sig := { parameters := [], returnType := some (.object "java/util/Optional") }, accessFlags := 9, code := some k10c0 }
def k10c1 : Code := { maxStack := 2, maxLocals := 2, code := jdk_32_method_2_code, exceptionTable := #[], attributes := #[] }
def k10m1 : Method := { name := "<init>", desc := "(Ljava/lang/Object;)V", sig := { parameters := [(.object "java/lang/Object")], returnType := none }, accessFlags := 2, code := some k10c1 }
def k10c2 : Code := { maxStack := 3, maxLocals := 1, code := jdk_32_method_3_code, exceptionTable := #[], attributes := #[] }
def k10m2 : Method := { name := "of", desc := "(Ljava/lang/Object;)Ljava/util/Optional;", sig := { parameters := [(.object "java/lang/Object")], returnType := some (.object "java/util/Optional") }, accessFlags := 9, code := some k10c2 }
def k10c3 : Code := { maxStack := 1, maxLocals := 2, code := jdk_32_method_15_code, exceptionTable := #[], attributes := #[] }
def k10m3 : Method := { name := "orElse", desc := "(Ljava/lang/Object;)Ljava/lang/Object;", sig := { parameters := [(.object "java/lang/Object")], returnType := some (.object "java/lang/Object") }, accessFlags := 1, code := some k10c3 }
/-- java/util/Optional -/
def k10 : Class := { plain "java/util/Optional" (some 0) with
  accessFlags := 49
  interfaces := #[]
  cf := some (fileOf pool10 2 #[] #[{ accessFlags := 9, nameIndex := 55, descriptorIndex := 56, attributes := #[] }, { accessFlags := 2, nameIndex := 11, descriptorIndex := 25, attributes := #[] }, { accessFlags := 9, nameIndex := 82, descriptorIndex := 65, attributes := #[] }, { accessFlags := 1, nameIndex := 165, descriptorIndex := 22, attributes := #[] }] 49 8 #[] #[{ accessFlags := 26, nameIndex := 5, descriptorIndex := 6, attributes := #[] }, { accessFlags := 18, nameIndex := 15, descriptorIndex := 16, attributes := #[] }])
  fields := #[{ name := "EMPTY", type := (.object "java/util/Optional"), accessFlags := 26, slot := 0, constantValue := 0 }, { name := "value", type := (.object "java/lang/Object"), accessFlags := 18, slot := 0, constantValue := 0 }]
  methods := #[k10m0, k10m1, k10m2, k10m3]
  instanceTypes := #[(.object "java/lang/Object")]
  staticTypes := #[(.object "java/util/Optional")]
  resolved := Array.replicate 187 none
  statics := some 2 }

def pool11 : Array CpInfo := pool [(2, .class_ 4), (1, u "java/lang/Object"), (0, u "<init>"), (0, u "()V"), (35, .class_ 44), (1, u "java/util/Objects"), (0, u "requireNonNull"), (0, u "(Ljava/lang/Object;)Ljava/lang/Object;")] 137

def k11m0 : Method := { name := "<init>", desc := "()V", sig := { parameters := [], returnType := none }, accessFlags := 2, code := none }
def k11c1 : Code := { maxStack := 2, maxLocals := 1, code := jdk_31_method_10_code, exceptionTable := #[], attributes := #[] }
def k11m1 : Method := { name := "requireNonNull", desc := "(Ljava/lang/Object;)Ljava/lang/Object;", sig := { parameters := [(.object "java/lang/Object")], returnType := some (.object "java/lang/Object") }, accessFlags := 9, code := some k11c1 }
/-- java/util/Objects -/
def k11 : Class := { plain "java/util/Objects" (some 0) with
  accessFlags := 49
  interfaces := #[]
  cf := some (fileOf pool11 42 #[] #[{ accessFlags := 2, nameIndex := 5, descriptorIndex := 6, attributes := #[] }, { accessFlags := 9, nameIndex := 45, descriptorIndex := 46, attributes := #[] }] 49 2 #[] #[])
  fields := #[]
  methods := #[k11m0, k11m1]
  instanceTypes := #[]
  staticTypes := #[]
  resolved := Array.replicate 184 none
  statics := none }

/-- the primitive byte -/
def k12 : Class := { plain "byte" none with kind := .primitive 'B', accessFlags := 0x411 }
/-- [B -/
def k13 : Class := { plain "[B" (some 0) with kind := .array 12 .byte, interfaces := #[9, 4], accessFlags := 1041 }

/-- the primitive int -/
def k14 : Class := { plain "int" none with kind := .primitive 'I', accessFlags := 0x411 }
/-- [I -/
def k15 : Class := { plain "[I" (some 0) with kind := .array 14 .int, interfaces := #[9, 4], accessFlags := 1041 }

/-- [Lcom/example/weaverbird/weaverbird/queues/RunAction; -/
def k16 : Class := { plain "[Lcom/example/weaverbird/weaverbird/queues/RunAction;" (some 0) with kind := .array 8 (.object "com/example/weaverbird/weaverbird/queues/RunAction"), interfaces := #[9, 4], accessFlags := 1041 }

def heap : Heap := #[{ cls := 7, slots := #[.ref 4, .ref 17, .ref 15, .ref 11, .ref 14, .ref 18, .ref 19, .ref 13, .ref 10, .ref 12, .ref 16, .null], vm := .statics 7 },
  { cls := 8, slots := #[.ref 5, .ref 6, .ref 7, .ref 8, .ref 9, .ref 3], vm := .statics 8 },
  { cls := 10, slots := #[.ref 20], vm := .statics 10 },
  { cls := 16, slots := #[.ref 5, .ref 6, .ref 7, .ref 8, .ref 9], vm := .none },
  { cls := 7, slots := #[.null, .int 0, .int 0, .int 0], vm := .none },
  { cls := 8, slots := #[.null, .int 0, .int 0, .ref 10, .null, .null], vm := .none },
  { cls := 8, slots := #[.null, .int 0, .int 0, .ref 11, .null, .null], vm := .none },
  { cls := 8, slots := #[.null, .int 0, .int 0, .ref 12, .null, .null], vm := .none },
  { cls := 8, slots := #[.null, .int 0, .int 0, .ref 13, .null, .null], vm := .none },
  { cls := 8, slots := #[.null, .int 0, .int 0, .ref 14, .null, .null], vm := .none },
  { cls := 7, slots := #[.null, .int 8, .int 0, .int 0], vm := .none },
  { cls := 7, slots := #[.null, .int 3, .int 0, .int 0], vm := .none },
  { cls := 7, slots := #[.null, .int 9, .int 0, .int 0], vm := .none },
  { cls := 7, slots := #[.null, .int 7, .int 0, .int 0], vm := .none },
  { cls := 7, slots := #[.null, .int 4, .int 0, .int 0], vm := .none },
  { cls := 7, slots := #[.null, .int 2, .int 0, .int 0], vm := .none },
  { cls := 7, slots := #[.null, .int 10, .int 0, .int 0], vm := .none },
  { cls := 7, slots := #[.null, .int 1, .int 0, .int 0], vm := .none },
  { cls := 7, slots := #[.null, .int 5, .int 0, .int 0], vm := .none },
  { cls := 7, slots := #[.null, .int 6, .int 0, .int 0], vm := .none },
  { cls := 10, slots := #[.null], vm := .none }]
def classes : Array Class := #[k0, k1, k2, k3, k4, k5, k6, k7, k8, k9, k10, k11, k12, k13, k14, k15, k16]
def interned : List (Array UInt16 × Addr) := []
def slotsUsed : Nat := 99
def theMethod : MethodId := ⟨1, 1⟩
def args0 : Array Value := #[.int 5]
def aboutOver (below : List Frame) : State where
  vm := { classes := classes, interned := interned.toArray }
  heap := heap
  slotsUsed := slotsUsed
  threads := #[{ frames := .invoking theMethod args0 :: below }]
def below0 : List Frame := [.native { method := ⟨0, 0⟩, args := #[] }]
def about1 : State := aboutOver below0
def p0 : Program := .bare "" "" ""
def e0 : Env := launch0.env 0 0 0
theorem w_frames : about1.frames = Frame.invoking theMethod args0 :: below0 := rfl
set_option maxRecDepth 65536 in
theorem w_args : argsFit about1.vm theMethod args0 = true := by decide +kernel
set_option maxRecDepth 65536 in
theorem w_heap : heapFits about1 = true := by decide +kernel
set_option maxRecDepth 65536 in
theorem w_runnable : about1.curStatus? = some .runnable := by decide +kernel
set_option maxRecDepth 65536 in
theorem w_alone : about1.alone = true := by decide +kernel
set_option maxRecDepth 65536 in
theorem w_named : about1.methodNamed? x = some theMethod := by decide +kernel
set_option maxRecDepth 65536 in
theorem w_hears : about1.hears theMethod below0 = true := by decide +kernel
set_option maxRecDepth 65536 in
theorem w_ripe : about1.ripe theMethod args0 below0 = true := by decide +kernel
theorem w_running : about1.status = .running := rfl
set_option maxRecDepth 65536 in
theorem w_room : about1.hasRoom e0.platform room_1 = true :=
  launch0.hasRoom_least _ room_1 (by decide +kernel) (by decide +kernel) (by decide +kernel) (by decide +kernel) (by decide +kernel) (by decide +kernel)
theorem allAtoms_all (ts : List Jvm.Cond) (a : Array Jvm.Value) (st : Jvm.State) : (allAtoms ts).before a st = ts.all (fun c => c.before a st) := by
  induction ts with
  | nil => rfl
  | cons c t ih =>
    show (Jvm.Cond.and c (allAtoms t)).before a st = _
    rw [Jvm.Cond.before_and, ih, List.all_cons]
def words1 : List Jvm.Cond := Jvm.Cond.code x code maxLocals ret :: tables_1
/-- a 'code' word, met by the world's own term for the bytes: nothing is compared byte by byte -/
theorem code_word {y : MethodName} {bytes : ByteArray} {mx : Nat} {rt : Option FieldType} {a : Array Value} {s : State} {m : MethodId} {meth : Method} {c : Code} (h1 : s.methodNamed? y = some m) (h2 : s.vm.method? m = some meth) (h3 : meth.code = some c) (h4 : c.code = bytes)
    (h5 : (c.maxLocals == mx && c.exceptionTable.isEmpty && decide (c.maxStack ≤ mostOperands) && decide (meth.sig.returnType = rt) && !meth.locks && decide (parseMethodDescriptor y.desc = some meth.sig)) = true) : (Jvm.Cond.code y bytes mx rt).before a s = true := by
  simp only [Bool.and_eq_true, beq_iff_eq, Bool.not_eq_true', decide_eq_true_eq] at h5
  obtain ⟨⟨⟨⟨⟨g1, g2⟩, g3⟩, g4⟩, g5⟩, g6⟩ := h5
  simp [Cond.before, Cond.holds, Cond.value, h1, h2, h3, h4, g1, g2, g3, g4, g5, g6]
def isCode : Jvm.Cond → Bool
  | .code _ _ _ _ => true
  | _ => false
theorem all_split {L : List Jvm.Cond} {P : Jvm.Cond → Bool} (h1 : L.all (fun c => isCode c || P c) = true) (h2 : ∀ c ∈ L.filter isCode, P c = true) : L.all P = true := by
  refine List.all_eq_true.mpr fun c hc => ?_
  have h := List.all_eq_true.mp h1 c hc
  rcases Bool.eq_false_or_eq_true (isCode c) with hi | hi
  · exact h2 c (List.mem_filter.mpr ⟨hc, hi⟩)
  · simpa [hi] using h
set_option maxRecDepth 65536 in
theorem w_c0 : (Jvm.Cond.code x code maxLocals ret).before args0 about1 = true := code_word (m := ⟨1, 1⟩) (meth := k1m1) (c := k1c1) (by decide +kernel) rfl rfl rfl (by decide +kernel)
set_option maxRecDepth 65536 in
theorem w_c1 : (Jvm.Cond.code ({ cls := "com/example/weaverbird/weaverbird/queues/RunActionOfPinLaw", name := "typeAt", desc := "(I)Lcom/example/weaverbird/weaverbird/codes/CommandType;" } : Jvm.MethodName) method_3_code (1 : Nat) (Option.some (Jvm.ClassFile.FieldType.object "com/example/weaverbird/weaverbird/codes/CommandType"))).before args0 about1 = true := code_word (m := ⟨1, 2⟩) (meth := k1m2) (c := k1c2) (by decide +kernel) rfl rfl rfl (by decide +kernel)
set_option maxRecDepth 65536 in
theorem w_c2 : (Jvm.Cond.code ({ cls := "com/example/weaverbird/weaverbird/queues/RunActionOfPinLaw", name := "expectedFor", desc := "(I)Lcom/example/weaverbird/weaverbird/queues/RunAction;" } : Jvm.MethodName) method_4_code (1 : Nat) (Option.some (Jvm.ClassFile.FieldType.object "com/example/weaverbird/weaverbird/queues/RunAction"))).before args0 about1 = true := code_word (m := ⟨1, 3⟩) (meth := k1m3) (c := k1c3) (by decide +kernel) rfl rfl rfl (by decide +kernel)
set_option maxRecDepth 65536 in
theorem w_c3 : (Jvm.Cond.code ({ cls := "com/example/weaverbird/weaverbird/queues/RunAction", name := "of", desc := "(Lcom/example/weaverbird/weaverbird/codes/CommandType;)Ljava/util/Optional;" } : Jvm.MethodName) prog_16_method_4_code (5 : Nat) (Option.some (Jvm.ClassFile.FieldType.object "java/util/Optional"))).before args0 about1 = true := code_word (m := ⟨8, 1⟩) (meth := k8m1) (c := k8c1) (by decide +kernel) rfl rfl rfl (by decide +kernel)
set_option maxRecDepth 65536 in
theorem w_c4 : (Jvm.Cond.code ({ cls := "com/example/weaverbird/weaverbird/queues/RunAction", name := "values", desc := "()[Lcom/example/weaverbird/weaverbird/queues/RunAction;" } : Jvm.MethodName) prog_16_method_1_code (0 : Nat) (Option.some (Jvm.ClassFile.FieldType.array (Jvm.ClassFile.FieldType.object "com/example/weaverbird/weaverbird/queues/RunAction")))).before args0 about1 = true := code_word (m := ⟨8, 0⟩) (meth := k8m0) (c := k8c0) (by decide +kernel) rfl rfl rfl (by decide +kernel)
set_option maxRecDepth 65536 in
theorem w_c5 : (Jvm.Cond.code ({ cls := "java/util/Optional", name := "empty", desc := "()Ljava/util/Optional;" } : Jvm.MethodName) jdk_32_method_1_code (1 : Nat) (Option.some (Jvm.ClassFile.FieldType.object "java/util/Optional"))).before args0 about1 = true := code_word (m := ⟨10, 0⟩) (meth := k10m0) (c := k10c0) (by decide +kernel) rfl rfl rfl (by decide +kernel)
set_option maxRecDepth 65536 in
theorem w_c6 : (Jvm.Cond.code ({ cls := "java/util/Optional", name := "orElse", desc := "(Ljava/lang/Object;)Ljava/lang/Object;" } : Jvm.MethodName) jdk_32_method_15_code (2 : Nat) (Option.some (Jvm.ClassFile.FieldType.object "java/lang/Object"))).before args0 about1 = true := code_word (m := ⟨10, 3⟩) (meth := k10m3) (c := k10c3) (by decide +kernel) rfl rfl rfl (by decide +kernel)
set_option maxRecDepth 65536 in
theorem w_c7 : (Jvm.Cond.code ({ cls := "java/util/Optional", name := "of", desc := "(Ljava/lang/Object;)Ljava/util/Optional;" } : Jvm.MethodName) jdk_32_method_3_code (1 : Nat) (Option.some (Jvm.ClassFile.FieldType.object "java/util/Optional"))).before args0 about1 = true := code_word (m := ⟨10, 2⟩) (meth := k10m2) (c := k10c2) (by decide +kernel) rfl rfl rfl (by decide +kernel)
set_option maxRecDepth 65536 in
theorem w_c8 : (Jvm.Cond.code ({ cls := "java/util/Objects", name := "requireNonNull", desc := "(Ljava/lang/Object;)Ljava/lang/Object;" } : Jvm.MethodName) jdk_31_method_10_code (1 : Nat) (Option.some (Jvm.ClassFile.FieldType.object "java/lang/Object"))).before args0 about1 = true := code_word (m := ⟨11, 1⟩) (meth := k11m1) (c := k11c1) (by decide +kernel) rfl rfl rfl (by decide +kernel)
set_option maxRecDepth 65536 in
theorem w_c9 : (Jvm.Cond.code ({ cls := "java/util/Optional", name := "<init>", desc := "(Ljava/lang/Object;)V" } : Jvm.MethodName) jdk_32_method_2_code (2 : Nat) (Option.none : Option Jvm.ClassFile.FieldType)).before args0 about1 = true := code_word (m := ⟨10, 1⟩) (meth := k10m1) (c := k10c1) (by decide +kernel) rfl rfl rfl (by decide +kernel)
set_option maxRecDepth 65536 in
theorem w_c10 : (Jvm.Cond.code ({ cls := "java/lang/Object", name := "<init>", desc := "()V" } : Jvm.MethodName) object_method_1_code (1 : Nat) (Option.none : Option Jvm.ClassFile.FieldType)).before args0 about1 = true := code_word (m := ⟨0, 0⟩) (meth := k0m0) (c := k0c0) (by decide +kernel) rfl rfl rfl (by decide +kernel)
def codes1 : List Jvm.Cond := [Jvm.Cond.code x code maxLocals ret, Jvm.Cond.code ({ cls := "com/example/weaverbird/weaverbird/queues/RunActionOfPinLaw", name := "typeAt", desc := "(I)Lcom/example/weaverbird/weaverbird/codes/CommandType;" } : Jvm.MethodName) method_3_code (1 : Nat) (Option.some (Jvm.ClassFile.FieldType.object "com/example/weaverbird/weaverbird/codes/CommandType")), Jvm.Cond.code ({ cls := "com/example/weaverbird/weaverbird/queues/RunActionOfPinLaw", name := "expectedFor", desc := "(I)Lcom/example/weaverbird/weaverbird/queues/RunAction;" } : Jvm.MethodName) method_4_code (1 : Nat) (Option.some (Jvm.ClassFile.FieldType.object "com/example/weaverbird/weaverbird/queues/RunAction")), Jvm.Cond.code ({ cls := "com/example/weaverbird/weaverbird/queues/RunAction", name := "of", desc := "(Lcom/example/weaverbird/weaverbird/codes/CommandType;)Ljava/util/Optional;" } : Jvm.MethodName) prog_16_method_4_code (5 : Nat) (Option.some (Jvm.ClassFile.FieldType.object "java/util/Optional")), Jvm.Cond.code ({ cls := "com/example/weaverbird/weaverbird/queues/RunAction", name := "values", desc := "()[Lcom/example/weaverbird/weaverbird/queues/RunAction;" } : Jvm.MethodName) prog_16_method_1_code (0 : Nat) (Option.some (Jvm.ClassFile.FieldType.array (Jvm.ClassFile.FieldType.object "com/example/weaverbird/weaverbird/queues/RunAction"))), Jvm.Cond.code ({ cls := "java/util/Optional", name := "empty", desc := "()Ljava/util/Optional;" } : Jvm.MethodName) jdk_32_method_1_code (1 : Nat) (Option.some (Jvm.ClassFile.FieldType.object "java/util/Optional")), Jvm.Cond.code ({ cls := "java/util/Optional", name := "orElse", desc := "(Ljava/lang/Object;)Ljava/lang/Object;" } : Jvm.MethodName) jdk_32_method_15_code (2 : Nat) (Option.some (Jvm.ClassFile.FieldType.object "java/lang/Object")), Jvm.Cond.code ({ cls := "java/util/Optional", name := "of", desc := "(Ljava/lang/Object;)Ljava/util/Optional;" } : Jvm.MethodName) jdk_32_method_3_code (1 : Nat) (Option.some (Jvm.ClassFile.FieldType.object "java/util/Optional")), Jvm.Cond.code ({ cls := "java/util/Objects", name := "requireNonNull", desc := "(Ljava/lang/Object;)Ljava/lang/Object;" } : Jvm.MethodName) jdk_31_method_10_code (1 : Nat) (Option.some (Jvm.ClassFile.FieldType.object "java/lang/Object")), Jvm.Cond.code ({ cls := "java/util/Optional", name := "<init>", desc := "(Ljava/lang/Object;)V" } : Jvm.MethodName) jdk_32_method_2_code (2 : Nat) (Option.none : Option Jvm.ClassFile.FieldType), Jvm.Cond.code ({ cls := "java/lang/Object", name := "<init>", desc := "()V" } : Jvm.MethodName) object_method_1_code (1 : Nat) (Option.none : Option Jvm.ClassFile.FieldType)]
set_option maxRecDepth 65536 in
theorem codes_eq : words1.filter isCode = codes1 := rfl
theorem w_codes : ∀ c ∈ words1.filter isCode, c.before args0 about1 = true := by
  rw [codes_eq]
  intro c hc
  simp only [codes1, List.mem_cons, List.not_mem_nil, or_false] at hc
  rcases hc with rfl | rfl | rfl | rfl | rfl | rfl | rfl | rfl | rfl | rfl | rfl
  · exact w_c0
  · exact w_c1
  · exact w_c2
  · exact w_c3
  · exact w_c4
  · exact w_c5
  · exact w_c6
  · exact w_c7
  · exact w_c8
  · exact w_c9
  · exact w_c10
set_option maxRecDepth 65536 in
theorem w_t1 : (words1.take 24).all (fun c => isCode c || c.before args0 about1) = true := by decide +kernel
set_option maxRecDepth 65536 in
theorem w_t2 : ((words1.drop 24).take 24).all (fun c => isCode c || c.before args0 about1) = true := by decide +kernel
set_option maxRecDepth 65536 in
theorem w_t3 : (((words1.drop 24).drop 24).take 24).all (fun c => isCode c || c.before args0 about1) = true := by decide +kernel
set_option maxRecDepth 65536 in
theorem w_t4 : (((words1.drop 24).drop 24).drop 24).all (fun c => isCode c || c.before args0 about1) = true := by decide +kernel
theorem w_tables : (allAtoms (Jvm.Cond.code x code maxLocals ret :: tables_1)).before args0 about1 = true := by
  rw [allAtoms_all]
  show words1.all (fun c => c.before args0 about1) = true
  refine all_split ?_ w_codes
  rw [← List.take_append_drop 24 words1, List.all_append, w_t1, ← List.take_append_drop 24 (words1.drop 24), List.all_append, w_t2, ← List.take_append_drop 24 ((words1.drop 24).drop 24), List.all_append, w_t3, w_t4]
  rfl
set_option maxRecDepth 65536 in
theorem w_rest : rest_1_c.before args0 about1 = true := by decide +kernel
set_option maxRecDepth 65536 in
theorem w_case : (Jvm.Cond.and given_1 narrow_1).before args0 about1 = true := by decide +kernel
theorem w_applies : (headSpec (Jvm.Cond.code x code maxLocals ret :: tables_1) room_1).applies x e0.platform about1 = true :=
  (Spec.applies_iff w_frames).mpr ⟨w_running, w_runnable, w_alone, w_named, w_hears, w_ripe, w_room, w_tables⟩
theorem atStart : AtStart classFile x code maxLocals ret World_1 tables_1 room_1 Calls_1 rest_1 Pre_1 launch0 p0 e0 about1 theMethod args0 below0 :=
  ⟨lists_1, trivial, launch0.admits_env _ _ _, launch0.least_env, fairChoices_fair.cas, fairChoices_fair.clock, w_frames, w_args, w_heap, w_applies, trivial, w_rest, w_case⟩
end start1
theorem witness_1 : WitnessClaimed_1 := ⟨start1.p0, start1.e0, start1.about1, start1.theMethod, start1.args0, start1.below0, start1.atStart⟩
end Jvm.Pilot.@@N@@
