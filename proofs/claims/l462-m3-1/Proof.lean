import JvmDerived
import JvmDerived.Pilot.@@N@@Statement
import JvmDerived.Pilot.@@N@@Code
set_option linter.unusedVariables false
set_option linter.unusedSimpArgs false
namespace Jvm.Pilot.@@N@@
open Jvm Jvm.ClassFile Sem Op Lib Jvm.Free Jvm.Stand Jvm.LawKit Jvm.RoadKit Bundle Jvm.Pilot.@@N@@.Jvm.D
abbrev own_Ends (p : Program) (e : Env) (below : List Frame) (T : State) (g : JFrame) (Q : Outcome → State → Prop) : Prop :=
  ∃ s₂ o, Steps p.tables e below (T.setTop g) s₂ ∧ s₂.status = .running ∧ Ended s₂ below o ∧ Q o s₂
section Own
variable {p : Program} {l : Launch} {e : Env} {R : Room} {s : State} {m : MethodId} {args : Array Value} {below : List Frame} {meth : Method} {c : Code} {T T' : State} {locs : List Loc} {cells slots : Nat}
theorem own_go {g g' : JFrame} {Q : Outcome → State → Prop} (h : ∀ t, Steps p.tables e below (T'.setTop g') t → Steps p.tables e below (T.setTop g) t) (k : own_Ends p e below T' g' Q) : own_Ends p e below T g Q := by
  obtain ⟨s₂, o, h1, h2⟩ := k
  exact ⟨s₂, o, h _ h1, h2⟩
theorem own_start {g g' : JFrame} {Q : Outcome → State → Prop} (h : g = g') (k : own_Ends p e below T g' Q) : own_Ends p e below T g Q := h ▸ k
theorem own_ret (X : Stand p l e R s m args below meth c T locs cells slots) (hlk : meth.locks = false) (hx : p.tables.exec = Jvm.exec) {pc : Nat} {Ls : Array Slot} {w : Value} {t : FieldType} {i : Instr} {rest : List Value} (hret : meth.sig.returnType = some t) (hn : narrow t w = w)
    (hi : (i = .ireturn ∧ (t = .int ∨ t = .boolean ∨ t = .byte ∨ t = .char ∨ t = .short) ∧ ∃ z, w = .int z) ∨ (i = .lreturn ∧ t = .long ∧ ∃ z, w = .long z) ∨ (i = .dreturn ∧ t = .double ∧ ∃ z, w = .double z) ∨ (i = .freturn ∧ t = .float ∧ ∃ z, w = .float z) ∨ (i = .areturn ∧ t.isReference = true ∧ w.isRef = true))
    (hd : decode c.code pc = .ok (i, 1)) {Qv : Option Value → Heap → List Loc → Prop} {C S : Nat} (hq : Qv (some w) T.heap locs) (hc : cells ≤ C) (hs : slots ≤ S) :
    own_Ends p e below T (mkF m pc Ls (w :: rest)) (fun o U' => ∃ v L, o = .returned v ∧ Qv v U'.heap L ∧ FrameEnd s o U' L C S) := by
  obtain ⟨fs, hr, hrun, hended, hW, hsame⟩ := X.leave (v := some w) (fun h => by rw [hret] at h; cases h) hlk
  exact ⟨_, _, retOut X hx hret hn hi hd hr, hrun, hended, _, _, rfl, hq, ⟨_, rfl⟩, hW, hsame.mono hc hs⟩
theorem own_ret0 (X : Stand p l e R s m args below meth c T locs cells slots) (hlk : meth.locks = false) (hx : p.tables.exec = Jvm.exec) {pc : Nat} {Ls : Array Slot} (hret : meth.sig.returnType = none)
    (hd : decode c.code pc = .ok (.return_, 1)) {Qv : Option Value → Heap → List Loc → Prop} {C S : Nat} (hq : Qv none T.heap locs) (hc : cells ≤ C) (hs : slots ≤ S) :
    own_Ends p e below T (mkF m pc Ls []) (fun o U' => ∃ v L, o = .returned v ∧ Qv v U'.heap L ∧ FrameEnd s o U' L C S) := by
  obtain ⟨fs, hr, hrun, hended, hW, hsame⟩ := X.leave (v := none) (fun _ => rfl) hlk
  exact ⟨_, _, X.returnOut hx hret hd hr, hrun, hended, _, _, rfl, hq, ⟨_, rfl⟩, hW, hsame.mono hc hs⟩
theorem own_nr {t : FieldType} {v : Value} (h : v.isRef = true) : narrow t v = v := by cases v <;> first | (cases h; done) | (cases t <;> rfl)
end Own
theorem own_selfsel {s : State} {args : Array Value} {y w : MethodName} (hcls : y.cls = w.cls) (hw : (Jvm.Cond.selects w.cls w w).before args s = true) (hp : (Jvm.Cond.privateMethod y).before args s = true) (hi : (Jvm.Cond.instanceMethod y).before args s = true) (hy : y.cls ≠ "java/lang/invoke/MethodHandle" ∧ y.cls ≠ "java/lang/invoke/VarHandle") : (Jvm.Cond.selects y.cls y y).before args s = true := by
  obtain ⟨c2, r2, m2, q1, q2, q3, q4, kP, hkP, hkPi⟩ := Cond.selects_spec hw
  exact Jvm.Stand.selects_self_of_private (by rw [hcls]; exact findClass_of_methodNamed q3) hkP hkPi (Cond.privateMethod_at hp) hi hy
def own_ush (x : Int32) : Int32 := ((x.toUInt32 >>> ((31 : Int32) &&& 31).toUInt32).toInt32)
def own_ht (x p : Int32) : Int32 := p + ((own_ush x ^^^ p) &&& 1)
theorem own_ush_toInt (x : Int32) : (own_ush x).toInt = (x.toInt % 4294967296) / 2147483648 := c_iushr x 31 31 (by decide) (by decide)
theorem own_and1 (x : Int32) : (x &&& 1).toInt = x.toInt % 2 := c_mask x 1 1 (by decide) (by decide)
theorem own_bit {u p q : Int32} (h : (u.toInt + p.toInt) % 2 = q.toInt) : (u ^^^ p) &&& 1 = q := by
  rw [← Int32.toInt_inj, own_and1, c_xor2]; exact h
theorem own_ext (x : Int32) : 0 ≤ (x &&& 1073741823).toInt ∧ (x &&& 1073741823).toInt ≤ 1073741823 := c_and x 1073741823 (by decide)
theorem own_h1 (x y : Int32) : own_ht ((-2147483647 : Int32) + (x &&& 1073741823)) (y &&& 1) = 1 := by
  have h1 := own_ext x
  have h2 := c_iadd (-2147483647 : Int32) (x &&& 1073741823)
  have h3 := rng32 ((-2147483647 : Int32) + (x &&& 1073741823))
  have h4 := own_ush_toInt ((-2147483647 : Int32) + (x &&& 1073741823))
  have h5 : (-2147483647 : Int32).toInt = -2147483647 := rfl
  have h6 : own_ush ((-2147483647 : Int32) + (x &&& 1073741823)) = 1 := by
    rw [← Int32.toInt_inj, h4]; have : (1 : Int32).toInt = 1 := rfl; omega
  unfold own_ht; rw [h6]
  rcases and_one y with h | h <;> rw [h] <;> decide
theorem own_h2 (x f y : Int32) : own_ht (((((0 : Int32) + 0) + 1) ||| ((f + (y &&& 1)) <<< ((31 : Int32) &&& 31))) + (x &&& 1073741823)) f = f + (y &&& 1) := by
  have h1 := own_ext x
  have ey := own_and1 y
  have h2 := c_iadd f (y &&& 1)
  have h3 := rng32 (f + (y &&& 1))
  generalize hh : f + (y &&& 1) = H at *
  have a1 := c_ishl H 31 31 (by decide)
  have a2 := rng32 (H <<< ((31 : Int32) &&& 31))
  have a3 : ((31 : Int32).toBitVec.toNat % 32) = 31 := by decide
  have a4 := c_or' (((0 : Int32) + 0) + 1) (H <<< ((31 : Int32) &&& 31)) 1 (by decide) 2 (by decide)
  generalize hs : H <<< ((31 : Int32) &&& 31) = S at *
  have one : (((0 : Int32) + 0) + 1).toInt = 1 := by decide
  have a5 := a4 (by omega) (by omega) (by omega)
  have a6 := rng32 ((((0 : Int32) + 0) + 1) ||| S)
  generalize ho : (((0 : Int32) + 0) + 1) ||| S = O at *
  have a7 := c_iadd O (x &&& 1073741823)
  have a8 := rng32 (O + (x &&& 1073741823))
  have a9 := own_ush_toInt (O + (x &&& 1073741823))
  have key : (own_ush (O + (x &&& 1073741823)) ^^^ f) &&& 1 = y &&& 1 := by
    apply own_bit; rw [a9]; omega
  unfold own_ht; rw [key, hh]

theorem own_d_prog_5_method_1_code_0 : decode prog_5_method_1_code 0 = .ok (.aload_n 0, 1) := by decide +kernel
theorem own_d_prog_5_method_1_code_1 : decode prog_5_method_1_code 1 = .ok (.invokespecial 3, 3) := by decide +kernel
theorem own_d_prog_5_method_1_code_4 : decode prog_5_method_1_code 4 = .ok (.aload_n 0, 1) := by decide +kernel
theorem own_d_prog_5_method_1_code_5 : decode prog_5_method_1_code 5 = .ok (.ldc 11, 2) := by decide +kernel
theorem own_d_prog_5_method_1_code_7 : decode prog_5_method_1_code 7 = .ok (.putfield 12, 3) := by decide +kernel
theorem own_d_prog_5_method_1_code_10 : decode prog_5_method_1_code 10 = .ok (.aload_n 0, 1) := by decide +kernel
theorem own_d_prog_5_method_1_code_11 : decode prog_5_method_1_code 11 = .ok (.aload_n 1, 1) := by decide +kernel
theorem own_d_prog_5_method_1_code_12 : decode prog_5_method_1_code 12 = .ok (.putfield 16, 3) := by decide +kernel
theorem own_d_prog_5_method_1_code_15 : decode prog_5_method_1_code 15 = .ok (.aload_n 0, 1) := by decide +kernel
theorem own_d_prog_5_method_1_code_16 : decode prog_5_method_1_code 16 = .ok (.aload_n 2, 1) := by decide +kernel
theorem own_d_prog_5_method_1_code_17 : decode prog_5_method_1_code 17 = .ok (.putfield 20, 3) := by decide +kernel
theorem own_d_prog_5_method_1_code_20 : decode prog_5_method_1_code 20 = .ok (.return_, 1) := by decide +kernel
def Q_own_rinit (Z : State) (a : Addr) (h0 : Heap) (n0 : Nat) (v : Option Value) (h : Heap) (L : List Loc) : Prop := v = none ∧ Fr n0 L ∧ Keep h0 h [a] ∧ Exa Z h a "com/example/treeline/treeline/Node" ∧ Fld Z h a "com/example/treeline/treeline/Node" "sizeAndParity" "I" (.int (-2147483647 : Int32)) ∧ Fld Z h a "com/example/treeline/treeline/Node" "left" "Lcom/example/treeline/treeline/Node;" .null ∧ Fld Z h a "com/example/treeline/treeline/Node" "right" "Lcom/example/treeline/treeline/Node;" .null
set_option maxRecDepth 65536 in
set_option maxHeartbeats 40000000 in
theorem own_rinit (l : Launch) (Z : State) (a0 : Array Value) (hw : ∀ d ∈ tables_1, d.before a0 Z = true) (ws : List Jvm.Cond) (a : Addr) (u0 : Int32) (h0 : Heap) (n0 : Nat) (Z0 : n0 ≤ h0.size) (E_a : Exa Z h0 a "com/example/treeline/treeline/Node") (g_a : n0 ≤ a) (F_sz : Fld Z h0 a "com/example/treeline/treeline/Node" "sizeAndParity" "I" (.int u0)) (F_l : Fld Z h0 a "com/example/treeline/treeline/Node" "left" "Lcom/example/treeline/treeline/Node;" .null) (F_r : Fld Z h0 a "com/example/treeline/treeline/Node" "right" "Lcom/example/treeline/treeline/Node;" .null) (F_k : Fld Z h0 a "com/example/treeline/treeline/Node" "key" "Ljava/lang/Object;" .null) (F_v : Fld Z h0 a "com/example/treeline/treeline/Node" "value" "Ljava/lang/Object;" .null) :
    MetFree l (⟨"com/example/treeline/treeline/Node", "<init>", "(Ljava/lang/Object;Ljava/lang/Object;)V"⟩ : MethodName) (head1 (Jvm.Cond.code (⟨"com/example/treeline/treeline/Node", "<init>", "(Ljava/lang/Object;Ljava/lang/Object;)V"⟩ : MethodName) prog_5_method_1_code 3 none :: ws) ({ frames := 1, cells := 0, slots := 0, locals := 12 } : Room)) (fun au Uu => au = #[(.ref a), .null, .null] ∧ Z.Warmed39 Uu.vm ∧ Uu.heap = h0) (fun _ _ _ _ _ => True) (fun _ Uu ou Uw => ∃ vu Lu, ou = .returned vu ∧ Q_own_rinit Z a h0 n0 vu Uw.heap Lu ∧ FrameEnd Uu ou Uw Lu ({ frames := 1, cells := 0, slots := 0, locals := 12 } : Room).cells ({ frames := 1, cells := 0, slots := 0, locals := 12 } : Room).slots) := by
  refine MetFree.of_bodySF (plainFor_of_name (by first | (simp [plainName, overriddenIn]; done) | decide +kernel)) hisR ?_
  intro p e s m args below meth c s₁ Bd hml0 hP hK
  obtain ⟨rfl, hZ, hh⟩ := hP
  have hx := Bd.exec
  have hby := Bd.bytes
  have hlk := Bd.notSynchronized
  have hml : c.maxLocals = 3 := hml0
  have hown : s.vm.findClass "com/example/treeline/treeline/Node" = some m.cls := findClass_of_methodNamed Bd.named
  have hnm := (name_of_methodNamed Bd.named Bd.method).1
  have X0 : Stand p l e ({ frames := 1, cells := 0, slots := 0, locals := 12 } : Room) s m #[(.ref a), .null, .null] below meth c s₁ [] 0 0 := Stand.of_body Bd
  have e0 : s₁.heap = h0 := by rw [← hh, Bd.state]; rfl
  have N0 := Fr.nil n0
  show own_Ends p e below s₁ (entryFrame m #[(.ref a), .null, .null] 3) (fun ou Uw => ∃ vu Lu, ou = .returned vu ∧ Q_own_rinit Z a h0 n0 vu Uw.heap Lu ∧ FrameEnd s ou Uw Lu ({ frames := 1, cells := 0, slots := 0, locals := 12 } : Room).cells ({ frames := 1, cells := 0, slots := 0, locals := 12 } : Room).slots)
  refine own_start (g' := (mkF m 0 #[rv a, .val .null, .val .null] [])) (by first | (simp [entryFrame, mkF, argsToLocals, Value.category, iv, rv]; done) | rfl) ?_
  refine own_go (T' := s₁) (g' := (mkF m 1 #[rv a, .val .null, .val .null] [(.ref a)])) (fun t k => XS.aloadN X0.here hx rfl (hb hby own_d_prog_5_method_1_code_0) rfl rfl k) ?_
  obtain ⟨T1, X1, e1, st1⟩ := initO X0 hx hZ hown (hw _ (List.mem_of_getElem? (i := 7) rfl)) (hw _ (List.mem_of_getElem? (i := 8) rfl)) (hw _ (List.mem_of_getElem? (i := 9) rfl)) e0 (g := (mkF m 1 #[rv a, .val .null, .val .null] [(.ref a)])) rfl (by rw [hml]; rfl) rfl (hb hby own_d_prog_5_method_1_code_1) (by decide) (W := 0) (by show 2 * 0 + _ ≤ _; exact Nat.le_of_eq rfl) (by decide)
  refine own_go (T' := T1) (g' := (mkF m 4 #[rv a, .val .null, .val .null] [])) (st1) ?_
  refine own_go (T' := T1) (g' := (mkF m 5 #[rv a, .val .null, .val .null] [(.ref a)])) (fun t k => XS.aloadN X1.here hx rfl (hb hby own_d_prog_5_method_1_code_4) rfl rfl k) ?_
  refine own_go (T' := T1) (g' := (mkF m 7 #[rv a, .val .null, .val .null] [(.int (-2147483647 : Int32)), (.ref a)])) (fun t k => X1.ldcInt hx hown (mvT hZ (hw _ (List.mem_of_getElem? (i := 10) rfl))) (g := (mkF m 5 #[rv a, .val .null, .val .null] [(.ref a)])) rfl (hb hby own_d_prog_5_method_1_code_5) _ k) ?_
  obtain ⟨T2, h2, X2, e2, W2, st2⟩ := putF X1 hx hZ hown (host := "") (Or.inl (hw _ (List.mem_of_getElem? (i := 11) rfl))) Via.refl e1 F_sz E_a (Or.inl (hw _ (List.mem_of_getElem? (i := 12) rfl))) (hw _ (List.mem_of_getElem? (i := 2) rfl)) (ty := .int) (by decide) rfl rfl (g := (mkF m 7 #[rv a, .val .null, .val .null] [(.int (-2147483647 : Int32)), (.ref a)])) rfl rfl (hb hby own_d_prog_5_method_1_code_7)
  have hz2 : n0 ≤ h2.size := Nat.le_trans Z0 (Keep.of_wr W2).1
  have N2 := Fr.snoc X2 N0 g_a
  have K2 := (Keep.refl h0 [a]).wr W2 (Or.inl (List.mem_of_getElem? (i := 0) rfl))
  have c3 := E_a.wr W2
  have c4 := F_sz.same W2
  have c5 := F_k.other W2 (Or.inr (slot_ne (Or.inr (hw _ (List.mem_of_getElem? (i := 14) rfl))) (Or.inl (hw _ (List.mem_of_getElem? (i := 12) rfl))) (by decide) (t := (.object "java/lang/Object")) (t' := .int) (by decide) (by decide)))
  have c6 := F_v.other W2 (Or.inr (slot_ne (Or.inl (hw _ (List.mem_of_getElem? (i := 16) rfl))) (Or.inl (hw _ (List.mem_of_getElem? (i := 12) rfl))) (by decide) (t := (.object "java/lang/Object")) (t' := .int) (by decide) (by decide)))
  have c7 := F_l.other W2 (Or.inr (slot_ne (Or.inl (hw _ (List.mem_of_getElem? (i := 27) rfl))) (Or.inl (hw _ (List.mem_of_getElem? (i := 12) rfl))) (by decide) (t := (.object "com/example/treeline/treeline/Node")) (t' := .int) (by decide) (by decide)))
  have c8 := F_r.other W2 (Or.inr (slot_ne (Or.inl (hw _ (List.mem_of_getElem? (i := 29) rfl))) (Or.inl (hw _ (List.mem_of_getElem? (i := 12) rfl))) (by decide) (t := (.object "com/example/treeline/treeline/Node")) (t' := .int) (by decide) (by decide)))
  refine own_go (T' := T2) (g' := (mkF m 10 #[rv a, .val .null, .val .null] [])) (st2) ?_
  refine own_go (T' := T2) (g' := (mkF m 11 #[rv a, .val .null, .val .null] [(.ref a)])) (fun t k => XS.aloadN X2.here hx rfl (hb hby own_d_prog_5_method_1_code_10) rfl rfl k) ?_
  refine own_go (T' := T2) (g' := (mkF m 12 #[rv a, .val .null, .val .null] [.null, (.ref a)])) (fun t k => XS.aloadN X2.here hx rfl (hb hby own_d_prog_5_method_1_code_11) rfl rfl k) ?_
  obtain ⟨T9, h9, X9, e9, W9, st9⟩ := putF X2 hx hZ hown (host := "") (Or.inl (hw _ (List.mem_of_getElem? (i := 13) rfl))) Via.refl e2 c5 c3 (Or.inr ⟨(hw _ (List.mem_of_getElem? (i := 14) rfl)), rfl, hnm⟩) (hw _ (List.mem_of_getElem? (i := 2) rfl)) (ty := (.object "java/lang/Object")) (by decide) rfl rfl (g := (mkF m 12 #[rv a, .val .null, .val .null] [.null, (.ref a)])) rfl rfl (hb hby own_d_prog_5_method_1_code_12)
  have hz9 : n0 ≤ h9.size := Nat.le_trans hz2 (Keep.of_wr W9).1
  have N9 := Fr.snoc X9 N2 g_a
  have K9 := K2.wr W9 (Or.inl (List.mem_of_getElem? (i := 0) rfl))
  have c10 := c3.wr W9
  have c11 := c4.other W9 (Or.inr (slot_ne (Or.inl (hw _ (List.mem_of_getElem? (i := 12) rfl))) (Or.inr (hw _ (List.mem_of_getElem? (i := 14) rfl))) (by decide) (t := .int) (t' := (.object "java/lang/Object")) (by decide) (by decide)))
  have c12 := c5.same W9
  have c13 := c6.other W9 (Or.inr (slot_ne (Or.inl (hw _ (List.mem_of_getElem? (i := 16) rfl))) (Or.inr (hw _ (List.mem_of_getElem? (i := 14) rfl))) (by decide) (t := (.object "java/lang/Object")) (t' := (.object "java/lang/Object")) (by decide) (by decide)))
  have c14 := c7.other W9 (Or.inr (slot_ne (Or.inl (hw _ (List.mem_of_getElem? (i := 27) rfl))) (Or.inr (hw _ (List.mem_of_getElem? (i := 14) rfl))) (by decide) (t := (.object "com/example/treeline/treeline/Node")) (t' := (.object "java/lang/Object")) (by decide) (by decide)))
  have c15 := c8.other W9 (Or.inr (slot_ne (Or.inl (hw _ (List.mem_of_getElem? (i := 29) rfl))) (Or.inr (hw _ (List.mem_of_getElem? (i := 14) rfl))) (by decide) (t := (.object "com/example/treeline/treeline/Node")) (t' := (.object "java/lang/Object")) (by decide) (by decide)))
  refine own_go (T' := T9) (g' := (mkF m 15 #[rv a, .val .null, .val .null] [])) (st9) ?_
  refine own_go (T' := T9) (g' := (mkF m 16 #[rv a, .val .null, .val .null] [(.ref a)])) (fun t k => XS.aloadN X9.here hx rfl (hb hby own_d_prog_5_method_1_code_15) rfl rfl k) ?_
  refine own_go (T' := T9) (g' := (mkF m 17 #[rv a, .val .null, .val .null] [.null, (.ref a)])) (fun t k => XS.aloadN X9.here hx rfl (hb hby own_d_prog_5_method_1_code_16) rfl rfl k) ?_
  obtain ⟨T16, h16, X16, e16, W16, st16⟩ := putF X9 hx hZ hown (host := "") (Or.inl (hw _ (List.mem_of_getElem? (i := 15) rfl))) Via.refl e9 c13 c10 (Or.inl (hw _ (List.mem_of_getElem? (i := 16) rfl))) (hw _ (List.mem_of_getElem? (i := 2) rfl)) (ty := (.object "java/lang/Object")) (by decide) rfl rfl (g := (mkF m 17 #[rv a, .val .null, .val .null] [.null, (.ref a)])) rfl rfl (hb hby own_d_prog_5_method_1_code_17)
  have hz16 : n0 ≤ h16.size := Nat.le_trans hz9 (Keep.of_wr W16).1
  have N16 := Fr.snoc X16 N9 g_a
  have K16 := K9.wr W16 (Or.inl (List.mem_of_getElem? (i := 0) rfl))
  have c17 := c10.wr W16
  have c18 := c11.other W16 (Or.inr (slot_ne (Or.inl (hw _ (List.mem_of_getElem? (i := 12) rfl))) (Or.inl (hw _ (List.mem_of_getElem? (i := 16) rfl))) (by decide) (t := .int) (t' := (.object "java/lang/Object")) (by decide) (by decide)))
  have c19 := c12.other W16 (Or.inr (slot_ne (Or.inr (hw _ (List.mem_of_getElem? (i := 14) rfl))) (Or.inl (hw _ (List.mem_of_getElem? (i := 16) rfl))) (by decide) (t := (.object "java/lang/Object")) (t' := (.object "java/lang/Object")) (by decide) (by decide)))
  have c20 := c13.same W16
  have c21 := c14.other W16 (Or.inr (slot_ne (Or.inl (hw _ (List.mem_of_getElem? (i := 27) rfl))) (Or.inl (hw _ (List.mem_of_getElem? (i := 16) rfl))) (by decide) (t := (.object "com/example/treeline/treeline/Node")) (t' := (.object "java/lang/Object")) (by decide) (by decide)))
  have c22 := c15.other W16 (Or.inr (slot_ne (Or.inl (hw _ (List.mem_of_getElem? (i := 29) rfl))) (Or.inl (hw _ (List.mem_of_getElem? (i := 16) rfl))) (by decide) (t := (.object "com/example/treeline/treeline/Node")) (t' := (.object "java/lang/Object")) (by decide) (by decide)))
  refine own_go (T' := T16) (g' := (mkF m 20 #[rv a, .val .null, .val .null] [])) (st16) ?_
  exact own_ret0 X16 hlk hx Bd.returns (hb hby own_d_prog_5_method_1_code_20) (by rw [e16]; exact ⟨rfl, N16, K16, c17, c18, c21, c22⟩) (by decide) (by decide)

theorem own_d_prog_5_method_6_code_0 : decode prog_5_method_6_code 0 = .ok (.aload_n 0, 1) := by decide +kernel
theorem own_d_prog_5_method_6_code_1 : decode prog_5_method_6_code 1 = .ok (.dup, 1) := by decide +kernel
theorem own_d_prog_5_method_6_code_2 : decode prog_5_method_6_code 2 = .ok (.getfield 12, 3) := by decide +kernel
theorem own_d_prog_5_method_6_code_5 : decode prog_5_method_6_code 5 = .ok (.iload_n 1, 1) := by decide +kernel
theorem own_d_prog_5_method_6_code_6 : decode prog_5_method_6_code 6 = .ok (.iadd, 1) := by decide +kernel
theorem own_d_prog_5_method_6_code_7 : decode prog_5_method_6_code 7 = .ok (.putfield 12, 3) := by decide +kernel
theorem own_d_prog_5_method_6_code_10 : decode prog_5_method_6_code 10 = .ok (.return_, 1) := by decide +kernel
def Q_own_rres (Z : State) (a : Addr) (u0 p1 : Int32) (h0 : Heap) (n0 : Nat) (v : Option Value) (h : Heap) (L : List Loc) : Prop := v = none ∧ Fr n0 L ∧ Keep h0 h [a] ∧ Exa Z h a "com/example/treeline/treeline/Node" ∧ Fld Z h a "com/example/treeline/treeline/Node" "sizeAndParity" "I" (.int (u0 + p1)) ∧ Fld Z h a "com/example/treeline/treeline/Node" "left" "Lcom/example/treeline/treeline/Node;" .null ∧ Fld Z h a "com/example/treeline/treeline/Node" "right" "Lcom/example/treeline/treeline/Node;" .null
set_option maxRecDepth 65536 in
set_option maxHeartbeats 40000000 in
theorem own_rres (l : Launch) (Z : State) (a0 : Array Value) (hw : ∀ d ∈ tables_1, d.before a0 Z = true) (ws : List Jvm.Cond) (a : Addr) (u0 p1 : Int32) (h0 : Heap) (n0 : Nat) (Z0 : n0 ≤ h0.size) (E_a : Exa Z h0 a "com/example/treeline/treeline/Node") (g_a : n0 ≤ a) (F_sz : Fld Z h0 a "com/example/treeline/treeline/Node" "sizeAndParity" "I" (.int u0)) (F_l : Fld Z h0 a "com/example/treeline/treeline/Node" "left" "Lcom/example/treeline/treeline/Node;" .null) (F_r : Fld Z h0 a "com/example/treeline/treeline/Node" "right" "Lcom/example/treeline/treeline/Node;" .null) :
    MetFree l (⟨"com/example/treeline/treeline/Node", "resize", "(I)V"⟩ : MethodName) (head1 (Jvm.Cond.code (⟨"com/example/treeline/treeline/Node", "resize", "(I)V"⟩ : MethodName) prog_5_method_6_code 2 none :: ws) ({ frames := 0, cells := 0, slots := 0, locals := 0 } : Room)) (fun au Uu => au = #[(.ref a), (.int p1)] ∧ Z.Warmed39 Uu.vm ∧ Uu.heap = h0) (fun _ _ _ _ _ => True) (fun _ Uu ou Uw => ∃ vu Lu, ou = .returned vu ∧ Q_own_rres Z a u0 p1 h0 n0 vu Uw.heap Lu ∧ FrameEnd Uu ou Uw Lu ({ frames := 0, cells := 0, slots := 0, locals := 0 } : Room).cells ({ frames := 0, cells := 0, slots := 0, locals := 0 } : Room).slots) := by
  refine MetFree.of_bodySF (plainFor_of_name (by first | (simp [plainName, overriddenIn]; done) | decide +kernel)) hisR ?_
  intro p e s m args below meth c s₁ Bd hml0 hP hK
  obtain ⟨rfl, hZ, hh⟩ := hP
  have hx := Bd.exec
  have hby := Bd.bytes
  have hlk := Bd.notSynchronized
  have hml : c.maxLocals = 2 := hml0
  have hown : s.vm.findClass "com/example/treeline/treeline/Node" = some m.cls := findClass_of_methodNamed Bd.named
  have hnm := (name_of_methodNamed Bd.named Bd.method).1
  have X0 : Stand p l e ({ frames := 0, cells := 0, slots := 0, locals := 0 } : Room) s m #[(.ref a), (.int p1)] below meth c s₁ [] 0 0 := Stand.of_body Bd
  have e0 : s₁.heap = h0 := by rw [← hh, Bd.state]; rfl
  have N0 := Fr.nil n0
  show own_Ends p e below s₁ (entryFrame m #[(.ref a), (.int p1)] 2) (fun ou Uw => ∃ vu Lu, ou = .returned vu ∧ Q_own_rres Z a u0 p1 h0 n0 vu Uw.heap Lu ∧ FrameEnd s ou Uw Lu ({ frames := 0, cells := 0, slots := 0, locals := 0 } : Room).cells ({ frames := 0, cells := 0, slots := 0, locals := 0 } : Room).slots)
  refine own_start (g' := (mkF m 0 #[rv a, iv p1] [])) (by first | (simp [entryFrame, mkF, argsToLocals, Value.category, iv, rv]; done) | rfl) ?_
  refine own_go (T' := s₁) (g' := (mkF m 1 #[rv a, iv p1] [(.ref a)])) (fun t k => XS.aloadN X0.here hx rfl (hb hby own_d_prog_5_method_6_code_0) rfl rfl k) ?_
  refine own_go (T' := s₁) (g' := (mkF m 2 #[rv a, iv p1] [(.ref a), (.ref a)])) (fun t k => XS.dup X0.here hx rfl (hb hby own_d_prog_5_method_6_code_1) rfl rfl k) ?_
  obtain ⟨T23, X23, e23, st23⟩ := getF X0 hx hZ hown (host := "") (Or.inl (hw _ (List.mem_of_getElem? (i := 11) rfl))) Via.refl e0 F_sz (g := (mkF m 2 #[rv a, iv p1] [(.ref a), (.ref a)])) rfl rfl (hb hby own_d_prog_5_method_6_code_2)
  refine own_go (T' := T23) (g' := (mkF m 5 #[rv a, iv p1] [(.int u0), (.ref a)])) (st23) ?_
  refine own_go (T' := T23) (g' := (mkF m 6 #[rv a, iv p1] [(.int p1), (.int u0), (.ref a)])) (fun t k => XS.iloadN X23.here hx rfl (hb hby own_d_prog_5_method_6_code_5) rfl k) ?_
  refine own_go (T' := T23) (g' := (mkF m 7 #[rv a, iv p1] [(.int (u0 + p1)), (.ref a)])) (fun t k => XS.iadd X23.here hx rfl (hb hby own_d_prog_5_method_6_code_6) rfl k) ?_
  obtain ⟨T24, h24, X24, e24, W24, st24⟩ := putF X23 hx hZ hown (host := "") (Or.inl (hw _ (List.mem_of_getElem? (i := 11) rfl))) Via.refl e23 F_sz E_a (Or.inl (hw _ (List.mem_of_getElem? (i := 12) rfl))) (hw _ (List.mem_of_getElem? (i := 2) rfl)) (ty := .int) (by decide) rfl rfl (g := (mkF m 7 #[rv a, iv p1] [(.int (u0 + p1)), (.ref a)])) rfl rfl (hb hby own_d_prog_5_method_6_code_7)
  have hz24 : n0 ≤ h24.size := Nat.le_trans Z0 (Keep.of_wr W24).1
  have N24 := Fr.snoc X24 N0 g_a
  have K24 := (Keep.refl h0 [a]).wr W24 (Or.inl (List.mem_of_getElem? (i := 0) rfl))
  have c25 := E_a.wr W24
  have c26 := F_sz.same W24
  have c27 := F_l.other W24 (Or.inr (slot_ne (Or.inl (hw _ (List.mem_of_getElem? (i := 27) rfl))) (Or.inl (hw _ (List.mem_of_getElem? (i := 12) rfl))) (by decide) (t := (.object "com/example/treeline/treeline/Node")) (t' := .int) (by decide) (by decide)))
  have c28 := F_r.other W24 (Or.inr (slot_ne (Or.inl (hw _ (List.mem_of_getElem? (i := 29) rfl))) (Or.inl (hw _ (List.mem_of_getElem? (i := 12) rfl))) (by decide) (t := (.object "com/example/treeline/treeline/Node")) (t' := .int) (by decide) (by decide)))
  refine own_go (T' := T24) (g' := (mkF m 10 #[rv a, iv p1] [])) (st24) ?_
  exact own_ret0 X24 hlk hx Bd.returns (hb hby own_d_prog_5_method_6_code_10) (by rw [e24]; exact ⟨rfl, N24, K24, c25, c26, c27, c28⟩) (by decide) (by decide)

theorem own_d_prog_5_method_4_code_0 : decode prog_5_method_4_code 0 = .ok (.aload_n 0, 1) := by decide +kernel
theorem own_d_prog_5_method_4_code_1 : decode prog_5_method_4_code 1 = .ok (.getfield 31, 3) := by decide +kernel
theorem own_d_prog_5_method_4_code_4 : decode prog_5_method_4_code 4 = .ok (.aload_n 1, 1) := by decide +kernel
theorem own_d_prog_5_method_4_code_5 : decode prog_5_method_4_code 5 = .ok (.if_acmp .eq 8, 3) := by decide +kernel
theorem own_d_prog_5_method_4_code_13 : decode prog_5_method_4_code 13 = .ok (.aload_n 0, 1) := by decide +kernel
theorem own_d_prog_5_method_4_code_14 : decode prog_5_method_4_code 14 = .ok (.getfield 35, 3) := by decide +kernel
theorem own_d_prog_5_method_4_code_17 : decode prog_5_method_4_code 17 = .ok (.aload_n 2, 1) := by decide +kernel
theorem own_d_prog_5_method_4_code_18 : decode prog_5_method_4_code 18 = .ok (.if_acmp .eq 8, 3) := by decide +kernel
theorem own_d_prog_5_method_4_code_26 : decode prog_5_method_4_code 26 = .ok (.return_, 1) := by decide +kernel
def Q_own_rlc (h0 : Heap) (n0 : Nat) (v : Option Value) (h : Heap) (L : List Loc) : Prop := v = none ∧ L = [] ∧ h = h0
set_option maxRecDepth 65536 in
set_option maxHeartbeats 40000000 in
theorem own_rlc (l : Launch) (Z : State) (a0 : Array Value) (hw : ∀ d ∈ tables_1, d.before a0 Z = true) (ws : List Jvm.Cond) (a : Addr) (h0 : Heap) (n0 : Nat) (Z0 : n0 ≤ h0.size) (F_l : Fld Z h0 a "com/example/treeline/treeline/Node" "left" "Lcom/example/treeline/treeline/Node;" .null) (F_r : Fld Z h0 a "com/example/treeline/treeline/Node" "right" "Lcom/example/treeline/treeline/Node;" .null) :
    MetFree l (⟨"com/example/treeline/treeline/Node", "linkChildren", "(Lcom/example/treeline/treeline/Node;Lcom/example/treeline/treeline/Node;)V"⟩ : MethodName) (head1 (Jvm.Cond.code (⟨"com/example/treeline/treeline/Node", "linkChildren", "(Lcom/example/treeline/treeline/Node;Lcom/example/treeline/treeline/Node;)V"⟩ : MethodName) prog_5_method_4_code 3 none :: ws) ({ frames := 0, cells := 0, slots := 0, locals := 0 } : Room)) (fun au Uu => au = #[(.ref a), .null, .null] ∧ Z.Warmed39 Uu.vm ∧ Uu.heap = h0) (fun _ _ _ _ _ => True) (fun _ Uu ou Uw => ∃ vu Lu, ou = .returned vu ∧ Q_own_rlc h0 n0 vu Uw.heap Lu ∧ FrameEnd Uu ou Uw Lu ({ frames := 0, cells := 0, slots := 0, locals := 0 } : Room).cells ({ frames := 0, cells := 0, slots := 0, locals := 0 } : Room).slots) := by
  refine MetFree.of_bodySF (plainFor_of_name (by first | (simp [plainName, overriddenIn]; done) | decide +kernel)) hisR ?_
  intro p e s m args below meth c s₁ Bd hml0 hP hK
  obtain ⟨rfl, hZ, hh⟩ := hP
  have hx := Bd.exec
  have hby := Bd.bytes
  have hlk := Bd.notSynchronized
  have hml : c.maxLocals = 3 := hml0
  have hown : s.vm.findClass "com/example/treeline/treeline/Node" = some m.cls := findClass_of_methodNamed Bd.named
  have hnm := (name_of_methodNamed Bd.named Bd.method).1
  have X0 : Stand p l e ({ frames := 0, cells := 0, slots := 0, locals := 0 } : Room) s m #[(.ref a), .null, .null] below meth c s₁ [] 0 0 := Stand.of_body Bd
  have e0 : s₁.heap = h0 := by rw [← hh, Bd.state]; rfl
  have N0 := Fr.nil n0
  show own_Ends p e below s₁ (entryFrame m #[(.ref a), .null, .null] 3) (fun ou Uw => ∃ vu Lu, ou = .returned vu ∧ Q_own_rlc h0 n0 vu Uw.heap Lu ∧ FrameEnd s ou Uw Lu ({ frames := 0, cells := 0, slots := 0, locals := 0 } : Room).cells ({ frames := 0, cells := 0, slots := 0, locals := 0 } : Room).slots)
  refine own_start (g' := (mkF m 0 #[rv a, .val .null, .val .null] [])) (by first | (simp [entryFrame, mkF, argsToLocals, Value.category, iv, rv]; done) | rfl) ?_
  refine own_go (T' := s₁) (g' := (mkF m 1 #[rv a, .val .null, .val .null] [(.ref a)])) (fun t k => XS.aloadN X0.here hx rfl (hb hby own_d_prog_5_method_4_code_0) rfl rfl k) ?_
  obtain ⟨T29, X29, e29, st29⟩ := getF X0 hx hZ hown (host := "") (Or.inl (hw _ (List.mem_of_getElem? (i := 26) rfl))) Via.refl e0 F_l (g := (mkF m 1 #[rv a, .val .null, .val .null] [(.ref a)])) rfl rfl (hb hby own_d_prog_5_method_4_code_1)
  refine own_go (T' := T29) (g' := (mkF m 4 #[rv a, .val .null, .val .null] [.null])) (st29) ?_
  refine own_go (T' := T29) (g' := (mkF m 5 #[rv a, .val .null, .val .null] [.null, .null])) (fun t k => XS.aloadN X29.here hx rfl (hb hby own_d_prog_5_method_4_code_4) rfl rfl k) ?_
  refine own_go (T' := T29) (g' := (mkF m 13 #[rv a, .val .null, .val .null] [])) (fun t k => Jvm.RoadKit.acmp (g := (mkF m 5 #[rv a, .val .null, .val .null] [.null, .null])) X29 hx rfl (x := .null) (y := .null) rfl rfl (pc0 := 5) (pc' := 13) (same := true) rfl (hb hby own_d_prog_5_method_4_code_5) rfl (decide_eq_true rfl) (by decide) (by decide) k) ?_
  refine own_go (T' := T29) (g' := (mkF m 14 #[rv a, .val .null, .val .null] [(.ref a)])) (fun t k => XS.aloadN X29.here hx rfl (hb hby own_d_prog_5_method_4_code_13) rfl rfl k) ?_
  obtain ⟨T30, X30, e30, st30⟩ := getF X29 hx hZ hown (host := "") (Or.inl (hw _ (List.mem_of_getElem? (i := 28) rfl))) Via.refl e29 F_r (g := (mkF m 14 #[rv a, .val .null, .val .null] [(.ref a)])) rfl rfl (hb hby own_d_prog_5_method_4_code_14)
  refine own_go (T' := T30) (g' := (mkF m 17 #[rv a, .val .null, .val .null] [.null])) (st30) ?_
  refine own_go (T' := T30) (g' := (mkF m 18 #[rv a, .val .null, .val .null] [.null, .null])) (fun t k => XS.aloadN X30.here hx rfl (hb hby own_d_prog_5_method_4_code_17) rfl rfl k) ?_
  refine own_go (T' := T30) (g' := (mkF m 26 #[rv a, .val .null, .val .null] [])) (fun t k => Jvm.RoadKit.acmp (g := (mkF m 18 #[rv a, .val .null, .val .null] [.null, .null])) X30 hx rfl (x := .null) (y := .null) rfl rfl (pc0 := 18) (pc' := 26) (same := true) rfl (hb hby own_d_prog_5_method_4_code_18) rfl (decide_eq_true rfl) (by decide) (by decide) k) ?_
  exact own_ret0 X30 hlk hx Bd.returns (hb hby own_d_prog_5_method_4_code_26) ⟨rfl, rfl, e30⟩ (by decide) (by decide)

theorem own_d_prog_5_method_14_code_0 : decode prog_5_method_14_code 0 = .ok (.aload_n 0, 1) := by decide +kernel
theorem own_d_prog_5_method_14_code_1 : decode prog_5_method_14_code 1 = .ok (.ifnonnull 7, 3) := by decide +kernel
theorem own_d_prog_5_method_14_code_4 : decode prog_5_method_14_code 4 = .ok (.iconst 0, 1) := by decide +kernel
theorem own_d_prog_5_method_14_code_5 : decode prog_5_method_14_code 5 = .ok (.goto 10, 3) := by decide +kernel
theorem own_d_prog_5_method_14_code_15 : decode prog_5_method_14_code 15 = .ok (.ireturn, 1) := by decide +kernel
def Q_own_rsize (h0 : Heap) (n0 : Nat) (v : Option Value) (h : Heap) (L : List Loc) : Prop := v = some (.int 0) ∧ L = [] ∧ h = h0
set_option maxRecDepth 65536 in
set_option maxHeartbeats 40000000 in
theorem own_rsize (l : Launch) (Z : State) (a0 : Array Value) (hw : ∀ d ∈ tables_1, d.before a0 Z = true) (ws : List Jvm.Cond)  (h0 : Heap) (n0 : Nat) (Z0 : n0 ≤ h0.size)  :
    MetFree l (⟨"com/example/treeline/treeline/Node", "size", "(Lcom/example/treeline/treeline/Node;)I"⟩ : MethodName) (head1 (Jvm.Cond.code (⟨"com/example/treeline/treeline/Node", "size", "(Lcom/example/treeline/treeline/Node;)I"⟩ : MethodName) prog_5_method_14_code 1 (some .int) :: ws) ({ frames := 0, cells := 0, slots := 0, locals := 0 } : Room)) (fun au Uu => au = #[.null] ∧ Z.Warmed39 Uu.vm ∧ Uu.heap = h0) (fun _ _ _ _ _ => True) (fun _ Uu ou Uw => ∃ vu Lu, ou = .returned vu ∧ Q_own_rsize h0 n0 vu Uw.heap Lu ∧ FrameEnd Uu ou Uw Lu ({ frames := 0, cells := 0, slots := 0, locals := 0 } : Room).cells ({ frames := 0, cells := 0, slots := 0, locals := 0 } : Room).slots) := by
  refine MetFree.of_bodySF (plainFor_of_name (by first | (simp [plainName, overriddenIn]; done) | decide +kernel)) hisR ?_
  intro p e s m args below meth c s₁ Bd hml0 hP hK
  obtain ⟨rfl, hZ, hh⟩ := hP
  have hx := Bd.exec
  have hby := Bd.bytes
  have hlk := Bd.notSynchronized
  have hml : c.maxLocals = 1 := hml0
  have hown : s.vm.findClass "com/example/treeline/treeline/Node" = some m.cls := findClass_of_methodNamed Bd.named
  have hnm := (name_of_methodNamed Bd.named Bd.method).1
  have X0 : Stand p l e ({ frames := 0, cells := 0, slots := 0, locals := 0 } : Room) s m #[.null] below meth c s₁ [] 0 0 := Stand.of_body Bd
  have e0 : s₁.heap = h0 := by rw [← hh, Bd.state]; rfl
  have N0 := Fr.nil n0
  show own_Ends p e below s₁ (entryFrame m #[.null] 1) (fun ou Uw => ∃ vu Lu, ou = .returned vu ∧ Q_own_rsize h0 n0 vu Uw.heap Lu ∧ FrameEnd s ou Uw Lu ({ frames := 0, cells := 0, slots := 0, locals := 0 } : Room).cells ({ frames := 0, cells := 0, slots := 0, locals := 0 } : Room).slots)
  refine own_start (g' := (mkF m 0 #[.val .null] [])) (by first | (simp [entryFrame, mkF, argsToLocals, Value.category, iv, rv]; done) | rfl) ?_
  refine own_go (T' := s₁) (g' := (mkF m 1 #[.val .null] [.null])) (fun t k => XS.aloadN X0.here hx rfl (hb hby own_d_prog_5_method_14_code_0) rfl rfl k) ?_
  refine own_go (T' := s₁) (g' := (mkF m 4 #[.val .null] [])) (fun t k => XS.ifnonnullNo X0.here hx rfl (hb hby own_d_prog_5_method_14_code_1) rfl k) ?_
  refine own_go (T' := s₁) (g' := (mkF m 5 #[.val .null] [(.int (0 : Int32))])) (fun t k => XS.iconst X0.here hx rfl (hb hby own_d_prog_5_method_14_code_4) k) ?_
  refine own_go (T' := s₁) (g' := (mkF m 15 #[.val .null] [(.int (0 : Int32))])) (fun t k => XS.goto X0.here hx rfl (pc0 := 5) (pc' := 15) rfl (hb hby own_d_prog_5_method_14_code_5) (by decide) (by decide) k) ?_
  exact own_ret X0 hlk hx Bd.returns rfl (Or.inl ⟨rfl, Or.inl rfl, _, rfl⟩) (hb hby own_d_prog_5_method_14_code_15) ⟨rfl, rfl, e0⟩ (by decide) (by decide)

theorem own_pd1 : parseMethodDescriptor "(Lcom/example/treeline/treeline/Node;)I" = some ⟨[(.object "com/example/treeline/treeline/Node")], some .int⟩ := by decide +kernel
theorem own_pd0 : parseMethodDescriptor "(Lcom/example/treeline/treeline/Node;Lcom/example/treeline/treeline/Node;)V" = some ⟨[(.object "com/example/treeline/treeline/Node"), (.object "com/example/treeline/treeline/Node")], none⟩ := by decide +kernel
theorem own_d_prog_5_method_2_code_0 : decode prog_5_method_2_code 0 = .ok (.aload_n 0, 1) := by decide +kernel
theorem own_d_prog_5_method_2_code_1 : decode prog_5_method_2_code 1 = .ok (.aload_n 1, 1) := by decide +kernel
theorem own_d_prog_5_method_2_code_2 : decode prog_5_method_2_code 2 = .ok (.aload_n 2, 1) := by decide +kernel
theorem own_d_prog_5_method_2_code_3 : decode prog_5_method_2_code 3 = .ok (.invokevirtual 23, 3) := by decide +kernel
theorem own_d_prog_5_method_2_code_6 : decode prog_5_method_2_code 6 = .ok (.aload_n 0, 1) := by decide +kernel
theorem own_d_prog_5_method_2_code_7 : decode prog_5_method_2_code 7 = .ok (.aload_n 1, 1) := by decide +kernel
theorem own_d_prog_5_method_2_code_8 : decode prog_5_method_2_code 8 = .ok (.invokestatic 27, 3) := by decide +kernel
theorem own_d_prog_5_method_2_code_11 : decode prog_5_method_2_code 11 = .ok (.aload_n 2, 1) := by decide +kernel
theorem own_d_prog_5_method_2_code_12 : decode prog_5_method_2_code 12 = .ok (.invokestatic 27, 3) := by decide +kernel
theorem own_d_prog_5_method_2_code_15 : decode prog_5_method_2_code 15 = .ok (.iadd, 1) := by decide +kernel
theorem own_d_prog_5_method_2_code_16 : decode prog_5_method_2_code 16 = .ok (.iconst 1, 1) := by decide +kernel
theorem own_d_prog_5_method_2_code_17 : decode prog_5_method_2_code 17 = .ok (.iadd, 1) := by decide +kernel
theorem own_d_prog_5_method_2_code_18 : decode prog_5_method_2_code 18 = .ok (.iload_n 3, 1) := by decide +kernel
theorem own_d_prog_5_method_2_code_19 : decode prog_5_method_2_code 19 = .ok (.bipush 31, 2) := by decide +kernel
theorem own_d_prog_5_method_2_code_21 : decode prog_5_method_2_code 21 = .ok (.ishl, 1) := by decide +kernel
theorem own_d_prog_5_method_2_code_22 : decode prog_5_method_2_code 22 = .ok (.ior, 1) := by decide +kernel
theorem own_d_prog_5_method_2_code_23 : decode prog_5_method_2_code 23 = .ok (.putfield 12, 3) := by decide +kernel
theorem own_d_prog_5_method_2_code_26 : decode prog_5_method_2_code 26 = .ok (.return_, 1) := by decide +kernel
def Q_own_rlink (Z : State) (a : Addr) (p1 : Int32) (h0 : Heap) (n0 : Nat) (v : Option Value) (h : Heap) (L : List Loc) : Prop := v = none ∧ Fr n0 L ∧ Keep h0 h [a] ∧ Exa Z h a "com/example/treeline/treeline/Node" ∧ Fld Z h a "com/example/treeline/treeline/Node" "sizeAndParity" "I" (.int ((((0 : Int32) + (0 : Int32)) + (1 : Int32)) ||| (p1 <<< ((31 : Int32) &&& 31)))) ∧ Fld Z h a "com/example/treeline/treeline/Node" "left" "Lcom/example/treeline/treeline/Node;" .null ∧ Fld Z h a "com/example/treeline/treeline/Node" "right" "Lcom/example/treeline/treeline/Node;" .null
set_option maxRecDepth 65536 in
set_option maxHeartbeats 40000000 in
theorem own_rlink (l : Launch) (Z : State) (a0 : Array Value) (hw : ∀ d ∈ tables_1, d.before a0 Z = true) (ws : List Jvm.Cond) (a : Addr) (u0 p1 : Int32) (h0 : Heap) (n0 : Nat) (Z0 : n0 ≤ h0.size) (E_a : Exa Z h0 a "com/example/treeline/treeline/Node") (g_a : n0 ≤ a) (F_sz : Fld Z h0 a "com/example/treeline/treeline/Node" "sizeAndParity" "I" (.int u0)) (F_l : Fld Z h0 a "com/example/treeline/treeline/Node" "left" "Lcom/example/treeline/treeline/Node;" .null) (F_r : Fld Z h0 a "com/example/treeline/treeline/Node" "right" "Lcom/example/treeline/treeline/Node;" .null) :
    MetFree l (⟨"com/example/treeline/treeline/Node", "link", "(Lcom/example/treeline/treeline/Node;Lcom/example/treeline/treeline/Node;I)V"⟩ : MethodName) (head1 (Jvm.Cond.code (⟨"com/example/treeline/treeline/Node", "link", "(Lcom/example/treeline/treeline/Node;Lcom/example/treeline/treeline/Node;I)V"⟩ : MethodName) prog_5_method_2_code 4 none :: ws) ({ frames := 1, cells := 0, slots := 0, locals := 14 } : Room)) (fun au Uu => au = #[(.ref a), .null, .null, (.int p1)] ∧ Z.Warmed39 Uu.vm ∧ Uu.heap = h0) (fun _ _ _ _ _ => True) (fun _ Uu ou Uw => ∃ vu Lu, ou = .returned vu ∧ Q_own_rlink Z a p1 h0 n0 vu Uw.heap Lu ∧ FrameEnd Uu ou Uw Lu ({ frames := 1, cells := 0, slots := 0, locals := 14 } : Room).cells ({ frames := 1, cells := 0, slots := 0, locals := 14 } : Room).slots) := by
  refine MetFree.of_bodySF (plainFor_of_name (by first | (simp [plainName, overriddenIn]; done) | decide +kernel)) hisR ?_
  intro p e s m args below meth c s₁ Bd hml0 hP hK
  obtain ⟨rfl, hZ, hh⟩ := hP
  have hx := Bd.exec
  have hby := Bd.bytes
  have hlk := Bd.notSynchronized
  have hml : c.maxLocals = 4 := hml0
  have hown : s.vm.findClass "com/example/treeline/treeline/Node" = some m.cls := findClass_of_methodNamed Bd.named
  have hnm := (name_of_methodNamed Bd.named Bd.method).1
  have X0 : Stand p l e ({ frames := 1, cells := 0, slots := 0, locals := 14 } : Room) s m #[(.ref a), .null, .null, (.int p1)] below meth c s₁ [] 0 0 := Stand.of_body Bd
  have e0 : s₁.heap = h0 := by rw [← hh, Bd.state]; rfl
  have N0 := Fr.nil n0
  show own_Ends p e below s₁ (entryFrame m #[(.ref a), .null, .null, (.int p1)] 4) (fun ou Uw => ∃ vu Lu, ou = .returned vu ∧ Q_own_rlink Z a p1 h0 n0 vu Uw.heap Lu ∧ FrameEnd s ou Uw Lu ({ frames := 1, cells := 0, slots := 0, locals := 14 } : Room).cells ({ frames := 1, cells := 0, slots := 0, locals := 14 } : Room).slots)
  refine own_start (g' := (mkF m 0 #[rv a, .val .null, .val .null, iv p1] [])) (by first | (simp [entryFrame, mkF, argsToLocals, Value.category, iv, rv]; done) | rfl) ?_
  refine own_go (T' := s₁) (g' := (mkF m 1 #[rv a, .val .null, .val .null, iv p1] [(.ref a)])) (fun t k => XS.aloadN X0.here hx rfl (hb hby own_d_prog_5_method_2_code_0) rfl rfl k) ?_
  refine own_go (T' := s₁) (g' := (mkF m 2 #[rv a, .val .null, .val .null, iv p1] [.null, (.ref a)])) (fun t k => XS.aloadN X0.here hx rfl (hb hby own_d_prog_5_method_2_code_1) rfl rfl k) ?_
  refine own_go (T' := s₁) (g' := (mkF m 3 #[rv a, .val .null, .val .null, iv p1] [.null, .null, (.ref a)])) (fun t k => XS.aloadN X0.here hx rfl (hb hby own_d_prog_5_method_2_code_2) rfl rfl k) ?_
  obtain ⟨cq31, q31a, q31b⟩ := E_a.cell
  obtain ⟨_, _, ⟨T31, L31, k31, n31⟩, -, X31, ⟨Lc31, hQ31, l31, y31, z31⟩, st31⟩ := X0.privateBack hx (y := (⟨"com/example/treeline/treeline/Node", "linkChildren", "(Lcom/example/treeline/treeline/Node;Lcom/example/treeline/treeline/Node;)V"⟩ : MethodName)) hown (mvT hZ (hw _ (List.mem_of_getElem? (i := 22) rfl))) (mvT hZ (hw _ (List.mem_of_getElem? (i := 23) rfl))) (own_selfsel (w := (⟨"com/example/treeline/treeline/Node", "link", "(Lcom/example/treeline/treeline/Node;Lcom/example/treeline/treeline/Node;I)V"⟩ : MethodName)) rfl (mvT hZ (hw _ (List.mem_of_getElem? (i := 20) rfl))) (mvP hZ (hw _ (List.mem_of_getElem? (i := 24) rfl))) (mvT hZ (hw _ (List.mem_of_getElem? (i := 23) rfl))) (by decide)) (Cond.privateMethod_at (mvP hZ (hw _ (List.mem_of_getElem? (i := 24) rfl)) (args := #[]))) (mvT hZ (hw _ (List.mem_of_getElem? (i := 25) rfl))) (by decide) (backOf (W := 0) (own_rlc l Z a0 hw [] a h0 n0 Z0 F_l F_r) hZ (hw _ (List.mem_of_getElem? (i := 25) rfl)) (hw _ (List.mem_of_getElem? (i := 3) rfl)) (by decide) (by decide)) (g := (mkF m 3 #[rv a, .val .null, .val .null, iv p1] [.null, .null, (.ref a)])) rfl (by rw [hml]; rfl) (Steps.refl _) (a := a) (by rw [e0]; exact q31a) q31b (argsL := [.null, .null]) (rest := []) (lenOf own_pd0 rfl) rfl (by show 2 * 0 + _ ≤ _; exact Nat.le_of_eq rfl) (hb hby own_d_prog_5_method_2_code_3) (fun _ _ => ⟨rfl, e0, (by decide : 0 + 0 ≤ _), (by decide : 0 + 0 ≤ _)⟩)
  dsimp only [Pt.U, Pt.locs, Pt.cells, Pt.slots] at X31 l31 y31 z31 st31 hQ31
  subst l31 y31 z31
  obtain ⟨rfl, rfl, e31⟩ := hQ31
  have E31q : T31.heap = h0 := e31
  have N31 := Fr.app N0 (Fr.nil n0)
  refine own_go (T' := T31) (g' := (mkF m 6 #[rv a, .val .null, .val .null, iv p1] [])) (fun t k => st31.trans k) ?_
  refine own_go (T' := T31) (g' := (mkF m 7 #[rv a, .val .null, .val .null, iv p1] [(.ref a)])) (fun t k => XS.aloadN X31.here hx rfl (hb hby own_d_prog_5_method_2_code_6) rfl rfl k) ?_
  refine own_go (T' := T31) (g' := (mkF m 8 #[rv a, .val .null, .val .null, iv p1] [.null, (.ref a)])) (fun t k => XS.aloadN X31.here hx rfl (hb hby own_d_prog_5_method_2_code_7) rfl rfl k) ?_
  obtain ⟨_, _, ⟨T32, L32, k32, n32⟩, -, X32, ⟨Lc32, hQ32, l32, y32, z32⟩, st32⟩ := Jvm.LawKit.callS X31 hx (y := (⟨"com/example/treeline/treeline/Node", "size", "(Lcom/example/treeline/treeline/Node;)I"⟩ : MethodName)) hown (mvT hZ (hw _ (List.mem_of_getElem? (i := 30) rfl))) (mvT hZ (hw _ (List.mem_of_getElem? (i := 31) rfl))) (mvT hZ (hw _ (List.mem_of_getElem? (i := 3) rfl))) (mvT hZ (hw _ (List.mem_of_getElem? (i := 32) rfl))) (by decide) (backOf (W := 1) (own_rsize l Z a0 hw [] h0 n0 Z0) hZ (hw _ (List.mem_of_getElem? (i := 32) rfl)) (hw _ (List.mem_of_getElem? (i := 3) rfl)) (by decide) (by decide)) (g := (mkF m 8 #[rv a, .val .null, .val .null, iv p1] [.null, (.ref a)])) rfl (by rw [hml]; rfl) (argsL := [.null]) (rest := [(.ref a)]) (lenOf own_pd1 rfl) rfl (by show 2 * 0 + _ ≤ _; exact Nat.le_of_eq rfl) (hb hby own_d_prog_5_method_2_code_8) (fun _ _ => ⟨rfl, E31q, (by decide : 0 + 0 ≤ _), (by decide : 0 + 0 ≤ _)⟩)
  dsimp only [Pt.U, Pt.locs, Pt.cells, Pt.slots] at X32 l32 y32 z32 st32 hQ32
  subst l32 y32 z32
  obtain ⟨rfl, rfl, e32⟩ := hQ32
  have E32q : T32.heap = h0 := e32
  have N32 := Fr.app N31 (Fr.nil n0)
  refine own_go (T' := T32) (g' := (mkF m 11 #[rv a, .val .null, .val .null, iv p1] [(.int (0 : Int32)), (.ref a)])) (st32) ?_
  refine own_go (T' := T32) (g' := (mkF m 12 #[rv a, .val .null, .val .null, iv p1] [.null, (.int (0 : Int32)), (.ref a)])) (fun t k => XS.aloadN X32.here hx rfl (hb hby own_d_prog_5_method_2_code_11) rfl rfl k) ?_
  obtain ⟨_, _, ⟨T33, L33, k33, n33⟩, -, X33, ⟨Lc33, hQ33, l33, y33, z33⟩, st33⟩ := Jvm.LawKit.callS X32 hx (y := (⟨"com/example/treeline/treeline/Node", "size", "(Lcom/example/treeline/treeline/Node;)I"⟩ : MethodName)) hown (mvT hZ (hw _ (List.mem_of_getElem? (i := 30) rfl))) (mvT hZ (hw _ (List.mem_of_getElem? (i := 31) rfl))) (mvT hZ (hw _ (List.mem_of_getElem? (i := 3) rfl))) (mvT hZ (hw _ (List.mem_of_getElem? (i := 32) rfl))) (by decide) (backOf (W := 2) (own_rsize l Z a0 hw [] h0 n0 Z0) hZ (hw _ (List.mem_of_getElem? (i := 32) rfl)) (hw _ (List.mem_of_getElem? (i := 3) rfl)) (by decide) (by decide)) (g := (mkF m 12 #[rv a, .val .null, .val .null, iv p1] [.null, (.int (0 : Int32)), (.ref a)])) rfl (by rw [hml]; rfl) (argsL := [.null]) (rest := [(.int (0 : Int32)), (.ref a)]) (lenOf own_pd1 rfl) rfl (by show 2 * 0 + _ ≤ _; exact Nat.le_of_eq rfl) (hb hby own_d_prog_5_method_2_code_12) (fun _ _ => ⟨rfl, E32q, (by decide : 0 + 0 ≤ _), (by decide : 0 + 0 ≤ _)⟩)
  dsimp only [Pt.U, Pt.locs, Pt.cells, Pt.slots] at X33 l33 y33 z33 st33 hQ33
  subst l33 y33 z33
  obtain ⟨rfl, rfl, e33⟩ := hQ33
  have E33q : T33.heap = h0 := e33
  have N33 := Fr.app N32 (Fr.nil n0)
  refine own_go (T' := T33) (g' := (mkF m 15 #[rv a, .val .null, .val .null, iv p1] [(.int (0 : Int32)), (.int (0 : Int32)), (.ref a)])) (st33) ?_
  refine own_go (T' := T33) (g' := (mkF m 16 #[rv a, .val .null, .val .null, iv p1] [(.int ((0 : Int32) + (0 : Int32))), (.ref a)])) (fun t k => XS.iadd X33.here hx rfl (hb hby own_d_prog_5_method_2_code_15) rfl k) ?_
  refine own_go (T' := T33) (g' := (mkF m 17 #[rv a, .val .null, .val .null, iv p1] [(.int (1 : Int32)), (.int ((0 : Int32) + (0 : Int32))), (.ref a)])) (fun t k => XS.iconst X33.here hx rfl (hb hby own_d_prog_5_method_2_code_16) k) ?_
  refine own_go (T' := T33) (g' := (mkF m 18 #[rv a, .val .null, .val .null, iv p1] [(.int (((0 : Int32) + (0 : Int32)) + (1 : Int32))), (.ref a)])) (fun t k => XS.iadd X33.here hx rfl (hb hby own_d_prog_5_method_2_code_17) rfl k) ?_
  refine own_go (T' := T33) (g' := (mkF m 19 #[rv a, .val .null, .val .null, iv p1] [(.int p1), (.int (((0 : Int32) + (0 : Int32)) + (1 : Int32))), (.ref a)])) (fun t k => XS.iloadN X33.here hx rfl (hb hby own_d_prog_5_method_2_code_18) rfl k) ?_
  refine own_go (T' := T33) (g' := (mkF m 21 #[rv a, .val .null, .val .null, iv p1] [(.int (31 : Int32)), (.int p1), (.int (((0 : Int32) + (0 : Int32)) + (1 : Int32))), (.ref a)])) (fun t k => XS.bipush X33.here hx rfl (hb hby own_d_prog_5_method_2_code_19) k) ?_
  refine own_go (T' := T33) (g' := (mkF m 22 #[rv a, .val .null, .val .null, iv p1] [(.int (p1 <<< ((31 : Int32) &&& 31))), (.int (((0 : Int32) + (0 : Int32)) + (1 : Int32))), (.ref a)])) (fun t k => XS.ishl X33.here hx rfl (hb hby own_d_prog_5_method_2_code_21) rfl k) ?_
  refine own_go (T' := T33) (g' := (mkF m 23 #[rv a, .val .null, .val .null, iv p1] [(.int ((((0 : Int32) + (0 : Int32)) + (1 : Int32)) ||| (p1 <<< ((31 : Int32) &&& 31)))), (.ref a)])) (fun t k => XS.ior X33.here hx rfl (hb hby own_d_prog_5_method_2_code_22) rfl k) ?_
  obtain ⟨T34, h34, X34, e34, W34, st34⟩ := putF X33 hx hZ hown (host := "") (Or.inl (hw _ (List.mem_of_getElem? (i := 11) rfl))) Via.refl E33q F_sz E_a (Or.inl (hw _ (List.mem_of_getElem? (i := 12) rfl))) (hw _ (List.mem_of_getElem? (i := 2) rfl)) (ty := .int) (by decide) rfl rfl (g := (mkF m 23 #[rv a, .val .null, .val .null, iv p1] [(.int ((((0 : Int32) + (0 : Int32)) + (1 : Int32)) ||| (p1 <<< ((31 : Int32) &&& 31)))), (.ref a)])) rfl rfl (hb hby own_d_prog_5_method_2_code_23)
  have hz34 : n0 ≤ h34.size := Nat.le_trans Z0 (Keep.of_wr W34).1
  have N34 := Fr.snoc X34 N33 g_a
  have K34 := (Keep.refl h0 [a]).wr W34 (Or.inl (List.mem_of_getElem? (i := 0) rfl))
  have c35 := E_a.wr W34
  have c36 := F_sz.same W34
  have c37 := F_l.other W34 (Or.inr (slot_ne (Or.inl (hw _ (List.mem_of_getElem? (i := 27) rfl))) (Or.inl (hw _ (List.mem_of_getElem? (i := 12) rfl))) (by decide) (t := (.object "com/example/treeline/treeline/Node")) (t' := .int) (by decide) (by decide)))
  have c38 := F_r.other W34 (Or.inr (slot_ne (Or.inl (hw _ (List.mem_of_getElem? (i := 29) rfl))) (Or.inl (hw _ (List.mem_of_getElem? (i := 12) rfl))) (by decide) (t := (.object "com/example/treeline/treeline/Node")) (t' := .int) (by decide) (by decide)))
  refine own_go (T' := T34) (g' := (mkF m 26 #[rv a, .val .null, .val .null, iv p1] [])) (st34) ?_
  exact own_ret0 X34 hlk hx Bd.returns (hb hby own_d_prog_5_method_2_code_26) (by rw [e34]; exact ⟨rfl, N34, K34, c35, c36, c37, c38⟩) (by decide) (by decide)

theorem own_d_prog_5_method_15_code_0 : decode prog_5_method_15_code 0 = .ok (.aload_n 0, 1) := by decide +kernel
theorem own_d_prog_5_method_15_code_1 : decode prog_5_method_15_code 1 = .ok (.ifnonnull 7, 3) := by decide +kernel
theorem own_d_prog_5_method_15_code_4 : decode prog_5_method_15_code 4 = .ok (.iconst 0, 1) := by decide +kernel
theorem own_d_prog_5_method_15_code_5 : decode prog_5_method_15_code 5 = .ok (.goto 16, 3) := by decide +kernel
theorem own_d_prog_5_method_15_code_21 : decode prog_5_method_15_code 21 = .ok (.ireturn, 1) := by decide +kernel
def Q_own_rh0 (h0 : Heap) (n0 : Nat) (v : Option Value) (h : Heap) (L : List Loc) : Prop := v = some (.int 0) ∧ L = [] ∧ h = h0
set_option maxRecDepth 65536 in
set_option maxHeartbeats 40000000 in
theorem own_rh0 (l : Launch) (Z : State) (a0 : Array Value) (hw : ∀ d ∈ tables_1, d.before a0 Z = true) (ws : List Jvm.Cond) (p1 : Int32) (h0 : Heap) (n0 : Nat) (Z0 : n0 ≤ h0.size)  :
    MetFree l (⟨"com/example/treeline/treeline/Node", "height", "(Lcom/example/treeline/treeline/Node;I)I"⟩ : MethodName) (head1 (Jvm.Cond.code (⟨"com/example/treeline/treeline/Node", "height", "(Lcom/example/treeline/treeline/Node;I)I"⟩ : MethodName) prog_5_method_15_code 2 (some .int) :: ws) ({ frames := 0, cells := 0, slots := 0, locals := 0 } : Room)) (fun au Uu => au = #[.null, (.int p1)] ∧ Z.Warmed39 Uu.vm ∧ Uu.heap = h0) (fun _ _ _ _ _ => True) (fun _ Uu ou Uw => ∃ vu Lu, ou = .returned vu ∧ Q_own_rh0 h0 n0 vu Uw.heap Lu ∧ FrameEnd Uu ou Uw Lu ({ frames := 0, cells := 0, slots := 0, locals := 0 } : Room).cells ({ frames := 0, cells := 0, slots := 0, locals := 0 } : Room).slots) := by
  refine MetFree.of_bodySF (plainFor_of_name (by first | (simp [plainName, overriddenIn]; done) | decide +kernel)) hisR ?_
  intro p e s m args below meth c s₁ Bd hml0 hP hK
  obtain ⟨rfl, hZ, hh⟩ := hP
  have hx := Bd.exec
  have hby := Bd.bytes
  have hlk := Bd.notSynchronized
  have hml : c.maxLocals = 2 := hml0
  have hown : s.vm.findClass "com/example/treeline/treeline/Node" = some m.cls := findClass_of_methodNamed Bd.named
  have hnm := (name_of_methodNamed Bd.named Bd.method).1
  have X0 : Stand p l e ({ frames := 0, cells := 0, slots := 0, locals := 0 } : Room) s m #[.null, (.int p1)] below meth c s₁ [] 0 0 := Stand.of_body Bd
  have e0 : s₁.heap = h0 := by rw [← hh, Bd.state]; rfl
  have N0 := Fr.nil n0
  show own_Ends p e below s₁ (entryFrame m #[.null, (.int p1)] 2) (fun ou Uw => ∃ vu Lu, ou = .returned vu ∧ Q_own_rh0 h0 n0 vu Uw.heap Lu ∧ FrameEnd s ou Uw Lu ({ frames := 0, cells := 0, slots := 0, locals := 0 } : Room).cells ({ frames := 0, cells := 0, slots := 0, locals := 0 } : Room).slots)
  refine own_start (g' := (mkF m 0 #[.val .null, iv p1] [])) (by first | (simp [entryFrame, mkF, argsToLocals, Value.category, iv, rv]; done) | rfl) ?_
  refine own_go (T' := s₁) (g' := (mkF m 1 #[.val .null, iv p1] [.null])) (fun t k => XS.aloadN X0.here hx rfl (hb hby own_d_prog_5_method_15_code_0) rfl rfl k) ?_
  refine own_go (T' := s₁) (g' := (mkF m 4 #[.val .null, iv p1] [])) (fun t k => XS.ifnonnullNo X0.here hx rfl (hb hby own_d_prog_5_method_15_code_1) rfl k) ?_
  refine own_go (T' := s₁) (g' := (mkF m 5 #[.val .null, iv p1] [(.int (0 : Int32))])) (fun t k => XS.iconst X0.here hx rfl (hb hby own_d_prog_5_method_15_code_4) k) ?_
  refine own_go (T' := s₁) (g' := (mkF m 21 #[.val .null, iv p1] [(.int (0 : Int32))])) (fun t k => XS.goto X0.here hx rfl (pc0 := 5) (pc' := 21) rfl (hb hby own_d_prog_5_method_15_code_5) (by decide) (by decide) k) ?_
  exact own_ret X0 hlk hx Bd.returns rfl (Or.inl ⟨rfl, Or.inl rfl, _, rfl⟩) (hb hby own_d_prog_5_method_15_code_21) ⟨rfl, rfl, e0⟩ (by decide) (by decide)

theorem own_d_prog_5_method_15_code_8 : decode prog_5_method_15_code 8 = .ok (.iload_n 1, 1) := by decide +kernel
theorem own_d_prog_5_method_15_code_9 : decode prog_5_method_15_code 9 = .ok (.aload_n 0, 1) := by decide +kernel
theorem own_d_prog_5_method_15_code_10 : decode prog_5_method_15_code 10 = .ok (.getfield 12, 3) := by decide +kernel
theorem own_d_prog_5_method_15_code_13 : decode prog_5_method_15_code 13 = .ok (.bipush 31, 2) := by decide +kernel
theorem own_d_prog_5_method_15_code_15 : decode prog_5_method_15_code 15 = .ok (.iushr, 1) := by decide +kernel
theorem own_d_prog_5_method_15_code_16 : decode prog_5_method_15_code 16 = .ok (.iload_n 1, 1) := by decide +kernel
theorem own_d_prog_5_method_15_code_17 : decode prog_5_method_15_code 17 = .ok (.ixor, 1) := by decide +kernel
theorem own_d_prog_5_method_15_code_18 : decode prog_5_method_15_code 18 = .ok (.iconst 1, 1) := by decide +kernel
theorem own_d_prog_5_method_15_code_19 : decode prog_5_method_15_code 19 = .ok (.iand, 1) := by decide +kernel
theorem own_d_prog_5_method_15_code_20 : decode prog_5_method_15_code 20 = .ok (.iadd, 1) := by decide +kernel
def Q_own_rh (u0 p1 : Int32) (h0 : Heap) (n0 : Nat) (v : Option Value) (h : Heap) (L : List Loc) : Prop := v = some (.int (own_ht u0 p1)) ∧ L = [] ∧ h = h0
set_option maxRecDepth 65536 in
set_option maxHeartbeats 40000000 in
theorem own_rh (l : Launch) (Z : State) (a0 : Array Value) (hw : ∀ d ∈ tables_1, d.before a0 Z = true) (ws : List Jvm.Cond) (a : Addr) (u0 p1 : Int32) (h0 : Heap) (n0 : Nat) (Z0 : n0 ≤ h0.size) (F_sz : Fld Z h0 a "com/example/treeline/treeline/Node" "sizeAndParity" "I" (.int u0)) :
    MetFree l (⟨"com/example/treeline/treeline/Node", "height", "(Lcom/example/treeline/treeline/Node;I)I"⟩ : MethodName) (head1 (Jvm.Cond.code (⟨"com/example/treeline/treeline/Node", "height", "(Lcom/example/treeline/treeline/Node;I)I"⟩ : MethodName) prog_5_method_15_code 2 (some .int) :: ws) ({ frames := 0, cells := 0, slots := 0, locals := 0 } : Room)) (fun au Uu => au = #[(.ref a), (.int p1)] ∧ Z.Warmed39 Uu.vm ∧ Uu.heap = h0) (fun _ _ _ _ _ => True) (fun _ Uu ou Uw => ∃ vu Lu, ou = .returned vu ∧ Q_own_rh u0 p1 h0 n0 vu Uw.heap Lu ∧ FrameEnd Uu ou Uw Lu ({ frames := 0, cells := 0, slots := 0, locals := 0 } : Room).cells ({ frames := 0, cells := 0, slots := 0, locals := 0 } : Room).slots) := by
  refine MetFree.of_bodySF (plainFor_of_name (by first | (simp [plainName, overriddenIn]; done) | decide +kernel)) hisR ?_
  intro p e s m args below meth c s₁ Bd hml0 hP hK
  obtain ⟨rfl, hZ, hh⟩ := hP
  have hx := Bd.exec
  have hby := Bd.bytes
  have hlk := Bd.notSynchronized
  have hml : c.maxLocals = 2 := hml0
  have hown : s.vm.findClass "com/example/treeline/treeline/Node" = some m.cls := findClass_of_methodNamed Bd.named
  have hnm := (name_of_methodNamed Bd.named Bd.method).1
  have X0 : Stand p l e ({ frames := 0, cells := 0, slots := 0, locals := 0 } : Room) s m #[(.ref a), (.int p1)] below meth c s₁ [] 0 0 := Stand.of_body Bd
  have e0 : s₁.heap = h0 := by rw [← hh, Bd.state]; rfl
  have N0 := Fr.nil n0
  show own_Ends p e below s₁ (entryFrame m #[(.ref a), (.int p1)] 2) (fun ou Uw => ∃ vu Lu, ou = .returned vu ∧ Q_own_rh u0 p1 h0 n0 vu Uw.heap Lu ∧ FrameEnd s ou Uw Lu ({ frames := 0, cells := 0, slots := 0, locals := 0 } : Room).cells ({ frames := 0, cells := 0, slots := 0, locals := 0 } : Room).slots)
  refine own_start (g' := (mkF m 0 #[rv a, iv p1] [])) (by first | (simp [entryFrame, mkF, argsToLocals, Value.category, iv, rv]; done) | rfl) ?_
  refine own_go (T' := s₁) (g' := (mkF m 1 #[rv a, iv p1] [(.ref a)])) (fun t k => XS.aloadN X0.here hx rfl (hb hby own_d_prog_5_method_15_code_0) rfl rfl k) ?_
  refine own_go (T' := s₁) (g' := (mkF m 8 #[rv a, iv p1] [])) (fun t k => XS.ifnonnullYes X0.here hx rfl (pc0 := 1) (pc' := 8) rfl (hb hby own_d_prog_5_method_15_code_1) rfl (by decide) (by decide) k) ?_
  refine own_go (T' := s₁) (g' := (mkF m 9 #[rv a, iv p1] [(.int p1)])) (fun t k => XS.iloadN X0.here hx rfl (hb hby own_d_prog_5_method_15_code_8) rfl k) ?_
  refine own_go (T' := s₁) (g' := (mkF m 10 #[rv a, iv p1] [(.ref a), (.int p1)])) (fun t k => XS.aloadN X0.here hx rfl (hb hby own_d_prog_5_method_15_code_9) rfl rfl k) ?_
  obtain ⟨T39, X39, e39, st39⟩ := getF X0 hx hZ hown (host := "") (Or.inl (hw _ (List.mem_of_getElem? (i := 11) rfl))) Via.refl e0 F_sz (g := (mkF m 10 #[rv a, iv p1] [(.ref a), (.int p1)])) rfl rfl (hb hby own_d_prog_5_method_15_code_10)
  refine own_go (T' := T39) (g' := (mkF m 13 #[rv a, iv p1] [(.int u0), (.int p1)])) (st39) ?_
  refine own_go (T' := T39) (g' := (mkF m 15 #[rv a, iv p1] [(.int (31 : Int32)), (.int u0), (.int p1)])) (fun t k => XS.bipush X39.here hx rfl (hb hby own_d_prog_5_method_15_code_13) k) ?_
  refine own_go (T' := T39) (g' := (mkF m 16 #[rv a, iv p1] [(.int ((u0.toUInt32 >>> ((31 : Int32) &&& 31).toUInt32).toInt32)), (.int p1)])) (fun t k => XS.iushr X39.here hx rfl (hb hby own_d_prog_5_method_15_code_15) rfl k) ?_
  refine own_go (T' := T39) (g' := (mkF m 17 #[rv a, iv p1] [(.int p1), (.int ((u0.toUInt32 >>> ((31 : Int32) &&& 31).toUInt32).toInt32)), (.int p1)])) (fun t k => XS.iloadN X39.here hx rfl (hb hby own_d_prog_5_method_15_code_16) rfl k) ?_
  refine own_go (T' := T39) (g' := (mkF m 18 #[rv a, iv p1] [(.int (((u0.toUInt32 >>> ((31 : Int32) &&& 31).toUInt32).toInt32) ^^^ p1)), (.int p1)])) (fun t k => XS.ixor X39.here hx rfl (hb hby own_d_prog_5_method_15_code_17) rfl k) ?_
  refine own_go (T' := T39) (g' := (mkF m 19 #[rv a, iv p1] [(.int (1 : Int32)), (.int (((u0.toUInt32 >>> ((31 : Int32) &&& 31).toUInt32).toInt32) ^^^ p1)), (.int p1)])) (fun t k => XS.iconst X39.here hx rfl (hb hby own_d_prog_5_method_15_code_18) k) ?_
  refine own_go (T' := T39) (g' := (mkF m 20 #[rv a, iv p1] [(.int ((((u0.toUInt32 >>> ((31 : Int32) &&& 31).toUInt32).toInt32) ^^^ p1) &&& (1 : Int32))), (.int p1)])) (fun t k => XS.iand X39.here hx rfl (hb hby own_d_prog_5_method_15_code_19) rfl k) ?_
  refine own_go (T' := T39) (g' := (mkF m 21 #[rv a, iv p1] [(.int (p1 + ((((u0.toUInt32 >>> ((31 : Int32) &&& 31).toUInt32).toInt32) ^^^ p1) &&& (1 : Int32))))])) (fun t k => XS.iadd X39.here hx rfl (hb hby own_d_prog_5_method_15_code_20) rfl k) ?_
  exact own_ret X39 hlk hx Bd.returns rfl (Or.inl ⟨rfl, Or.inl rfl, _, rfl⟩) (hb hby own_d_prog_5_method_15_code_21) ⟨rfl, rfl, e39⟩ (by decide) (by decide)

theorem own_pd4 : parseMethodDescriptor "(I)V" = some ⟨[.int], none⟩ := by decide +kernel
theorem own_pd2 : parseMethodDescriptor "(Lcom/example/treeline/treeline/Node;I)I" = some ⟨[(.object "com/example/treeline/treeline/Node"), .int], some .int⟩ := by decide +kernel
theorem own_pd5 : parseMethodDescriptor "(Lcom/example/treeline/treeline/Node;Lcom/example/treeline/treeline/Node;I)V" = some ⟨[(.object "com/example/treeline/treeline/Node"), (.object "com/example/treeline/treeline/Node"), .int], none⟩ := by decide +kernel
theorem own_pd3 : parseMethodDescriptor "(Ljava/lang/Object;Ljava/lang/Object;)V" = some ⟨[(.object "java/lang/Object"), (.object "java/lang/Object")], none⟩ := by decide +kernel
def Q_own_law (h0 : Heap) (n0 : Nat) (v : Option Value) (h : Heap) (L : List Loc) : Prop := v = some (.int 1) ∧ Fr n0 L
set_option maxRecDepth 65536 in
set_option maxHeartbeats 40000000 in
theorem own_law (l : Launch) (Z : State) (a0 : Array Value) (hw : ∀ d ∈ tables_1, d.before a0 Z = true) (ws : List Jvm.Cond) (x0 x1 x2 x3 : Int32) (h0 : Heap) (n0 : Nat) (Z0 : n0 ≤ h0.size)  :
    MetFree l x (head1 (Jvm.Cond.code x code maxLocals ret :: ws) room_1) (fun au Uu => au = #[(.int x0), (.int x1), (.int x2), (.int x3)] ∧ Z.Warmed39 Uu.vm ∧ Uu.heap = h0) (fun _ _ _ _ _ => True) (fun _ Uu ou Uw => ∃ vu Lu, ou = .returned vu ∧ Q_own_law h0 n0 vu Uw.heap Lu ∧ FrameEnd Uu ou Uw Lu 16 128) := by
  refine MetFree.of_bodySF (plainFor_of_name (by first | (simp [plainName, overriddenIn]; done) | decide +kernel)) hisR ?_
  intro p e s m args below meth c s₁ Bd hml0 hP hK
  obtain ⟨rfl, hZ, hh⟩ := hP
  have hx := Bd.exec
  have hby := Bd.bytes
  have hlk := Bd.notSynchronized
  have hml : c.maxLocals = 8 := hml0
  have hown : s.vm.findClass "com/example/treeline/treeline/NodeHeightPinLaw" = some m.cls := findClass_of_methodNamed Bd.named
  have hnm := (name_of_methodNamed Bd.named Bd.method).1
  have X0 : Stand p l e room_1 s m #[(.int x0), (.int x1), (.int x2), (.int x3)] below meth c s₁ [] 0 0 := Stand.of_body Bd
  have e0 : s₁.heap = h0 := by rw [← hh, Bd.state]; rfl
  have N0 := Fr.nil n0
  show own_Ends p e below s₁ (entryFrame m #[(.int x0), (.int x1), (.int x2), (.int x3)] maxLocals) (fun ou Uw => ∃ vu Lu, ou = .returned vu ∧ Q_own_law h0 n0 vu Uw.heap Lu ∧ FrameEnd s ou Uw Lu 16 128)
  refine own_start (g' := (mkF m 0 #[iv x0, iv x1, iv x2, iv x3, .unset, .unset, .unset, .unset] [])) (by first | (simp [entryFrame, mkF, argsToLocals, Value.category, iv, rv, maxLocals]; done) | rfl) ?_
  refine own_go (T' := s₁) (g' := (mkF m 1 #[iv x0, iv x1, iv x2, iv x3, .unset, .unset, .unset, .unset] [(.int x1)])) (fun t k => XS.iloadN X0.here hx rfl (hb hby at_0) rfl k) ?_
  refine own_go (T' := s₁) (g' := (mkF m 2 #[iv x0, iv x1, iv x2, iv x3, .unset, .unset, .unset, .unset] [(.int (1 : Int32)), (.int x1)])) (fun t k => XS.iconst X0.here hx rfl (hb hby at_1) k) ?_
  refine own_go (T' := s₁) (g' := (mkF m 3 #[iv x0, iv x1, iv x2, iv x3, .unset, .unset, .unset, .unset] [(.int (x1 &&& (1 : Int32)))])) (fun t k => XS.iand X0.here hx rfl (hb hby at_2) rfl k) ?_
  refine own_go (T' := s₁) (g' := (mkF m 5 #[iv x0, iv x1, iv x2, iv x3, iv (x1 &&& (1 : Int32)), .unset, .unset, .unset] [])) (fun t k => XS.istore X0.here hx rfl (hb hby at_3) rfl (l' := #[iv x0, iv x1, iv x2, iv x3, iv (x1 &&& (1 : Int32)), .unset, .unset, .unset]) rfl k) ?_
  refine own_go (T' := s₁) (g' := (mkF m 6 #[iv x0, iv x1, iv x2, iv x3, iv (x1 &&& (1 : Int32)), .unset, .unset, .unset] [(.int x2)])) (fun t k => XS.iloadN X0.here hx rfl (hb hby at_5) rfl k) ?_
  refine own_go (T' := s₁) (g' := (mkF m 8 #[iv x0, iv x1, iv x2, iv x3, iv (x1 &&& (1 : Int32)), .unset, .unset, .unset] [(.int (2147483647 : Int32)), (.int x2)])) (fun t k => X0.ldcInt hx hown (mvT hZ (hw _ (List.mem_of_getElem? (i := 0) rfl))) (g := (mkF m 6 #[iv x0, iv x1, iv x2, iv x3, iv (x1 &&& (1 : Int32)), .unset, .unset, .unset] [(.int x2)])) rfl (hb hby at_6) _ k) ?_
  refine own_go (T' := s₁) (g' := (mkF m 9 #[iv x0, iv x1, iv x2, iv x3, iv (x1 &&& (1 : Int32)), .unset, .unset, .unset] [(.int (x2 &&& (2147483647 : Int32)))])) (fun t k => XS.iand X0.here hx rfl (hb hby at_8) rfl k) ?_
  refine own_go (T' := s₁) (g' := (mkF m 10 #[iv x0, iv x1, iv x2, iv x3, iv (x1 &&& (1 : Int32)), .unset, .unset, .unset] [(.int (3 : Int32)), (.int (x2 &&& (2147483647 : Int32)))])) (fun t k => XS.iconst X0.here hx rfl (hb hby at_9) k) ?_
  refine own_go (T' := s₁) (g' := (mkF m 11 #[iv x0, iv x1, iv x2, iv x3, iv (x1 &&& (1 : Int32)), .unset, .unset, .unset] [(.int ((x2 &&& (2147483647 : Int32)) % (3 : Int32)))])) (fun t k => Jvm.RoadKit.iremM X0 hx rfl (hb hby at_10) rfl (by decide) k) ?_
  refine own_go (T' := s₁) (g' := (mkF m 13 #[iv x0, iv x1, iv x2, iv x3, iv (x1 &&& (1 : Int32)), iv ((x2 &&& (2147483647 : Int32)) % (3 : Int32)), .unset, .unset] [])) (fun t k => XS.istore X0.here hx rfl (hb hby at_11) rfl (l' := #[iv x0, iv x1, iv x2, iv x3, iv (x1 &&& (1 : Int32)), iv ((x2 &&& (2147483647 : Int32)) % (3 : Int32)), .unset, .unset]) rfl k) ?_
  refine own_go (T' := s₁) (g' := (mkF m 15 #[iv x0, iv x1, iv x2, iv x3, iv (x1 &&& (1 : Int32)), iv ((x2 &&& (2147483647 : Int32)) % (3 : Int32)), .unset, .unset] [(.int ((x2 &&& (2147483647 : Int32)) % (3 : Int32)))])) (fun t k => XS.iload X0.here hx rfl (hb hby at_13) rfl k) ?_
  by_cases hc40 : ((x2 &&& (2147483647 : Int32)) % (3 : Int32)) = (0 : Int32)
  · refine own_go (T' := s₁) (g' := (mkF m 18 #[iv x0, iv x1, iv x2, iv x3, iv (x1 &&& (1 : Int32)), iv ((x2 &&& (2147483647 : Int32)) % (3 : Int32)), .unset, .unset] [])) (fun t k => XS.ifNo X0.here hx rfl (hb hby at_15) rfl ((if0 _ _).trans (teq hc40).2) k) ?_
    refine own_go (T' := s₁) (g' := (mkF m 19 #[iv x0, iv x1, iv x2, iv x3, iv (x1 &&& (1 : Int32)), iv ((x2 &&& (2147483647 : Int32)) % (3 : Int32)), .unset, .unset] [.null])) (fun t k => XS.aconstNull X0.here hx rfl (hb hby at_18) k) ?_
    refine own_go (T' := s₁) (g' := (mkF m 20 #[iv x0, iv x1, iv x2, iv x3, iv (x1 &&& (1 : Int32)), iv ((x2 &&& (2147483647 : Int32)) % (3 : Int32)), .unset, .unset] [(.int x0), .null])) (fun t k => XS.iloadN X0.here hx rfl (hb hby at_19) rfl k) ?_
    obtain ⟨_, _, ⟨T41, L41, k41, n41⟩, -, X41, ⟨Lc41, hQ41, l41, y41, z41⟩, st41⟩ := Jvm.LawKit.callS X0 hx (y := (⟨"com/example/treeline/treeline/Node", "height", "(Lcom/example/treeline/treeline/Node;I)I"⟩ : MethodName)) hown (mvT hZ (hw _ (List.mem_of_getElem? (i := 39) rfl))) (mvT hZ (hw _ (List.mem_of_getElem? (i := 40) rfl))) (mvT hZ (hw _ (List.mem_of_getElem? (i := 3) rfl))) (mvT hZ (hw _ (List.mem_of_getElem? (i := 41) rfl))) (by decide) (backOf (W := 0) (own_rh0 l Z a0 hw [] x0 h0 n0 Z0) hZ (hw _ (List.mem_of_getElem? (i := 41) rfl)) (hw _ (List.mem_of_getElem? (i := 3) rfl)) (by decide) (by decide)) (g := (mkF m 20 #[iv x0, iv x1, iv x2, iv x3, iv (x1 &&& (1 : Int32)), iv ((x2 &&& (2147483647 : Int32)) % (3 : Int32)), .unset, .unset] [(.int x0), .null])) rfl (by rw [hml]; rfl) (argsL := [.null, (.int x0)]) (rest := []) (lenOf own_pd2 rfl) rfl (by show 2 * 0 + _ ≤ _; exact Nat.le_of_eq rfl) (hb hby at_20) (fun _ _ => ⟨rfl, e0, (by decide : 0 + 0 ≤ _), (by decide : 0 + 0 ≤ _)⟩)
    dsimp only [Pt.U, Pt.locs, Pt.cells, Pt.slots] at X41 l41 y41 z41 st41 hQ41
    subst l41 y41 z41
    obtain ⟨rfl, rfl, e41⟩ := hQ41
    have E41q : T41.heap = h0 := e41
    have N41 := Fr.app N0 (Fr.nil n0)
    refine own_go (T' := T41) (g' := (mkF m 23 #[iv x0, iv x1, iv x2, iv x3, iv (x1 &&& (1 : Int32)), iv ((x2 &&& (2147483647 : Int32)) % (3 : Int32)), .unset, .unset] [(.int (0 : Int32))])) (st41) ?_
    refine own_go (T' := T41) (g' := (mkF m 26 #[iv x0, iv x1, iv x2, iv x3, iv (x1 &&& (1 : Int32)), iv ((x2 &&& (2147483647 : Int32)) % (3 : Int32)), .unset, .unset] [])) (fun t k => XS.ifNo X41.here hx rfl (hb hby at_23) rfl ((if0 _ _).trans (teq (by decide : ((0 : Int32) = (0 : Int32)))).2) k) ?_
    refine own_go (T' := T41) (g' := (mkF m 27 #[iv x0, iv x1, iv x2, iv x3, iv (x1 &&& (1 : Int32)), iv ((x2 &&& (2147483647 : Int32)) % (3 : Int32)), .unset, .unset] [(.int (1 : Int32))])) (fun t k => XS.iconst X41.here hx rfl (hb hby at_26) k) ?_
    refine own_go (T' := T41) (g' := (mkF m 31 #[iv x0, iv x1, iv x2, iv x3, iv (x1 &&& (1 : Int32)), iv ((x2 &&& (2147483647 : Int32)) % (3 : Int32)), .unset, .unset] [(.int (1 : Int32))])) (fun t k => XS.goto X41.here hx rfl (pc0 := 27) (pc' := 31) rfl (hb hby at_27) (by decide) (by decide) k) ?_
    exact own_ret X41 hlk hx Bd.returns rfl (Or.inl ⟨rfl, Or.inr (Or.inl rfl), _, rfl⟩) (hb hby at_31) (by first | exact ⟨rfl, N41⟩ | (rw [Fr] at *; exact ⟨rfl, by simpa using N41⟩)) (by decide) (by decide)
  · refine own_go (T' := s₁) (g' := (mkF m 32 #[iv x0, iv x1, iv x2, iv x3, iv (x1 &&& (1 : Int32)), iv ((x2 &&& (2147483647 : Int32)) % (3 : Int32)), .unset, .unset] [])) (fun t k => XS.ifYes X0.here hx rfl (pc0 := 15) (pc' := 32) rfl (hb hby at_15) rfl ((if0 _ _).trans (feq hc40).2) (by decide) (by decide) k) ?_
    obtain ⟨T42, h42, X42, e42, E42, A42, D42, -, st42⟩ := newO X0 hx hZ hown (hw _ (List.mem_of_getElem? (i := 1) rfl)) (hw _ (List.mem_of_getElem? (i := 2) rfl)) (hw _ (List.mem_of_getElem? (i := 3) rfl)) e0 (g := (mkF m 32 #[iv x0, iv x1, iv x2, iv x3, iv (x1 &&& (1 : Int32)), iv ((x2 &&& (2147483647 : Int32)) % (3 : Int32)), .unset, .unset] [])) rfl (hb hby at_32) (by decide) (by decide)
    obtain ⟨b42, g42⟩ : ∃ z, z = h0.size := ⟨_, rfl⟩
    rw [← g42] at A42 D42 st42
    have gn42 : n0 ≤ b42 := Nat.le_trans Z0 (Nat.le_of_eq g42.symm)
    have hz42 : n0 ≤ h42.size := Nat.le_trans Z0 E42.1
    have F42_sizeAndParity : Fld Z h42 b42 "com/example/treeline/treeline/Node" "sizeAndParity" "I" (.int (0 : Int32)) := D42 (Or.inl (hw _ (List.mem_of_getElem? (i := 12) rfl))) (ty := .int) (by decide)
    have F42_key : Fld Z h42 b42 "com/example/treeline/treeline/Node" "key" "Ljava/lang/Object;" .null := D42 (Or.inr (hw _ (List.mem_of_getElem? (i := 14) rfl))) (ty := (.object "java/lang/Object")) (by decide)
    have F42_value : Fld Z h42 b42 "com/example/treeline/treeline/Node" "value" "Ljava/lang/Object;" .null := D42 (Or.inl (hw _ (List.mem_of_getElem? (i := 16) rfl))) (ty := (.object "java/lang/Object")) (by decide)
    have F42_left : Fld Z h42 b42 "com/example/treeline/treeline/Node" "left" "Lcom/example/treeline/treeline/Node;" .null := D42 (Or.inl (hw _ (List.mem_of_getElem? (i := 27) rfl))) (ty := (.object "com/example/treeline/treeline/Node")) (by decide)
    have F42_right : Fld Z h42 b42 "com/example/treeline/treeline/Node" "right" "Lcom/example/treeline/treeline/Node;" .null := D42 (Or.inl (hw _ (List.mem_of_getElem? (i := 29) rfl))) (ty := (.object "com/example/treeline/treeline/Node")) (by decide)
    refine own_go (T' := T42) (g' := (mkF m 35 #[iv x0, iv x1, iv x2, iv x3, iv (x1 &&& (1 : Int32)), iv ((x2 &&& (2147483647 : Int32)) % (3 : Int32)), .unset, .unset] [(.ref b42)])) (st42) ?_
    refine own_go (T' := T42) (g' := (mkF m 36 #[iv x0, iv x1, iv x2, iv x3, iv (x1 &&& (1 : Int32)), iv ((x2 &&& (2147483647 : Int32)) % (3 : Int32)), .unset, .unset] [(.ref b42), (.ref b42)])) (fun t k => XS.dup X42.here hx rfl (hb hby at_35) rfl rfl k) ?_
    refine own_go (T' := T42) (g' := (mkF m 37 #[iv x0, iv x1, iv x2, iv x3, iv (x1 &&& (1 : Int32)), iv ((x2 &&& (2147483647 : Int32)) % (3 : Int32)), .unset, .unset] [.null, (.ref b42), (.ref b42)])) (fun t k => XS.aconstNull X42.here hx rfl (hb hby at_36) k) ?_
    refine own_go (T' := T42) (g' := (mkF m 38 #[iv x0, iv x1, iv x2, iv x3, iv (x1 &&& (1 : Int32)), iv ((x2 &&& (2147483647 : Int32)) % (3 : Int32)), .unset, .unset] [.null, .null, (.ref b42), (.ref b42)])) (fun t k => XS.aconstNull X42.here hx rfl (hb hby at_37) k) ?_
    obtain ⟨_, _, ⟨T43, L43, k43, n43⟩, -, X43, ⟨Lc43, hQ43, l43, y43, z43⟩, st43⟩ := X42.specialBack hx (y := (⟨"com/example/treeline/treeline/Node", "<init>", "(Ljava/lang/Object;Ljava/lang/Object;)V"⟩ : MethodName)) rfl hown (mvT hZ (hw _ (List.mem_of_getElem? (i := 4) rfl))) (mvT hZ (hw _ (List.mem_of_getElem? (i := 5) rfl))) (mvT hZ (hw _ (List.mem_of_getElem? (i := 6) rfl))) (by decide) (backOf (W := 1) (own_rinit l Z a0 hw [] b42 (0 : Int32) h42 n0 hz42 A42 gn42 F42_sizeAndParity F42_left F42_right F42_key F42_value) hZ (hw _ (List.mem_of_getElem? (i := 6) rfl)) (hw _ (List.mem_of_getElem? (i := 3) rfl)) (by decide) (by decide)) (g := (mkF m 38 #[iv x0, iv x1, iv x2, iv x3, iv (x1 &&& (1 : Int32)), iv ((x2 &&& (2147483647 : Int32)) % (3 : Int32)), .unset, .unset] [.null, .null, (.ref b42), (.ref b42)])) rfl (by rw [hml]; rfl) (Steps.refl _) (a := b42) (argsL := [.null, .null]) (rest := [(.ref b42)]) (lenOf own_pd3 rfl) rfl (by show 2 * 0 + _ ≤ _; exact Nat.le_of_eq rfl) (hb hby at_38) (fun _ _ => ⟨rfl, e42, (by decide : 1 + 0 ≤ _), (by decide : 5 + 0 ≤ _)⟩)
    dsimp only [Pt.U, Pt.locs, Pt.cells, Pt.slots] at X43 l43 y43 z43 st43 hQ43
    subst l43 y43 z43
    obtain ⟨rfl, N43q, K_43, e_43, s_43, l_43, r_43⟩ := hQ43
    have N43 := Fr.app N0 N43q
    have c45 := A42.keep K_43
    have hz43 : n0 ≤ T43.heap.size := Nat.le_trans hz42 K_43.1
    refine own_go (T' := T43) (g' := (mkF m 41 #[iv x0, iv x1, iv x2, iv x3, iv (x1 &&& (1 : Int32)), iv ((x2 &&& (2147483647 : Int32)) % (3 : Int32)), .unset, .unset] [(.ref b42)])) (fun t k => st43.trans k) ?_
    refine own_go (T' := T43) (g' := (mkF m 43 #[iv x0, iv x1, iv x2, iv x3, iv (x1 &&& (1 : Int32)), iv ((x2 &&& (2147483647 : Int32)) % (3 : Int32)), rv b42, .unset] [])) (fun t k => XS.astore X43.here hx rfl (hb hby at_41) rfl rfl (l' := #[iv x0, iv x1, iv x2, iv x3, iv (x1 &&& (1 : Int32)), iv ((x2 &&& (2147483647 : Int32)) % (3 : Int32)), rv b42, .unset]) rfl k) ?_
    refine own_go (T' := T43) (g' := (mkF m 45 #[iv x0, iv x1, iv x2, iv x3, iv (x1 &&& (1 : Int32)), iv ((x2 &&& (2147483647 : Int32)) % (3 : Int32)), rv b42, .unset] [(.int ((x2 &&& (2147483647 : Int32)) % (3 : Int32)))])) (fun t k => XS.iload X43.here hx rfl (hb hby at_43) rfl k) ?_
    refine own_go (T' := T43) (g' := (mkF m 46 #[iv x0, iv x1, iv x2, iv x3, iv (x1 &&& (1 : Int32)), iv ((x2 &&& (2147483647 : Int32)) % (3 : Int32)), rv b42, .unset] [(.int (1 : Int32)), (.int ((x2 &&& (2147483647 : Int32)) % (3 : Int32)))])) (fun t k => XS.iconst X43.here hx rfl (hb hby at_45) k) ?_
    by_cases hc51 : ((x2 &&& (2147483647 : Int32)) % (3 : Int32)) = (1 : Int32)
    · refine own_go (T' := T43) (g' := (mkF m 49 #[iv x0, iv x1, iv x2, iv x3, iv (x1 &&& (1 : Int32)), iv ((x2 &&& (2147483647 : Int32)) % (3 : Int32)), rv b42, .unset] [])) (fun t k => XS.icmpNo X43.here hx rfl (hb hby at_46) rfl (teq hc51).2 k) ?_
      refine own_go (T' := T43) (g' := (mkF m 51 #[iv x0, iv x1, iv x2, iv x3, iv (x1 &&& (1 : Int32)), iv ((x2 &&& (2147483647 : Int32)) % (3 : Int32)), rv b42, .unset] [(.ref b42)])) (fun t k => XS.aload X43.here hx rfl (hb hby at_49) rfl rfl k) ?_
      refine own_go (T' := T43) (g' := (mkF m 52 #[iv x0, iv x1, iv x2, iv x3, iv (x1 &&& (1 : Int32)), iv ((x2 &&& (2147483647 : Int32)) % (3 : Int32)), rv b42, .unset] [(.int x3), (.ref b42)])) (fun t k => XS.iloadN X43.here hx rfl (hb hby at_51) rfl k) ?_
      refine own_go (T' := T43) (g' := (mkF m 54 #[iv x0, iv x1, iv x2, iv x3, iv (x1 &&& (1 : Int32)), iv ((x2 &&& (2147483647 : Int32)) % (3 : Int32)), rv b42, .unset] [(.int (1073741823 : Int32)), (.int x3), (.ref b42)])) (fun t k => X43.ldcInt hx hown (mvT hZ (hw _ (List.mem_of_getElem? (i := 33) rfl))) (g := (mkF m 52 #[iv x0, iv x1, iv x2, iv x3, iv (x1 &&& (1 : Int32)), iv ((x2 &&& (2147483647 : Int32)) % (3 : Int32)), rv b42, .unset] [(.int x3), (.ref b42)])) rfl (hb hby at_52) _ k) ?_
      refine own_go (T' := T43) (g' := (mkF m 55 #[iv x0, iv x1, iv x2, iv x3, iv (x1 &&& (1 : Int32)), iv ((x2 &&& (2147483647 : Int32)) % (3 : Int32)), rv b42, .unset] [(.int (x3 &&& (1073741823 : Int32))), (.ref b42)])) (fun t k => XS.iand X43.here hx rfl (hb hby at_54) rfl k) ?_
      obtain ⟨cq52, kq52, q52a, q52b, q52c⟩ := isOf hZ rfl e_43
      obtain ⟨_, _, ⟨T52, L52, k52, n52⟩, -, X52, ⟨Lc52, hQ52, l52, y52, z52⟩, st52⟩ := X43.virtualBack hx (y := (⟨"com/example/treeline/treeline/Node", "resize", "(I)V"⟩ : MethodName)) (z := (⟨"com/example/treeline/treeline/Node", "resize", "(I)V"⟩ : MethodName)) hown (mvT hZ (hw _ (List.mem_of_getElem? (i := 34) rfl))) (mvT hZ (hw _ (List.mem_of_getElem? (i := 35) rfl))) (notFace_of_selects (args := #[]) (mvT hZ (hw _ (List.mem_of_getElem? (i := 37) rfl)))) (mvT hZ (hw _ (List.mem_of_getElem? (i := 37) rfl))) (mvT hZ (hw _ (List.mem_of_getElem? (i := 36) rfl))) (by decide) (backOf (W := 0) (own_rres l Z a0 hw [] b42 (-2147483647 : Int32) (x3 &&& (1073741823 : Int32)) T43.heap n0 hz43 e_43 gn42 s_43 l_43 r_43) hZ (hw _ (List.mem_of_getElem? (i := 38) rfl)) (hw _ (List.mem_of_getElem? (i := 3) rfl)) (by decide) (by decide)) q52a q52c (g := (mkF m 55 #[iv x0, iv x1, iv x2, iv x3, iv (x1 &&& (1 : Int32)), iv ((x2 &&& (2147483647 : Int32)) % (3 : Int32)), rv b42, .unset] [(.int (x3 &&& (1073741823 : Int32))), (.ref b42)])) rfl (by rw [hml]; rfl) (Steps.refl _) (argsL := [(.int (x3 &&& (1073741823 : Int32)))]) (rest := []) (lenOf own_pd4 rfl) rfl (by show 2 * 0 + _ ≤ _; exact Nat.le_of_eq rfl) (hb hby at_55) (fun _ _ => ⟨rfl, rfl, (by decide : 1 + 0 ≤ _), (by decide : 5 + 0 ≤ _)⟩)
      dsimp only [Pt.U, Pt.locs, Pt.cells, Pt.slots] at X52 l52 y52 z52 st52 hQ52
      subst l52 y52 z52
      obtain ⟨rfl, N52q, K_52, e_52, s_52, l_52, r_52⟩ := hQ52
      have N52 := Fr.app N43 N52q
      have c54 := e_43.keep K_52
      have hz52 : n0 ≤ T52.heap.size := Nat.le_trans hz43 K_52.1
      refine own_go (T' := T52) (g' := (mkF m 58 #[iv x0, iv x1, iv x2, iv x3, iv (x1 &&& (1 : Int32)), iv ((x2 &&& (2147483647 : Int32)) % (3 : Int32)), rv b42, .unset] [])) (fun t k => st52.trans k) ?_
      refine own_go (T' := T52) (g' := (mkF m 60 #[iv x0, iv x1, iv x2, iv x3, iv (x1 &&& (1 : Int32)), iv ((x2 &&& (2147483647 : Int32)) % (3 : Int32)), rv b42, .unset] [(.ref b42)])) (fun t k => XS.aload X52.here hx rfl (hb hby at_58) rfl rfl k) ?_
      refine own_go (T' := T52) (g' := (mkF m 62 #[iv x0, iv x1, iv x2, iv x3, iv (x1 &&& (1 : Int32)), iv ((x2 &&& (2147483647 : Int32)) % (3 : Int32)), rv b42, .unset] [(.int (x1 &&& (1 : Int32))), (.ref b42)])) (fun t k => XS.iload X52.here hx rfl (hb hby at_60) rfl k) ?_
      obtain ⟨_, _, ⟨T58, L58, k58, n58⟩, -, X58, ⟨Lc58, hQ58, l58, y58, z58⟩, st58⟩ := Jvm.LawKit.callS X52 hx (y := (⟨"com/example/treeline/treeline/Node", "height", "(Lcom/example/treeline/treeline/Node;I)I"⟩ : MethodName)) hown (mvT hZ (hw _ (List.mem_of_getElem? (i := 39) rfl))) (mvT hZ (hw _ (List.mem_of_getElem? (i := 40) rfl))) (mvT hZ (hw _ (List.mem_of_getElem? (i := 3) rfl))) (mvT hZ (hw _ (List.mem_of_getElem? (i := 41) rfl))) (by decide) (backOf (W := 0) (own_rh l Z a0 hw [] b42 ((-2147483647 : Int32) + (x3 &&& (1073741823 : Int32))) (x1 &&& (1 : Int32)) T52.heap n0 hz52 s_52) hZ (hw _ (List.mem_of_getElem? (i := 41) rfl)) (hw _ (List.mem_of_getElem? (i := 3) rfl)) (by decide) (by decide)) (g := (mkF m 62 #[iv x0, iv x1, iv x2, iv x3, iv (x1 &&& (1 : Int32)), iv ((x2 &&& (2147483647 : Int32)) % (3 : Int32)), rv b42, .unset] [(.int (x1 &&& (1 : Int32))), (.ref b42)])) rfl (by rw [hml]; rfl) (argsL := [(.ref b42), (.int (x1 &&& (1 : Int32)))]) (rest := []) (lenOf own_pd2 rfl) rfl (by show 2 * 0 + _ ≤ _; exact Nat.le_of_eq rfl) (hb hby at_62) (fun _ _ => ⟨rfl, rfl, (by decide : 1 + 0 ≤ _), (by decide : 5 + 0 ≤ _)⟩)
      dsimp only [Pt.U, Pt.locs, Pt.cells, Pt.slots] at X58 l58 y58 z58 st58 hQ58
      subst l58 y58 z58
      obtain ⟨rfl, rfl, e58⟩ := hQ58
      have E58q : T58.heap = T52.heap := e58
      have N58 := Fr.app N52 (Fr.nil n0)
      refine own_go (T' := T58) (g' := (mkF m 65 #[iv x0, iv x1, iv x2, iv x3, iv (x1 &&& (1 : Int32)), iv ((x2 &&& (2147483647 : Int32)) % (3 : Int32)), rv b42, .unset] [(.int (own_ht ((-2147483647 : Int32) + (x3 &&& (1073741823 : Int32))) (x1 &&& (1 : Int32))))])) (st58) ?_
      refine own_go (T' := T58) (g' := (mkF m 66 #[iv x0, iv x1, iv x2, iv x3, iv (x1 &&& (1 : Int32)), iv ((x2 &&& (2147483647 : Int32)) % (3 : Int32)), rv b42, .unset] [(.int (1 : Int32)), (.int (own_ht ((-2147483647 : Int32) + (x3 &&& (1073741823 : Int32))) (x1 &&& (1 : Int32))))])) (fun t k => XS.iconst X58.here hx rfl (hb hby at_65) k) ?_
      refine own_go (T' := T58) (g' := (mkF m 69 #[iv x0, iv x1, iv x2, iv x3, iv (x1 &&& (1 : Int32)), iv ((x2 &&& (2147483647 : Int32)) % (3 : Int32)), rv b42, .unset] [])) (fun t k => XS.icmpNo X58.here hx rfl (hb hby at_66) rfl (teq (own_h1 x3 x1 : ((own_ht ((-2147483647 : Int32) + (x3 &&& (1073741823 : Int32))) (x1 &&& (1 : Int32))) = (1 : Int32)))).2 k) ?_
      refine own_go (T' := T58) (g' := (mkF m 70 #[iv x0, iv x1, iv x2, iv x3, iv (x1 &&& (1 : Int32)), iv ((x2 &&& (2147483647 : Int32)) % (3 : Int32)), rv b42, .unset] [(.int (1 : Int32))])) (fun t k => XS.iconst X58.here hx rfl (hb hby at_69) k) ?_
      refine own_go (T' := T58) (g' := (mkF m 74 #[iv x0, iv x1, iv x2, iv x3, iv (x1 &&& (1 : Int32)), iv ((x2 &&& (2147483647 : Int32)) % (3 : Int32)), rv b42, .unset] [(.int (1 : Int32))])) (fun t k => XS.goto X58.here hx rfl (pc0 := 70) (pc' := 74) rfl (hb hby at_70) (by decide) (by decide) k) ?_
      exact own_ret X58 hlk hx Bd.returns rfl (Or.inl ⟨rfl, Or.inr (Or.inl rfl), _, rfl⟩) (hb hby at_74) (by first | exact ⟨rfl, N58⟩ | (rw [Fr] at *; exact ⟨rfl, by simpa using N58⟩)) (by decide) (by decide)
    · refine own_go (T' := T43) (g' := (mkF m 75 #[iv x0, iv x1, iv x2, iv x3, iv (x1 &&& (1 : Int32)), iv ((x2 &&& (2147483647 : Int32)) % (3 : Int32)), rv b42, .unset] [])) (fun t k => XS.icmpYes X43.here hx rfl (pc0 := 46) (pc' := 75) rfl (hb hby at_46) rfl (feq hc51).2 (by decide) (by decide) k) ?_
      refine own_go (T' := T43) (g' := (mkF m 76 #[iv x0, iv x1, iv x2, iv x3, iv (x1 &&& (1 : Int32)), iv ((x2 &&& (2147483647 : Int32)) % (3 : Int32)), rv b42, .unset] [(.int x0)])) (fun t k => XS.iloadN X43.here hx rfl (hb hby at_75) rfl k) ?_
      refine own_go (T' := T43) (g' := (mkF m 78 #[iv x0, iv x1, iv x2, iv x3, iv (x1 &&& (1 : Int32)), iv ((x2 &&& (2147483647 : Int32)) % (3 : Int32)), rv b42, .unset] [(.int (x1 &&& (1 : Int32))), (.int x0)])) (fun t k => XS.iload X43.here hx rfl (hb hby at_76) rfl k) ?_
      refine own_go (T' := T43) (g' := (mkF m 79 #[iv x0, iv x1, iv x2, iv x3, iv (x1 &&& (1 : Int32)), iv ((x2 &&& (2147483647 : Int32)) % (3 : Int32)), rv b42, .unset] [(.int (x0 + (x1 &&& (1 : Int32))))])) (fun t k => XS.iadd X43.here hx rfl (hb hby at_78) rfl k) ?_
      refine own_go (T' := T43) (g' := (mkF m 81 #[iv x0, iv x1, iv x2, iv x3, iv (x1 &&& (1 : Int32)), iv ((x2 &&& (2147483647 : Int32)) % (3 : Int32)), rv b42, iv (x0 + (x1 &&& (1 : Int32)))] [])) (fun t k => XS.istore X43.here hx rfl (hb hby at_79) rfl (l' := #[iv x0, iv x1, iv x2, iv x3, iv (x1 &&& (1 : Int32)), iv ((x2 &&& (2147483647 : Int32)) % (3 : Int32)), rv b42, iv (x0 + (x1 &&& (1 : Int32)))]) rfl k) ?_
      refine own_go (T' := T43) (g' := (mkF m 83 #[iv x0, iv x1, iv x2, iv x3, iv (x1 &&& (1 : Int32)), iv ((x2 &&& (2147483647 : Int32)) % (3 : Int32)), rv b42, iv (x0 + (x1 &&& (1 : Int32)))] [(.ref b42)])) (fun t k => XS.aload X43.here hx rfl (hb hby at_81) rfl rfl k) ?_
      refine own_go (T' := T43) (g' := (mkF m 84 #[iv x0, iv x1, iv x2, iv x3, iv (x1 &&& (1 : Int32)), iv ((x2 &&& (2147483647 : Int32)) % (3 : Int32)), rv b42, iv (x0 + (x1 &&& (1 : Int32)))] [.null, (.ref b42)])) (fun t k => XS.aconstNull X43.here hx rfl (hb hby at_83) k) ?_
      refine own_go (T' := T43) (g' := (mkF m 85 #[iv x0, iv x1, iv x2, iv x3, iv (x1 &&& (1 : Int32)), iv ((x2 &&& (2147483647 : Int32)) % (3 : Int32)), rv b42, iv (x0 + (x1 &&& (1 : Int32)))] [.null, .null, (.ref b42)])) (fun t k => XS.aconstNull X43.here hx rfl (hb hby at_84) k) ?_
      refine own_go (T' := T43) (g' := (mkF m 87 #[iv x0, iv x1, iv x2, iv x3, iv (x1 &&& (1 : Int32)), iv ((x2 &&& (2147483647 : Int32)) % (3 : Int32)), rv b42, iv (x0 + (x1 &&& (1 : Int32)))] [(.int (x0 + (x1 &&& (1 : Int32)))), .null, .null, (.ref b42)])) (fun t k => XS.iload X43.here hx rfl (hb hby at_85) rfl k) ?_
      obtain ⟨cq59, kq59, q59a, q59b, q59c⟩ := isOf hZ rfl e_43
      obtain ⟨_, _, ⟨T59, L59, k59, n59⟩, -, X59, ⟨Lc59, hQ59, l59, y59, z59⟩, st59⟩ := X43.virtualBack hx (y := (⟨"com/example/treeline/treeline/Node", "link", "(Lcom/example/treeline/treeline/Node;Lcom/example/treeline/treeline/Node;I)V"⟩ : MethodName)) (z := (⟨"com/example/treeline/treeline/Node", "link", "(Lcom/example/treeline/treeline/Node;Lcom/example/treeline/treeline/Node;I)V"⟩ : MethodName)) hown (mvT hZ (hw _ (List.mem_of_getElem? (i := 17) rfl))) (mvT hZ (hw _ (List.mem_of_getElem? (i := 18) rfl))) (notFace_of_selects (args := #[]) (mvT hZ (hw _ (List.mem_of_getElem? (i := 20) rfl)))) (mvT hZ (hw _ (List.mem_of_getElem? (i := 20) rfl))) (mvT hZ (hw _ (List.mem_of_getElem? (i := 19) rfl))) (by decide) (backOf (W := 0) (own_rlink l Z a0 hw [] b42 (-2147483647 : Int32) (x0 + (x1 &&& (1 : Int32))) T43.heap n0 hz43 e_43 gn42 s_43 l_43 r_43) hZ (hw _ (List.mem_of_getElem? (i := 21) rfl)) (hw _ (List.mem_of_getElem? (i := 3) rfl)) (by decide) (by decide)) q59a q59c (g := (mkF m 87 #[iv x0, iv x1, iv x2, iv x3, iv (x1 &&& (1 : Int32)), iv ((x2 &&& (2147483647 : Int32)) % (3 : Int32)), rv b42, iv (x0 + (x1 &&& (1 : Int32)))] [(.int (x0 + (x1 &&& (1 : Int32)))), .null, .null, (.ref b42)])) rfl (by rw [hml]; rfl) (Steps.refl _) (argsL := [.null, .null, (.int (x0 + (x1 &&& (1 : Int32))))]) (rest := []) (lenOf own_pd5 rfl) rfl (by show 2 * 0 + _ ≤ _; exact Nat.le_of_eq rfl) (hb hby at_87) (fun _ _ => ⟨rfl, rfl, (by decide : 1 + 0 ≤ _), (by decide : 5 + 0 ≤ _)⟩)
      dsimp only [Pt.U, Pt.locs, Pt.cells, Pt.slots] at X59 l59 y59 z59 st59 hQ59
      subst l59 y59 z59
      obtain ⟨rfl, N59q, K_59, e_59, s_59, l_59, r_59⟩ := hQ59
      have N59 := Fr.app N43 N59q
      have c61 := e_43.keep K_59
      have hz59 : n0 ≤ T59.heap.size := Nat.le_trans hz43 K_59.1
      refine own_go (T' := T59) (g' := (mkF m 90 #[iv x0, iv x1, iv x2, iv x3, iv (x1 &&& (1 : Int32)), iv ((x2 &&& (2147483647 : Int32)) % (3 : Int32)), rv b42, iv (x0 + (x1 &&& (1 : Int32)))] [])) (fun t k => st59.trans k) ?_
      refine own_go (T' := T59) (g' := (mkF m 92 #[iv x0, iv x1, iv x2, iv x3, iv (x1 &&& (1 : Int32)), iv ((x2 &&& (2147483647 : Int32)) % (3 : Int32)), rv b42, iv (x0 + (x1 &&& (1 : Int32)))] [(.ref b42)])) (fun t k => XS.aload X59.here hx rfl (hb hby at_90) rfl rfl k) ?_
      refine own_go (T' := T59) (g' := (mkF m 93 #[iv x0, iv x1, iv x2, iv x3, iv (x1 &&& (1 : Int32)), iv ((x2 &&& (2147483647 : Int32)) % (3 : Int32)), rv b42, iv (x0 + (x1 &&& (1 : Int32)))] [(.int x3), (.ref b42)])) (fun t k => XS.iloadN X59.here hx rfl (hb hby at_92) rfl k) ?_
      refine own_go (T' := T59) (g' := (mkF m 95 #[iv x0, iv x1, iv x2, iv x3, iv (x1 &&& (1 : Int32)), iv ((x2 &&& (2147483647 : Int32)) % (3 : Int32)), rv b42, iv (x0 + (x1 &&& (1 : Int32)))] [(.int (1073741823 : Int32)), (.int x3), (.ref b42)])) (fun t k => X59.ldcInt hx hown (mvT hZ (hw _ (List.mem_of_getElem? (i := 33) rfl))) (g := (mkF m 93 #[iv x0, iv x1, iv x2, iv x3, iv (x1 &&& (1 : Int32)), iv ((x2 &&& (2147483647 : Int32)) % (3 : Int32)), rv b42, iv (x0 + (x1 &&& (1 : Int32)))] [(.int x3), (.ref b42)])) rfl (hb hby at_93) _ k) ?_
      refine own_go (T' := T59) (g' := (mkF m 96 #[iv x0, iv x1, iv x2, iv x3, iv (x1 &&& (1 : Int32)), iv ((x2 &&& (2147483647 : Int32)) % (3 : Int32)), rv b42, iv (x0 + (x1 &&& (1 : Int32)))] [(.int (x3 &&& (1073741823 : Int32))), (.ref b42)])) (fun t k => XS.iand X59.here hx rfl (hb hby at_95) rfl k) ?_
      obtain ⟨cq65, kq65, q65a, q65b, q65c⟩ := isOf hZ rfl e_59
      obtain ⟨_, _, ⟨T65, L65, k65, n65⟩, -, X65, ⟨Lc65, hQ65, l65, y65, z65⟩, st65⟩ := X59.virtualBack hx (y := (⟨"com/example/treeline/treeline/Node", "resize", "(I)V"⟩ : MethodName)) (z := (⟨"com/example/treeline/treeline/Node", "resize", "(I)V"⟩ : MethodName)) hown (mvT hZ (hw _ (List.mem_of_getElem? (i := 34) rfl))) (mvT hZ (hw _ (List.mem_of_getElem? (i := 35) rfl))) (notFace_of_selects (args := #[]) (mvT hZ (hw _ (List.mem_of_getElem? (i := 37) rfl)))) (mvT hZ (hw _ (List.mem_of_getElem? (i := 37) rfl))) (mvT hZ (hw _ (List.mem_of_getElem? (i := 36) rfl))) (by decide) (backOf (W := 0) (own_rres l Z a0 hw [] b42 ((((0 : Int32) + (0 : Int32)) + (1 : Int32)) ||| ((x0 + (x1 &&& (1 : Int32))) <<< ((31 : Int32) &&& 31))) (x3 &&& (1073741823 : Int32)) T59.heap n0 hz59 e_59 gn42 s_59 l_59 r_59) hZ (hw _ (List.mem_of_getElem? (i := 38) rfl)) (hw _ (List.mem_of_getElem? (i := 3) rfl)) (by decide) (by decide)) q65a q65c (g := (mkF m 96 #[iv x0, iv x1, iv x2, iv x3, iv (x1 &&& (1 : Int32)), iv ((x2 &&& (2147483647 : Int32)) % (3 : Int32)), rv b42, iv (x0 + (x1 &&& (1 : Int32)))] [(.int (x3 &&& (1073741823 : Int32))), (.ref b42)])) rfl (by rw [hml]; rfl) (Steps.refl _) (argsL := [(.int (x3 &&& (1073741823 : Int32)))]) (rest := []) (lenOf own_pd4 rfl) rfl (by show 2 * 0 + _ ≤ _; exact Nat.le_of_eq rfl) (hb hby at_96) (fun _ _ => ⟨rfl, rfl, (by decide : 1 + 0 ≤ _), (by decide : 5 + 0 ≤ _)⟩)
      dsimp only [Pt.U, Pt.locs, Pt.cells, Pt.slots] at X65 l65 y65 z65 st65 hQ65
      subst l65 y65 z65
      obtain ⟨rfl, N65q, K_65, e_65, s_65, l_65, r_65⟩ := hQ65
      have N65 := Fr.app N59 N65q
      have c67 := e_59.keep K_65
      have hz65 : n0 ≤ T65.heap.size := Nat.le_trans hz59 K_65.1
      refine own_go (T' := T65) (g' := (mkF m 99 #[iv x0, iv x1, iv x2, iv x3, iv (x1 &&& (1 : Int32)), iv ((x2 &&& (2147483647 : Int32)) % (3 : Int32)), rv b42, iv (x0 + (x1 &&& (1 : Int32)))] [])) (fun t k => st65.trans k) ?_
      refine own_go (T' := T65) (g' := (mkF m 101 #[iv x0, iv x1, iv x2, iv x3, iv (x1 &&& (1 : Int32)), iv ((x2 &&& (2147483647 : Int32)) % (3 : Int32)), rv b42, iv (x0 + (x1 &&& (1 : Int32)))] [(.ref b42)])) (fun t k => XS.aload X65.here hx rfl (hb hby at_99) rfl rfl k) ?_
      refine own_go (T' := T65) (g' := (mkF m 102 #[iv x0, iv x1, iv x2, iv x3, iv (x1 &&& (1 : Int32)), iv ((x2 &&& (2147483647 : Int32)) % (3 : Int32)), rv b42, iv (x0 + (x1 &&& (1 : Int32)))] [(.int x0), (.ref b42)])) (fun t k => XS.iloadN X65.here hx rfl (hb hby at_101) rfl k) ?_
      obtain ⟨_, _, ⟨T71, L71, k71, n71⟩, -, X71, ⟨Lc71, hQ71, l71, y71, z71⟩, st71⟩ := Jvm.LawKit.callS X65 hx (y := (⟨"com/example/treeline/treeline/Node", "height", "(Lcom/example/treeline/treeline/Node;I)I"⟩ : MethodName)) hown (mvT hZ (hw _ (List.mem_of_getElem? (i := 39) rfl))) (mvT hZ (hw _ (List.mem_of_getElem? (i := 40) rfl))) (mvT hZ (hw _ (List.mem_of_getElem? (i := 3) rfl))) (mvT hZ (hw _ (List.mem_of_getElem? (i := 41) rfl))) (by decide) (backOf (W := 0) (own_rh l Z a0 hw [] b42 (((((0 : Int32) + (0 : Int32)) + (1 : Int32)) ||| ((x0 + (x1 &&& (1 : Int32))) <<< ((31 : Int32) &&& 31))) + (x3 &&& (1073741823 : Int32))) x0 T65.heap n0 hz65 s_65) hZ (hw _ (List.mem_of_getElem? (i := 41) rfl)) (hw _ (List.mem_of_getElem? (i := 3) rfl)) (by decide) (by decide)) (g := (mkF m 102 #[iv x0, iv x1, iv x2, iv x3, iv (x1 &&& (1 : Int32)), iv ((x2 &&& (2147483647 : Int32)) % (3 : Int32)), rv b42, iv (x0 + (x1 &&& (1 : Int32)))] [(.int x0), (.ref b42)])) rfl (by rw [hml]; rfl) (argsL := [(.ref b42), (.int x0)]) (rest := []) (lenOf own_pd2 rfl) rfl (by show 2 * 0 + _ ≤ _; exact Nat.le_of_eq rfl) (hb hby at_102) (fun _ _ => ⟨rfl, rfl, (by decide : 1 + 0 ≤ _), (by decide : 5 + 0 ≤ _)⟩)
      dsimp only [Pt.U, Pt.locs, Pt.cells, Pt.slots] at X71 l71 y71 z71 st71 hQ71
      subst l71 y71 z71
      obtain ⟨rfl, rfl, e71⟩ := hQ71
      have E71q : T71.heap = T65.heap := e71
      have N71 := Fr.app N65 (Fr.nil n0)
      refine own_go (T' := T71) (g' := (mkF m 105 #[iv x0, iv x1, iv x2, iv x3, iv (x1 &&& (1 : Int32)), iv ((x2 &&& (2147483647 : Int32)) % (3 : Int32)), rv b42, iv (x0 + (x1 &&& (1 : Int32)))] [(.int (own_ht (((((0 : Int32) + (0 : Int32)) + (1 : Int32)) ||| ((x0 + (x1 &&& (1 : Int32))) <<< ((31 : Int32) &&& 31))) + (x3 &&& (1073741823 : Int32))) x0))])) (st71) ?_
      refine own_go (T' := T71) (g' := (mkF m 107 #[iv x0, iv x1, iv x2, iv x3, iv (x1 &&& (1 : Int32)), iv ((x2 &&& (2147483647 : Int32)) % (3 : Int32)), rv b42, iv (x0 + (x1 &&& (1 : Int32)))] [(.int (x0 + (x1 &&& (1 : Int32)))), (.int (own_ht (((((0 : Int32) + (0 : Int32)) + (1 : Int32)) ||| ((x0 + (x1 &&& (1 : Int32))) <<< ((31 : Int32) &&& 31))) + (x3 &&& (1073741823 : Int32))) x0))])) (fun t k => XS.iload X71.here hx rfl (hb hby at_105) rfl k) ?_
      refine own_go (T' := T71) (g' := (mkF m 110 #[iv x0, iv x1, iv x2, iv x3, iv (x1 &&& (1 : Int32)), iv ((x2 &&& (2147483647 : Int32)) % (3 : Int32)), rv b42, iv (x0 + (x1 &&& (1 : Int32)))] [])) (fun t k => XS.icmpNo X71.here hx rfl (hb hby at_107) rfl (teq (own_h2 x3 x0 x1 : ((own_ht (((((0 : Int32) + (0 : Int32)) + (1 : Int32)) ||| ((x0 + (x1 &&& (1 : Int32))) <<< ((31 : Int32) &&& 31))) + (x3 &&& (1073741823 : Int32))) x0) = (x0 + (x1 &&& (1 : Int32)))))).2 k) ?_
      refine own_go (T' := T71) (g' := (mkF m 111 #[iv x0, iv x1, iv x2, iv x3, iv (x1 &&& (1 : Int32)), iv ((x2 &&& (2147483647 : Int32)) % (3 : Int32)), rv b42, iv (x0 + (x1 &&& (1 : Int32)))] [(.int (1 : Int32))])) (fun t k => XS.iconst X71.here hx rfl (hb hby at_110) k) ?_
      refine own_go (T' := T71) (g' := (mkF m 115 #[iv x0, iv x1, iv x2, iv x3, iv (x1 &&& (1 : Int32)), iv ((x2 &&& (2147483647 : Int32)) % (3 : Int32)), rv b42, iv (x0 + (x1 &&& (1 : Int32)))] [(.int (1 : Int32))])) (fun t k => XS.goto X71.here hx rfl (pc0 := 111) (pc' := 115) rfl (hb hby at_111) (by decide) (by decide) k) ?_
      exact own_ret X71 hlk hx Bd.returns rfl (Or.inl ⟨rfl, Or.inr (Or.inl rfl), _, rfl⟩) (hb hby at_115) (by first | exact ⟨rfl, N71⟩ | (rw [Fr] at *; exact ⟨rfl, by simpa using N71⟩)) (by decide) (by decide)

set_option maxRecDepth 65536 in
set_option maxHeartbeats 40000000 in
theorem own_comes {Post : Tables → Env → Array Value → State → Outcome → State → Prop} (hpost : ∀ tb e args s v u, (limb_1_1.after args s (.returned v) u = true ∧ limb_1_2.after args s (.returned v) u = true ∧ True) → FrameEnd s (.returned v) u (Jvm.fieldLocs frame_1_writes args s ++ Jvm.arrayLocs frame_1_arrays args s ++ Jvm.staticLocs frame_1_statics s) 16 128 → Post tb e args s (.returned v) u) :
    ArmFor flags0 classFile x code maxLocals ret World_1 tables_1 room_1 Calls_1 rest_1 Pre_1 Post := by
  intro l hfl _ _ p e ha hc hk s m args below hf hA hF happ hP
  obtain ⟨hcalls, hrest, hpre⟩ := hP
  obtain ⟨-, -, -, hnamed, -, -, -, hat⟩ := (Spec.applies_iff hf).mp happ
  obtain ⟨hg, hn⟩ := and_e (Cond.before_iff.mp (show (Jvm.Cond.and given_1 narrow_1).before args s = true from hpre))
  obtain ⟨hg0, hg1⟩ := and_e hg
  obtain ⟨ha0, hr0⟩ := and_e hg1
  obtain ⟨ha1, hr1⟩ := and_e hr0
  obtain ⟨ha2, hr2⟩ := and_e hr1
  obtain ⟨w0, w1, w2, w3, rfl⟩ : ∃ w0 w1 w2 w3 : Value, args = #[w0, w1, w2, w3] := by
    have hs : args.size = 4 := by simpa [Cond.value, given_1] using hg0
    obtain ⟨L⟩ := args
    match L, hs with
    | [w0, w1, w2, w3], _ => exact ⟨w0, w1, w2, w3, rfl⟩
  have hw := fun d (hd : d ∈ tables_1) => atoms_spec (ws := Jvm.Cond.code x code maxLocals ret :: tables_1) hat d (List.mem_cons_of_mem _ hd)
  have hfit : Fit s := fun {y c} hc i hi => by
    obtain ⟨ha, rfl⟩ := Array.getElem?_eq_some_iff.mp hc
    have q := List.all_eq_true.mp ((Array.all_eq_true_iff_forall_mem.mp hF) _ (Array.getElem_mem ha)) i (List.mem_range.mpr hi)
    simpa [Array.getElem?_eq_getElem hi] using q
  obtain ⟨x0, ex0⟩ := is_v ha0
  obtain rfl : w0 = (.int x0) := Option.some.inj ex0
  obtain ⟨x1, ex1⟩ := is_v ha1
  obtain rfl : w1 = (.int x1) := Option.some.inj ex1
  obtain ⟨x2, ex2⟩ := is_v ha2
  obtain rfl : w2 = (.int x2) := Option.some.inj ex2
  obtain ⟨x3, ex3⟩ := is_v hr2
  obtain rfl : w3 = (.int x3) := Option.some.inj ex3
  obtain ⟨n, o, h1, h2, h3, _, L, rfl, ⟨rfl, N⟩, hq⟩ := own_law l s _ hw tables_1 x0 x1 x2 x3  s.heap s.heap.size (Nat.le_refl _)  p e ha hc hk s m _ below hf ((Spec.applies_iff_loose hf).mp happ).1 ⟨rfl, State.Warmed39.refl s, rfl⟩ trivial
  refine ⟨n, _, h1, h2, h3, hpost _ _ _ _ _ _ ⟨Cond.after_iff.mpr rfl, Cond.after_iff.mpr (eq_i res_at (Term.int_eval (1)) rfl), trivial⟩ ⟨hq.1, hq.2.1, (hq.2.2.sift fun y hy => Or.inr (N y hy)).mono (by decide) (by decide)⟩⟩
theorem main_1_1 : Claimed_1_1 := own_comes fun _ _ _ _ _ _ h hF => ⟨h.1, hF⟩
theorem main_1_2 : Claimed_1_2 := own_comes fun _ _ _ _ _ _ h hF => ⟨h.2.1, hF⟩
end Jvm.Pilot.@@N@@
namespace Jvm.Pilot.@@N@@
open Jvm Jvm.ClassFile Sem Op Lib Jvm.Free Jvm.Stand Jvm.Pilot.@@N@@.Jvm.D
/-! MADE BY PROGRAM (witnessworld.py) out of the Statement's table words and the real class files: 10 classes; the members and pool entries that the words name. The judged class is class 1, her method 1. -/
namespace start1
open Jvm.ClassFile
def u (s : String) : CpInfo := .utf8 (stringToUtf16 s)
/-- a pool by its gaps: so many unusable entries, then the entry; so many at the end -/
def gap : Nat → List CpInfo → List CpInfo
  | 0, r => r
  | n + 1, r => .unusable :: gap n r
def poolList (es : List (Nat × CpInfo)) (last : Nat) : List CpInfo := es.foldr (fun e r => gap e.1 (e.2 :: r)) (gap last [])
def pool (es : List (Nat × CpInfo)) (last : Nat) : Array CpInfo := ⟨poolList es last⟩
def fileOf (pool : Array CpInfo) (this : Nat) (attrs : Array Attribute := #[]) (ms : Array MethodInfo := #[]) (fl : Nat := 33) (sup : Nat := 0) (ifs : Array Nat := #[]) (fds : Array FieldInfo := #[]) : ClassFile where
  minorVersion := 0
  majorVersion := 65
  constantPool := pool
  accessFlags := fl
  thisClass := this
  superClass := sup
  interfaces := ifs
  fields := fds
  methods := ms
  attributes := attrs
def plain (name : String) (sup : Option ClassId) : Class where
  name := name
  kind := .ordinary
  loader := none
  accessFlags := 33
  super := sup
  interfaces := #[]
  cf := none
  fields := #[]
  methods := #[]
  instanceTypes := #[]
  staticTypes := #[]
  resolved := #[]
  callSites := []
  init := .initialized
  statics := none
  mirror := none

def pool0 : Array CpInfo := pool [(5, u "<init>"), (0, u "()V"), (1, .class_ 10), (1, u "java/lang/Object")] 113

def k0c0 : Code := { maxStack := 0, maxLocals := 1, code := object_method_1_code, exceptionTable := #[], attributes := #[] }
def k0m0 : Method := { name := "<init>", desc := "()V", sig := { parameters := [], returnType := none }, accessFlags := 1, code := some k0c0 }
/-- java/lang/Object -/
def k0 : Class := { plain "java/lang/Object" none with
  accessFlags := 33
  interfaces := #[]
  cf := some (fileOf pool0 8 #[] #[{ accessFlags := 1, nameIndex := 5, descriptorIndex := 6, attributes := #[] }] 33 0 #[] #[])
  fields := #[]
  methods := #[k0m0]
  instanceTypes := #[]
  staticTypes := #[]
  resolved := Array.replicate 124 none
  statics := none }

def pool1 : Array CpInfo := pool [(2, .class_ 4), (1, u "java/lang/Object"), (0, u "<init>"), (0, u "()V"), (0, .integer 2147483647), (0, .methodref 9 10), (0, .class_ 11), (0, .nameAndType 12 13), (0, u "com/example/treeline/treeline/Node"), (0, u "height"), (0, u "(Lcom/example/treeline/treeline/Node;I)I"), (0, .methodref 9 15), (0, .nameAndType 5 16), (0, u "(Ljava/lang/Object;Ljava/lang/Object;)V"), (0, .integer 1073741823), (0, .methodref 9 19), (0, .nameAndType 20 21), (0, u "resize"), (0, u "(I)V"), (0, .methodref 9 23), (0, .nameAndType 24 25), (0, u "link"), (0, u "(Lcom/example/treeline/treeline/Node;Lcom/example/treeline/treeline/Node;I)V"), (0, .class_ 27), (0, u "com/example/treeline/treeline/NodeHeightPinLaw"), (2, u "law"), (0, u "(IIII)Z")] 3

def k1m0 : Method := { name := "<init>", desc := "()V", sig := { parameters := [], returnType := none }, accessFlags := 1, code := none }
def k1c1 : Code := { maxStack := 4, maxLocals := 8, code := code, exceptionTable := #[], attributes := #[] }
def k1m1 : Method := { name := "law", desc := "(IIII)Z", sig := { parameters := [.int, .int, .int, .int], returnType := some .boolean }, accessFlags := 9, code := some k1c1 }
/-- com/example/treeline/treeline/NodeHeightPinLaw -/
def k1 : Class := { plain "com/example/treeline/treeline/NodeHeightPinLaw" (some 0) with
  accessFlags := 49
  interfaces := #[]
  cf := some (fileOf pool1 26 #[] #[{ accessFlags := 1, nameIndex := 5, descriptorIndex := 6, attributes := #[] }, { accessFlags := 9, nameIndex := 30, descriptorIndex := 31, attributes := #[] }] 49 2 #[] #[])
  fields := #[]
  methods := #[k1m0, k1m1]
  instanceTypes := #[]
  staticTypes := #[]
  resolved := Array.replicate 35 none
  statics := none }

def pool2 : Array CpInfo := pool [(23, .class_ 25), (1, u "java/util/Map$Entry"), (6, .class_ 34), (1, u "java/util/Map"), (34, .class_ 70), (0, u "java/lang/Object")] 107

/-- java/util/Map$Entry -/
def k2 : Class := { plain "java/util/Map$Entry" (some 0) with
  accessFlags := 1537
  interfaces := #[]
  cf := some (fileOf pool2 23 #[.nestHost 32] #[] 1537 69 #[] #[])
  fields := #[]
  methods := #[]
  instanceTypes := #[]
  staticTypes := #[]
  resolved := Array.replicate 178 none
  statics := none }

def pool3 : Array CpInfo := pool [(3, .methodref 4 5), (0, .class_ 6), (0, .nameAndType 7 8), (0, u "java/lang/Object"), (0, u "<init>"), (0, u "()V"), (0, .class_ 10), (0, u "com/example/treeline/treeline/Node"), (0, .integer 2147483649), (0, .fieldref 9 13), (0, .nameAndType 14 15), (0, u "sizeAndParity"), (0, u "I"), (0, .fieldref 9 17), (0, .nameAndType 18 19), (0, u "key"), (0, u "Ljava/lang/Object;"), (0, .fieldref 9 21), (0, .nameAndType 22 19), (0, u "value"), (0, .methodref 9 24), (0, .nameAndType 25 26), (0, u "linkChildren"), (0, u "(Lcom/example/treeline/treeline/Node;Lcom/example/treeline/treeline/Node;)V"), (0, .methodref 9 28), (0, .nameAndType 29 30), (0, u "size"), (0, u "(Lcom/example/treeline/treeline/Node;)I"), (0, .fieldref 9 32), (0, .nameAndType 33 34), (0, u "left"), (0, u "Lcom/example/treeline/treeline/Node;"), (0, .fieldref 9 36), (0, .nameAndType 37 34), (0, u "right"), (2, u "(Ljava/lang/Object;Ljava/lang/Object;)V"), (4, .class_ 46), (0, u "java/util/Map$Entry"), (27, .integer 2147483647), (35, u "(I)V"), (44, u "link"), (0, u "(Lcom/example/treeline/treeline/Node;Lcom/example/treeline/treeline/Node;I)V"), (39, u "LONGEST_PATHS"), (0, u "[I"), (4, u "ODD_HEIGHT"), (16, u "resize"), (10, u "height"), (0, u "(Lcom/example/treeline/treeline/Node;I)I")] 67

def k3c0 : Code := { maxStack := 2, maxLocals := 3, code := prog_5_method_1_code, exceptionTable := #[], attributes := #[] }
def k3m0 : Method := { name := "<init>", desc := "(Ljava/lang/Object;Ljava/lang/Object;)V", sig := { parameters := [(.object "java/lang/Object"), (.object "java/lang/Object")], returnType := none }, accessFlags := 0, code := some k3c0 }
def k3c1 : Code := { maxStack := 4, maxLocals := 4, code := prog_5_method_2_code, exceptionTable := #[], attributes := #[] }
def k3m1 : Method := { name := "link", desc := "(Lcom/example/treeline/treeline/Node;Lcom/example/treeline/treeline/Node;I)V", sig := { parameters := [(.object "com/example/treeline/treeline/Node"), (.object "com/example/treeline/treeline/Node"), .int], returnType := none }, accessFlags := 0, code := some k3c1 }
def k3c2 : Code := { maxStack := 2, maxLocals := 3, code := prog_5_method_4_code, exceptionTable := #[], attributes := #[] }
def k3m2 : Method := { name := "linkChildren", desc := "(Lcom/example/treeline/treeline/Node;Lcom/example/treeline/treeline/Node;)V", sig := { parameters := [(.object "com/example/treeline/treeline/Node"), (.object "com/example/treeline/treeline/Node")], returnType := none }, accessFlags := 2, code := some k3c2 }
def k3c3 : Code := { maxStack := 3, maxLocals := 2, code := prog_5_method_6_code, exceptionTable := #[], attributes := #[] }
def k3m3 : Method := { name := "resize", desc := "(I)V", sig := { parameters := [.int], returnType := none }, accessFlags := 0, code := some k3c3 }
def k3c4 : Code := { maxStack := 2, maxLocals := 1, code := prog_5_method_14_code, exceptionTable := #[], attributes := #[] }
def k3m4 : Method := { name := "size", desc := "(Lcom/example/treeline/treeline/Node;)I", sig := { parameters := [(.object "com/example/treeline/treeline/Node")], returnType := some .int }, accessFlags := 8, code := some k3c4 }
def k3c5 : Code := { maxStack := 3, maxLocals := 2, code := prog_5_method_15_code, exceptionTable := #[], attributes := #[] }
def k3m5 : Method := { name := "height", desc := "(Lcom/example/treeline/treeline/Node;I)I", sig := { parameters := [(.object "com/example/treeline/treeline/Node"), .int], returnType := some .int }, accessFlags := 8, code := some k3c5 }
/-- com/example/treeline/treeline/Node -/
def k3 : Class := { plain "com/example/treeline/treeline/Node" (some 0) with
  accessFlags := 48
  interfaces := #[2]
  cf := some (fileOf pool3 9 #[] #[{ accessFlags := 0, nameIndex := 7, descriptorIndex := 40, attributes := #[] }, { accessFlags := 0, nameIndex := 155, descriptorIndex := 156, attributes := #[] }, { accessFlags := 2, nameIndex := 25, descriptorIndex := 26, attributes := #[] }, { accessFlags := 0, nameIndex := 219, descriptorIndex := 110, attributes := #[] }, { accessFlags := 8, nameIndex := 29, descriptorIndex := 30, attributes := #[] }, { accessFlags := 8, nameIndex := 230, descriptorIndex := 231, attributes := #[] }] 48 4 #[45] #[{ accessFlags := 26, nameIndex := 202, descriptorIndex := 15, attributes := #[] }, { accessFlags := 26, nameIndex := 196, descriptorIndex := 197, attributes := #[] }, { accessFlags := 16, nameIndex := 18, descriptorIndex := 19, attributes := #[] }, { accessFlags := 0, nameIndex := 22, descriptorIndex := 19, attributes := #[] }, { accessFlags := 0, nameIndex := 33, descriptorIndex := 34, attributes := #[] }, { accessFlags := 0, nameIndex := 37, descriptorIndex := 34, attributes := #[] }, { accessFlags := 2, nameIndex := 14, descriptorIndex := 15, attributes := #[] }])
  fields := #[{ name := "ODD_HEIGHT", type := .int, accessFlags := 26, slot := 0, constantValue := 0 }, { name := "LONGEST_PATHS", type := (.array .int), accessFlags := 26, slot := 1, constantValue := 0 }, { name := "key", type := (.object "java/lang/Object"), accessFlags := 16, slot := 0, constantValue := 0 }, { name := "value", type := (.object "java/lang/Object"), accessFlags := 0, slot := 1, constantValue := 0 }, { name := "left", type := (.object "com/example/treeline/treeline/Node"), accessFlags := 0, slot := 2, constantValue := 0 }, { name := "right", type := (.object "com/example/treeline/treeline/Node"), accessFlags := 0, slot := 3, constantValue := 0 }, { name := "sizeAndParity", type := .int, accessFlags := 2, slot := 4, constantValue := 0 }]
  methods := #[k3m0, k3m1, k3m2, k3m3, k3m4, k3m5]
  instanceTypes := #[(.object "java/lang/Object"), (.object "java/lang/Object"), (.object "com/example/treeline/treeline/Node"), (.object "com/example/treeline/treeline/Node"), .int]
  staticTypes := #[.int, (.array .int)]
  resolved := Array.replicate 299 none
  statics := none }

def pool4 : Array CpInfo := pool [(1, u "java/lang/Cloneable"), (0, .class_ 1), (0, u "java/lang/Object"), (0, .class_ 3)] 3

/-- java/lang/Cloneable -/
def k4 : Class := { plain "java/lang/Cloneable" (some 0) with
  accessFlags := 1537
  interfaces := #[]
  cf := some (fileOf pool4 2 #[] #[] 1537 4 #[] #[])
  fields := #[]
  methods := #[]
  instanceTypes := #[]
  staticTypes := #[]
  resolved := Array.replicate 8 none
  statics := none }

def pool5 : Array CpInfo := pool [(1, u "java/io/Serializable"), (0, .class_ 1), (0, u "java/lang/Object"), (0, .class_ 3)] 3

/-- java/io/Serializable -/
def k5 : Class := { plain "java/io/Serializable" (some 0) with
  accessFlags := 1537
  interfaces := #[]
  cf := some (fileOf pool5 2 #[] #[] 1537 4 #[] #[])
  fields := #[]
  methods := #[]
  instanceTypes := #[]
  staticTypes := #[]
  resolved := Array.replicate 8 none
  statics := none }

/-- the primitive byte -/
def k6 : Class := { plain "byte" none with kind := .primitive 'B', accessFlags := 0x411 }
/-- [B -/
def k7 : Class := { plain "[B" (some 0) with kind := .array 6 .byte, interfaces := #[4, 5], accessFlags := 1041 }

/-- the primitive int -/
def k8 : Class := { plain "int" none with kind := .primitive 'I', accessFlags := 0x411 }
/-- [I -/
def k9 : Class := { plain "[I" (some 0) with kind := .array 8 .int, interfaces := #[4, 5], accessFlags := 1041 }

def heap : Heap := #[]
def classes : Array Class := #[k0, k1, k2, k3, k4, k5, k6, k7, k8, k9]
def interned : List (Array UInt16 × Addr) := []
def slotsUsed : Nat := 0
def theMethod : MethodId := ⟨1, 1⟩
def args0 : Array Value := #[.int 5, .int 6, .int 7, .int 8]
def aboutOver (below : List Frame) : State where
  vm := { classes := classes, interned := interned.toArray }
  heap := heap
  slotsUsed := slotsUsed
  threads := #[{ frames := .invoking theMethod args0 :: below }]
def below0 : List Frame := [.native { method := ⟨0, 0⟩, args := #[] }]
def about1 : State := aboutOver below0
def p0 : Program := .bare "" "" ""
def e0 : Env := launch0.env 0 0 0
theorem w_frames : about1.frames = Frame.invoking theMethod args0 :: below0 := rfl
set_option maxRecDepth 65536 in
theorem w_args : argsFit about1.vm theMethod args0 = true := by decide +kernel
set_option maxRecDepth 65536 in
theorem w_heap : heapFits about1 = true := by decide +kernel
set_option maxRecDepth 65536 in
theorem w_runnable : about1.curStatus? = some .runnable := by decide +kernel
set_option maxRecDepth 65536 in
theorem w_alone : about1.alone = true := by decide +kernel
set_option maxRecDepth 65536 in
theorem w_named : about1.methodNamed? x = some theMethod := by decide +kernel
set_option maxRecDepth 65536 in
theorem w_hears : about1.hears theMethod below0 = true := by decide +kernel
set_option maxRecDepth 65536 in
theorem w_ripe : about1.ripe theMethod args0 below0 = true := by decide +kernel
theorem w_running : about1.status = .running := rfl
set_option maxRecDepth 65536 in
theorem w_room : about1.hasRoom e0.platform room_1 = true :=
  launch0.hasRoom_least _ room_1 (by decide +kernel) (by decide +kernel) (by decide +kernel) (by decide +kernel) (by decide +kernel) (by decide +kernel)
theorem allAtoms_all (ts : List Jvm.Cond) (a : Array Jvm.Value) (st : Jvm.State) : (allAtoms ts).before a st = ts.all (fun c => c.before a st) := by
  induction ts with
  | nil => rfl
  | cons c t ih =>
    show (Jvm.Cond.and c (allAtoms t)).before a st = _
    rw [Jvm.Cond.before_and, ih, List.all_cons]
def words1 : List Jvm.Cond := Jvm.Cond.code x code maxLocals ret :: tables_1
/-- a 'code' word, met by the world's own term for the bytes: nothing is compared byte by byte -/
theorem code_word {y : MethodName} {bytes : ByteArray} {mx : Nat} {rt : Option FieldType} {a : Array Value} {s : State} {m : MethodId} {meth : Method} {c : Code} (h1 : s.methodNamed? y = some m) (h2 : s.vm.method? m = some meth) (h3 : meth.code = some c) (h4 : c.code = bytes)
    (h5 : (c.maxLocals == mx && c.exceptionTable.isEmpty && decide (c.maxStack ≤ mostOperands) && decide (meth.sig.returnType = rt) && !meth.locks && decide (parseMethodDescriptor y.desc = some meth.sig)) = true) : (Jvm.Cond.code y bytes mx rt).before a s = true := by
  simp only [Bool.and_eq_true, beq_iff_eq, Bool.not_eq_true', decide_eq_true_eq] at h5
  obtain ⟨⟨⟨⟨⟨g1, g2⟩, g3⟩, g4⟩, g5⟩, g6⟩ := h5
  simp [Cond.before, Cond.holds, Cond.value, h1, h2, h3, h4, g1, g2, g3, g4, g5, g6]
def isCode : Jvm.Cond → Bool
  | .code _ _ _ _ => true
  | _ => false
theorem all_split {L : List Jvm.Cond} {P : Jvm.Cond → Bool} (h1 : L.all (fun c => isCode c || P c) = true) (h2 : ∀ c ∈ L.filter isCode, P c = true) : L.all P = true := by
  refine List.all_eq_true.mpr fun c hc => ?_
  have h := List.all_eq_true.mp h1 c hc
  rcases Bool.eq_false_or_eq_true (isCode c) with hi | hi
  · exact h2 c (List.mem_filter.mpr ⟨hc, hi⟩)
  · simpa [hi] using h
set_option maxRecDepth 65536 in
theorem w_c0 : (Jvm.Cond.code x code maxLocals ret).before args0 about1 = true := code_word (m := ⟨1, 1⟩) (meth := k1m1) (c := k1c1) (by decide +kernel) rfl rfl rfl (by decide +kernel)
set_option maxRecDepth 65536 in
theorem w_c1 : (Jvm.Cond.code ({ cls := "com/example/treeline/treeline/Node", name := "<init>", desc := "(Ljava/lang/Object;Ljava/lang/Object;)V" } : Jvm.MethodName) prog_5_method_1_code (3 : Nat) (Option.none : Option Jvm.ClassFile.FieldType)).before args0 about1 = true := code_word (m := ⟨3, 0⟩) (meth := k3m0) (c := k3c0) (by decide +kernel) rfl rfl rfl (by decide +kernel)
set_option maxRecDepth 65536 in
theorem w_c2 : (Jvm.Cond.code ({ cls := "java/lang/Object", name := "<init>", desc := "()V" } : Jvm.MethodName) object_method_1_code (1 : Nat) (Option.none : Option Jvm.ClassFile.FieldType)).before args0 about1 = true := code_word (m := ⟨0, 0⟩) (meth := k0m0) (c := k0c0) (by decide +kernel) rfl rfl rfl (by decide +kernel)
set_option maxRecDepth 65536 in
theorem w_c3 : (Jvm.Cond.code ({ cls := "com/example/treeline/treeline/Node", name := "link", desc := "(Lcom/example/treeline/treeline/Node;Lcom/example/treeline/treeline/Node;I)V" } : Jvm.MethodName) prog_5_method_2_code (4 : Nat) (Option.none : Option Jvm.ClassFile.FieldType)).before args0 about1 = true := code_word (m := ⟨3, 1⟩) (meth := k3m1) (c := k3c1) (by decide +kernel) rfl rfl rfl (by decide +kernel)
set_option maxRecDepth 65536 in
theorem w_c4 : (Jvm.Cond.code ({ cls := "com/example/treeline/treeline/Node", name := "linkChildren", desc := "(Lcom/example/treeline/treeline/Node;Lcom/example/treeline/treeline/Node;)V" } : Jvm.MethodName) prog_5_method_4_code (3 : Nat) (Option.none : Option Jvm.ClassFile.FieldType)).before args0 about1 = true := code_word (m := ⟨3, 2⟩) (meth := k3m2) (c := k3c2) (by decide +kernel) rfl rfl rfl (by decide +kernel)
set_option maxRecDepth 65536 in
theorem w_c5 : (Jvm.Cond.code ({ cls := "com/example/treeline/treeline/Node", name := "size", desc := "(Lcom/example/treeline/treeline/Node;)I" } : Jvm.MethodName) prog_5_method_14_code (1 : Nat) (Option.some Jvm.ClassFile.FieldType.int)).before args0 about1 = true := code_word (m := ⟨3, 4⟩) (meth := k3m4) (c := k3c4) (by decide +kernel) rfl rfl rfl (by decide +kernel)
set_option maxRecDepth 65536 in
theorem w_c6 : (Jvm.Cond.code ({ cls := "com/example/treeline/treeline/Node", name := "resize", desc := "(I)V" } : Jvm.MethodName) prog_5_method_6_code (2 : Nat) (Option.none : Option Jvm.ClassFile.FieldType)).before args0 about1 = true := code_word (m := ⟨3, 3⟩) (meth := k3m3) (c := k3c3) (by decide +kernel) rfl rfl rfl (by decide +kernel)
set_option maxRecDepth 65536 in
theorem w_c7 : (Jvm.Cond.code ({ cls := "com/example/treeline/treeline/Node", name := "height", desc := "(Lcom/example/treeline/treeline/Node;I)I" } : Jvm.MethodName) prog_5_method_15_code (2 : Nat) (Option.some Jvm.ClassFile.FieldType.int)).before args0 about1 = true := code_word (m := ⟨3, 5⟩) (meth := k3m5) (c := k3c5) (by decide +kernel) rfl rfl rfl (by decide +kernel)
def codes1 : List Jvm.Cond := [Jvm.Cond.code x code maxLocals ret, Jvm.Cond.code ({ cls := "com/example/treeline/treeline/Node", name := "<init>", desc := "(Ljava/lang/Object;Ljava/lang/Object;)V" } : Jvm.MethodName) prog_5_method_1_code (3 : Nat) (Option.none : Option Jvm.ClassFile.FieldType), Jvm.Cond.code ({ cls := "java/lang/Object", name := "<init>", desc := "()V" } : Jvm.MethodName) object_method_1_code (1 : Nat) (Option.none : Option Jvm.ClassFile.FieldType), Jvm.Cond.code ({ cls := "com/example/treeline/treeline/Node", name := "link", desc := "(Lcom/example/treeline/treeline/Node;Lcom/example/treeline/treeline/Node;I)V" } : Jvm.MethodName) prog_5_method_2_code (4 : Nat) (Option.none : Option Jvm.ClassFile.FieldType), Jvm.Cond.code ({ cls := "com/example/treeline/treeline/Node", name := "linkChildren", desc := "(Lcom/example/treeline/treeline/Node;Lcom/example/treeline/treeline/Node;)V" } : Jvm.MethodName) prog_5_method_4_code (3 : Nat) (Option.none : Option Jvm.ClassFile.FieldType), Jvm.Cond.code ({ cls := "com/example/treeline/treeline/Node", name := "size", desc := "(Lcom/example/treeline/treeline/Node;)I" } : Jvm.MethodName) prog_5_method_14_code (1 : Nat) (Option.some Jvm.ClassFile.FieldType.int), Jvm.Cond.code ({ cls := "com/example/treeline/treeline/Node", name := "resize", desc := "(I)V" } : Jvm.MethodName) prog_5_method_6_code (2 : Nat) (Option.none : Option Jvm.ClassFile.FieldType), Jvm.Cond.code ({ cls := "com/example/treeline/treeline/Node", name := "height", desc := "(Lcom/example/treeline/treeline/Node;I)I" } : Jvm.MethodName) prog_5_method_15_code (2 : Nat) (Option.some Jvm.ClassFile.FieldType.int)]
set_option maxRecDepth 65536 in
theorem codes_eq : words1.filter isCode = codes1 := rfl
theorem w_codes : ∀ c ∈ words1.filter isCode, c.before args0 about1 = true := by
  rw [codes_eq]
  intro c hc
  simp only [codes1, List.mem_cons, List.not_mem_nil, or_false] at hc
  rcases hc with rfl | rfl | rfl | rfl | rfl | rfl | rfl | rfl
  · exact w_c0
  · exact w_c1
  · exact w_c2
  · exact w_c3
  · exact w_c4
  · exact w_c5
  · exact w_c6
  · exact w_c7
set_option maxRecDepth 65536 in
theorem w_t1 : (words1.take 24).all (fun c => isCode c || c.before args0 about1) = true := by decide +kernel
set_option maxRecDepth 65536 in
theorem w_t2 : (words1.drop 24).all (fun c => isCode c || c.before args0 about1) = true := by decide +kernel
theorem w_tables : (allAtoms (Jvm.Cond.code x code maxLocals ret :: tables_1)).before args0 about1 = true := by
  rw [allAtoms_all]
  show words1.all (fun c => c.before args0 about1) = true
  refine all_split ?_ w_codes
  rw [← List.take_append_drop 24 words1, List.all_append, w_t1, w_t2]
  rfl
set_option maxRecDepth 65536 in
theorem w_case : (Jvm.Cond.and given_1 narrow_1).before args0 about1 = true := by decide +kernel
theorem w_applies : (headSpec (Jvm.Cond.code x code maxLocals ret :: tables_1) room_1).applies x e0.platform about1 = true :=
  (Spec.applies_iff w_frames).mpr ⟨w_running, w_runnable, w_alone, w_named, w_hears, w_ripe, w_room, w_tables⟩
theorem atStart : AtStart classFile x code maxLocals ret World_1 tables_1 room_1 Calls_1 rest_1 Pre_1 launch0 p0 e0 about1 theMethod args0 below0 :=
  ⟨lists_1, trivial, launch0.admits_env _ _ _, launch0.least_env, fairChoices_fair.cas, fairChoices_fair.clock, w_frames, w_args, w_heap, w_applies, trivial, trivial, w_case⟩
end start1
theorem witness_1 : WitnessClaimed_1 := ⟨start1.p0, start1.e0, start1.about1, start1.theMethod, start1.args0, start1.below0, start1.atStart⟩
end Jvm.Pilot.@@N@@
