import JvmDerived
import JvmDerived.Pilot.@@N@@Statement
import JvmDerived.Pilot.@@N@@Code
set_option linter.unusedVariables false
set_option linter.unusedSimpArgs false
namespace Jvm.Pilot.@@N@@
open Jvm Jvm.ClassFile Sem Op Lib Jvm.Free Jvm.Stand Jvm.LawKit Jvm.RoadKit Bundle Jvm.Pilot.@@N@@.Jvm.D
abbrev own_Ends (p : Program) (e : Env) (below : List Frame) (T : State) (g : JFrame) (Q : Outcome → State → Prop) : Prop :=
  ∃ s₂ o, Steps p.tables e below (T.setTop g) s₂ ∧ s₂.status = .running ∧ Ended s₂ below o ∧ Q o s₂
section Own
variable {p : Program} {l : Launch} {e : Env} {R : Room} {s : State} {m : MethodId} {args : Array Value} {below : List Frame} {meth : Method} {c : Code} {T T' : State} {locs : List Loc} {cells slots : Nat}
theorem own_go {g g' : JFrame} {Q : Outcome → State → Prop} (h : ∀ t, Steps p.tables e below (T'.setTop g') t → Steps p.tables e below (T.setTop g) t) (k : own_Ends p e below T' g' Q) : own_Ends p e below T g Q := by
  obtain ⟨s₂, o, h1, h2⟩ := k
  exact ⟨s₂, o, h _ h1, h2⟩
theorem own_start {g g' : JFrame} {Q : Outcome → State → Prop} (h : g = g') (k : own_Ends p e below T g' Q) : own_Ends p e below T g Q := h ▸ k
theorem own_ret (X : Stand p l e R s m args below meth c T locs cells slots) (hlk : meth.locks = false) (hx : p.tables.exec = Jvm.exec) {pc : Nat} {Ls : Array Slot} {w : Value} {t : FieldType} {i : Instr} {rest : List Value} (hret : meth.sig.returnType = some t) (hn : narrow t w = w)
    (hi : (i = .ireturn ∧ (t = .int ∨ t = .boolean ∨ t = .byte ∨ t = .char ∨ t = .short) ∧ ∃ z, w = .int z) ∨ (i = .lreturn ∧ t = .long ∧ ∃ z, w = .long z) ∨ (i = .dreturn ∧ t = .double ∧ ∃ z, w = .double z) ∨ (i = .freturn ∧ t = .float ∧ ∃ z, w = .float z) ∨ (i = .areturn ∧ t.isReference = true ∧ w.isRef = true))
    (hd : decode c.code pc = .ok (i, 1)) {Qv : Option Value → Heap → List Loc → Prop} {C S : Nat} (hq : Qv (some w) T.heap locs) (hc : cells ≤ C) (hs : slots ≤ S) :
    own_Ends p e below T (mkF m pc Ls (w :: rest)) (fun o U' => ∃ v L, o = .returned v ∧ Qv v U'.heap L ∧ FrameEnd s o U' L C S) := by
  obtain ⟨fs, hr, hrun, hended, hW, hsame⟩ := X.leave (v := some w) (fun h => by rw [hret] at h; cases h) hlk
  exact ⟨_, _, retOut X hx hret hn hi hd hr, hrun, hended, _, _, rfl, hq, ⟨_, rfl⟩, hW, hsame.mono hc hs⟩
theorem own_ret0 (X : Stand p l e R s m args below meth c T locs cells slots) (hlk : meth.locks = false) (hx : p.tables.exec = Jvm.exec) {pc : Nat} {Ls : Array Slot} (hret : meth.sig.returnType = none)
    (hd : decode c.code pc = .ok (.return_, 1)) {Qv : Option Value → Heap → List Loc → Prop} {C S : Nat} (hq : Qv none T.heap locs) (hc : cells ≤ C) (hs : slots ≤ S) :
    own_Ends p e below T (mkF m pc Ls []) (fun o U' => ∃ v L, o = .returned v ∧ Qv v U'.heap L ∧ FrameEnd s o U' L C S) := by
  obtain ⟨fs, hr, hrun, hended, hW, hsame⟩ := X.leave (v := none) (fun _ => rfl) hlk
  exact ⟨_, _, X.returnOut hx hret hd hr, hrun, hended, _, _, rfl, hq, ⟨_, rfl⟩, hW, hsame.mono hc hs⟩
theorem own_nr {t : FieldType} {v : Value} (h : v.isRef = true) : narrow t v = v := by cases v <;> first | (cases h; done) | (cases t <;> rfl)
end Own
def own_lb (r : Int32) : Int32 := if r < 128 then 1 else if r < 16384 then 2 else if r < 2097152 then 3 else if r < 268435456 then 4 else 5
def own_u (x : Int32) : Int32 := ((x.toUInt32 >>> ((7 : Int32) &&& 31).toUInt32).toInt32)
theorem own_u_toInt (x : Int32) : (own_u x).toInt = (x.toInt % 4294967296) / 128 := c_iushr x 7 7 (by decide) (by decide)
theorem own_pos (x : Int32) : (0 : Int32) < x ↔ 0 < x.toInt := Int32.lt_iff_toInt_lt
theorem own_l1 (r : Int32) : r < 128 ↔ r.toInt < 128 := Int32.lt_iff_toInt_lt
theorem own_l2 (r : Int32) : r < 16384 ↔ r.toInt < 16384 := Int32.lt_iff_toInt_lt
theorem own_l3 (r : Int32) : r < 2097152 ↔ r.toInt < 2097152 := Int32.lt_iff_toInt_lt
theorem own_l4 (r : Int32) : r < 268435456 ↔ r.toInt < 268435456 := Int32.lt_iff_toInt_lt
theorem own_lb1 {r : Int32} (h0 : 0 ≤ r.toInt) (a : ¬ (0 : Int32) < own_u r) : own_lb r = 1 := by
  have := own_u_toInt r; have := rng32 r
  simp only [own_pos] at a
  rw [own_lb, if_pos]; rw [own_l1]; omega
theorem own_lb2 {r : Int32} (h0 : 0 ≤ r.toInt) (a : (0 : Int32) < own_u r) (b : ¬ (0 : Int32) < own_u (own_u r)) : own_lb r = 2 := by
  have := own_u_toInt r; have := own_u_toInt (own_u r); have := rng32 r
  simp only [own_pos] at a b
  rw [own_lb, if_neg, if_pos] <;> simp only [own_l1, own_l2] <;> omega
theorem own_lb3 {r : Int32} (h0 : 0 ≤ r.toInt) (a : (0 : Int32) < own_u (own_u r)) (b : ¬ (0 : Int32) < own_u (own_u (own_u r))) : own_lb r = 3 := by
  have := own_u_toInt r; have := own_u_toInt (own_u r); have := own_u_toInt (own_u (own_u r)); have := rng32 r
  simp only [own_pos] at a b
  rw [own_lb, if_neg, if_neg, if_pos] <;> simp only [own_l1, own_l2, own_l3] <;> omega
theorem own_lb4 {r : Int32} (h0 : 0 ≤ r.toInt) (a : (0 : Int32) < own_u (own_u (own_u r))) (b : ¬ (0 : Int32) < own_u (own_u (own_u (own_u r)))) : own_lb r = 4 := by
  have := own_u_toInt r; have := own_u_toInt (own_u r); have := own_u_toInt (own_u (own_u r)); have := own_u_toInt (own_u (own_u (own_u r))); have := rng32 r
  simp only [own_pos] at a b
  rw [own_lb, if_neg, if_neg, if_neg, if_pos] <;> simp only [own_l1, own_l2, own_l3, own_l4] <;> omega
theorem own_lb5 {r : Int32} (h0 : 0 ≤ r.toInt) (a : (0 : Int32) < own_u (own_u (own_u (own_u r)))) : own_lb r = 5 := by
  have := own_u_toInt r; have := own_u_toInt (own_u r); have := own_u_toInt (own_u (own_u r)); have := own_u_toInt (own_u (own_u (own_u r))); have := rng32 r
  simp only [own_pos] at a
  rw [own_lb, if_neg, if_neg, if_neg, if_neg] <;> simp only [own_l1, own_l2, own_l3, own_l4] <;> omega
theorem own_no5 {r : Int32} (h0 : 0 ≤ r.toInt) : ¬ (0 : Int32) < own_u (own_u (own_u (own_u (own_u r)))) := by
  have := own_u_toInt r; have := own_u_toInt (own_u r); have := own_u_toInt (own_u (own_u r)); have := own_u_toInt (own_u (own_u (own_u r))); have := own_u_toInt (own_u (own_u (own_u (own_u r)))); have := rng32 r
  simp only [own_pos]; omega

theorem own_d_method_2_code_0 : decode method_2_code 0 = .ok (.iload_n 0, 1) := by decide +kernel
theorem own_d_method_2_code_1 : decode method_2_code 1 = .ok (.sipush 128, 3) := by decide +kernel
theorem own_d_method_2_code_4 : decode method_2_code 4 = .ok (.if_icmp .ge 5, 3) := by decide +kernel
theorem own_d_method_2_code_7 : decode method_2_code 7 = .ok (.iconst 1, 1) := by decide +kernel
theorem own_d_method_2_code_8 : decode method_2_code 8 = .ok (.ireturn, 1) := by decide +kernel
theorem own_d_method_2_code_9 : decode method_2_code 9 = .ok (.iload_n 0, 1) := by decide +kernel
theorem own_d_method_2_code_10 : decode method_2_code 10 = .ok (.sipush 16384, 3) := by decide +kernel
theorem own_d_method_2_code_13 : decode method_2_code 13 = .ok (.if_icmp .ge 5, 3) := by decide +kernel
theorem own_d_method_2_code_16 : decode method_2_code 16 = .ok (.iconst 2, 1) := by decide +kernel
theorem own_d_method_2_code_17 : decode method_2_code 17 = .ok (.ireturn, 1) := by decide +kernel
theorem own_d_method_2_code_18 : decode method_2_code 18 = .ok (.iload_n 0, 1) := by decide +kernel
theorem own_d_method_2_code_19 : decode method_2_code 19 = .ok (.ldc 7, 2) := by decide +kernel
theorem own_d_method_2_code_21 : decode method_2_code 21 = .ok (.if_icmp .ge 5, 3) := by decide +kernel
theorem own_d_method_2_code_24 : decode method_2_code 24 = .ok (.iconst 3, 1) := by decide +kernel
theorem own_d_method_2_code_25 : decode method_2_code 25 = .ok (.ireturn, 1) := by decide +kernel
theorem own_d_method_2_code_26 : decode method_2_code 26 = .ok (.iload_n 0, 1) := by decide +kernel
theorem own_d_method_2_code_27 : decode method_2_code 27 = .ok (.ldc 8, 2) := by decide +kernel
theorem own_d_method_2_code_29 : decode method_2_code 29 = .ok (.if_icmp .ge 5, 3) := by decide +kernel
theorem own_d_method_2_code_32 : decode method_2_code 32 = .ok (.iconst 4, 1) := by decide +kernel
theorem own_d_method_2_code_33 : decode method_2_code 33 = .ok (.ireturn, 1) := by decide +kernel
theorem own_d_method_2_code_34 : decode method_2_code 34 = .ok (.iconst 5, 1) := by decide +kernel
theorem own_d_method_2_code_35 : decode method_2_code 35 = .ok (.ireturn, 1) := by decide +kernel
def Q_own_len (p0 : Int32) (h0 : Heap) (n0 : Nat) (v : Option Value) (h : Heap) (L : List Loc) : Prop := v = some (.int (own_lb p0)) ∧ L = [] ∧ h = h0
set_option maxRecDepth 65536 in
set_option maxHeartbeats 40000000 in
theorem own_len (l : Launch) (Z : State) (a0 : Array Value) (hw : ∀ d ∈ tables_1, d.before a0 Z = true) (ws : List Jvm.Cond) (p0 : Int32) (h0 : Heap) (n0 : Nat) (Z0 : n0 ≤ h0.size)  :
    MetFree l (⟨"com/example/bridger/bridger/mqtt/PacketSizePinLaw", "lengthBytes", "(I)I"⟩ : MethodName) (head1 (Jvm.Cond.code (⟨"com/example/bridger/bridger/mqtt/PacketSizePinLaw", "lengthBytes", "(I)I"⟩ : MethodName) method_2_code 1 (some .int) :: ws) ({ frames := 0, cells := 0, slots := 0, locals := 0 } : Room)) (fun au Uu => au = #[(.int p0)] ∧ Z.Warmed39 Uu.vm ∧ Uu.heap = h0) (fun _ _ _ _ _ => True) (fun _ Uu ou Uw => ∃ vu Lu, ou = .returned vu ∧ Q_own_len p0 h0 n0 vu Uw.heap Lu ∧ FrameEnd Uu ou Uw Lu ({ frames := 0, cells := 0, slots := 0, locals := 0 } : Room).cells ({ frames := 0, cells := 0, slots := 0, locals := 0 } : Room).slots) := by
  refine MetFree.of_bodySF (plainFor_of_name (by first | (simp [plainName, overriddenIn]; done) | decide +kernel)) hisR ?_
  intro p e s m args below meth c s₁ Bd hml0 hP hK
  obtain ⟨rfl, hZ, hh⟩ := hP
  have hx := Bd.exec
  have hby := Bd.bytes
  have hlk := Bd.notSynchronized
  have hml : c.maxLocals = 1 := hml0
  have hown : s.vm.findClass "com/example/bridger/bridger/mqtt/PacketSizePinLaw" = some m.cls := findClass_of_methodNamed Bd.named
  have hnm := (name_of_methodNamed Bd.named Bd.method).1
  have X0 : Stand p l e ({ frames := 0, cells := 0, slots := 0, locals := 0 } : Room) s m #[(.int p0)] below meth c s₁ [] 0 0 := Stand.of_body Bd
  have e0 : s₁.heap = h0 := by rw [← hh, Bd.state]; rfl
  have N0 := Fr.nil n0
  show own_Ends p e below s₁ (entryFrame m #[(.int p0)] 1) (fun ou Uw => ∃ vu Lu, ou = .returned vu ∧ Q_own_len p0 h0 n0 vu Uw.heap Lu ∧ FrameEnd s ou Uw Lu ({ frames := 0, cells := 0, slots := 0, locals := 0 } : Room).cells ({ frames := 0, cells := 0, slots := 0, locals := 0 } : Room).slots)
  refine own_start (g' := (mkF m 0 #[iv p0] [])) (by first | (simp [entryFrame, mkF, argsToLocals, Value.category, iv, rv]; done) | rfl) ?_
  refine own_go (T' := s₁) (g' := (mkF m 1 #[iv p0] [(.int p0)])) (fun t k => XS.iloadN X0.here hx rfl (hb hby own_d_method_2_code_0) rfl k) ?_
  refine own_go (T' := s₁) (g' := (mkF m 4 #[iv p0] [(.int (128 : Int32)), (.int p0)])) (fun t k => XS.sipush X0.here hx rfl (hb hby own_d_method_2_code_1) k) ?_
  by_cases hc1 : p0 < (128 : Int32)
  · refine own_go (T' := s₁) (g' := (mkF m 7 #[iv p0] [])) (fun t k => XS.icmpNo X0.here hx rfl (hb hby own_d_method_2_code_4) rfl (tlt hc1).2.1 k) ?_
    refine own_go (T' := s₁) (g' := (mkF m 8 #[iv p0] [(.int (1 : Int32))])) (fun t k => XS.iconst X0.here hx rfl (hb hby own_d_method_2_code_7) k) ?_
    exact own_ret X0 hlk hx Bd.returns rfl (Or.inl ⟨rfl, Or.inl rfl, _, rfl⟩) (hb hby own_d_method_2_code_8) ⟨by simp [own_lb, hc1], rfl, e0⟩ (by decide) (by decide)
  · refine own_go (T' := s₁) (g' := (mkF m 9 #[iv p0] [])) (fun t k => XS.icmpYes X0.here hx rfl (pc0 := 4) (pc' := 9) rfl (hb hby own_d_method_2_code_4) rfl (flt hc1).2.1 (by decide) (by decide) k) ?_
    refine own_go (T' := s₁) (g' := (mkF m 10 #[iv p0] [(.int p0)])) (fun t k => XS.iloadN X0.here hx rfl (hb hby own_d_method_2_code_9) rfl k) ?_
    refine own_go (T' := s₁) (g' := (mkF m 13 #[iv p0] [(.int (16384 : Int32)), (.int p0)])) (fun t k => XS.sipush X0.here hx rfl (hb hby own_d_method_2_code_10) k) ?_
    by_cases hc2 : p0 < (16384 : Int32)
    · refine own_go (T' := s₁) (g' := (mkF m 16 #[iv p0] [])) (fun t k => XS.icmpNo X0.here hx rfl (hb hby own_d_method_2_code_13) rfl (tlt hc2).2.1 k) ?_
      refine own_go (T' := s₁) (g' := (mkF m 17 #[iv p0] [(.int (2 : Int32))])) (fun t k => XS.iconst X0.here hx rfl (hb hby own_d_method_2_code_16) k) ?_
      exact own_ret X0 hlk hx Bd.returns rfl (Or.inl ⟨rfl, Or.inl rfl, _, rfl⟩) (hb hby own_d_method_2_code_17) ⟨by simp [own_lb, hc1, hc2], rfl, e0⟩ (by decide) (by decide)
    · refine own_go (T' := s₁) (g' := (mkF m 18 #[iv p0] [])) (fun t k => XS.icmpYes X0.here hx rfl (pc0 := 13) (pc' := 18) rfl (hb hby own_d_method_2_code_13) rfl (flt hc2).2.1 (by decide) (by decide) k) ?_
      refine own_go (T' := s₁) (g' := (mkF m 19 #[iv p0] [(.int p0)])) (fun t k => XS.iloadN X0.here hx rfl (hb hby own_d_method_2_code_18) rfl k) ?_
      refine own_go (T' := s₁) (g' := (mkF m 21 #[iv p0] [(.int (2097152 : Int32)), (.int p0)])) (fun t k => X0.ldcInt hx hown (mvT hZ (hw _ (List.mem_of_getElem? (i := 9) rfl))) (g := (mkF m 19 #[iv p0] [(.int p0)])) rfl (hb hby own_d_method_2_code_19) _ k) ?_
      by_cases hc3 : p0 < (2097152 : Int32)
      · refine own_go (T' := s₁) (g' := (mkF m 24 #[iv p0] [])) (fun t k => XS.icmpNo X0.here hx rfl (hb hby own_d_method_2_code_21) rfl (tlt hc3).2.1 k) ?_
        refine own_go (T' := s₁) (g' := (mkF m 25 #[iv p0] [(.int (3 : Int32))])) (fun t k => XS.iconst X0.here hx rfl (hb hby own_d_method_2_code_24) k) ?_
        exact own_ret X0 hlk hx Bd.returns rfl (Or.inl ⟨rfl, Or.inl rfl, _, rfl⟩) (hb hby own_d_method_2_code_25) ⟨by simp [own_lb, hc1, hc2, hc3], rfl, e0⟩ (by decide) (by decide)
      · refine own_go (T' := s₁) (g' := (mkF m 26 #[iv p0] [])) (fun t k => XS.icmpYes X0.here hx rfl (pc0 := 21) (pc' := 26) rfl (hb hby own_d_method_2_code_21) rfl (flt hc3).2.1 (by decide) (by decide) k) ?_
        refine own_go (T' := s₁) (g' := (mkF m 27 #[iv p0] [(.int p0)])) (fun t k => XS.iloadN X0.here hx rfl (hb hby own_d_method_2_code_26) rfl k) ?_
        refine own_go (T' := s₁) (g' := (mkF m 29 #[iv p0] [(.int (268435456 : Int32)), (.int p0)])) (fun t k => X0.ldcInt hx hown (mvT hZ (hw _ (List.mem_of_getElem? (i := 10) rfl))) (g := (mkF m 27 #[iv p0] [(.int p0)])) rfl (hb hby own_d_method_2_code_27) _ k) ?_
        by_cases hc4 : p0 < (268435456 : Int32)
        · refine own_go (T' := s₁) (g' := (mkF m 32 #[iv p0] [])) (fun t k => XS.icmpNo X0.here hx rfl (hb hby own_d_method_2_code_29) rfl (tlt hc4).2.1 k) ?_
          refine own_go (T' := s₁) (g' := (mkF m 33 #[iv p0] [(.int (4 : Int32))])) (fun t k => XS.iconst X0.here hx rfl (hb hby own_d_method_2_code_32) k) ?_
          exact own_ret X0 hlk hx Bd.returns rfl (Or.inl ⟨rfl, Or.inl rfl, _, rfl⟩) (hb hby own_d_method_2_code_33) ⟨by simp [own_lb, hc1, hc2, hc3, hc4], rfl, e0⟩ (by decide) (by decide)
        · refine own_go (T' := s₁) (g' := (mkF m 34 #[iv p0] [])) (fun t k => XS.icmpYes X0.here hx rfl (pc0 := 29) (pc' := 34) rfl (hb hby own_d_method_2_code_29) rfl (flt hc4).2.1 (by decide) (by decide) k) ?_
          refine own_go (T' := s₁) (g' := (mkF m 35 #[iv p0] [(.int (5 : Int32))])) (fun t k => XS.iconst X0.here hx rfl (hb hby own_d_method_2_code_34) k) ?_
          exact own_ret X0 hlk hx Bd.returns rfl (Or.inl ⟨rfl, Or.inl rfl, _, rfl⟩) (hb hby own_d_method_2_code_35) ⟨by simp [own_lb, hc1, hc2, hc3, hc4], rfl, e0⟩ (by decide) (by decide)

theorem own_d_prog_87_method_9_code_0 : decode prog_87_method_9_code 0 = .ok (.iconst 1, 1) := by decide +kernel
theorem own_d_prog_87_method_9_code_1 : decode prog_87_method_9_code 1 = .ok (.istore_n 1, 1) := by decide +kernel
theorem own_d_prog_87_method_9_code_2 : decode prog_87_method_9_code 2 = .ok (.iload_n 0, 1) := by decide +kernel
theorem own_d_prog_87_method_9_code_3 : decode prog_87_method_9_code 3 = .ok (.bipush 7, 2) := by decide +kernel
theorem own_d_prog_87_method_9_code_5 : decode prog_87_method_9_code 5 = .ok (.iushr, 1) := by decide +kernel
theorem own_d_prog_87_method_9_code_6 : decode prog_87_method_9_code 6 = .ok (.istore_n 2, 1) := by decide +kernel
theorem own_d_prog_87_method_9_code_7 : decode prog_87_method_9_code 7 = .ok (.iload_n 2, 1) := by decide +kernel
theorem own_d_prog_87_method_9_code_8 : decode prog_87_method_9_code 8 = .ok (.ifCond .le 14, 3) := by decide +kernel
theorem own_d_prog_87_method_9_code_11 : decode prog_87_method_9_code 11 = .ok (.iinc 1 1, 3) := by decide +kernel
theorem own_d_prog_87_method_9_code_14 : decode prog_87_method_9_code 14 = .ok (.iload_n 2, 1) := by decide +kernel
theorem own_d_prog_87_method_9_code_15 : decode prog_87_method_9_code 15 = .ok (.bipush 7, 2) := by decide +kernel
theorem own_d_prog_87_method_9_code_17 : decode prog_87_method_9_code 17 = .ok (.iushr, 1) := by decide +kernel
theorem own_d_prog_87_method_9_code_18 : decode prog_87_method_9_code 18 = .ok (.istore_n 2, 1) := by decide +kernel
theorem own_d_prog_87_method_9_code_19 : decode prog_87_method_9_code 19 = .ok (.goto (-12), 3) := by decide +kernel
theorem own_d_prog_87_method_9_code_22 : decode prog_87_method_9_code 22 = .ok (.iconst 1, 1) := by decide +kernel
theorem own_d_prog_87_method_9_code_23 : decode prog_87_method_9_code 23 = .ok (.iload_n 1, 1) := by decide +kernel
theorem own_d_prog_87_method_9_code_24 : decode prog_87_method_9_code 24 = .ok (.iadd, 1) := by decide +kernel
theorem own_d_prog_87_method_9_code_25 : decode prog_87_method_9_code 25 = .ok (.iload_n 0, 1) := by decide +kernel
theorem own_d_prog_87_method_9_code_26 : decode prog_87_method_9_code 26 = .ok (.iadd, 1) := by decide +kernel
theorem own_d_prog_87_method_9_code_27 : decode prog_87_method_9_code 27 = .ok (.ireturn, 1) := by decide +kernel
def Q_own_size (p0 : Int32) (h0 : Heap) (n0 : Nat) (v : Option Value) (h : Heap) (L : List Loc) : Prop := v = some (.int (((1 : Int32) + own_lb p0) + p0)) ∧ L = [] ∧ h = h0
set_option maxRecDepth 65536 in
set_option maxHeartbeats 40000000 in
theorem own_size (l : Launch) (Z : State) (a0 : Array Value) (hw : ∀ d ∈ tables_1, d.before a0 Z = true) (ws : List Jvm.Cond) (p0 : Int32) (h0 : Heap) (n0 : Nat) (Z0 : n0 ≤ h0.size) (hr : 0 ≤ p0.toInt) :
    MetFree l (⟨"com/example/bridger/bridger/mqtt/Packet", "size", "(I)I"⟩ : MethodName) (head1 (Jvm.Cond.code (⟨"com/example/bridger/bridger/mqtt/Packet", "size", "(I)I"⟩ : MethodName) prog_87_method_9_code 3 (some .int) :: ws) ({ frames := 0, cells := 0, slots := 0, locals := 0 } : Room)) (fun au Uu => au = #[(.int p0)] ∧ Z.Warmed39 Uu.vm ∧ Uu.heap = h0) (fun _ _ _ _ _ => True) (fun _ Uu ou Uw => ∃ vu Lu, ou = .returned vu ∧ Q_own_size p0 h0 n0 vu Uw.heap Lu ∧ FrameEnd Uu ou Uw Lu ({ frames := 0, cells := 0, slots := 0, locals := 0 } : Room).cells ({ frames := 0, cells := 0, slots := 0, locals := 0 } : Room).slots) := by
  refine MetFree.of_bodySF (plainFor_of_name (by first | (simp [plainName, overriddenIn]; done) | decide +kernel)) hisR ?_
  intro p e s m args below meth c s₁ Bd hml0 hP hK
  obtain ⟨rfl, hZ, hh⟩ := hP
  have hx := Bd.exec
  have hby := Bd.bytes
  have hlk := Bd.notSynchronized
  have hml : c.maxLocals = 3 := hml0
  have hown : s.vm.findClass "com/example/bridger/bridger/mqtt/Packet" = some m.cls := findClass_of_methodNamed Bd.named
  have hnm := (name_of_methodNamed Bd.named Bd.method).1
  have X0 : Stand p l e ({ frames := 0, cells := 0, slots := 0, locals := 0 } : Room) s m #[(.int p0)] below meth c s₁ [] 0 0 := Stand.of_body Bd
  have e0 : s₁.heap = h0 := by rw [← hh, Bd.state]; rfl
  have N0 := Fr.nil n0
  show own_Ends p e below s₁ (entryFrame m #[(.int p0)] 3) (fun ou Uw => ∃ vu Lu, ou = .returned vu ∧ Q_own_size p0 h0 n0 vu Uw.heap Lu ∧ FrameEnd s ou Uw Lu ({ frames := 0, cells := 0, slots := 0, locals := 0 } : Room).cells ({ frames := 0, cells := 0, slots := 0, locals := 0 } : Room).slots)
  refine own_start (g' := (mkF m 0 #[iv p0, .unset, .unset] [])) (by first | (simp [entryFrame, mkF, argsToLocals, Value.category, iv, rv]; done) | rfl) ?_
  refine own_go (T' := s₁) (g' := (mkF m 1 #[iv p0, .unset, .unset] [(.int (1 : Int32))])) (fun t k => XS.iconst X0.here hx rfl (hb hby own_d_prog_87_method_9_code_0) k) ?_
  refine own_go (T' := s₁) (g' := (mkF m 2 #[iv p0, iv (1 : Int32), .unset] [])) (fun t k => XS.istoreN X0.here hx rfl (hb hby own_d_prog_87_method_9_code_1) rfl (l' := #[iv p0, iv (1 : Int32), .unset]) rfl k) ?_
  refine own_go (T' := s₁) (g' := (mkF m 3 #[iv p0, iv (1 : Int32), .unset] [(.int p0)])) (fun t k => XS.iloadN X0.here hx rfl (hb hby own_d_prog_87_method_9_code_2) rfl k) ?_
  refine own_go (T' := s₁) (g' := (mkF m 5 #[iv p0, iv (1 : Int32), .unset] [(.int (7 : Int32)), (.int p0)])) (fun t k => XS.bipush X0.here hx rfl (hb hby own_d_prog_87_method_9_code_3) k) ?_
  refine own_go (T' := s₁) (g' := (mkF m 6 #[iv p0, iv (1 : Int32), .unset] [(.int ((p0.toUInt32 >>> ((7 : Int32) &&& 31).toUInt32).toInt32))])) (fun t k => XS.iushr X0.here hx rfl (hb hby own_d_prog_87_method_9_code_5) rfl k) ?_
  refine own_go (T' := s₁) (g' := (mkF m 7 #[iv p0, iv (1 : Int32), iv ((p0.toUInt32 >>> ((7 : Int32) &&& 31).toUInt32).toInt32)] [])) (fun t k => XS.istoreN X0.here hx rfl (hb hby own_d_prog_87_method_9_code_6) rfl (l' := #[iv p0, iv (1 : Int32), iv ((p0.toUInt32 >>> ((7 : Int32) &&& 31).toUInt32).toInt32)]) rfl k) ?_
  refine own_go (T' := s₁) (g' := (mkF m 8 #[iv p0, iv (1 : Int32), iv ((p0.toUInt32 >>> ((7 : Int32) &&& 31).toUInt32).toInt32)] [(.int ((p0.toUInt32 >>> ((7 : Int32) &&& 31).toUInt32).toInt32))])) (fun t k => XS.iloadN X0.here hx rfl (hb hby own_d_prog_87_method_9_code_7) rfl k) ?_
  by_cases hc5 : (0 : Int32) < ((p0.toUInt32 >>> ((7 : Int32) &&& 31).toUInt32).toInt32)
  · refine own_go (T' := s₁) (g' := (mkF m 11 #[iv p0, iv (1 : Int32), iv ((p0.toUInt32 >>> ((7 : Int32) &&& 31).toUInt32).toInt32)] [])) (fun t k => XS.ifNo X0.here hx rfl (hb hby own_d_prog_87_method_9_code_8) rfl ((if0 _ _).trans (tlt hc5).2.2.2) k) ?_
    refine own_go (T' := s₁) (g' := (mkF m 14 #[iv p0, iv ((1 : Int32) + (1 : Int32)), iv ((p0.toUInt32 >>> ((7 : Int32) &&& 31).toUInt32).toInt32)] [])) (fun t k => XS.iinc X0.here hx rfl (hb hby own_d_prog_87_method_9_code_11) rfl (l' := #[iv p0, iv ((1 : Int32) + (1 : Int32)), iv ((p0.toUInt32 >>> ((7 : Int32) &&& 31).toUInt32).toInt32)]) rfl k) ?_
    refine own_go (T' := s₁) (g' := (mkF m 15 #[iv p0, iv ((1 : Int32) + (1 : Int32)), iv ((p0.toUInt32 >>> ((7 : Int32) &&& 31).toUInt32).toInt32)] [(.int ((p0.toUInt32 >>> ((7 : Int32) &&& 31).toUInt32).toInt32))])) (fun t k => XS.iloadN X0.here hx rfl (hb hby own_d_prog_87_method_9_code_14) rfl k) ?_
    refine own_go (T' := s₁) (g' := (mkF m 17 #[iv p0, iv ((1 : Int32) + (1 : Int32)), iv ((p0.toUInt32 >>> ((7 : Int32) &&& 31).toUInt32).toInt32)] [(.int (7 : Int32)), (.int ((p0.toUInt32 >>> ((7 : Int32) &&& 31).toUInt32).toInt32))])) (fun t k => XS.bipush X0.here hx rfl (hb hby own_d_prog_87_method_9_code_15) k) ?_
    refine own_go (T' := s₁) (g' := (mkF m 18 #[iv p0, iv ((1 : Int32) + (1 : Int32)), iv ((p0.toUInt32 >>> ((7 : Int32) &&& 31).toUInt32).toInt32)] [(.int ((((p0.toUInt32 >>> ((7 : Int32) &&& 31).toUInt32).toInt32).toUInt32 >>> ((7 : Int32) &&& 31).toUInt32).toInt32))])) (fun t k => XS.iushr X0.here hx rfl (hb hby own_d_prog_87_method_9_code_17) rfl k) ?_
    refine own_go (T' := s₁) (g' := (mkF m 19 #[iv p0, iv ((1 : Int32) + (1 : Int32)), iv ((((p0.toUInt32 >>> ((7 : Int32) &&& 31).toUInt32).toInt32).toUInt32 >>> ((7 : Int32) &&& 31).toUInt32).toInt32)] [])) (fun t k => XS.istoreN X0.here hx rfl (hb hby own_d_prog_87_method_9_code_18) rfl (l' := #[iv p0, iv ((1 : Int32) + (1 : Int32)), iv ((((p0.toUInt32 >>> ((7 : Int32) &&& 31).toUInt32).toInt32).toUInt32 >>> ((7 : Int32) &&& 31).toUInt32).toInt32)]) rfl k) ?_
    refine own_go (T' := s₁) (g' := (mkF m 7 #[iv p0, iv ((1 : Int32) + (1 : Int32)), iv ((((p0.toUInt32 >>> ((7 : Int32) &&& 31).toUInt32).toInt32).toUInt32 >>> ((7 : Int32) &&& 31).toUInt32).toInt32)] [])) (fun t k => XS.goto X0.here hx rfl (pc0 := 19) (pc' := 7) rfl (hb hby own_d_prog_87_method_9_code_19) (by decide) (by decide) k) ?_
    refine own_go (T' := s₁) (g' := (mkF m 8 #[iv p0, iv ((1 : Int32) + (1 : Int32)), iv ((((p0.toUInt32 >>> ((7 : Int32) &&& 31).toUInt32).toInt32).toUInt32 >>> ((7 : Int32) &&& 31).toUInt32).toInt32)] [(.int ((((p0.toUInt32 >>> ((7 : Int32) &&& 31).toUInt32).toInt32).toUInt32 >>> ((7 : Int32) &&& 31).toUInt32).toInt32))])) (fun t k => XS.iloadN X0.here hx rfl (hb hby own_d_prog_87_method_9_code_7) rfl k) ?_
    by_cases hc6 : (0 : Int32) < ((((p0.toUInt32 >>> ((7 : Int32) &&& 31).toUInt32).toInt32).toUInt32 >>> ((7 : Int32) &&& 31).toUInt32).toInt32)
    · refine own_go (T' := s₁) (g' := (mkF m 11 #[iv p0, iv ((1 : Int32) + (1 : Int32)), iv ((((p0.toUInt32 >>> ((7 : Int32) &&& 31).toUInt32).toInt32).toUInt32 >>> ((7 : Int32) &&& 31).toUInt32).toInt32)] [])) (fun t k => XS.ifNo X0.here hx rfl (hb hby own_d_prog_87_method_9_code_8) rfl ((if0 _ _).trans (tlt hc6).2.2.2) k) ?_
      refine own_go (T' := s₁) (g' := (mkF m 14 #[iv p0, iv (((1 : Int32) + (1 : Int32)) + (1 : Int32)), iv ((((p0.toUInt32 >>> ((7 : Int32) &&& 31).toUInt32).toInt32).toUInt32 >>> ((7 : Int32) &&& 31).toUInt32).toInt32)] [])) (fun t k => XS.iinc X0.here hx rfl (hb hby own_d_prog_87_method_9_code_11) rfl (l' := #[iv p0, iv (((1 : Int32) + (1 : Int32)) + (1 : Int32)), iv ((((p0.toUInt32 >>> ((7 : Int32) &&& 31).toUInt32).toInt32).toUInt32 >>> ((7 : Int32) &&& 31).toUInt32).toInt32)]) rfl k) ?_
      refine own_go (T' := s₁) (g' := (mkF m 15 #[iv p0, iv (((1 : Int32) + (1 : Int32)) + (1 : Int32)), iv ((((p0.toUInt32 >>> ((7 : Int32) &&& 31).toUInt32).toInt32).toUInt32 >>> ((7 : Int32) &&& 31).toUInt32).toInt32)] [(.int ((((p0.toUInt32 >>> ((7 : Int32) &&& 31).toUInt32).toInt32).toUInt32 >>> ((7 : Int32) &&& 31).toUInt32).toInt32))])) (fun t k => XS.iloadN X0.here hx rfl (hb hby own_d_prog_87_method_9_code_14) rfl k) ?_
      refine own_go (T' := s₁) (g' := (mkF m 17 #[iv p0, iv (((1 : Int32) + (1 : Int32)) + (1 : Int32)), iv ((((p0.toUInt32 >>> ((7 : Int32) &&& 31).toUInt32).toInt32).toUInt32 >>> ((7 : Int32) &&& 31).toUInt32).toInt32)] [(.int (7 : Int32)), (.int ((((p0.toUInt32 >>> ((7 : Int32) &&& 31).toUInt32).toInt32).toUInt32 >>> ((7 : Int32) &&& 31).toUInt32).toInt32))])) (fun t k => XS.bipush X0.here hx rfl (hb hby own_d_prog_87_method_9_code_15) k) ?_
      refine own_go (T' := s₁) (g' := (mkF m 18 #[iv p0, iv (((1 : Int32) + (1 : Int32)) + (1 : Int32)), iv ((((p0.toUInt32 >>> ((7 : Int32) &&& 31).toUInt32).toInt32).toUInt32 >>> ((7 : Int32) &&& 31).toUInt32).toInt32)] [(.int ((((((p0.toUInt32 >>> ((7 : Int32) &&& 31).toUInt32).toInt32).toUInt32 >>> ((7 : Int32) &&& 31).toUInt32).toInt32).toUInt32 >>> ((7 : Int32) &&& 31).toUInt32).toInt32))])) (fun t k => XS.iushr X0.here hx rfl (hb hby own_d_prog_87_method_9_code_17) rfl k) ?_
      refine own_go (T' := s₁) (g' := (mkF m 19 #[iv p0, iv (((1 : Int32) + (1 : Int32)) + (1 : Int32)), iv ((((((p0.toUInt32 >>> ((7 : Int32) &&& 31).toUInt32).toInt32).toUInt32 >>> ((7 : Int32) &&& 31).toUInt32).toInt32).toUInt32 >>> ((7 : Int32) &&& 31).toUInt32).toInt32)] [])) (fun t k => XS.istoreN X0.here hx rfl (hb hby own_d_prog_87_method_9_code_18) rfl (l' := #[iv p0, iv (((1 : Int32) + (1 : Int32)) + (1 : Int32)), iv ((((((p0.toUInt32 >>> ((7 : Int32) &&& 31).toUInt32).toInt32).toUInt32 >>> ((7 : Int32) &&& 31).toUInt32).toInt32).toUInt32 >>> ((7 : Int32) &&& 31).toUInt32).toInt32)]) rfl k) ?_
      refine own_go (T' := s₁) (g' := (mkF m 7 #[iv p0, iv (((1 : Int32) + (1 : Int32)) + (1 : Int32)), iv ((((((p0.toUInt32 >>> ((7 : Int32) &&& 31).toUInt32).toInt32).toUInt32 >>> ((7 : Int32) &&& 31).toUInt32).toInt32).toUInt32 >>> ((7 : Int32) &&& 31).toUInt32).toInt32)] [])) (fun t k => XS.goto X0.here hx rfl (pc0 := 19) (pc' := 7) rfl (hb hby own_d_prog_87_method_9_code_19) (by decide) (by decide) k) ?_
      refine own_go (T' := s₁) (g' := (mkF m 8 #[iv p0, iv (((1 : Int32) + (1 : Int32)) + (1 : Int32)), iv ((((((p0.toUInt32 >>> ((7 : Int32) &&& 31).toUInt32).toInt32).toUInt32 >>> ((7 : Int32) &&& 31).toUInt32).toInt32).toUInt32 >>> ((7 : Int32) &&& 31).toUInt32).toInt32)] [(.int ((((((p0.toUInt32 >>> ((7 : Int32) &&& 31).toUInt32).toInt32).toUInt32 >>> ((7 : Int32) &&& 31).toUInt32).toInt32).toUInt32 >>> ((7 : Int32) &&& 31).toUInt32).toInt32))])) (fun t k => XS.iloadN X0.here hx rfl (hb hby own_d_prog_87_method_9_code_7) rfl k) ?_
      by_cases hc7 : (0 : Int32) < ((((((p0.toUInt32 >>> ((7 : Int32) &&& 31).toUInt32).toInt32).toUInt32 >>> ((7 : Int32) &&& 31).toUInt32).toInt32).toUInt32 >>> ((7 : Int32) &&& 31).toUInt32).toInt32)
      · refine own_go (T' := s₁) (g' := (mkF m 11 #[iv p0, iv (((1 : Int32) + (1 : Int32)) + (1 : Int32)), iv ((((((p0.toUInt32 >>> ((7 : Int32) &&& 31).toUInt32).toInt32).toUInt32 >>> ((7 : Int32) &&& 31).toUInt32).toInt32).toUInt32 >>> ((7 : Int32) &&& 31).toUInt32).toInt32)] [])) (fun t k => XS.ifNo X0.here hx rfl (hb hby own_d_prog_87_method_9_code_8) rfl ((if0 _ _).trans (tlt hc7).2.2.2) k) ?_
        refine own_go (T' := s₁) (g' := (mkF m 14 #[iv p0, iv ((((1 : Int32) + (1 : Int32)) + (1 : Int32)) + (1 : Int32)), iv ((((((p0.toUInt32 >>> ((7 : Int32) &&& 31).toUInt32).toInt32).toUInt32 >>> ((7 : Int32) &&& 31).toUInt32).toInt32).toUInt32 >>> ((7 : Int32) &&& 31).toUInt32).toInt32)] [])) (fun t k => XS.iinc X0.here hx rfl (hb hby own_d_prog_87_method_9_code_11) rfl (l' := #[iv p0, iv ((((1 : Int32) + (1 : Int32)) + (1 : Int32)) + (1 : Int32)), iv ((((((p0.toUInt32 >>> ((7 : Int32) &&& 31).toUInt32).toInt32).toUInt32 >>> ((7 : Int32) &&& 31).toUInt32).toInt32).toUInt32 >>> ((7 : Int32) &&& 31).toUInt32).toInt32)]) rfl k) ?_
        refine own_go (T' := s₁) (g' := (mkF m 15 #[iv p0, iv ((((1 : Int32) + (1 : Int32)) + (1 : Int32)) + (1 : Int32)), iv ((((((p0.toUInt32 >>> ((7 : Int32) &&& 31).toUInt32).toInt32).toUInt32 >>> ((7 : Int32) &&& 31).toUInt32).toInt32).toUInt32 >>> ((7 : Int32) &&& 31).toUInt32).toInt32)] [(.int ((((((p0.toUInt32 >>> ((7 : Int32) &&& 31).toUInt32).toInt32).toUInt32 >>> ((7 : Int32) &&& 31).toUInt32).toInt32).toUInt32 >>> ((7 : Int32) &&& 31).toUInt32).toInt32))])) (fun t k => XS.iloadN X0.here hx rfl (hb hby own_d_prog_87_method_9_code_14) rfl k) ?_
        refine own_go (T' := s₁) (g' := (mkF m 17 #[iv p0, iv ((((1 : Int32) + (1 : Int32)) + (1 : Int32)) + (1 : Int32)), iv ((((((p0.toUInt32 >>> ((7 : Int32) &&& 31).toUInt32).toInt32).toUInt32 >>> ((7 : Int32) &&& 31).toUInt32).toInt32).toUInt32 >>> ((7 : Int32) &&& 31).toUInt32).toInt32)] [(.int (7 : Int32)), (.int ((((((p0.toUInt32 >>> ((7 : Int32) &&& 31).toUInt32).toInt32).toUInt32 >>> ((7 : Int32) &&& 31).toUInt32).toInt32).toUInt32 >>> ((7 : Int32) &&& 31).toUInt32).toInt32))])) (fun t k => XS.bipush X0.here hx rfl (hb hby own_d_prog_87_method_9_code_15) k) ?_
        refine own_go (T' := s₁) (g' := (mkF m 18 #[iv p0, iv ((((1 : Int32) + (1 : Int32)) + (1 : Int32)) + (1 : Int32)), iv ((((((p0.toUInt32 >>> ((7 : Int32) &&& 31).toUInt32).toInt32).toUInt32 >>> ((7 : Int32) &&& 31).toUInt32).toInt32).toUInt32 >>> ((7 : Int32) &&& 31).toUInt32).toInt32)] [(.int ((((((((p0.toUInt32 >>> ((7 : Int32) &&& 31).toUInt32).toInt32).toUInt32 >>> ((7 : Int32) &&& 31).toUInt32).toInt32).toUInt32 >>> ((7 : Int32) &&& 31).toUInt32).toInt32).toUInt32 >>> ((7 : Int32) &&& 31).toUInt32).toInt32))])) (fun t k => XS.iushr X0.here hx rfl (hb hby own_d_prog_87_method_9_code_17) rfl k) ?_
        refine own_go (T' := s₁) (g' := (mkF m 19 #[iv p0, iv ((((1 : Int32) + (1 : Int32)) + (1 : Int32)) + (1 : Int32)), iv ((((((((p0.toUInt32 >>> ((7 : Int32) &&& 31).toUInt32).toInt32).toUInt32 >>> ((7 : Int32) &&& 31).toUInt32).toInt32).toUInt32 >>> ((7 : Int32) &&& 31).toUInt32).toInt32).toUInt32 >>> ((7 : Int32) &&& 31).toUInt32).toInt32)] [])) (fun t k => XS.istoreN X0.here hx rfl (hb hby own_d_prog_87_method_9_code_18) rfl (l' := #[iv p0, iv ((((1 : Int32) + (1 : Int32)) + (1 : Int32)) + (1 : Int32)), iv ((((((((p0.toUInt32 >>> ((7 : Int32) &&& 31).toUInt32).toInt32).toUInt32 >>> ((7 : Int32) &&& 31).toUInt32).toInt32).toUInt32 >>> ((7 : Int32) &&& 31).toUInt32).toInt32).toUInt32 >>> ((7 : Int32) &&& 31).toUInt32).toInt32)]) rfl k) ?_
        refine own_go (T' := s₁) (g' := (mkF m 7 #[iv p0, iv ((((1 : Int32) + (1 : Int32)) + (1 : Int32)) + (1 : Int32)), iv ((((((((p0.toUInt32 >>> ((7 : Int32) &&& 31).toUInt32).toInt32).toUInt32 >>> ((7 : Int32) &&& 31).toUInt32).toInt32).toUInt32 >>> ((7 : Int32) &&& 31).toUInt32).toInt32).toUInt32 >>> ((7 : Int32) &&& 31).toUInt32).toInt32)] [])) (fun t k => XS.goto X0.here hx rfl (pc0 := 19) (pc' := 7) rfl (hb hby own_d_prog_87_method_9_code_19) (by decide) (by decide) k) ?_
        refine own_go (T' := s₁) (g' := (mkF m 8 #[iv p0, iv ((((1 : Int32) + (1 : Int32)) + (1 : Int32)) + (1 : Int32)), iv ((((((((p0.toUInt32 >>> ((7 : Int32) &&& 31).toUInt32).toInt32).toUInt32 >>> ((7 : Int32) &&& 31).toUInt32).toInt32).toUInt32 >>> ((7 : Int32) &&& 31).toUInt32).toInt32).toUInt32 >>> ((7 : Int32) &&& 31).toUInt32).toInt32)] [(.int ((((((((p0.toUInt32 >>> ((7 : Int32) &&& 31).toUInt32).toInt32).toUInt32 >>> ((7 : Int32) &&& 31).toUInt32).toInt32).toUInt32 >>> ((7 : Int32) &&& 31).toUInt32).toInt32).toUInt32 >>> ((7 : Int32) &&& 31).toUInt32).toInt32))])) (fun t k => XS.iloadN X0.here hx rfl (hb hby own_d_prog_87_method_9_code_7) rfl k) ?_
        by_cases hc8 : (0 : Int32) < ((((((((p0.toUInt32 >>> ((7 : Int32) &&& 31).toUInt32).toInt32).toUInt32 >>> ((7 : Int32) &&& 31).toUInt32).toInt32).toUInt32 >>> ((7 : Int32) &&& 31).toUInt32).toInt32).toUInt32 >>> ((7 : Int32) &&& 31).toUInt32).toInt32)
        · refine own_go (T' := s₁) (g' := (mkF m 11 #[iv p0, iv ((((1 : Int32) + (1 : Int32)) + (1 : Int32)) + (1 : Int32)), iv ((((((((p0.toUInt32 >>> ((7 : Int32) &&& 31).toUInt32).toInt32).toUInt32 >>> ((7 : Int32) &&& 31).toUInt32).toInt32).toUInt32 >>> ((7 : Int32) &&& 31).toUInt32).toInt32).toUInt32 >>> ((7 : Int32) &&& 31).toUInt32).toInt32)] [])) (fun t k => XS.ifNo X0.here hx rfl (hb hby own_d_prog_87_method_9_code_8) rfl ((if0 _ _).trans (tlt hc8).2.2.2) k) ?_
          refine own_go (T' := s₁) (g' := (mkF m 14 #[iv p0, iv (((((1 : Int32) + (1 : Int32)) + (1 : Int32)) + (1 : Int32)) + (1 : Int32)), iv ((((((((p0.toUInt32 >>> ((7 : Int32) &&& 31).toUInt32).toInt32).toUInt32 >>> ((7 : Int32) &&& 31).toUInt32).toInt32).toUInt32 >>> ((7 : Int32) &&& 31).toUInt32).toInt32).toUInt32 >>> ((7 : Int32) &&& 31).toUInt32).toInt32)] [])) (fun t k => XS.iinc X0.here hx rfl (hb hby own_d_prog_87_method_9_code_11) rfl (l' := #[iv p0, iv (((((1 : Int32) + (1 : Int32)) + (1 : Int32)) + (1 : Int32)) + (1 : Int32)), iv ((((((((p0.toUInt32 >>> ((7 : Int32) &&& 31).toUInt32).toInt32).toUInt32 >>> ((7 : Int32) &&& 31).toUInt32).toInt32).toUInt32 >>> ((7 : Int32) &&& 31).toUInt32).toInt32).toUInt32 >>> ((7 : Int32) &&& 31).toUInt32).toInt32)]) rfl k) ?_
          refine own_go (T' := s₁) (g' := (mkF m 15 #[iv p0, iv (((((1 : Int32) + (1 : Int32)) + (1 : Int32)) + (1 : Int32)) + (1 : Int32)), iv ((((((((p0.toUInt32 >>> ((7 : Int32) &&& 31).toUInt32).toInt32).toUInt32 >>> ((7 : Int32) &&& 31).toUInt32).toInt32).toUInt32 >>> ((7 : Int32) &&& 31).toUInt32).toInt32).toUInt32 >>> ((7 : Int32) &&& 31).toUInt32).toInt32)] [(.int ((((((((p0.toUInt32 >>> ((7 : Int32) &&& 31).toUInt32).toInt32).toUInt32 >>> ((7 : Int32) &&& 31).toUInt32).toInt32).toUInt32 >>> ((7 : Int32) &&& 31).toUInt32).toInt32).toUInt32 >>> ((7 : Int32) &&& 31).toUInt32).toInt32))])) (fun t k => XS.iloadN X0.here hx rfl (hb hby own_d_prog_87_method_9_code_14) rfl k) ?_
          refine own_go (T' := s₁) (g' := (mkF m 17 #[iv p0, iv (((((1 : Int32) + (1 : Int32)) + (1 : Int32)) + (1 : Int32)) + (1 : Int32)), iv ((((((((p0.toUInt32 >>> ((7 : Int32) &&& 31).toUInt32).toInt32).toUInt32 >>> ((7 : Int32) &&& 31).toUInt32).toInt32).toUInt32 >>> ((7 : Int32) &&& 31).toUInt32).toInt32).toUInt32 >>> ((7 : Int32) &&& 31).toUInt32).toInt32)] [(.int (7 : Int32)), (.int ((((((((p0.toUInt32 >>> ((7 : Int32) &&& 31).toUInt32).toInt32).toUInt32 >>> ((7 : Int32) &&& 31).toUInt32).toInt32).toUInt32 >>> ((7 : Int32) &&& 31).toUInt32).toInt32).toUInt32 >>> ((7 : Int32) &&& 31).toUInt32).toInt32))])) (fun t k => XS.bipush X0.here hx rfl (hb hby own_d_prog_87_method_9_code_15) k) ?_
          refine own_go (T' := s₁) (g' := (mkF m 18 #[iv p0, iv (((((1 : Int32) + (1 : Int32)) + (1 : Int32)) + (1 : Int32)) + (1 : Int32)), iv ((((((((p0.toUInt32 >>> ((7 : Int32) &&& 31).toUInt32).toInt32).toUInt32 >>> ((7 : Int32) &&& 31).toUInt32).toInt32).toUInt32 >>> ((7 : Int32) &&& 31).toUInt32).toInt32).toUInt32 >>> ((7 : Int32) &&& 31).toUInt32).toInt32)] [(.int ((((((((((p0.toUInt32 >>> ((7 : Int32) &&& 31).toUInt32).toInt32).toUInt32 >>> ((7 : Int32) &&& 31).toUInt32).toInt32).toUInt32 >>> ((7 : Int32) &&& 31).toUInt32).toInt32).toUInt32 >>> ((7 : Int32) &&& 31).toUInt32).toInt32).toUInt32 >>> ((7 : Int32) &&& 31).toUInt32).toInt32))])) (fun t k => XS.iushr X0.here hx rfl (hb hby own_d_prog_87_method_9_code_17) rfl k) ?_
          refine own_go (T' := s₁) (g' := (mkF m 19 #[iv p0, iv (((((1 : Int32) + (1 : Int32)) + (1 : Int32)) + (1 : Int32)) + (1 : Int32)), iv ((((((((((p0.toUInt32 >>> ((7 : Int32) &&& 31).toUInt32).toInt32).toUInt32 >>> ((7 : Int32) &&& 31).toUInt32).toInt32).toUInt32 >>> ((7 : Int32) &&& 31).toUInt32).toInt32).toUInt32 >>> ((7 : Int32) &&& 31).toUInt32).toInt32).toUInt32 >>> ((7 : Int32) &&& 31).toUInt32).toInt32)] [])) (fun t k => XS.istoreN X0.here hx rfl (hb hby own_d_prog_87_method_9_code_18) rfl (l' := #[iv p0, iv (((((1 : Int32) + (1 : Int32)) + (1 : Int32)) + (1 : Int32)) + (1 : Int32)), iv ((((((((((p0.toUInt32 >>> ((7 : Int32) &&& 31).toUInt32).toInt32).toUInt32 >>> ((7 : Int32) &&& 31).toUInt32).toInt32).toUInt32 >>> ((7 : Int32) &&& 31).toUInt32).toInt32).toUInt32 >>> ((7 : Int32) &&& 31).toUInt32).toInt32).toUInt32 >>> ((7 : Int32) &&& 31).toUInt32).toInt32)]) rfl k) ?_
          refine own_go (T' := s₁) (g' := (mkF m 7 #[iv p0, iv (((((1 : Int32) + (1 : Int32)) + (1 : Int32)) + (1 : Int32)) + (1 : Int32)), iv ((((((((((p0.toUInt32 >>> ((7 : Int32) &&& 31).toUInt32).toInt32).toUInt32 >>> ((7 : Int32) &&& 31).toUInt32).toInt32).toUInt32 >>> ((7 : Int32) &&& 31).toUInt32).toInt32).toUInt32 >>> ((7 : Int32) &&& 31).toUInt32).toInt32).toUInt32 >>> ((7 : Int32) &&& 31).toUInt32).toInt32)] [])) (fun t k => XS.goto X0.here hx rfl (pc0 := 19) (pc' := 7) rfl (hb hby own_d_prog_87_method_9_code_19) (by decide) (by decide) k) ?_
          refine own_go (T' := s₁) (g' := (mkF m 8 #[iv p0, iv (((((1 : Int32) + (1 : Int32)) + (1 : Int32)) + (1 : Int32)) + (1 : Int32)), iv ((((((((((p0.toUInt32 >>> ((7 : Int32) &&& 31).toUInt32).toInt32).toUInt32 >>> ((7 : Int32) &&& 31).toUInt32).toInt32).toUInt32 >>> ((7 : Int32) &&& 31).toUInt32).toInt32).toUInt32 >>> ((7 : Int32) &&& 31).toUInt32).toInt32).toUInt32 >>> ((7 : Int32) &&& 31).toUInt32).toInt32)] [(.int ((((((((((p0.toUInt32 >>> ((7 : Int32) &&& 31).toUInt32).toInt32).toUInt32 >>> ((7 : Int32) &&& 31).toUInt32).toInt32).toUInt32 >>> ((7 : Int32) &&& 31).toUInt32).toInt32).toUInt32 >>> ((7 : Int32) &&& 31).toUInt32).toInt32).toUInt32 >>> ((7 : Int32) &&& 31).toUInt32).toInt32))])) (fun t k => XS.iloadN X0.here hx rfl (hb hby own_d_prog_87_method_9_code_7) rfl k) ?_
          refine own_go (T' := s₁) (g' := (mkF m 22 #[iv p0, iv (((((1 : Int32) + (1 : Int32)) + (1 : Int32)) + (1 : Int32)) + (1 : Int32)), iv ((((((((((p0.toUInt32 >>> ((7 : Int32) &&& 31).toUInt32).toInt32).toUInt32 >>> ((7 : Int32) &&& 31).toUInt32).toInt32).toUInt32 >>> ((7 : Int32) &&& 31).toUInt32).toInt32).toUInt32 >>> ((7 : Int32) &&& 31).toUInt32).toInt32).toUInt32 >>> ((7 : Int32) &&& 31).toUInt32).toInt32)] [])) (fun t k => XS.ifYes X0.here hx rfl (pc0 := 8) (pc' := 22) rfl (hb hby own_d_prog_87_method_9_code_8) rfl ((if0 _ _).trans (flt (own_no5 hr : ¬ ((0 : Int32) < ((((((((((p0.toUInt32 >>> ((7 : Int32) &&& 31).toUInt32).toInt32).toUInt32 >>> ((7 : Int32) &&& 31).toUInt32).toInt32).toUInt32 >>> ((7 : Int32) &&& 31).toUInt32).toInt32).toUInt32 >>> ((7 : Int32) &&& 31).toUInt32).toInt32).toUInt32 >>> ((7 : Int32) &&& 31).toUInt32).toInt32)))).2.2.2) (by decide) (by decide) k) ?_
          refine own_go (T' := s₁) (g' := (mkF m 23 #[iv p0, iv (((((1 : Int32) + (1 : Int32)) + (1 : Int32)) + (1 : Int32)) + (1 : Int32)), iv ((((((((((p0.toUInt32 >>> ((7 : Int32) &&& 31).toUInt32).toInt32).toUInt32 >>> ((7 : Int32) &&& 31).toUInt32).toInt32).toUInt32 >>> ((7 : Int32) &&& 31).toUInt32).toInt32).toUInt32 >>> ((7 : Int32) &&& 31).toUInt32).toInt32).toUInt32 >>> ((7 : Int32) &&& 31).toUInt32).toInt32)] [(.int (1 : Int32))])) (fun t k => XS.iconst X0.here hx rfl (hb hby own_d_prog_87_method_9_code_22) k) ?_
          refine own_go (T' := s₁) (g' := (mkF m 24 #[iv p0, iv (((((1 : Int32) + (1 : Int32)) + (1 : Int32)) + (1 : Int32)) + (1 : Int32)), iv ((((((((((p0.toUInt32 >>> ((7 : Int32) &&& 31).toUInt32).toInt32).toUInt32 >>> ((7 : Int32) &&& 31).toUInt32).toInt32).toUInt32 >>> ((7 : Int32) &&& 31).toUInt32).toInt32).toUInt32 >>> ((7 : Int32) &&& 31).toUInt32).toInt32).toUInt32 >>> ((7 : Int32) &&& 31).toUInt32).toInt32)] [(.int (((((1 : Int32) + (1 : Int32)) + (1 : Int32)) + (1 : Int32)) + (1 : Int32))), (.int (1 : Int32))])) (fun t k => XS.iloadN X0.here hx rfl (hb hby own_d_prog_87_method_9_code_23) rfl k) ?_
          refine own_go (T' := s₁) (g' := (mkF m 25 #[iv p0, iv (((((1 : Int32) + (1 : Int32)) + (1 : Int32)) + (1 : Int32)) + (1 : Int32)), iv ((((((((((p0.toUInt32 >>> ((7 : Int32) &&& 31).toUInt32).toInt32).toUInt32 >>> ((7 : Int32) &&& 31).toUInt32).toInt32).toUInt32 >>> ((7 : Int32) &&& 31).toUInt32).toInt32).toUInt32 >>> ((7 : Int32) &&& 31).toUInt32).toInt32).toUInt32 >>> ((7 : Int32) &&& 31).toUInt32).toInt32)] [(.int ((1 : Int32) + (((((1 : Int32) + (1 : Int32)) + (1 : Int32)) + (1 : Int32)) + (1 : Int32))))])) (fun t k => XS.iadd X0.here hx rfl (hb hby own_d_prog_87_method_9_code_24) rfl k) ?_
          refine own_go (T' := s₁) (g' := (mkF m 26 #[iv p0, iv (((((1 : Int32) + (1 : Int32)) + (1 : Int32)) + (1 : Int32)) + (1 : Int32)), iv ((((((((((p0.toUInt32 >>> ((7 : Int32) &&& 31).toUInt32).toInt32).toUInt32 >>> ((7 : Int32) &&& 31).toUInt32).toInt32).toUInt32 >>> ((7 : Int32) &&& 31).toUInt32).toInt32).toUInt32 >>> ((7 : Int32) &&& 31).toUInt32).toInt32).toUInt32 >>> ((7 : Int32) &&& 31).toUInt32).toInt32)] [(.int p0), (.int ((1 : Int32) + (((((1 : Int32) + (1 : Int32)) + (1 : Int32)) + (1 : Int32)) + (1 : Int32))))])) (fun t k => XS.iloadN X0.here hx rfl (hb hby own_d_prog_87_method_9_code_25) rfl k) ?_
          refine own_go (T' := s₁) (g' := (mkF m 27 #[iv p0, iv (((((1 : Int32) + (1 : Int32)) + (1 : Int32)) + (1 : Int32)) + (1 : Int32)), iv ((((((((((p0.toUInt32 >>> ((7 : Int32) &&& 31).toUInt32).toInt32).toUInt32 >>> ((7 : Int32) &&& 31).toUInt32).toInt32).toUInt32 >>> ((7 : Int32) &&& 31).toUInt32).toInt32).toUInt32 >>> ((7 : Int32) &&& 31).toUInt32).toInt32).toUInt32 >>> ((7 : Int32) &&& 31).toUInt32).toInt32)] [(.int (((1 : Int32) + (((((1 : Int32) + (1 : Int32)) + (1 : Int32)) + (1 : Int32)) + (1 : Int32))) + p0))])) (fun t k => XS.iadd X0.here hx rfl (hb hby own_d_prog_87_method_9_code_26) rfl k) ?_
          exact own_ret X0 hlk hx Bd.returns rfl (Or.inl ⟨rfl, Or.inl rfl, _, rfl⟩) (hb hby own_d_prog_87_method_9_code_27) ⟨by rw [own_lb5 hr hc8] <;> rfl, rfl, e0⟩ (by decide) (by decide)
        · refine own_go (T' := s₁) (g' := (mkF m 22 #[iv p0, iv ((((1 : Int32) + (1 : Int32)) + (1 : Int32)) + (1 : Int32)), iv ((((((((p0.toUInt32 >>> ((7 : Int32) &&& 31).toUInt32).toInt32).toUInt32 >>> ((7 : Int32) &&& 31).toUInt32).toInt32).toUInt32 >>> ((7 : Int32) &&& 31).toUInt32).toInt32).toUInt32 >>> ((7 : Int32) &&& 31).toUInt32).toInt32)] [])) (fun t k => XS.ifYes X0.here hx rfl (pc0 := 8) (pc' := 22) rfl (hb hby own_d_prog_87_method_9_code_8) rfl ((if0 _ _).trans (flt hc8).2.2.2) (by decide) (by decide) k) ?_
          refine own_go (T' := s₁) (g' := (mkF m 23 #[iv p0, iv ((((1 : Int32) + (1 : Int32)) + (1 : Int32)) + (1 : Int32)), iv ((((((((p0.toUInt32 >>> ((7 : Int32) &&& 31).toUInt32).toInt32).toUInt32 >>> ((7 : Int32) &&& 31).toUInt32).toInt32).toUInt32 >>> ((7 : Int32) &&& 31).toUInt32).toInt32).toUInt32 >>> ((7 : Int32) &&& 31).toUInt32).toInt32)] [(.int (1 : Int32))])) (fun t k => XS.iconst X0.here hx rfl (hb hby own_d_prog_87_method_9_code_22) k) ?_
          refine own_go (T' := s₁) (g' := (mkF m 24 #[iv p0, iv ((((1 : Int32) + (1 : Int32)) + (1 : Int32)) + (1 : Int32)), iv ((((((((p0.toUInt32 >>> ((7 : Int32) &&& 31).toUInt32).toInt32).toUInt32 >>> ((7 : Int32) &&& 31).toUInt32).toInt32).toUInt32 >>> ((7 : Int32) &&& 31).toUInt32).toInt32).toUInt32 >>> ((7 : Int32) &&& 31).toUInt32).toInt32)] [(.int ((((1 : Int32) + (1 : Int32)) + (1 : Int32)) + (1 : Int32))), (.int (1 : Int32))])) (fun t k => XS.iloadN X0.here hx rfl (hb hby own_d_prog_87_method_9_code_23) rfl k) ?_
          refine own_go (T' := s₁) (g' := (mkF m 25 #[iv p0, iv ((((1 : Int32) + (1 : Int32)) + (1 : Int32)) + (1 : Int32)), iv ((((((((p0.toUInt32 >>> ((7 : Int32) &&& 31).toUInt32).toInt32).toUInt32 >>> ((7 : Int32) &&& 31).toUInt32).toInt32).toUInt32 >>> ((7 : Int32) &&& 31).toUInt32).toInt32).toUInt32 >>> ((7 : Int32) &&& 31).toUInt32).toInt32)] [(.int ((1 : Int32) + ((((1 : Int32) + (1 : Int32)) + (1 : Int32)) + (1 : Int32))))])) (fun t k => XS.iadd X0.here hx rfl (hb hby own_d_prog_87_method_9_code_24) rfl k) ?_
          refine own_go (T' := s₁) (g' := (mkF m 26 #[iv p0, iv ((((1 : Int32) + (1 : Int32)) + (1 : Int32)) + (1 : Int32)), iv ((((((((p0.toUInt32 >>> ((7 : Int32) &&& 31).toUInt32).toInt32).toUInt32 >>> ((7 : Int32) &&& 31).toUInt32).toInt32).toUInt32 >>> ((7 : Int32) &&& 31).toUInt32).toInt32).toUInt32 >>> ((7 : Int32) &&& 31).toUInt32).toInt32)] [(.int p0), (.int ((1 : Int32) + ((((1 : Int32) + (1 : Int32)) + (1 : Int32)) + (1 : Int32))))])) (fun t k => XS.iloadN X0.here hx rfl (hb hby own_d_prog_87_method_9_code_25) rfl k) ?_
          refine own_go (T' := s₁) (g' := (mkF m 27 #[iv p0, iv ((((1 : Int32) + (1 : Int32)) + (1 : Int32)) + (1 : Int32)), iv ((((((((p0.toUInt32 >>> ((7 : Int32) &&& 31).toUInt32).toInt32).toUInt32 >>> ((7 : Int32) &&& 31).toUInt32).toInt32).toUInt32 >>> ((7 : Int32) &&& 31).toUInt32).toInt32).toUInt32 >>> ((7 : Int32) &&& 31).toUInt32).toInt32)] [(.int (((1 : Int32) + ((((1 : Int32) + (1 : Int32)) + (1 : Int32)) + (1 : Int32))) + p0))])) (fun t k => XS.iadd X0.here hx rfl (hb hby own_d_prog_87_method_9_code_26) rfl k) ?_
          exact own_ret X0 hlk hx Bd.returns rfl (Or.inl ⟨rfl, Or.inl rfl, _, rfl⟩) (hb hby own_d_prog_87_method_9_code_27) ⟨by rw [own_lb4 hr hc7 hc8] <;> rfl, rfl, e0⟩ (by decide) (by decide)
      · refine own_go (T' := s₁) (g' := (mkF m 22 #[iv p0, iv (((1 : Int32) + (1 : Int32)) + (1 : Int32)), iv ((((((p0.toUInt32 >>> ((7 : Int32) &&& 31).toUInt32).toInt32).toUInt32 >>> ((7 : Int32) &&& 31).toUInt32).toInt32).toUInt32 >>> ((7 : Int32) &&& 31).toUInt32).toInt32)] [])) (fun t k => XS.ifYes X0.here hx rfl (pc0 := 8) (pc' := 22) rfl (hb hby own_d_prog_87_method_9_code_8) rfl ((if0 _ _).trans (flt hc7).2.2.2) (by decide) (by decide) k) ?_
        refine own_go (T' := s₁) (g' := (mkF m 23 #[iv p0, iv (((1 : Int32) + (1 : Int32)) + (1 : Int32)), iv ((((((p0.toUInt32 >>> ((7 : Int32) &&& 31).toUInt32).toInt32).toUInt32 >>> ((7 : Int32) &&& 31).toUInt32).toInt32).toUInt32 >>> ((7 : Int32) &&& 31).toUInt32).toInt32)] [(.int (1 : Int32))])) (fun t k => XS.iconst X0.here hx rfl (hb hby own_d_prog_87_method_9_code_22) k) ?_
        refine own_go (T' := s₁) (g' := (mkF m 24 #[iv p0, iv (((1 : Int32) + (1 : Int32)) + (1 : Int32)), iv ((((((p0.toUInt32 >>> ((7 : Int32) &&& 31).toUInt32).toInt32).toUInt32 >>> ((7 : Int32) &&& 31).toUInt32).toInt32).toUInt32 >>> ((7 : Int32) &&& 31).toUInt32).toInt32)] [(.int (((1 : Int32) + (1 : Int32)) + (1 : Int32))), (.int (1 : Int32))])) (fun t k => XS.iloadN X0.here hx rfl (hb hby own_d_prog_87_method_9_code_23) rfl k) ?_
        refine own_go (T' := s₁) (g' := (mkF m 25 #[iv p0, iv (((1 : Int32) + (1 : Int32)) + (1 : Int32)), iv ((((((p0.toUInt32 >>> ((7 : Int32) &&& 31).toUInt32).toInt32).toUInt32 >>> ((7 : Int32) &&& 31).toUInt32).toInt32).toUInt32 >>> ((7 : Int32) &&& 31).toUInt32).toInt32)] [(.int ((1 : Int32) + (((1 : Int32) + (1 : Int32)) + (1 : Int32))))])) (fun t k => XS.iadd X0.here hx rfl (hb hby own_d_prog_87_method_9_code_24) rfl k) ?_
        refine own_go (T' := s₁) (g' := (mkF m 26 #[iv p0, iv (((1 : Int32) + (1 : Int32)) + (1 : Int32)), iv ((((((p0.toUInt32 >>> ((7 : Int32) &&& 31).toUInt32).toInt32).toUInt32 >>> ((7 : Int32) &&& 31).toUInt32).toInt32).toUInt32 >>> ((7 : Int32) &&& 31).toUInt32).toInt32)] [(.int p0), (.int ((1 : Int32) + (((1 : Int32) + (1 : Int32)) + (1 : Int32))))])) (fun t k => XS.iloadN X0.here hx rfl (hb hby own_d_prog_87_method_9_code_25) rfl k) ?_
        refine own_go (T' := s₁) (g' := (mkF m 27 #[iv p0, iv (((1 : Int32) + (1 : Int32)) + (1 : Int32)), iv ((((((p0.toUInt32 >>> ((7 : Int32) &&& 31).toUInt32).toInt32).toUInt32 >>> ((7 : Int32) &&& 31).toUInt32).toInt32).toUInt32 >>> ((7 : Int32) &&& 31).toUInt32).toInt32)] [(.int (((1 : Int32) + (((1 : Int32) + (1 : Int32)) + (1 : Int32))) + p0))])) (fun t k => XS.iadd X0.here hx rfl (hb hby own_d_prog_87_method_9_code_26) rfl k) ?_
        exact own_ret X0 hlk hx Bd.returns rfl (Or.inl ⟨rfl, Or.inl rfl, _, rfl⟩) (hb hby own_d_prog_87_method_9_code_27) ⟨by rw [own_lb3 hr hc6 hc7] <;> rfl, rfl, e0⟩ (by decide) (by decide)
    · refine own_go (T' := s₁) (g' := (mkF m 22 #[iv p0, iv ((1 : Int32) + (1 : Int32)), iv ((((p0.toUInt32 >>> ((7 : Int32) &&& 31).toUInt32).toInt32).toUInt32 >>> ((7 : Int32) &&& 31).toUInt32).toInt32)] [])) (fun t k => XS.ifYes X0.here hx rfl (pc0 := 8) (pc' := 22) rfl (hb hby own_d_prog_87_method_9_code_8) rfl ((if0 _ _).trans (flt hc6).2.2.2) (by decide) (by decide) k) ?_
      refine own_go (T' := s₁) (g' := (mkF m 23 #[iv p0, iv ((1 : Int32) + (1 : Int32)), iv ((((p0.toUInt32 >>> ((7 : Int32) &&& 31).toUInt32).toInt32).toUInt32 >>> ((7 : Int32) &&& 31).toUInt32).toInt32)] [(.int (1 : Int32))])) (fun t k => XS.iconst X0.here hx rfl (hb hby own_d_prog_87_method_9_code_22) k) ?_
      refine own_go (T' := s₁) (g' := (mkF m 24 #[iv p0, iv ((1 : Int32) + (1 : Int32)), iv ((((p0.toUInt32 >>> ((7 : Int32) &&& 31).toUInt32).toInt32).toUInt32 >>> ((7 : Int32) &&& 31).toUInt32).toInt32)] [(.int ((1 : Int32) + (1 : Int32))), (.int (1 : Int32))])) (fun t k => XS.iloadN X0.here hx rfl (hb hby own_d_prog_87_method_9_code_23) rfl k) ?_
      refine own_go (T' := s₁) (g' := (mkF m 25 #[iv p0, iv ((1 : Int32) + (1 : Int32)), iv ((((p0.toUInt32 >>> ((7 : Int32) &&& 31).toUInt32).toInt32).toUInt32 >>> ((7 : Int32) &&& 31).toUInt32).toInt32)] [(.int ((1 : Int32) + ((1 : Int32) + (1 : Int32))))])) (fun t k => XS.iadd X0.here hx rfl (hb hby own_d_prog_87_method_9_code_24) rfl k) ?_
      refine own_go (T' := s₁) (g' := (mkF m 26 #[iv p0, iv ((1 : Int32) + (1 : Int32)), iv ((((p0.toUInt32 >>> ((7 : Int32) &&& 31).toUInt32).toInt32).toUInt32 >>> ((7 : Int32) &&& 31).toUInt32).toInt32)] [(.int p0), (.int ((1 : Int32) + ((1 : Int32) + (1 : Int32))))])) (fun t k => XS.iloadN X0.here hx rfl (hb hby own_d_prog_87_method_9_code_25) rfl k) ?_
      refine own_go (T' := s₁) (g' := (mkF m 27 #[iv p0, iv ((1 : Int32) + (1 : Int32)), iv ((((p0.toUInt32 >>> ((7 : Int32) &&& 31).toUInt32).toInt32).toUInt32 >>> ((7 : Int32) &&& 31).toUInt32).toInt32)] [(.int (((1 : Int32) + ((1 : Int32) + (1 : Int32))) + p0))])) (fun t k => XS.iadd X0.here hx rfl (hb hby own_d_prog_87_method_9_code_26) rfl k) ?_
      exact own_ret X0 hlk hx Bd.returns rfl (Or.inl ⟨rfl, Or.inl rfl, _, rfl⟩) (hb hby own_d_prog_87_method_9_code_27) ⟨by rw [own_lb2 hr hc5 hc6] <;> rfl, rfl, e0⟩ (by decide) (by decide)
  · refine own_go (T' := s₁) (g' := (mkF m 22 #[iv p0, iv (1 : Int32), iv ((p0.toUInt32 >>> ((7 : Int32) &&& 31).toUInt32).toInt32)] [])) (fun t k => XS.ifYes X0.here hx rfl (pc0 := 8) (pc' := 22) rfl (hb hby own_d_prog_87_method_9_code_8) rfl ((if0 _ _).trans (flt hc5).2.2.2) (by decide) (by decide) k) ?_
    refine own_go (T' := s₁) (g' := (mkF m 23 #[iv p0, iv (1 : Int32), iv ((p0.toUInt32 >>> ((7 : Int32) &&& 31).toUInt32).toInt32)] [(.int (1 : Int32))])) (fun t k => XS.iconst X0.here hx rfl (hb hby own_d_prog_87_method_9_code_22) k) ?_
    refine own_go (T' := s₁) (g' := (mkF m 24 #[iv p0, iv (1 : Int32), iv ((p0.toUInt32 >>> ((7 : Int32) &&& 31).toUInt32).toInt32)] [(.int (1 : Int32)), (.int (1 : Int32))])) (fun t k => XS.iloadN X0.here hx rfl (hb hby own_d_prog_87_method_9_code_23) rfl k) ?_
    refine own_go (T' := s₁) (g' := (mkF m 25 #[iv p0, iv (1 : Int32), iv ((p0.toUInt32 >>> ((7 : Int32) &&& 31).toUInt32).toInt32)] [(.int ((1 : Int32) + (1 : Int32)))])) (fun t k => XS.iadd X0.here hx rfl (hb hby own_d_prog_87_method_9_code_24) rfl k) ?_
    refine own_go (T' := s₁) (g' := (mkF m 26 #[iv p0, iv (1 : Int32), iv ((p0.toUInt32 >>> ((7 : Int32) &&& 31).toUInt32).toInt32)] [(.int p0), (.int ((1 : Int32) + (1 : Int32)))])) (fun t k => XS.iloadN X0.here hx rfl (hb hby own_d_prog_87_method_9_code_25) rfl k) ?_
    refine own_go (T' := s₁) (g' := (mkF m 27 #[iv p0, iv (1 : Int32), iv ((p0.toUInt32 >>> ((7 : Int32) &&& 31).toUInt32).toInt32)] [(.int (((1 : Int32) + (1 : Int32)) + p0))])) (fun t k => XS.iadd X0.here hx rfl (hb hby own_d_prog_87_method_9_code_26) rfl k) ?_
    exact own_ret X0 hlk hx Bd.returns rfl (Or.inl ⟨rfl, Or.inl rfl, _, rfl⟩) (hb hby own_d_prog_87_method_9_code_27) ⟨by rw [own_lb1 hr hc5] <;> rfl, rfl, e0⟩ (by decide) (by decide)

theorem own_pd0 : parseMethodDescriptor "(I)I" = some ⟨[.int], some .int⟩ := by decide +kernel
def Q_own_law (h0 : Heap) (n0 : Nat) (v : Option Value) (h : Heap) (L : List Loc) : Prop := v = some (.int 1) ∧ Fr n0 L
set_option maxRecDepth 65536 in
set_option maxHeartbeats 40000000 in
theorem own_law (l : Launch) (Z : State) (a0 : Array Value) (hw : ∀ d ∈ tables_1, d.before a0 Z = true) (ws : List Jvm.Cond) (x0 : Int32) (h0 : Heap) (n0 : Nat) (Z0 : n0 ≤ h0.size)  :
    MetFree l x (head1 (Jvm.Cond.code x code maxLocals ret :: ws) room_1) (fun au Uu => au = #[(.int x0)] ∧ Z.Warmed39 Uu.vm ∧ Uu.heap = h0) (fun _ _ _ _ _ => True) (fun _ Uu ou Uw => ∃ vu Lu, ou = .returned vu ∧ Q_own_law h0 n0 vu Uw.heap Lu ∧ FrameEnd Uu ou Uw Lu 0 0) := by
  refine MetFree.of_bodySF (plainFor_of_name (by first | (simp [plainName, overriddenIn]; done) | decide +kernel)) hisR ?_
  intro p e s m args below meth c s₁ Bd hml0 hP hK
  obtain ⟨rfl, hZ, hh⟩ := hP
  have hx := Bd.exec
  have hby := Bd.bytes
  have hlk := Bd.notSynchronized
  have hml : c.maxLocals = 3 := hml0
  have hown : s.vm.findClass "com/example/bridger/bridger/mqtt/PacketSizePinLaw" = some m.cls := findClass_of_methodNamed Bd.named
  have hnm := (name_of_methodNamed Bd.named Bd.method).1
  have X0 : Stand p l e room_1 s m #[(.int x0)] below meth c s₁ [] 0 0 := Stand.of_body Bd
  have e0 : s₁.heap = h0 := by rw [← hh, Bd.state]; rfl
  have N0 := Fr.nil n0
  show own_Ends p e below s₁ (entryFrame m #[(.int x0)] maxLocals) (fun ou Uw => ∃ vu Lu, ou = .returned vu ∧ Q_own_law h0 n0 vu Uw.heap Lu ∧ FrameEnd s ou Uw Lu 0 0)
  refine own_start (g' := (mkF m 0 #[iv x0, .unset, .unset] [])) (by first | (simp [entryFrame, mkF, argsToLocals, Value.category, iv, rv, maxLocals]; done) | rfl) ?_
  refine own_go (T' := s₁) (g' := (mkF m 1 #[iv x0, .unset, .unset] [(.int x0)])) (fun t k => XS.iloadN X0.here hx rfl (hb hby at_0) rfl k) ?_
  refine own_go (T' := s₁) (g' := (mkF m 3 #[iv x0, .unset, .unset] [(.int (2147483647 : Int32)), (.int x0)])) (fun t k => X0.ldcInt hx hown (mvT hZ (hw _ (List.mem_of_getElem? (i := 0) rfl))) (g := (mkF m 1 #[iv x0, .unset, .unset] [(.int x0)])) rfl (hb hby at_1) _ k) ?_
  refine own_go (T' := s₁) (g' := (mkF m 4 #[iv x0, .unset, .unset] [(.int (x0 &&& (2147483647 : Int32)))])) (fun t k => XS.iand X0.here hx rfl (hb hby at_3) rfl k) ?_
  refine own_go (T' := s₁) (g' := (mkF m 5 #[iv x0, iv (x0 &&& (2147483647 : Int32)), .unset] [])) (fun t k => XS.istoreN X0.here hx rfl (hb hby at_4) rfl (l' := #[iv x0, iv (x0 &&& (2147483647 : Int32)), .unset]) rfl k) ?_
  refine own_go (T' := s₁) (g' := (mkF m 6 #[iv x0, iv (x0 &&& (2147483647 : Int32)), .unset] [(.int (1 : Int32))])) (fun t k => XS.iconst X0.here hx rfl (hb hby at_5) k) ?_
  refine own_go (T' := s₁) (g' := (mkF m 7 #[iv x0, iv (x0 &&& (2147483647 : Int32)), .unset] [(.int (x0 &&& (2147483647 : Int32))), (.int (1 : Int32))])) (fun t k => XS.iloadN X0.here hx rfl (hb hby at_6) rfl k) ?_
  obtain ⟨_, _, ⟨T9, L9, k9, n9⟩, -, X9, ⟨Lc9, hQ9, l9, y9, z9⟩, st9⟩ := Jvm.LawKit.callS X0 hx (y := (⟨"com/example/bridger/bridger/mqtt/PacketSizePinLaw", "lengthBytes", "(I)I"⟩ : MethodName)) hown (mvT hZ (hw _ (List.mem_of_getElem? (i := 1) rfl))) (mvT hZ (hw _ (List.mem_of_getElem? (i := 2) rfl))) (mvT hZ (hw _ (List.mem_of_getElem? (i := 3) rfl))) (mvT hZ (hw _ (List.mem_of_getElem? (i := 4) rfl))) (by decide) (backOf (W := 1) (own_len l Z a0 hw [] (x0 &&& (2147483647 : Int32)) h0 n0 Z0) hZ (hw _ (List.mem_of_getElem? (i := 4) rfl)) (hw _ (List.mem_of_getElem? (i := 3) rfl)) (by decide) (by decide)) (g := (mkF m 7 #[iv x0, iv (x0 &&& (2147483647 : Int32)), .unset] [(.int (x0 &&& (2147483647 : Int32))), (.int (1 : Int32))])) rfl (by rw [hml]; rfl) (argsL := [(.int (x0 &&& (2147483647 : Int32)))]) (rest := [(.int (1 : Int32))]) (lenOf own_pd0 rfl) rfl (by show 2 * 0 + _ ≤ _; exact Nat.le_of_eq rfl) (hb hby at_7) (fun _ _ => ⟨rfl, e0, (by decide : 0 + 0 ≤ _), (by decide : 0 + 0 ≤ _)⟩)
  dsimp only [Pt.U, Pt.locs, Pt.cells, Pt.slots] at X9 l9 y9 z9 st9 hQ9
  subst l9 y9 z9
  obtain ⟨rfl, rfl, e9⟩ := hQ9
  have E9q : T9.heap = h0 := e9
  have N9 := Fr.app N0 (Fr.nil n0)
  refine own_go (T' := T9) (g' := (mkF m 10 #[iv x0, iv (x0 &&& (2147483647 : Int32)), .unset] [(.int (own_lb (x0 &&& (2147483647 : Int32)))), (.int (1 : Int32))])) (st9) ?_
  refine own_go (T' := T9) (g' := (mkF m 11 #[iv x0, iv (x0 &&& (2147483647 : Int32)), .unset] [(.int ((1 : Int32) + (own_lb (x0 &&& (2147483647 : Int32)))))])) (fun t k => XS.iadd X9.here hx rfl (hb hby at_10) rfl k) ?_
  refine own_go (T' := T9) (g' := (mkF m 12 #[iv x0, iv (x0 &&& (2147483647 : Int32)), .unset] [(.int (x0 &&& (2147483647 : Int32))), (.int ((1 : Int32) + (own_lb (x0 &&& (2147483647 : Int32)))))])) (fun t k => XS.iloadN X9.here hx rfl (hb hby at_11) rfl k) ?_
  refine own_go (T' := T9) (g' := (mkF m 13 #[iv x0, iv (x0 &&& (2147483647 : Int32)), .unset] [(.int (((1 : Int32) + (own_lb (x0 &&& (2147483647 : Int32)))) + (x0 &&& (2147483647 : Int32))))])) (fun t k => XS.iadd X9.here hx rfl (hb hby at_12) rfl k) ?_
  refine own_go (T' := T9) (g' := (mkF m 14 #[iv x0, iv (x0 &&& (2147483647 : Int32)), iv (((1 : Int32) + (own_lb (x0 &&& (2147483647 : Int32)))) + (x0 &&& (2147483647 : Int32)))] [])) (fun t k => XS.istoreN X9.here hx rfl (hb hby at_13) rfl (l' := #[iv x0, iv (x0 &&& (2147483647 : Int32)), iv (((1 : Int32) + (own_lb (x0 &&& (2147483647 : Int32)))) + (x0 &&& (2147483647 : Int32)))]) rfl k) ?_
  refine own_go (T' := T9) (g' := (mkF m 15 #[iv x0, iv (x0 &&& (2147483647 : Int32)), iv (((1 : Int32) + (own_lb (x0 &&& (2147483647 : Int32)))) + (x0 &&& (2147483647 : Int32)))] [(.int (x0 &&& (2147483647 : Int32)))])) (fun t k => XS.iloadN X9.here hx rfl (hb hby at_14) rfl k) ?_
  obtain ⟨_, _, ⟨T10, L10, k10, n10⟩, -, X10, ⟨Lc10, hQ10, l10, y10, z10⟩, st10⟩ := Jvm.LawKit.callS X9 hx (y := (⟨"com/example/bridger/bridger/mqtt/Packet", "size", "(I)I"⟩ : MethodName)) hown (mvT hZ (hw _ (List.mem_of_getElem? (i := 5) rfl))) (mvT hZ (hw _ (List.mem_of_getElem? (i := 6) rfl))) (mvT hZ (hw _ (List.mem_of_getElem? (i := 7) rfl))) (mvT hZ (hw _ (List.mem_of_getElem? (i := 8) rfl))) (by decide) (backOf (W := 0) (own_size l Z a0 hw [] (x0 &&& (2147483647 : Int32)) h0 n0 Z0 (c_and x0 2147483647 (by decide)).1) hZ (hw _ (List.mem_of_getElem? (i := 8) rfl)) (hw _ (List.mem_of_getElem? (i := 7) rfl)) (by decide) (by decide)) (g := (mkF m 15 #[iv x0, iv (x0 &&& (2147483647 : Int32)), iv (((1 : Int32) + (own_lb (x0 &&& (2147483647 : Int32)))) + (x0 &&& (2147483647 : Int32)))] [(.int (x0 &&& (2147483647 : Int32)))])) rfl (by rw [hml]; rfl) (argsL := [(.int (x0 &&& (2147483647 : Int32)))]) (rest := []) (lenOf own_pd0 rfl) rfl (by show 2 * 0 + _ ≤ _; exact Nat.le_of_eq rfl) (hb hby at_15) (fun _ _ => ⟨rfl, E9q, (by decide : 0 + 0 ≤ _), (by decide : 0 + 0 ≤ _)⟩)
  dsimp only [Pt.U, Pt.locs, Pt.cells, Pt.slots] at X10 l10 y10 z10 st10 hQ10
  subst l10 y10 z10
  obtain ⟨rfl, rfl, e10⟩ := hQ10
  have E10q : T10.heap = h0 := e10
  have N10 := Fr.app N9 (Fr.nil n0)
  refine own_go (T' := T10) (g' := (mkF m 18 #[iv x0, iv (x0 &&& (2147483647 : Int32)), iv (((1 : Int32) + (own_lb (x0 &&& (2147483647 : Int32)))) + (x0 &&& (2147483647 : Int32)))] [(.int (((1 : Int32) + (own_lb (x0 &&& (2147483647 : Int32)))) + (x0 &&& (2147483647 : Int32))))])) (st10) ?_
  refine own_go (T' := T10) (g' := (mkF m 19 #[iv x0, iv (x0 &&& (2147483647 : Int32)), iv (((1 : Int32) + (own_lb (x0 &&& (2147483647 : Int32)))) + (x0 &&& (2147483647 : Int32)))] [(.int (((1 : Int32) + (own_lb (x0 &&& (2147483647 : Int32)))) + (x0 &&& (2147483647 : Int32)))), (.int (((1 : Int32) + (own_lb (x0 &&& (2147483647 : Int32)))) + (x0 &&& (2147483647 : Int32))))])) (fun t k => XS.iloadN X10.here hx rfl (hb hby at_18) rfl k) ?_
  refine own_go (T' := T10) (g' := (mkF m 22 #[iv x0, iv (x0 &&& (2147483647 : Int32)), iv (((1 : Int32) + (own_lb (x0 &&& (2147483647 : Int32)))) + (x0 &&& (2147483647 : Int32)))] [])) (fun t k => XS.icmpNo X10.here hx rfl (hb hby at_19) rfl (teq (rfl : (((1 : Int32) + (own_lb (x0 &&& (2147483647 : Int32)))) + (x0 &&& (2147483647 : Int32))) = (((1 : Int32) + (own_lb (x0 &&& (2147483647 : Int32)))) + (x0 &&& (2147483647 : Int32))))).2 k) ?_
  refine own_go (T' := T10) (g' := (mkF m 23 #[iv x0, iv (x0 &&& (2147483647 : Int32)), iv (((1 : Int32) + (own_lb (x0 &&& (2147483647 : Int32)))) + (x0 &&& (2147483647 : Int32)))] [(.int (1 : Int32))])) (fun t k => XS.iconst X10.here hx rfl (hb hby at_22) k) ?_
  refine own_go (T' := T10) (g' := (mkF m 27 #[iv x0, iv (x0 &&& (2147483647 : Int32)), iv (((1 : Int32) + (own_lb (x0 &&& (2147483647 : Int32)))) + (x0 &&& (2147483647 : Int32)))] [(.int (1 : Int32))])) (fun t k => XS.goto X10.here hx rfl (pc0 := 23) (pc' := 27) rfl (hb hby at_23) (by decide) (by decide) k) ?_
  exact own_ret X10 hlk hx Bd.returns rfl (Or.inl ⟨rfl, Or.inr (Or.inl rfl), _, rfl⟩) (hb hby at_27) (by first | exact ⟨rfl, N10⟩ | (rw [Fr] at *; exact ⟨rfl, by simpa using N10⟩)) (by decide) (by decide)

set_option maxRecDepth 65536 in
set_option maxHeartbeats 40000000 in
theorem own_comes {Post : Tables → Env → Array Value → State → Outcome → State → Prop} (hpost : ∀ tb e args s v u, (limb_1_1.after args s (.returned v) u = true ∧ limb_1_2.after args s (.returned v) u = true ∧ True) → FrameEnd s (.returned v) u (Jvm.fieldLocs frame_1_writes args s ++ Jvm.arrayLocs frame_1_arrays args s ++ Jvm.staticLocs frame_1_statics s) 0 0 → Post tb e args s (.returned v) u) :
    ArmFor flags0 classFile x code maxLocals ret World_1 tables_1 room_1 Calls_1 rest_1 Pre_1 Post := by
  intro l hfl _ _ p e ha hc hk s m args below hf hA hF happ hP
  obtain ⟨hcalls, hrest, hpre⟩ := hP
  obtain ⟨-, -, -, hnamed, -, -, -, hat⟩ := (Spec.applies_iff hf).mp happ
  obtain ⟨hg, hn⟩ := and_e (Cond.before_iff.mp (show (Jvm.Cond.and given_1 narrow_1).before args s = true from hpre))
  obtain ⟨hg0, hg1⟩ := and_e hg
  obtain ⟨w0, rfl⟩ : ∃ w0 : Value, args = #[w0] := by
    have hs : args.size = 1 := by simpa [Cond.value, given_1] using hg0
    obtain ⟨L⟩ := args
    match L, hs with
    | [w0], _ => exact ⟨w0, rfl⟩
  have hw := fun d (hd : d ∈ tables_1) => atoms_spec (ws := Jvm.Cond.code x code maxLocals ret :: tables_1) hat d (List.mem_cons_of_mem _ hd)
  have hfit : Fit s := fun {y c} hc i hi => by
    obtain ⟨ha, rfl⟩ := Array.getElem?_eq_some_iff.mp hc
    have q := List.all_eq_true.mp ((Array.all_eq_true_iff_forall_mem.mp hF) _ (Array.getElem_mem ha)) i (List.mem_range.mpr hi)
    simpa [Array.getElem?_eq_getElem hi] using q
  obtain ⟨x0, ex0⟩ := is_v hg1
  obtain rfl : w0 = (.int x0) := Option.some.inj ex0
  obtain ⟨n, o, h1, h2, h3, _, L, rfl, ⟨rfl, N⟩, hq⟩ := own_law l s _ hw tables_1 x0  s.heap s.heap.size (Nat.le_refl _)  p e ha hc hk s m _ below hf ((Spec.applies_iff_loose hf).mp happ).1 ⟨rfl, State.Warmed39.refl s, rfl⟩ trivial
  refine ⟨n, _, h1, h2, h3, hpost _ _ _ _ _ _ ⟨Cond.after_iff.mpr rfl, Cond.after_iff.mpr (eq_i res_at (Term.int_eval (1)) rfl), trivial⟩ ⟨hq.1, hq.2.1, (hq.2.2.sift fun y hy => Or.inr (N y hy)).mono (by decide) (by decide)⟩⟩
theorem main_1_1 : Claimed_1_1 := own_comes fun _ _ _ _ _ _ h hF => ⟨h.1, hF⟩
theorem main_1_2 : Claimed_1_2 := own_comes fun _ _ _ _ _ _ h hF => ⟨h.2.1, hF⟩
end Jvm.Pilot.@@N@@
namespace Jvm.Pilot.@@N@@
open Jvm Jvm.ClassFile Sem Op Lib Jvm.Free Jvm.Stand Jvm.Pilot.@@N@@.Jvm.D
/-! MADE BY PROGRAM (witnessworld.py) out of the Statement's table words and the real class files: 9 classes; the members and pool entries that the words name. The judged class is class 1, her method 2. -/
namespace start1
open Jvm.ClassFile
def u (s : String) : CpInfo := .utf8 (stringToUtf16 s)
/-- a pool by its gaps: so many unusable entries, then the entry; so many at the end -/
def gap : Nat → List CpInfo → List CpInfo
  | 0, r => r
  | n + 1, r => .unusable :: gap n r
def poolList (es : List (Nat × CpInfo)) (last : Nat) : List CpInfo := es.foldr (fun e r => gap e.1 (e.2 :: r)) (gap last [])
def pool (es : List (Nat × CpInfo)) (last : Nat) : Array CpInfo := ⟨poolList es last⟩
def fileOf (pool : Array CpInfo) (this : Nat) (attrs : Array Attribute := #[]) (ms : Array MethodInfo := #[]) (fl : Nat := 33) (sup : Nat := 0) (ifs : Array Nat := #[]) (fds : Array FieldInfo := #[]) : ClassFile where
  minorVersion := 0
  majorVersion := 65
  constantPool := pool
  accessFlags := fl
  thisClass := this
  superClass := sup
  interfaces := ifs
  fields := fds
  methods := ms
  attributes := attrs
def plain (name : String) (sup : Option ClassId) : Class where
  name := name
  kind := .ordinary
  loader := none
  accessFlags := 33
  super := sup
  interfaces := #[]
  cf := none
  fields := #[]
  methods := #[]
  instanceTypes := #[]
  staticTypes := #[]
  resolved := #[]
  callSites := []
  init := .initialized
  statics := none
  mirror := none

def pool0 : Array CpInfo := pool [(5, u "<init>"), (0, u "()V"), (1, .class_ 10), (1, u "java/lang/Object")] 113

def k0m0 : Method := { name := "<init>", desc := "()V", sig := { parameters := [], returnType := none }, accessFlags := 1, code := none }
/-- java/lang/Object -/
def k0 : Class := { plain "java/lang/Object" none with
  accessFlags := 33
  interfaces := #[]
  cf := some (fileOf pool0 8 #[] #[{ accessFlags := 1, nameIndex := 5, descriptorIndex := 6, attributes := #[] }] 33 0 #[] #[])
  fields := #[]
  methods := #[k0m0]
  instanceTypes := #[]
  staticTypes := #[]
  resolved := Array.replicate 124 none
  statics := none }

def pool1 : Array CpInfo := pool [(2, .class_ 4), (1, u "java/lang/Object"), (0, u "<init>"), (0, u "()V"), (0, .integer 2097152), (0, .integer 268435456), (0, .integer 2147483647), (0, .methodref 11 12), (0, .class_ 13), (0, .nameAndType 14 15), (0, u "com/example/bridger/bridger/mqtt/PacketSizePinLaw"), (0, u "lengthBytes"), (0, u "(I)I"), (0, .methodref 17 18), (0, .class_ 19), (0, .nameAndType 20 15), (0, u "com/example/bridger/bridger/mqtt/Packet"), (0, u "size"), (3, u "law"), (0, u "(I)Z")] 2

def k1m0 : Method := { name := "<init>", desc := "()V", sig := { parameters := [], returnType := none }, accessFlags := 1, code := none }
def k1c1 : Code := { maxStack := 2, maxLocals := 1, code := method_2_code, exceptionTable := #[], attributes := #[] }
def k1m1 : Method := { name := "lengthBytes", desc := "(I)I", sig := { parameters := [.int], returnType := some .int }, accessFlags := 10, code := some k1c1 }
def k1c2 : Code := { maxStack := 2, maxLocals := 3, code := code, exceptionTable := #[], attributes := #[] }
def k1m2 : Method := { name := "law", desc := "(I)Z", sig := { parameters := [.int], returnType := some .boolean }, accessFlags := 9, code := some k1c2 }
/-- com/example/bridger/bridger/mqtt/PacketSizePinLaw -/
def k1 : Class := { plain "com/example/bridger/bridger/mqtt/PacketSizePinLaw" (some 0) with
  accessFlags := 49
  interfaces := #[]
  cf := some (fileOf pool1 11 #[] #[{ accessFlags := 1, nameIndex := 5, descriptorIndex := 6, attributes := #[] }, { accessFlags := 10, nameIndex := 14, descriptorIndex := 15, attributes := #[] }, { accessFlags := 9, nameIndex := 24, descriptorIndex := 25, attributes := #[] }] 49 2 #[] #[])
  fields := #[]
  methods := #[k1m0, k1m1, k1m2]
  instanceTypes := #[]
  staticTypes := #[]
  resolved := Array.replicate 28 none
  statics := none }

def pool2 : Array CpInfo := pool [(2, .class_ 4), (1, u "java/lang/Object"), (3, .class_ 10), (1, u "com/example/bridger/bridger/mqtt/Packet"), (0, u "type"), (0, u "Lcom/example/bridger/bridger/mqtt/PacketType;"), (8, u "NO_TAIL"), (0, u "[B"), (41, .class_ 65), (0, u "com/example/bridger/bridger/mqtt/Packet$Bare"), (2, u "PINGREQ"), (5, u "Lcom/example/bridger/bridger/mqtt/Packet;"), (2, u "PINGRESP"), (4, u "DISCONNECT"), (8, u "size"), (0, u "(I)I")] 11

def k2c0 : Code := { maxStack := 2, maxLocals := 3, code := prog_87_method_9_code, exceptionTable := #[], attributes := #[] }
def k2m0 : Method := { name := "size", desc := "(I)I", sig := { parameters := [.int], returnType := some .int }, accessFlags := 8, code := some k2c0 }
/-- com/example/bridger/bridger/mqtt/Packet -/
def k2 : Class := { plain "com/example/bridger/bridger/mqtt/Packet" (some 0) with
  accessFlags := 1057
  interfaces := #[]
  cf := some (fileOf pool2 8 #[.nestMembers #[64]] #[{ accessFlags := 8, nameIndex := 91, descriptorIndex := 92, attributes := #[] }] 1057 2 #[] #[{ accessFlags := 25, nameIndex := 68, descriptorIndex := 74, attributes := #[] }, { accessFlags := 25, nameIndex := 77, descriptorIndex := 74, attributes := #[] }, { accessFlags := 25, nameIndex := 82, descriptorIndex := 74, attributes := #[] }, { accessFlags := 26, nameIndex := 21, descriptorIndex := 22, attributes := #[] }, { accessFlags := 18, nameIndex := 11, descriptorIndex := 12, attributes := #[] }])
  fields := #[{ name := "PINGREQ", type := (.object "com/example/bridger/bridger/mqtt/Packet"), accessFlags := 25, slot := 0, constantValue := 0 }, { name := "PINGRESP", type := (.object "com/example/bridger/bridger/mqtt/Packet"), accessFlags := 25, slot := 1, constantValue := 0 }, { name := "DISCONNECT", type := (.object "com/example/bridger/bridger/mqtt/Packet"), accessFlags := 25, slot := 2, constantValue := 0 }, { name := "NO_TAIL", type := (.array .byte), accessFlags := 26, slot := 3, constantValue := 0 }, { name := "type", type := (.object "com/example/bridger/bridger/mqtt/PacketType"), accessFlags := 18, slot := 0, constantValue := 0 }]
  methods := #[k2m0]
  instanceTypes := #[(.object "com/example/bridger/bridger/mqtt/PacketType")]
  staticTypes := #[(.object "com/example/bridger/bridger/mqtt/Packet"), (.object "com/example/bridger/bridger/mqtt/Packet"), (.object "com/example/bridger/bridger/mqtt/Packet"), (.array .byte)]
  resolved := Array.replicate 104 none
  statics := none }

def pool3 : Array CpInfo := pool [(1, u "java/lang/Cloneable"), (0, .class_ 1), (0, u "java/lang/Object"), (0, .class_ 3)] 3

/-- java/lang/Cloneable -/
def k3 : Class := { plain "java/lang/Cloneable" (some 0) with
  accessFlags := 1537
  interfaces := #[]
  cf := some (fileOf pool3 2 #[] #[] 1537 4 #[] #[])
  fields := #[]
  methods := #[]
  instanceTypes := #[]
  staticTypes := #[]
  resolved := Array.replicate 8 none
  statics := none }

def pool4 : Array CpInfo := pool [(1, u "java/io/Serializable"), (0, .class_ 1), (0, u "java/lang/Object"), (0, .class_ 3)] 3

/-- java/io/Serializable -/
def k4 : Class := { plain "java/io/Serializable" (some 0) with
  accessFlags := 1537
  interfaces := #[]
  cf := some (fileOf pool4 2 #[] #[] 1537 4 #[] #[])
  fields := #[]
  methods := #[]
  instanceTypes := #[]
  staticTypes := #[]
  resolved := Array.replicate 8 none
  statics := none }

/-- the primitive byte -/
def k5 : Class := { plain "byte" none with kind := .primitive 'B', accessFlags := 0x411 }
/-- [B -/
def k6 : Class := { plain "[B" (some 0) with kind := .array 5 .byte, interfaces := #[3, 4], accessFlags := 1041 }

/-- the primitive int -/
def k7 : Class := { plain "int" none with kind := .primitive 'I', accessFlags := 0x411 }
/-- [I -/
def k8 : Class := { plain "[I" (some 0) with kind := .array 7 .int, interfaces := #[3, 4], accessFlags := 1041 }

def heap : Heap := #[]
def classes : Array Class := #[k0, k1, k2, k3, k4, k5, k6, k7, k8]
def interned : List (Array UInt16 × Addr) := []
def slotsUsed : Nat := 0
def theMethod : MethodId := ⟨1, 2⟩
def args0 : Array Value := #[.int 5]
def aboutOver (below : List Frame) : State where
  vm := { classes := classes, interned := interned.toArray }
  heap := heap
  slotsUsed := slotsUsed
  threads := #[{ frames := .invoking theMethod args0 :: below }]
def below0 : List Frame := [.native { method := ⟨0, 0⟩, args := #[] }]
def about1 : State := aboutOver below0
def p0 : Program := .bare "" "" ""
def e0 : Env := launch0.env 0 0 0
theorem w_frames : about1.frames = Frame.invoking theMethod args0 :: below0 := rfl
set_option maxRecDepth 65536 in
theorem w_args : argsFit about1.vm theMethod args0 = true := by decide +kernel
set_option maxRecDepth 65536 in
theorem w_heap : heapFits about1 = true := by decide +kernel
set_option maxRecDepth 65536 in
theorem w_runnable : about1.curStatus? = some .runnable := by decide +kernel
set_option maxRecDepth 65536 in
theorem w_alone : about1.alone = true := by decide +kernel
set_option maxRecDepth 65536 in
theorem w_named : about1.methodNamed? x = some theMethod := by decide +kernel
set_option maxRecDepth 65536 in
theorem w_hears : about1.hears theMethod below0 = true := by decide +kernel
set_option maxRecDepth 65536 in
theorem w_ripe : about1.ripe theMethod args0 below0 = true := by decide +kernel
theorem w_running : about1.status = .running := rfl
set_option maxRecDepth 65536 in
theorem w_room : about1.hasRoom e0.platform room_1 = true :=
  launch0.hasRoom_least _ room_1 (by decide +kernel) (by decide +kernel) (by decide +kernel) (by decide +kernel) (by decide +kernel) (by decide +kernel)
theorem allAtoms_all (ts : List Jvm.Cond) (a : Array Jvm.Value) (st : Jvm.State) : (allAtoms ts).before a st = ts.all (fun c => c.before a st) := by
  induction ts with
  | nil => rfl
  | cons c t ih =>
    show (Jvm.Cond.and c (allAtoms t)).before a st = _
    rw [Jvm.Cond.before_and, ih, List.all_cons]
def words1 : List Jvm.Cond := Jvm.Cond.code x code maxLocals ret :: tables_1
/-- a 'code' word, met by the world's own term for the bytes: nothing is compared byte by byte -/
theorem code_word {y : MethodName} {bytes : ByteArray} {mx : Nat} {rt : Option FieldType} {a : Array Value} {s : State} {m : MethodId} {meth : Method} {c : Code} (h1 : s.methodNamed? y = some m) (h2 : s.vm.method? m = some meth) (h3 : meth.code = some c) (h4 : c.code = bytes)
    (h5 : (c.maxLocals == mx && c.exceptionTable.isEmpty && decide (c.maxStack ≤ mostOperands) && decide (meth.sig.returnType = rt) && !meth.locks && decide (parseMethodDescriptor y.desc = some meth.sig)) = true) : (Jvm.Cond.code y bytes mx rt).before a s = true := by
  simp only [Bool.and_eq_true, beq_iff_eq, Bool.not_eq_true', decide_eq_true_eq] at h5
  obtain ⟨⟨⟨⟨⟨g1, g2⟩, g3⟩, g4⟩, g5⟩, g6⟩ := h5
  simp [Cond.before, Cond.holds, Cond.value, h1, h2, h3, h4, g1, g2, g3, g4, g5, g6]
def isCode : Jvm.Cond → Bool
  | .code _ _ _ _ => true
  | _ => false
theorem all_split {L : List Jvm.Cond} {P : Jvm.Cond → Bool} (h1 : L.all (fun c => isCode c || P c) = true) (h2 : ∀ c ∈ L.filter isCode, P c = true) : L.all P = true := by
  refine List.all_eq_true.mpr fun c hc => ?_
  have h := List.all_eq_true.mp h1 c hc
  rcases Bool.eq_false_or_eq_true (isCode c) with hi | hi
  · exact h2 c (List.mem_filter.mpr ⟨hc, hi⟩)
  · simpa [hi] using h
set_option maxRecDepth 65536 in
theorem w_c0 : (Jvm.Cond.code x code maxLocals ret).before args0 about1 = true := code_word (m := ⟨1, 2⟩) (meth := k1m2) (c := k1c2) (by decide +kernel) rfl rfl rfl (by decide +kernel)
set_option maxRecDepth 65536 in
theorem w_c1 : (Jvm.Cond.code ({ cls := "com/example/bridger/bridger/mqtt/PacketSizePinLaw", name := "lengthBytes", desc := "(I)I" } : Jvm.MethodName) method_2_code (1 : Nat) (Option.some Jvm.ClassFile.FieldType.int)).before args0 about1 = true := code_word (m := ⟨1, 1⟩) (meth := k1m1) (c := k1c1) (by decide +kernel) rfl rfl rfl (by decide +kernel)
set_option maxRecDepth 65536 in
theorem w_c2 : (Jvm.Cond.code ({ cls := "com/example/bridger/bridger/mqtt/Packet", name := "size", desc := "(I)I" } : Jvm.MethodName) prog_87_method_9_code (3 : Nat) (Option.some Jvm.ClassFile.FieldType.int)).before args0 about1 = true := code_word (m := ⟨2, 0⟩) (meth := k2m0) (c := k2c0) (by decide +kernel) rfl rfl rfl (by decide +kernel)
def codes1 : List Jvm.Cond := [Jvm.Cond.code x code maxLocals ret, Jvm.Cond.code ({ cls := "com/example/bridger/bridger/mqtt/PacketSizePinLaw", name := "lengthBytes", desc := "(I)I" } : Jvm.MethodName) method_2_code (1 : Nat) (Option.some Jvm.ClassFile.FieldType.int), Jvm.Cond.code ({ cls := "com/example/bridger/bridger/mqtt/Packet", name := "size", desc := "(I)I" } : Jvm.MethodName) prog_87_method_9_code (3 : Nat) (Option.some Jvm.ClassFile.FieldType.int)]
set_option maxRecDepth 65536 in
theorem codes_eq : words1.filter isCode = codes1 := rfl
theorem w_codes : ∀ c ∈ words1.filter isCode, c.before args0 about1 = true := by
  rw [codes_eq]
  intro c hc
  simp only [codes1, List.mem_cons, List.not_mem_nil, or_false] at hc
  rcases hc with rfl | rfl | rfl
  · exact w_c0
  · exact w_c1
  · exact w_c2
set_option maxRecDepth 65536 in
theorem w_t1 : words1.all (fun c => isCode c || c.before args0 about1) = true := by decide +kernel
theorem w_tables : (allAtoms (Jvm.Cond.code x code maxLocals ret :: tables_1)).before args0 about1 = true := by
  rw [allAtoms_all]
  show words1.all (fun c => c.before args0 about1) = true
  refine all_split ?_ w_codes
  rw [w_t1]
set_option maxRecDepth 65536 in
theorem w_case : (Jvm.Cond.and given_1 narrow_1).before args0 about1 = true := by decide +kernel
theorem w_applies : (headSpec (Jvm.Cond.code x code maxLocals ret :: tables_1) room_1).applies x e0.platform about1 = true :=
  (Spec.applies_iff w_frames).mpr ⟨w_running, w_runnable, w_alone, w_named, w_hears, w_ripe, w_room, w_tables⟩
theorem atStart : AtStart classFile x code maxLocals ret World_1 tables_1 room_1 Calls_1 rest_1 Pre_1 launch0 p0 e0 about1 theMethod args0 below0 :=
  ⟨lists_1, trivial, launch0.admits_env _ _ _, launch0.least_env, fairChoices_fair.cas, fairChoices_fair.clock, w_frames, w_args, w_heap, w_applies, trivial, trivial, w_case⟩
end start1
theorem witness_1 : WitnessClaimed_1 := ⟨start1.p0, start1.e0, start1.about1, start1.theMethod, start1.args0, start1.below0, start1.atStart⟩
end Jvm.Pilot.@@N@@
