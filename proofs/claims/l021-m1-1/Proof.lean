import JvmDerived
import JvmDerived.Pilot.@@N@@Statement
import JvmDerived.Pilot.@@N@@Code
set_option linter.unusedVariables false
set_option linter.unusedSimpArgs false
namespace Jvm.Pilot.@@N@@
open Jvm Jvm.ClassFile Sem Op Lib Jvm.Free Jvm.Stand Jvm.LawKit Jvm.RoadKit Bundle Jvm.Pilot.@@N@@.Jvm.D
abbrev own_Ends (p : Program) (e : Env) (below : List Frame) (T : State) (g : JFrame) (Q : Outcome → State → Prop) : Prop :=
  ∃ s₂ o, Steps p.tables e below (T.setTop g) s₂ ∧ s₂.status = .running ∧ Ended s₂ below o ∧ Q o s₂
section Own
variable {p : Program} {l : Launch} {e : Env} {R : Room} {s : State} {m : MethodId} {args : Array Value} {below : List Frame} {meth : Method} {c : Code} {T T' : State} {locs : List Loc} {cells slots : Nat}
theorem own_go {g g' : JFrame} {Q : Outcome → State → Prop} (h : ∀ t, Steps p.tables e below (T'.setTop g') t → Steps p.tables e below (T.setTop g) t) (k : own_Ends p e below T' g' Q) : own_Ends p e below T g Q := by
  obtain ⟨s₂, o, h1, h2⟩ := k
  exact ⟨s₂, o, h _ h1, h2⟩
theorem own_start {g g' : JFrame} {Q : Outcome → State → Prop} (h : g = g') (k : own_Ends p e below T g' Q) : own_Ends p e below T g Q := h ▸ k
theorem own_ret (X : Stand p l e R s m args below meth c T locs cells slots) (hlk : meth.locks = false) (hx : p.tables.exec = Jvm.exec) {pc : Nat} {Ls : Array Slot} {w : Value} {t : FieldType} {i : Instr} {rest : List Value} (hret : meth.sig.returnType = some t) (hn : narrow t w = w)
    (hi : (i = .ireturn ∧ (t = .int ∨ t = .boolean ∨ t = .byte ∨ t = .char ∨ t = .short) ∧ ∃ z, w = .int z) ∨ (i = .lreturn ∧ t = .long ∧ ∃ z, w = .long z) ∨ (i = .dreturn ∧ t = .double ∧ ∃ z, w = .double z) ∨ (i = .freturn ∧ t = .float ∧ ∃ z, w = .float z) ∨ (i = .areturn ∧ t.isReference = true ∧ w.isRef = true))
    (hd : decode c.code pc = .ok (i, 1)) {Qv : Option Value → Heap → List Loc → Prop} {C S : Nat} (hq : Qv (some w) T.heap locs) (hc : cells ≤ C) (hs : slots ≤ S) :
    own_Ends p e below T (mkF m pc Ls (w :: rest)) (fun o U' => ∃ v L, o = .returned v ∧ Qv v U'.heap L ∧ FrameEnd s o U' L C S) := by
  obtain ⟨fs, hr, hrun, hended, hW, hsame⟩ := X.leave (v := some w) (fun h => by rw [hret] at h; cases h) hlk
  exact ⟨_, _, retOut X hx hret hn hi hd hr, hrun, hended, _, _, rfl, hq, ⟨_, rfl⟩, hW, hsame.mono hc hs⟩
theorem own_ret0 (X : Stand p l e R s m args below meth c T locs cells slots) (hlk : meth.locks = false) (hx : p.tables.exec = Jvm.exec) {pc : Nat} {Ls : Array Slot} (hret : meth.sig.returnType = none)
    (hd : decode c.code pc = .ok (.return_, 1)) {Qv : Option Value → Heap → List Loc → Prop} {C S : Nat} (hq : Qv none T.heap locs) (hc : cells ≤ C) (hs : slots ≤ S) :
    own_Ends p e below T (mkF m pc Ls []) (fun o U' => ∃ v L, o = .returned v ∧ Qv v U'.heap L ∧ FrameEnd s o U' L C S) := by
  obtain ⟨fs, hr, hrun, hended, hW, hsame⟩ := X.leave (v := none) (fun _ => rfl) hlk
  exact ⟨_, _, X.returnOut hx hret hd hr, hrun, hended, _, _, rfl, hq, ⟨_, rfl⟩, hW, hsame.mono hc hs⟩
theorem own_nr {t : FieldType} {v : Value} (h : v.isRef = true) : narrow t v = v := by cases v <;> first | (cases h; done) | (cases t <;> rfl)
end Own
theorem own_lit (n : Int32) (k : Nat) (h : n.toInt = k) (hk : k < 5) : n = 0 ∨ n = 1 ∨ n = 2 ∨ n = 3 ∨ n = 4 := by
  simp only [← Int32.toInt_inj]
  have : (0 : Int32).toInt = 0 := rfl
  have : (1 : Int32).toInt = 1 := rfl
  have : (2 : Int32).toInt = 2 := rfl
  have : (3 : Int32).toInt = 3 := rfl
  have : (4 : Int32).toInt = 4 := rfl
  omega
theorem own_m1 (x : Int32) : (x &&& 2147483647) % 1 = 0 := by
  have h2 := (c_irem (x &&& 2147483647) 1 1 rfl).1 (c_and x 2147483647 (by decide)).1
  rw [← Int32.toInt_inj]; have : (0 : Int32).toInt = 0 := rfl
  omega
theorem own_m2 (x : Int32) : (x &&& 2147483647) % 2 = 0 ∨ (x &&& 2147483647) % 2 = 1 := by
  have h2 := (c_irem (x &&& 2147483647) 2 2 rfl).1 (c_and x 2147483647 (by decide)).1
  simp only [← Int32.toInt_inj]; have : (0 : Int32).toInt = 0 := rfl
  have : (1 : Int32).toInt = 1 := rfl
  omega
theorem own_m3 (x : Int32) : (x &&& 2147483647) % 3 = 0 ∨ (x &&& 2147483647) % 3 = 1 ∨ (x &&& 2147483647) % 3 = 2 := by
  have h2 := (c_irem (x &&& 2147483647) 3 3 rfl).1 (c_and x 2147483647 (by decide)).1
  simp only [← Int32.toInt_inj]; have : (0 : Int32).toInt = 0 := rfl
  have : (1 : Int32).toInt = 1 := rfl
  have : (2 : Int32).toInt = 2 := rfl
  omega
theorem own_m4 (x : Int32) : (x &&& 2147483647) % 4 = 0 ∨ (x &&& 2147483647) % 4 = 1 ∨ (x &&& 2147483647) % 4 = 2 ∨ (x &&& 2147483647) % 4 = 3 := by
  have h2 := (c_irem (x &&& 2147483647) 4 4 rfl).1 (c_and x 2147483647 (by decide)).1
  simp only [← Int32.toInt_inj]; have : (0 : Int32).toInt = 0 := rfl
  have : (1 : Int32).toInt = 1 := rfl
  have : (2 : Int32).toInt = 2 := rfl
  have : (3 : Int32).toInt = 3 := rfl
  omega

theorem own_d_prog_67_method_6_code_0 : decode prog_67_method_6_code 0 = .ok (.aload_n 0, 1) := by decide +kernel
theorem own_d_prog_67_method_6_code_1 : decode prog_67_method_6_code 1 = .ok (.arraylength, 1) := by decide +kernel
theorem own_d_prog_67_method_6_code_2 : decode prog_67_method_6_code 2 = .ok (.iconst 1, 1) := by decide +kernel
theorem own_d_prog_67_method_6_code_3 : decode prog_67_method_6_code 3 = .ok (.iadd, 1) := by decide +kernel
theorem own_d_prog_67_method_6_code_4 : decode prog_67_method_6_code 4 = .ok (.newarray .int, 2) := by decide +kernel
theorem own_d_prog_67_method_6_code_6 : decode prog_67_method_6_code 6 = .ok (.astore_n 3, 1) := by decide +kernel
theorem own_d_prog_67_method_6_code_7 : decode prog_67_method_6_code 7 = .ok (.aload_n 0, 1) := by decide +kernel
theorem own_d_prog_67_method_6_code_8 : decode prog_67_method_6_code 8 = .ok (.iconst 0, 1) := by decide +kernel
theorem own_d_prog_67_method_6_code_9 : decode prog_67_method_6_code 9 = .ok (.aload_n 3, 1) := by decide +kernel
theorem own_d_prog_67_method_6_code_10 : decode prog_67_method_6_code 10 = .ok (.iconst 0, 1) := by decide +kernel
theorem own_d_prog_67_method_6_code_11 : decode prog_67_method_6_code 11 = .ok (.iload_n 1, 1) := by decide +kernel
theorem own_d_prog_67_method_6_code_12 : decode prog_67_method_6_code 12 = .ok (.invokestatic 99, 3) := by decide +kernel
theorem own_d_prog_67_method_6_code_15 : decode prog_67_method_6_code 15 = .ok (.aload_n 3, 1) := by decide +kernel
theorem own_d_prog_67_method_6_code_16 : decode prog_67_method_6_code 16 = .ok (.iload_n 1, 1) := by decide +kernel
theorem own_d_prog_67_method_6_code_17 : decode prog_67_method_6_code 17 = .ok (.iload_n 2, 1) := by decide +kernel
theorem own_d_prog_67_method_6_code_18 : decode prog_67_method_6_code 18 = .ok (.iastore, 1) := by decide +kernel
theorem own_d_prog_67_method_6_code_19 : decode prog_67_method_6_code 19 = .ok (.aload_n 0, 1) := by decide +kernel
theorem own_d_prog_67_method_6_code_20 : decode prog_67_method_6_code 20 = .ok (.iload_n 1, 1) := by decide +kernel
theorem own_d_prog_67_method_6_code_21 : decode prog_67_method_6_code 21 = .ok (.aload_n 3, 1) := by decide +kernel
theorem own_d_prog_67_method_6_code_22 : decode prog_67_method_6_code 22 = .ok (.iload_n 1, 1) := by decide +kernel
theorem own_d_prog_67_method_6_code_23 : decode prog_67_method_6_code 23 = .ok (.iconst 1, 1) := by decide +kernel
theorem own_d_prog_67_method_6_code_24 : decode prog_67_method_6_code 24 = .ok (.iadd, 1) := by decide +kernel
theorem own_d_prog_67_method_6_code_25 : decode prog_67_method_6_code 25 = .ok (.aload_n 0, 1) := by decide +kernel
theorem own_d_prog_67_method_6_code_26 : decode prog_67_method_6_code 26 = .ok (.arraylength, 1) := by decide +kernel
theorem own_d_prog_67_method_6_code_27 : decode prog_67_method_6_code 27 = .ok (.iload_n 1, 1) := by decide +kernel
theorem own_d_prog_67_method_6_code_28 : decode prog_67_method_6_code 28 = .ok (.isub, 1) := by decide +kernel
theorem own_d_prog_67_method_6_code_29 : decode prog_67_method_6_code 29 = .ok (.invokestatic 99, 3) := by decide +kernel
theorem own_d_prog_67_method_6_code_32 : decode prog_67_method_6_code 32 = .ok (.aload_n 3, 1) := by decide +kernel
theorem own_d_prog_67_method_6_code_33 : decode prog_67_method_6_code 33 = .ok (.areturn, 1) := by decide +kernel
def Q_own_ws_0_0 (Z : State) (pp : Int32) (h0 : Heap) (n0 : Nat) (v : Option Value) (h : Heap) (L : List Loc) : Prop := ∃ (b : Addr) (k : ClassId), v = some (.ref b) ∧ Fr n0 L ∧ h0.size ≤ b ∧ Keep h0 h [] ∧ Arv Z h b k .int (1 : Int32) [(.int pp)] (.int (0 : Int32))
set_option maxRecDepth 65536 in
set_option maxHeartbeats 40000000 in
theorem own_ws_0_0 (l : Launch) (Z : State) (a0 : Array Value) (hw : ∀ d ∈ tables_1, d.before a0 Z = true) (ws : List Jvm.Cond) (pp : Int32) (a : Addr) (ka : ClassId) (h0 : Heap) (n0 : Nat) (Z0 : n0 ≤ h0.size) (V_a : Arv Z h0 a ka .int (0 : Int32) [] (.int (0 : Int32))) :
    MetFree l (⟨"com/example/tankroute/tankroute/solve/Solution$Tour", "withStop", "([III)[I"⟩ : MethodName) (head1 (Jvm.Cond.code (⟨"com/example/tankroute/tankroute/solve/Solution$Tour", "withStop", "([III)[I"⟩ : MethodName) prog_67_method_6_code 4 (some (.array .int)) :: ws) ({ frames := 1, cells := 1, slots := 1, locals := 30 } : Room)) (fun au Uu => au = #[(.ref a), (.int (0 : Int32)), (.int pp)] ∧ Z.Warmed39 Uu.vm ∧ Uu.heap = h0) (fun _ _ _ _ _ => True) (fun _ Uu ou Uw => ∃ vu Lu, ou = .returned vu ∧ Q_own_ws_0_0 Z  pp h0 n0 vu Uw.heap Lu ∧ FrameEnd Uu ou Uw Lu ({ frames := 1, cells := 1, slots := 1, locals := 30 } : Room).cells ({ frames := 1, cells := 1, slots := 1, locals := 30 } : Room).slots) := by
  refine MetFree.of_bodySF (plainFor_of_name (by first | (simp [plainName, overriddenIn]; done) | decide +kernel)) hisR ?_
  intro p e s m args below meth c s₁ Bd hml0 hP hK
  obtain ⟨rfl, hZ, hh⟩ := hP
  have hx := Bd.exec
  have hby := Bd.bytes
  have hlk := Bd.notSynchronized
  have hml : c.maxLocals = 4 := hml0
  have hown : s.vm.findClass "com/example/tankroute/tankroute/solve/Solution$Tour" = some m.cls := findClass_of_methodNamed Bd.named
  have hnm := (name_of_methodNamed Bd.named Bd.method).1
  have X0 : Stand p l e ({ frames := 1, cells := 1, slots := 1, locals := 30 } : Room) s m #[(.ref a), (.int (0 : Int32)), (.int pp)] below meth c s₁ [] 0 0 := Stand.of_body Bd
  have e0 : s₁.heap = h0 := by rw [← hh, Bd.state]; rfl
  have N0 := Fr.nil n0
  show own_Ends p e below s₁ (entryFrame m #[(.ref a), (.int (0 : Int32)), (.int pp)] 4) (fun ou Uw => ∃ vu Lu, ou = .returned vu ∧ Q_own_ws_0_0 Z  pp h0 n0 vu Uw.heap Lu ∧ FrameEnd s ou Uw Lu ({ frames := 1, cells := 1, slots := 1, locals := 30 } : Room).cells ({ frames := 1, cells := 1, slots := 1, locals := 30 } : Room).slots)
  refine own_start (g' := (mkF m 0 #[rv a, iv (0 : Int32), iv pp, .unset] [])) (by first | (simp [entryFrame, mkF, argsToLocals, Value.category, iv, rv]; done) | rfl) ?_
  refine own_go (T' := s₁) (g' := (mkF m 1 #[rv a, iv (0 : Int32), iv pp, .unset] [(.ref a)])) (fun t k => XS.aloadN X0.here hx rfl (hb hby own_d_prog_67_method_6_code_0) rfl rfl k) ?_
  obtain ⟨cl1, Ar1, -, Sz1, Nn1, -, -⟩ := id V_a
  refine own_go (T' := s₁) (g' := (mkF m 2 #[rv a, iv (0 : Int32), iv pp, .unset] [(.int (0 : Int32))])) (fun t k => X0.arraylength hx (by rw [e0]; exact Ar1.1) (State.isArrayOf_alike hZ.alike Ar1.2.1) (g := (mkF m 1 #[rv a, iv (0 : Int32), iv pp, .unset] [(.ref a)])) rfl rfl (hb hby own_d_prog_67_method_6_code_1) _ (by rw [len_of Sz1 Nn1]; exact k)) ?_
  refine own_go (T' := s₁) (g' := (mkF m 3 #[rv a, iv (0 : Int32), iv pp, .unset] [(.int (1 : Int32)), (.int (0 : Int32))])) (fun t k => XS.iconst X0.here hx rfl (hb hby own_d_prog_67_method_6_code_2) k) ?_
  refine own_go (T' := s₁) (g' := (mkF m 4 #[rv a, iv (0 : Int32), iv pp, .unset] [(.int (1 : Int32))])) (fun t k => XS.iadd X0.here hx rfl (hb hby own_d_prog_67_method_6_code_3) rfl k) ?_
  obtain ⟨T2, h2, k2, X2, e2, E2, A2, st2⟩ := newP X0 hx hZ (hw _ (List.mem_of_getElem? (i := 1) rfl)) e0 (g := (mkF m 4 #[rv a, iv (0 : Int32), iv pp, .unset] [(.int (1 : Int32))])) rfl (hb hby own_d_prog_67_method_6_code_4) rfl (by decide) (cap := 1) (by decide) (by decide) (by decide) (by decide)
  obtain ⟨b2, g2⟩ : ∃ z, z = h0.size := ⟨_, rfl⟩
  rw [← g2] at A2 st2
  have gn2 : n0 ≤ b2 := Nat.le_trans Z0 (Nat.le_of_eq g2.symm)
  have hz2 : n0 ≤ h2.size := Nat.le_trans Z0 E2.1
  have o2 : h0.size ≤ b2 := Nat.le_trans (Keep.refl h0 []).1 (Nat.le_of_eq g2.symm)
  have K2 := (Keep.refl h0 []).ext E2
  have c3 := V_a.ext E2
  have ne4 : a ≠ b2 := Nat.ne_of_lt (Nat.lt_of_lt_of_le V_a.lt (Nat.le_of_eq g2.symm))
  have V2 : Arv Z h2 b2 k2 .int (1 : Int32) [(.int (0 : Int32))] (.int (0 : Int32)) := (Arv.new A2 (by decide)).pad (pad_rep [] (.int (0 : Int32)) 1)
  refine own_go (T' := T2) (g' := (mkF m 6 #[rv a, iv (0 : Int32), iv pp, .unset] [(.ref b2)])) (st2) ?_
  refine own_go (T' := T2) (g' := (mkF m 7 #[rv a, iv (0 : Int32), iv pp, rv b2] [])) (fun t k => XS.astoreN X2.here hx rfl (hb hby own_d_prog_67_method_6_code_6) rfl rfl (l' := #[rv a, iv (0 : Int32), iv pp, rv b2]) rfl k) ?_
  refine own_go (T' := T2) (g' := (mkF m 8 #[rv a, iv (0 : Int32), iv pp, rv b2] [(.ref a)])) (fun t k => XS.aloadN X2.here hx rfl (hb hby own_d_prog_67_method_6_code_7) rfl rfl k) ?_
  refine own_go (T' := T2) (g' := (mkF m 9 #[rv a, iv (0 : Int32), iv pp, rv b2] [(.int (0 : Int32)), (.ref a)])) (fun t k => XS.iconst X2.here hx rfl (hb hby own_d_prog_67_method_6_code_8) k) ?_
  refine own_go (T' := T2) (g' := (mkF m 10 #[rv a, iv (0 : Int32), iv pp, rv b2] [(.ref b2), (.int (0 : Int32)), (.ref a)])) (fun t k => XS.aloadN X2.here hx rfl (hb hby own_d_prog_67_method_6_code_9) rfl rfl k) ?_
  refine own_go (T' := T2) (g' := (mkF m 11 #[rv a, iv (0 : Int32), iv pp, rv b2] [(.int (0 : Int32)), (.ref b2), (.int (0 : Int32)), (.ref a)])) (fun t k => XS.iconst X2.here hx rfl (hb hby own_d_prog_67_method_6_code_10) k) ?_
  refine own_go (T' := T2) (g' := (mkF m 12 #[rv a, iv (0 : Int32), iv pp, rv b2] [(.int (0 : Int32)), (.int (0 : Int32)), (.ref b2), (.int (0 : Int32)), (.ref a)])) (fun t k => XS.iloadN X2.here hx rfl (hb hby own_d_prog_67_method_6_code_11) rfl k) ?_
  obtain ⟨T5, h5, L5, X5, e5, N5, K_5, V5q, st5⟩ := cpA X2 hx hZ hown (hw _ (List.mem_of_getElem? (i := 6) rfl)) (hw _ (List.mem_of_getElem? (i := 9) rfl)) (hw _ (List.mem_of_getElem? (i := 7) rfl)) (hw _ (List.mem_of_getElem? (i := 8) rfl)) e2 (sp := (0 : Int32)) (dp := (0 : Int32)) (nn := (0 : Int32)) (us := []) c3 V2 (Or.inl ⟨rfl, rfl⟩) (by first | decide | exact Nat.le_of_ble_eq_true rfl) (by first | decide | exact Nat.le_of_ble_eq_true rfl) (by first | decide | exact Nat.le_of_ble_eq_true rfl) (by first | decide | exact Nat.le_of_ble_eq_true rfl) (by first | decide | exact Nat.le_of_ble_eq_true rfl) rfl (by first | decide | exact Nat.le_of_ble_eq_true rfl) N0 gn2 (g := (mkF m 12 #[rv a, iv (0 : Int32), iv pp, rv b2] [(.int (0 : Int32)), (.int (0 : Int32)), (.ref b2), (.int (0 : Int32)), (.ref a)])) rfl (by rw [hml]; rfl) rfl (hb hby own_d_prog_67_method_6_code_12) (by first | decide | exact Nat.le_of_ble_eq_true rfl) (W := 0) (by show 2 * 0 + _ ≤ _; exact Nat.le_of_eq rfl) (by first | decide | exact Nat.le_of_ble_eq_true rfl)
  have V5 : Arv Z h5 b2 k2 .int (1 : Int32) [(.int (0 : Int32))] (.int (0 : Int32)) := V5q
  have c6 := c3.keep K_5 (ninS ne4 nin0)
  have hz5 : n0 ≤ h5.size := Nat.le_trans hz2 K_5.1
  have K5 := Keep.trans K2 K_5 (allS (P := fun x => x ∈ _ ∨ h0.size ≤ x) (Or.inr o2) all0)
  refine own_go (T' := T5) (g' := (mkF m 15 #[rv a, iv (0 : Int32), iv pp, rv b2] [])) (st5) ?_
  refine own_go (T' := T5) (g' := (mkF m 16 #[rv a, iv (0 : Int32), iv pp, rv b2] [(.ref b2)])) (fun t k => XS.aloadN X5.here hx rfl (hb hby own_d_prog_67_method_6_code_15) rfl rfl k) ?_
  refine own_go (T' := T5) (g' := (mkF m 17 #[rv a, iv (0 : Int32), iv pp, rv b2] [(.int (0 : Int32)), (.ref b2)])) (fun t k => XS.iloadN X5.here hx rfl (hb hby own_d_prog_67_method_6_code_16) rfl k) ?_
  refine own_go (T' := T5) (g' := (mkF m 18 #[rv a, iv (0 : Int32), iv pp, rv b2] [(.int pp), (.int (0 : Int32)), (.ref b2)])) (fun t k => XS.iloadN X5.here hx rfl (hb hby own_d_prog_67_method_6_code_17) rfl k) ?_
  obtain ⟨cl11, Ar11, q11, Sz11, Nn11, Ha11, Ga11⟩ := id V5
  have hin11 : ¬ ((0 : Int32) < 0 ∨ cl11.slots.size ≤ ((0 : Int32)).toNatClampNeg) := inb_of Sz11 ⟨by decide, by decide⟩
  obtain ⟨T11, h11, X11, e11, W11, st11⟩ := stI X5 hx hZ e5 Ar11 (j := (0 : Int32)) hin11 (g := (mkF m 18 #[rv a, iv (0 : Int32), iv pp, rv b2] [(.int pp), (.int (0 : Int32)), (.ref b2)])) rfl rfl (hb hby own_d_prog_67_method_6_code_18)
  have hz11 : n0 ≤ h11.size := Nat.le_trans hz5 (Keep.of_wr W11).1
  have N11 := Fr.snoc X11 N5 gn2
  have K11 := K5.wr W11 (Or.inr o2)
  have c12 := c6.other W11 ne4
  have V11 : Arv Z h11 b2 k2 .int (1 : Int32) [(.int pp)] (.int (0 : Int32)) := Arv.set Ar11 q11 Sz11 Nn11 Ha11 Ga11 rfl W11 0 rfl (Nat.le_of_ble_eq_true rfl)
  refine own_go (T' := T11) (g' := (mkF m 19 #[rv a, iv (0 : Int32), iv pp, rv b2] [])) (st11) ?_
  refine own_go (T' := T11) (g' := (mkF m 20 #[rv a, iv (0 : Int32), iv pp, rv b2] [(.ref a)])) (fun t k => XS.aloadN X11.here hx rfl (hb hby own_d_prog_67_method_6_code_19) rfl rfl k) ?_
  refine own_go (T' := T11) (g' := (mkF m 21 #[rv a, iv (0 : Int32), iv pp, rv b2] [(.int (0 : Int32)), (.ref a)])) (fun t k => XS.iloadN X11.here hx rfl (hb hby own_d_prog_67_method_6_code_20) rfl k) ?_
  refine own_go (T' := T11) (g' := (mkF m 22 #[rv a, iv (0 : Int32), iv pp, rv b2] [(.ref b2), (.int (0 : Int32)), (.ref a)])) (fun t k => XS.aloadN X11.here hx rfl (hb hby own_d_prog_67_method_6_code_21) rfl rfl k) ?_
  refine own_go (T' := T11) (g' := (mkF m 23 #[rv a, iv (0 : Int32), iv pp, rv b2] [(.int (0 : Int32)), (.ref b2), (.int (0 : Int32)), (.ref a)])) (fun t k => XS.iloadN X11.here hx rfl (hb hby own_d_prog_67_method_6_code_22) rfl k) ?_
  refine own_go (T' := T11) (g' := (mkF m 24 #[rv a, iv (0 : Int32), iv pp, rv b2] [(.int (1 : Int32)), (.int (0 : Int32)), (.ref b2), (.int (0 : Int32)), (.ref a)])) (fun t k => XS.iconst X11.here hx rfl (hb hby own_d_prog_67_method_6_code_23) k) ?_
  refine own_go (T' := T11) (g' := (mkF m 25 #[rv a, iv (0 : Int32), iv pp, rv b2] [(.int (1 : Int32)), (.ref b2), (.int (0 : Int32)), (.ref a)])) (fun t k => XS.iadd X11.here hx rfl (hb hby own_d_prog_67_method_6_code_24) rfl k) ?_
  refine own_go (T' := T11) (g' := (mkF m 26 #[rv a, iv (0 : Int32), iv pp, rv b2] [(.ref a), (.int (1 : Int32)), (.ref b2), (.int (0 : Int32)), (.ref a)])) (fun t k => XS.aloadN X11.here hx rfl (hb hby own_d_prog_67_method_6_code_25) rfl rfl k) ?_
  obtain ⟨cl14, Ar14, -, Sz14, Nn14, -, -⟩ := id c12
  refine own_go (T' := T11) (g' := (mkF m 27 #[rv a, iv (0 : Int32), iv pp, rv b2] [(.int (0 : Int32)), (.int (1 : Int32)), (.ref b2), (.int (0 : Int32)), (.ref a)])) (fun t k => X11.arraylength hx (by rw [e11]; exact Ar14.1) (State.isArrayOf_alike hZ.alike Ar14.2.1) (g := (mkF m 26 #[rv a, iv (0 : Int32), iv pp, rv b2] [(.ref a), (.int (1 : Int32)), (.ref b2), (.int (0 : Int32)), (.ref a)])) rfl rfl (hb hby own_d_prog_67_method_6_code_26) _ (by rw [len_of Sz14 Nn14]; exact k)) ?_
  refine own_go (T' := T11) (g' := (mkF m 28 #[rv a, iv (0 : Int32), iv pp, rv b2] [(.int (0 : Int32)), (.int (0 : Int32)), (.int (1 : Int32)), (.ref b2), (.int (0 : Int32)), (.ref a)])) (fun t k => XS.iloadN X11.here hx rfl (hb hby own_d_prog_67_method_6_code_27) rfl k) ?_
  refine own_go (T' := T11) (g' := (mkF m 29 #[rv a, iv (0 : Int32), iv pp, rv b2] [(.int (0 : Int32)), (.int (1 : Int32)), (.ref b2), (.int (0 : Int32)), (.ref a)])) (fun t k => XS.isub X11.here hx rfl (hb hby own_d_prog_67_method_6_code_28) rfl k) ?_
  obtain ⟨T15, h15, L15, X15, e15, N15, K_15, V15q, st15⟩ := cpA X11 hx hZ hown (hw _ (List.mem_of_getElem? (i := 6) rfl)) (hw _ (List.mem_of_getElem? (i := 9) rfl)) (hw _ (List.mem_of_getElem? (i := 7) rfl)) (hw _ (List.mem_of_getElem? (i := 8) rfl)) e11 (sp := (0 : Int32)) (dp := (1 : Int32)) (nn := (0 : Int32)) (us := []) c12 V11 (Or.inl ⟨rfl, rfl⟩) (by first | decide | exact Nat.le_of_ble_eq_true rfl) (by first | decide | exact Nat.le_of_ble_eq_true rfl) (by first | decide | exact Nat.le_of_ble_eq_true rfl) (by first | decide | exact Nat.le_of_ble_eq_true rfl) (by first | decide | exact Nat.le_of_ble_eq_true rfl) rfl (by first | decide | exact Nat.le_of_ble_eq_true rfl) N11 gn2 (g := (mkF m 29 #[rv a, iv (0 : Int32), iv pp, rv b2] [(.int (0 : Int32)), (.int (1 : Int32)), (.ref b2), (.int (0 : Int32)), (.ref a)])) rfl (by rw [hml]; rfl) rfl (hb hby own_d_prog_67_method_6_code_29) (by first | decide | exact Nat.le_of_ble_eq_true rfl) (W := 0) (by show 2 * 0 + _ ≤ _; exact Nat.le_of_eq rfl) (by first | decide | exact Nat.le_of_ble_eq_true rfl)
  have V15 : Arv Z h15 b2 k2 .int (1 : Int32) [(.int pp)] (.int (0 : Int32)) := V15q
  have c16 := c12.keep K_15 (ninS ne4 nin0)
  have hz15 : n0 ≤ h15.size := Nat.le_trans hz11 K_15.1
  have K15 := Keep.trans K11 K_15 (allS (P := fun x => x ∈ _ ∨ h0.size ≤ x) (Or.inr o2) all0)
  refine own_go (T' := T15) (g' := (mkF m 32 #[rv a, iv (0 : Int32), iv pp, rv b2] [])) (st15) ?_
  refine own_go (T' := T15) (g' := (mkF m 33 #[rv a, iv (0 : Int32), iv pp, rv b2] [(.ref b2)])) (fun t k => XS.aloadN X15.here hx rfl (hb hby own_d_prog_67_method_6_code_32) rfl rfl k) ?_
  exact own_ret X15 hlk hx Bd.returns rfl (Or.inr (Or.inr (Or.inr (Or.inr ⟨rfl, rfl, rfl⟩)))) (hb hby own_d_prog_67_method_6_code_33) (by rw [e15]; exact ⟨b2, _, rfl, N15, o2, K15, V15⟩) (by decide) (by decide)

def Q_own_ws_1_0 (Z : State) (v0 : Int32) (pp : Int32) (h0 : Heap) (n0 : Nat) (v : Option Value) (h : Heap) (L : List Loc) : Prop := ∃ (b : Addr) (k : ClassId), v = some (.ref b) ∧ Fr n0 L ∧ h0.size ≤ b ∧ Keep h0 h [] ∧ Arv Z h b k .int (2 : Int32) [(.int pp), (.int v0)] (.int (0 : Int32))
set_option maxRecDepth 65536 in
set_option maxHeartbeats 40000000 in
theorem own_ws_1_0 (l : Launch) (Z : State) (a0 : Array Value) (hw : ∀ d ∈ tables_1, d.before a0 Z = true) (ws : List Jvm.Cond) (v0 : Int32) (pp : Int32) (a : Addr) (ka : ClassId) (h0 : Heap) (n0 : Nat) (Z0 : n0 ≤ h0.size) (V_a : Arv Z h0 a ka .int (1 : Int32) [(.int v0)] (.int (0 : Int32))) :
    MetFree l (⟨"com/example/tankroute/tankroute/solve/Solution$Tour", "withStop", "([III)[I"⟩ : MethodName) (head1 (Jvm.Cond.code (⟨"com/example/tankroute/tankroute/solve/Solution$Tour", "withStop", "([III)[I"⟩ : MethodName) prog_67_method_6_code 4 (some (.array .int)) :: ws) ({ frames := 1, cells := 1, slots := 2, locals := 30 } : Room)) (fun au Uu => au = #[(.ref a), (.int (0 : Int32)), (.int pp)] ∧ Z.Warmed39 Uu.vm ∧ Uu.heap = h0) (fun _ _ _ _ _ => True) (fun _ Uu ou Uw => ∃ vu Lu, ou = .returned vu ∧ Q_own_ws_1_0 Z v0 pp h0 n0 vu Uw.heap Lu ∧ FrameEnd Uu ou Uw Lu ({ frames := 1, cells := 1, slots := 2, locals := 30 } : Room).cells ({ frames := 1, cells := 1, slots := 2, locals := 30 } : Room).slots) := by
  refine MetFree.of_bodySF (plainFor_of_name (by first | (simp [plainName, overriddenIn]; done) | decide +kernel)) hisR ?_
  intro p e s m args below meth c s₁ Bd hml0 hP hK
  obtain ⟨rfl, hZ, hh⟩ := hP
  have hx := Bd.exec
  have hby := Bd.bytes
  have hlk := Bd.notSynchronized
  have hml : c.maxLocals = 4 := hml0
  have hown : s.vm.findClass "com/example/tankroute/tankroute/solve/Solution$Tour" = some m.cls := findClass_of_methodNamed Bd.named
  have hnm := (name_of_methodNamed Bd.named Bd.method).1
  have X0 : Stand p l e ({ frames := 1, cells := 1, slots := 2, locals := 30 } : Room) s m #[(.ref a), (.int (0 : Int32)), (.int pp)] below meth c s₁ [] 0 0 := Stand.of_body Bd
  have e0 : s₁.heap = h0 := by rw [← hh, Bd.state]; rfl
  have N0 := Fr.nil n0
  show own_Ends p e below s₁ (entryFrame m #[(.ref a), (.int (0 : Int32)), (.int pp)] 4) (fun ou Uw => ∃ vu Lu, ou = .returned vu ∧ Q_own_ws_1_0 Z v0 pp h0 n0 vu Uw.heap Lu ∧ FrameEnd s ou Uw Lu ({ frames := 1, cells := 1, slots := 2, locals := 30 } : Room).cells ({ frames := 1, cells := 1, slots := 2, locals := 30 } : Room).slots)
  refine own_start (g' := (mkF m 0 #[rv a, iv (0 : Int32), iv pp, .unset] [])) (by first | (simp [entryFrame, mkF, argsToLocals, Value.category, iv, rv]; done) | rfl) ?_
  refine own_go (T' := s₁) (g' := (mkF m 1 #[rv a, iv (0 : Int32), iv pp, .unset] [(.ref a)])) (fun t k => XS.aloadN X0.here hx rfl (hb hby own_d_prog_67_method_6_code_0) rfl rfl k) ?_
  obtain ⟨cl21, Ar21, -, Sz21, Nn21, -, -⟩ := id V_a
  refine own_go (T' := s₁) (g' := (mkF m 2 #[rv a, iv (0 : Int32), iv pp, .unset] [(.int (1 : Int32))])) (fun t k => X0.arraylength hx (by rw [e0]; exact Ar21.1) (State.isArrayOf_alike hZ.alike Ar21.2.1) (g := (mkF m 1 #[rv a, iv (0 : Int32), iv pp, .unset] [(.ref a)])) rfl rfl (hb hby own_d_prog_67_method_6_code_1) _ (by rw [len_of Sz21 Nn21]; exact k)) ?_
  refine own_go (T' := s₁) (g' := (mkF m 3 #[rv a, iv (0 : Int32), iv pp, .unset] [(.int (1 : Int32)), (.int (1 : Int32))])) (fun t k => XS.iconst X0.here hx rfl (hb hby own_d_prog_67_method_6_code_2) k) ?_
  refine own_go (T' := s₁) (g' := (mkF m 4 #[rv a, iv (0 : Int32), iv pp, .unset] [(.int (2 : Int32))])) (fun t k => XS.iadd X0.here hx rfl (hb hby own_d_prog_67_method_6_code_3) rfl k) ?_
  obtain ⟨T22, h22, k22, X22, e22, E22, A22, st22⟩ := newP X0 hx hZ (hw _ (List.mem_of_getElem? (i := 1) rfl)) e0 (g := (mkF m 4 #[rv a, iv (0 : Int32), iv pp, .unset] [(.int (2 : Int32))])) rfl (hb hby own_d_prog_67_method_6_code_4) rfl (by decide) (cap := 2) (by decide) (by decide) (by decide) (by decide)
  obtain ⟨b22, g22⟩ : ∃ z, z = h0.size := ⟨_, rfl⟩
  rw [← g22] at A22 st22
  have gn22 : n0 ≤ b22 := Nat.le_trans Z0 (Nat.le_of_eq g22.symm)
  have hz22 : n0 ≤ h22.size := Nat.le_trans Z0 E22.1
  have o22 : h0.size ≤ b22 := Nat.le_trans (Keep.refl h0 []).1 (Nat.le_of_eq g22.symm)
  have K22 := (Keep.refl h0 []).ext E22
  have c23 := V_a.ext E22
  have ne24 : a ≠ b22 := Nat.ne_of_lt (Nat.lt_of_lt_of_le V_a.lt (Nat.le_of_eq g22.symm))
  have V22 : Arv Z h22 b22 k22 .int (2 : Int32) [(.int (0 : Int32)), (.int (0 : Int32))] (.int (0 : Int32)) := (Arv.new A22 (by decide)).pad (pad_rep [] (.int (0 : Int32)) 2)
  refine own_go (T' := T22) (g' := (mkF m 6 #[rv a, iv (0 : Int32), iv pp, .unset] [(.ref b22)])) (st22) ?_
  refine own_go (T' := T22) (g' := (mkF m 7 #[rv a, iv (0 : Int32), iv pp, rv b22] [])) (fun t k => XS.astoreN X22.here hx rfl (hb hby own_d_prog_67_method_6_code_6) rfl rfl (l' := #[rv a, iv (0 : Int32), iv pp, rv b22]) rfl k) ?_
  refine own_go (T' := T22) (g' := (mkF m 8 #[rv a, iv (0 : Int32), iv pp, rv b22] [(.ref a)])) (fun t k => XS.aloadN X22.here hx rfl (hb hby own_d_prog_67_method_6_code_7) rfl rfl k) ?_
  refine own_go (T' := T22) (g' := (mkF m 9 #[rv a, iv (0 : Int32), iv pp, rv b22] [(.int (0 : Int32)), (.ref a)])) (fun t k => XS.iconst X22.here hx rfl (hb hby own_d_prog_67_method_6_code_8) k) ?_
  refine own_go (T' := T22) (g' := (mkF m 10 #[rv a, iv (0 : Int32), iv pp, rv b22] [(.ref b22), (.int (0 : Int32)), (.ref a)])) (fun t k => XS.aloadN X22.here hx rfl (hb hby own_d_prog_67_method_6_code_9) rfl rfl k) ?_
  refine own_go (T' := T22) (g' := (mkF m 11 #[rv a, iv (0 : Int32), iv pp, rv b22] [(.int (0 : Int32)), (.ref b22), (.int (0 : Int32)), (.ref a)])) (fun t k => XS.iconst X22.here hx rfl (hb hby own_d_prog_67_method_6_code_10) k) ?_
  refine own_go (T' := T22) (g' := (mkF m 12 #[rv a, iv (0 : Int32), iv pp, rv b22] [(.int (0 : Int32)), (.int (0 : Int32)), (.ref b22), (.int (0 : Int32)), (.ref a)])) (fun t k => XS.iloadN X22.here hx rfl (hb hby own_d_prog_67_method_6_code_11) rfl k) ?_
  obtain ⟨T25, h25, L25, X25, e25, N25, K_25, V25q, st25⟩ := cpA X22 hx hZ hown (hw _ (List.mem_of_getElem? (i := 6) rfl)) (hw _ (List.mem_of_getElem? (i := 9) rfl)) (hw _ (List.mem_of_getElem? (i := 7) rfl)) (hw _ (List.mem_of_getElem? (i := 8) rfl)) e22 (sp := (0 : Int32)) (dp := (0 : Int32)) (nn := (0 : Int32)) (us := []) c23 V22 (Or.inl ⟨rfl, rfl⟩) (by first | decide | exact Nat.le_of_ble_eq_true rfl) (by first | decide | exact Nat.le_of_ble_eq_true rfl) (by first | decide | exact Nat.le_of_ble_eq_true rfl) (by first | decide | exact Nat.le_of_ble_eq_true rfl) (by first | decide | exact Nat.le_of_ble_eq_true rfl) rfl (by first | decide | exact Nat.le_of_ble_eq_true rfl) N0 gn22 (g := (mkF m 12 #[rv a, iv (0 : Int32), iv pp, rv b22] [(.int (0 : Int32)), (.int (0 : Int32)), (.ref b22), (.int (0 : Int32)), (.ref a)])) rfl (by rw [hml]; rfl) rfl (hb hby own_d_prog_67_method_6_code_12) (by first | decide | exact Nat.le_of_ble_eq_true rfl) (W := 0) (by show 2 * 0 + _ ≤ _; exact Nat.le_of_eq rfl) (by first | decide | exact Nat.le_of_ble_eq_true rfl)
  have V25 : Arv Z h25 b22 k22 .int (2 : Int32) [(.int (0 : Int32)), (.int (0 : Int32))] (.int (0 : Int32)) := V25q
  have c26 := c23.keep K_25 (ninS ne24 nin0)
  have hz25 : n0 ≤ h25.size := Nat.le_trans hz22 K_25.1
  have K25 := Keep.trans K22 K_25 (allS (P := fun x => x ∈ _ ∨ h0.size ≤ x) (Or.inr o22) all0)
  refine own_go (T' := T25) (g' := (mkF m 15 #[rv a, iv (0 : Int32), iv pp, rv b22] [])) (st25) ?_
  refine own_go (T' := T25) (g' := (mkF m 16 #[rv a, iv (0 : Int32), iv pp, rv b22] [(.ref b22)])) (fun t k => XS.aloadN X25.here hx rfl (hb hby own_d_prog_67_method_6_code_15) rfl rfl k) ?_
  refine own_go (T' := T25) (g' := (mkF m 17 #[rv a, iv (0 : Int32), iv pp, rv b22] [(.int (0 : Int32)), (.ref b22)])) (fun t k => XS.iloadN X25.here hx rfl (hb hby own_d_prog_67_method_6_code_16) rfl k) ?_
  refine own_go (T' := T25) (g' := (mkF m 18 #[rv a, iv (0 : Int32), iv pp, rv b22] [(.int pp), (.int (0 : Int32)), (.ref b22)])) (fun t k => XS.iloadN X25.here hx rfl (hb hby own_d_prog_67_method_6_code_17) rfl k) ?_
  obtain ⟨cl31, Ar31, q31, Sz31, Nn31, Ha31, Ga31⟩ := id V25
  have hin31 : ¬ ((0 : Int32) < 0 ∨ cl31.slots.size ≤ ((0 : Int32)).toNatClampNeg) := inb_of Sz31 ⟨by decide, by decide⟩
  obtain ⟨T31, h31, X31, e31, W31, st31⟩ := stI X25 hx hZ e25 Ar31 (j := (0 : Int32)) hin31 (g := (mkF m 18 #[rv a, iv (0 : Int32), iv pp, rv b22] [(.int pp), (.int (0 : Int32)), (.ref b22)])) rfl rfl (hb hby own_d_prog_67_method_6_code_18)
  have hz31 : n0 ≤ h31.size := Nat.le_trans hz25 (Keep.of_wr W31).1
  have N31 := Fr.snoc X31 N25 gn22
  have K31 := K25.wr W31 (Or.inr o22)
  have c32 := c26.other W31 ne24
  have V31 : Arv Z h31 b22 k22 .int (2 : Int32) [(.int pp), (.int (0 : Int32))] (.int (0 : Int32)) := Arv.set Ar31 q31 Sz31 Nn31 Ha31 Ga31 rfl W31 0 rfl (Nat.le_of_ble_eq_true rfl)
  refine own_go (T' := T31) (g' := (mkF m 19 #[rv a, iv (0 : Int32), iv pp, rv b22] [])) (st31) ?_
  refine own_go (T' := T31) (g' := (mkF m 20 #[rv a, iv (0 : Int32), iv pp, rv b22] [(.ref a)])) (fun t k => XS.aloadN X31.here hx rfl (hb hby own_d_prog_67_method_6_code_19) rfl rfl k) ?_
  refine own_go (T' := T31) (g' := (mkF m 21 #[rv a, iv (0 : Int32), iv pp, rv b22] [(.int (0 : Int32)), (.ref a)])) (fun t k => XS.iloadN X31.here hx rfl (hb hby own_d_prog_67_method_6_code_20) rfl k) ?_
  refine own_go (T' := T31) (g' := (mkF m 22 #[rv a, iv (0 : Int32), iv pp, rv b22] [(.ref b22), (.int (0 : Int32)), (.ref a)])) (fun t k => XS.aloadN X31.here hx rfl (hb hby own_d_prog_67_method_6_code_21) rfl rfl k) ?_
  refine own_go (T' := T31) (g' := (mkF m 23 #[rv a, iv (0 : Int32), iv pp, rv b22] [(.int (0 : Int32)), (.ref b22), (.int (0 : Int32)), (.ref a)])) (fun t k => XS.iloadN X31.here hx rfl (hb hby own_d_prog_67_method_6_code_22) rfl k) ?_
  refine own_go (T' := T31) (g' := (mkF m 24 #[rv a, iv (0 : Int32), iv pp, rv b22] [(.int (1 : Int32)), (.int (0 : Int32)), (.ref b22), (.int (0 : Int32)), (.ref a)])) (fun t k => XS.iconst X31.here hx rfl (hb hby own_d_prog_67_method_6_code_23) k) ?_
  refine own_go (T' := T31) (g' := (mkF m 25 #[rv a, iv (0 : Int32), iv pp, rv b22] [(.int (1 : Int32)), (.ref b22), (.int (0 : Int32)), (.ref a)])) (fun t k => XS.iadd X31.here hx rfl (hb hby own_d_prog_67_method_6_code_24) rfl k) ?_
  refine own_go (T' := T31) (g' := (mkF m 26 #[rv a, iv (0 : Int32), iv pp, rv b22] [(.ref a), (.int (1 : Int32)), (.ref b22), (.int (0 : Int32)), (.ref a)])) (fun t k => XS.aloadN X31.here hx rfl (hb hby own_d_prog_67_method_6_code_25) rfl rfl k) ?_
  obtain ⟨cl34, Ar34, -, Sz34, Nn34, -, -⟩ := id c32
  refine own_go (T' := T31) (g' := (mkF m 27 #[rv a, iv (0 : Int32), iv pp, rv b22] [(.int (1 : Int32)), (.int (1 : Int32)), (.ref b22), (.int (0 : Int32)), (.ref a)])) (fun t k => X31.arraylength hx (by rw [e31]; exact Ar34.1) (State.isArrayOf_alike hZ.alike Ar34.2.1) (g := (mkF m 26 #[rv a, iv (0 : Int32), iv pp, rv b22] [(.ref a), (.int (1 : Int32)), (.ref b22), (.int (0 : Int32)), (.ref a)])) rfl rfl (hb hby own_d_prog_67_method_6_code_26) _ (by rw [len_of Sz34 Nn34]; exact k)) ?_
  refine own_go (T' := T31) (g' := (mkF m 28 #[rv a, iv (0 : Int32), iv pp, rv b22] [(.int (0 : Int32)), (.int (1 : Int32)), (.int (1 : Int32)), (.ref b22), (.int (0 : Int32)), (.ref a)])) (fun t k => XS.iloadN X31.here hx rfl (hb hby own_d_prog_67_method_6_code_27) rfl k) ?_
  refine own_go (T' := T31) (g' := (mkF m 29 #[rv a, iv (0 : Int32), iv pp, rv b22] [(.int (1 : Int32)), (.int (1 : Int32)), (.ref b22), (.int (0 : Int32)), (.ref a)])) (fun t k => XS.isub X31.here hx rfl (hb hby own_d_prog_67_method_6_code_28) rfl k) ?_
  obtain ⟨T35, h35, L35, X35, e35, N35, K_35, V35q, st35⟩ := cpA X31 hx hZ hown (hw _ (List.mem_of_getElem? (i := 6) rfl)) (hw _ (List.mem_of_getElem? (i := 9) rfl)) (hw _ (List.mem_of_getElem? (i := 7) rfl)) (hw _ (List.mem_of_getElem? (i := 8) rfl)) e31 (sp := (0 : Int32)) (dp := (1 : Int32)) (nn := (1 : Int32)) (us := [(.int v0)]) c32 V31 (Or.inl ⟨rfl, rfl⟩) (by first | decide | exact Nat.le_of_ble_eq_true rfl) (by first | decide | exact Nat.le_of_ble_eq_true rfl) (by first | decide | exact Nat.le_of_ble_eq_true rfl) (by first | decide | exact Nat.le_of_ble_eq_true rfl) (by first | decide | exact Nat.le_of_ble_eq_true rfl) rfl (by first | decide | exact Nat.le_of_ble_eq_true rfl) N31 gn22 (g := (mkF m 29 #[rv a, iv (0 : Int32), iv pp, rv b22] [(.int (1 : Int32)), (.int (1 : Int32)), (.ref b22), (.int (0 : Int32)), (.ref a)])) rfl (by rw [hml]; rfl) rfl (hb hby own_d_prog_67_method_6_code_29) (by first | decide | exact Nat.le_of_ble_eq_true rfl) (W := 0) (by show 2 * 0 + _ ≤ _; exact Nat.le_of_eq rfl) (by first | decide | exact Nat.le_of_ble_eq_true rfl)
  have V35 : Arv Z h35 b22 k22 .int (2 : Int32) [(.int pp), (.int v0)] (.int (0 : Int32)) := V35q
  have c36 := c32.keep K_35 (ninS ne24 nin0)
  have hz35 : n0 ≤ h35.size := Nat.le_trans hz31 K_35.1
  have K35 := Keep.trans K31 K_35 (allS (P := fun x => x ∈ _ ∨ h0.size ≤ x) (Or.inr o22) all0)
  refine own_go (T' := T35) (g' := (mkF m 32 #[rv a, iv (0 : Int32), iv pp, rv b22] [])) (st35) ?_
  refine own_go (T' := T35) (g' := (mkF m 33 #[rv a, iv (0 : Int32), iv pp, rv b22] [(.ref b22)])) (fun t k => XS.aloadN X35.here hx rfl (hb hby own_d_prog_67_method_6_code_32) rfl rfl k) ?_
  exact own_ret X35 hlk hx Bd.returns rfl (Or.inr (Or.inr (Or.inr (Or.inr ⟨rfl, rfl, rfl⟩)))) (hb hby own_d_prog_67_method_6_code_33) (by rw [e35]; exact ⟨b22, _, rfl, N35, o22, K35, V35⟩) (by decide) (by decide)

def Q_own_ws_1_1 (Z : State) (v0 : Int32) (pp : Int32) (h0 : Heap) (n0 : Nat) (v : Option Value) (h : Heap) (L : List Loc) : Prop := ∃ (b : Addr) (k : ClassId), v = some (.ref b) ∧ Fr n0 L ∧ h0.size ≤ b ∧ Keep h0 h [] ∧ Arv Z h b k .int (2 : Int32) [(.int v0), (.int pp)] (.int (0 : Int32))
set_option maxRecDepth 65536 in
set_option maxHeartbeats 40000000 in
theorem own_ws_1_1 (l : Launch) (Z : State) (a0 : Array Value) (hw : ∀ d ∈ tables_1, d.before a0 Z = true) (ws : List Jvm.Cond) (v0 : Int32) (pp : Int32) (a : Addr) (ka : ClassId) (h0 : Heap) (n0 : Nat) (Z0 : n0 ≤ h0.size) (V_a : Arv Z h0 a ka .int (1 : Int32) [(.int v0)] (.int (0 : Int32))) :
    MetFree l (⟨"com/example/tankroute/tankroute/solve/Solution$Tour", "withStop", "([III)[I"⟩ : MethodName) (head1 (Jvm.Cond.code (⟨"com/example/tankroute/tankroute/solve/Solution$Tour", "withStop", "([III)[I"⟩ : MethodName) prog_67_method_6_code 4 (some (.array .int)) :: ws) ({ frames := 1, cells := 1, slots := 2, locals := 30 } : Room)) (fun au Uu => au = #[(.ref a), (.int (1 : Int32)), (.int pp)] ∧ Z.Warmed39 Uu.vm ∧ Uu.heap = h0) (fun _ _ _ _ _ => True) (fun _ Uu ou Uw => ∃ vu Lu, ou = .returned vu ∧ Q_own_ws_1_1 Z v0 pp h0 n0 vu Uw.heap Lu ∧ FrameEnd Uu ou Uw Lu ({ frames := 1, cells := 1, slots := 2, locals := 30 } : Room).cells ({ frames := 1, cells := 1, slots := 2, locals := 30 } : Room).slots) := by
  refine MetFree.of_bodySF (plainFor_of_name (by first | (simp [plainName, overriddenIn]; done) | decide +kernel)) hisR ?_
  intro p e s m args below meth c s₁ Bd hml0 hP hK
  obtain ⟨rfl, hZ, hh⟩ := hP
  have hx := Bd.exec
  have hby := Bd.bytes
  have hlk := Bd.notSynchronized
  have hml : c.maxLocals = 4 := hml0
  have hown : s.vm.findClass "com/example/tankroute/tankroute/solve/Solution$Tour" = some m.cls := findClass_of_methodNamed Bd.named
  have hnm := (name_of_methodNamed Bd.named Bd.method).1
  have X0 : Stand p l e ({ frames := 1, cells := 1, slots := 2, locals := 30 } : Room) s m #[(.ref a), (.int (1 : Int32)), (.int pp)] below meth c s₁ [] 0 0 := Stand.of_body Bd
  have e0 : s₁.heap = h0 := by rw [← hh, Bd.state]; rfl
  have N0 := Fr.nil n0
  show own_Ends p e below s₁ (entryFrame m #[(.ref a), (.int (1 : Int32)), (.int pp)] 4) (fun ou Uw => ∃ vu Lu, ou = .returned vu ∧ Q_own_ws_1_1 Z v0 pp h0 n0 vu Uw.heap Lu ∧ FrameEnd s ou Uw Lu ({ frames := 1, cells := 1, slots := 2, locals := 30 } : Room).cells ({ frames := 1, cells := 1, slots := 2, locals := 30 } : Room).slots)
  refine own_start (g' := (mkF m 0 #[rv a, iv (1 : Int32), iv pp, .unset] [])) (by first | (simp [entryFrame, mkF, argsToLocals, Value.category, iv, rv]; done) | rfl) ?_
  refine own_go (T' := s₁) (g' := (mkF m 1 #[rv a, iv (1 : Int32), iv pp, .unset] [(.ref a)])) (fun t k => XS.aloadN X0.here hx rfl (hb hby own_d_prog_67_method_6_code_0) rfl rfl k) ?_
  obtain ⟨cl41, Ar41, -, Sz41, Nn41, -, -⟩ := id V_a
  refine own_go (T' := s₁) (g' := (mkF m 2 #[rv a, iv (1 : Int32), iv pp, .unset] [(.int (1 : Int32))])) (fun t k => X0.arraylength hx (by rw [e0]; exact Ar41.1) (State.isArrayOf_alike hZ.alike Ar41.2.1) (g := (mkF m 1 #[rv a, iv (1 : Int32), iv pp, .unset] [(.ref a)])) rfl rfl (hb hby own_d_prog_67_method_6_code_1) _ (by rw [len_of Sz41 Nn41]; exact k)) ?_
  refine own_go (T' := s₁) (g' := (mkF m 3 #[rv a, iv (1 : Int32), iv pp, .unset] [(.int (1 : Int32)), (.int (1 : Int32))])) (fun t k => XS.iconst X0.here hx rfl (hb hby own_d_prog_67_method_6_code_2) k) ?_
  refine own_go (T' := s₁) (g' := (mkF m 4 #[rv a, iv (1 : Int32), iv pp, .unset] [(.int (2 : Int32))])) (fun t k => XS.iadd X0.here hx rfl (hb hby own_d_prog_67_method_6_code_3) rfl k) ?_
  obtain ⟨T42, h42, k42, X42, e42, E42, A42, st42⟩ := newP X0 hx hZ (hw _ (List.mem_of_getElem? (i := 1) rfl)) e0 (g := (mkF m 4 #[rv a, iv (1 : Int32), iv pp, .unset] [(.int (2 : Int32))])) rfl (hb hby own_d_prog_67_method_6_code_4) rfl (by decide) (cap := 2) (by decide) (by decide) (by decide) (by decide)
  obtain ⟨b42, g42⟩ : ∃ z, z = h0.size := ⟨_, rfl⟩
  rw [← g42] at A42 st42
  have gn42 : n0 ≤ b42 := Nat.le_trans Z0 (Nat.le_of_eq g42.symm)
  have hz42 : n0 ≤ h42.size := Nat.le_trans Z0 E42.1
  have o42 : h0.size ≤ b42 := Nat.le_trans (Keep.refl h0 []).1 (Nat.le_of_eq g42.symm)
  have K42 := (Keep.refl h0 []).ext E42
  have c43 := V_a.ext E42
  have ne44 : a ≠ b42 := Nat.ne_of_lt (Nat.lt_of_lt_of_le V_a.lt (Nat.le_of_eq g42.symm))
  have V42 : Arv Z h42 b42 k42 .int (2 : Int32) [(.int (0 : Int32)), (.int (0 : Int32))] (.int (0 : Int32)) := (Arv.new A42 (by decide)).pad (pad_rep [] (.int (0 : Int32)) 2)
  refine own_go (T' := T42) (g' := (mkF m 6 #[rv a, iv (1 : Int32), iv pp, .unset] [(.ref b42)])) (st42) ?_
  refine own_go (T' := T42) (g' := (mkF m 7 #[rv a, iv (1 : Int32), iv pp, rv b42] [])) (fun t k => XS.astoreN X42.here hx rfl (hb hby own_d_prog_67_method_6_code_6) rfl rfl (l' := #[rv a, iv (1 : Int32), iv pp, rv b42]) rfl k) ?_
  refine own_go (T' := T42) (g' := (mkF m 8 #[rv a, iv (1 : Int32), iv pp, rv b42] [(.ref a)])) (fun t k => XS.aloadN X42.here hx rfl (hb hby own_d_prog_67_method_6_code_7) rfl rfl k) ?_
  refine own_go (T' := T42) (g' := (mkF m 9 #[rv a, iv (1 : Int32), iv pp, rv b42] [(.int (0 : Int32)), (.ref a)])) (fun t k => XS.iconst X42.here hx rfl (hb hby own_d_prog_67_method_6_code_8) k) ?_
  refine own_go (T' := T42) (g' := (mkF m 10 #[rv a, iv (1 : Int32), iv pp, rv b42] [(.ref b42), (.int (0 : Int32)), (.ref a)])) (fun t k => XS.aloadN X42.here hx rfl (hb hby own_d_prog_67_method_6_code_9) rfl rfl k) ?_
  refine own_go (T' := T42) (g' := (mkF m 11 #[rv a, iv (1 : Int32), iv pp, rv b42] [(.int (0 : Int32)), (.ref b42), (.int (0 : Int32)), (.ref a)])) (fun t k => XS.iconst X42.here hx rfl (hb hby own_d_prog_67_method_6_code_10) k) ?_
  refine own_go (T' := T42) (g' := (mkF m 12 #[rv a, iv (1 : Int32), iv pp, rv b42] [(.int (1 : Int32)), (.int (0 : Int32)), (.ref b42), (.int (0 : Int32)), (.ref a)])) (fun t k => XS.iloadN X42.here hx rfl (hb hby own_d_prog_67_method_6_code_11) rfl k) ?_
  obtain ⟨T45, h45, L45, X45, e45, N45, K_45, V45q, st45⟩ := cpA X42 hx hZ hown (hw _ (List.mem_of_getElem? (i := 6) rfl)) (hw _ (List.mem_of_getElem? (i := 9) rfl)) (hw _ (List.mem_of_getElem? (i := 7) rfl)) (hw _ (List.mem_of_getElem? (i := 8) rfl)) e42 (sp := (0 : Int32)) (dp := (0 : Int32)) (nn := (1 : Int32)) (us := [(.int v0)]) c43 V42 (Or.inl ⟨rfl, rfl⟩) (by first | decide | exact Nat.le_of_ble_eq_true rfl) (by first | decide | exact Nat.le_of_ble_eq_true rfl) (by first | decide | exact Nat.le_of_ble_eq_true rfl) (by first | decide | exact Nat.le_of_ble_eq_true rfl) (by first | decide | exact Nat.le_of_ble_eq_true rfl) rfl (by first | decide | exact Nat.le_of_ble_eq_true rfl) N0 gn42 (g := (mkF m 12 #[rv a, iv (1 : Int32), iv pp, rv b42] [(.int (1 : Int32)), (.int (0 : Int32)), (.ref b42), (.int (0 : Int32)), (.ref a)])) rfl (by rw [hml]; rfl) rfl (hb hby own_d_prog_67_method_6_code_12) (by first | decide | exact Nat.le_of_ble_eq_true rfl) (W := 0) (by show 2 * 0 + _ ≤ _; exact Nat.le_of_eq rfl) (by first | decide | exact Nat.le_of_ble_eq_true rfl)
  have V45 : Arv Z h45 b42 k42 .int (2 : Int32) [(.int v0), (.int (0 : Int32))] (.int (0 : Int32)) := V45q
  have c46 := c43.keep K_45 (ninS ne44 nin0)
  have hz45 : n0 ≤ h45.size := Nat.le_trans hz42 K_45.1
  have K45 := Keep.trans K42 K_45 (allS (P := fun x => x ∈ _ ∨ h0.size ≤ x) (Or.inr o42) all0)
  refine own_go (T' := T45) (g' := (mkF m 15 #[rv a, iv (1 : Int32), iv pp, rv b42] [])) (st45) ?_
  refine own_go (T' := T45) (g' := (mkF m 16 #[rv a, iv (1 : Int32), iv pp, rv b42] [(.ref b42)])) (fun t k => XS.aloadN X45.here hx rfl (hb hby own_d_prog_67_method_6_code_15) rfl rfl k) ?_
  refine own_go (T' := T45) (g' := (mkF m 17 #[rv a, iv (1 : Int32), iv pp, rv b42] [(.int (1 : Int32)), (.ref b42)])) (fun t k => XS.iloadN X45.here hx rfl (hb hby own_d_prog_67_method_6_code_16) rfl k) ?_
  refine own_go (T' := T45) (g' := (mkF m 18 #[rv a, iv (1 : Int32), iv pp, rv b42] [(.int pp), (.int (1 : Int32)), (.ref b42)])) (fun t k => XS.iloadN X45.here hx rfl (hb hby own_d_prog_67_method_6_code_17) rfl k) ?_
  obtain ⟨cl51, Ar51, q51, Sz51, Nn51, Ha51, Ga51⟩ := id V45
  have hin51 : ¬ ((1 : Int32) < 0 ∨ cl51.slots.size ≤ ((1 : Int32)).toNatClampNeg) := inb_of Sz51 ⟨by decide, by decide⟩
  obtain ⟨T51, h51, X51, e51, W51, st51⟩ := stI X45 hx hZ e45 Ar51 (j := (1 : Int32)) hin51 (g := (mkF m 18 #[rv a, iv (1 : Int32), iv pp, rv b42] [(.int pp), (.int (1 : Int32)), (.ref b42)])) rfl rfl (hb hby own_d_prog_67_method_6_code_18)
  have hz51 : n0 ≤ h51.size := Nat.le_trans hz45 (Keep.of_wr W51).1
  have N51 := Fr.snoc X51 N45 gn42
  have K51 := K45.wr W51 (Or.inr o42)
  have c52 := c46.other W51 ne44
  have V51 : Arv Z h51 b42 k42 .int (2 : Int32) [(.int v0), (.int pp)] (.int (0 : Int32)) := Arv.set Ar51 q51 Sz51 Nn51 Ha51 Ga51 rfl W51 1 rfl (Nat.le_of_ble_eq_true rfl)
  refine own_go (T' := T51) (g' := (mkF m 19 #[rv a, iv (1 : Int32), iv pp, rv b42] [])) (st51) ?_
  refine own_go (T' := T51) (g' := (mkF m 20 #[rv a, iv (1 : Int32), iv pp, rv b42] [(.ref a)])) (fun t k => XS.aloadN X51.here hx rfl (hb hby own_d_prog_67_method_6_code_19) rfl rfl k) ?_
  refine own_go (T' := T51) (g' := (mkF m 21 #[rv a, iv (1 : Int32), iv pp, rv b42] [(.int (1 : Int32)), (.ref a)])) (fun t k => XS.iloadN X51.here hx rfl (hb hby own_d_prog_67_method_6_code_20) rfl k) ?_
  refine own_go (T' := T51) (g' := (mkF m 22 #[rv a, iv (1 : Int32), iv pp, rv b42] [(.ref b42), (.int (1 : Int32)), (.ref a)])) (fun t k => XS.aloadN X51.here hx rfl (hb hby own_d_prog_67_method_6_code_21) rfl rfl k) ?_
  refine own_go (T' := T51) (g' := (mkF m 23 #[rv a, iv (1 : Int32), iv pp, rv b42] [(.int (1 : Int32)), (.ref b42), (.int (1 : Int32)), (.ref a)])) (fun t k => XS.iloadN X51.here hx rfl (hb hby own_d_prog_67_method_6_code_22) rfl k) ?_
  refine own_go (T' := T51) (g' := (mkF m 24 #[rv a, iv (1 : Int32), iv pp, rv b42] [(.int (1 : Int32)), (.int (1 : Int32)), (.ref b42), (.int (1 : Int32)), (.ref a)])) (fun t k => XS.iconst X51.here hx rfl (hb hby own_d_prog_67_method_6_code_23) k) ?_
  refine own_go (T' := T51) (g' := (mkF m 25 #[rv a, iv (1 : Int32), iv pp, rv b42] [(.int (2 : Int32)), (.ref b42), (.int (1 : Int32)), (.ref a)])) (fun t k => XS.iadd X51.here hx rfl (hb hby own_d_prog_67_method_6_code_24) rfl k) ?_
  refine own_go (T' := T51) (g' := (mkF m 26 #[rv a, iv (1 : Int32), iv pp, rv b42] [(.ref a), (.int (2 : Int32)), (.ref b42), (.int (1 : Int32)), (.ref a)])) (fun t k => XS.aloadN X51.here hx rfl (hb hby own_d_prog_67_method_6_code_25) rfl rfl k) ?_
  obtain ⟨cl54, Ar54, -, Sz54, Nn54, -, -⟩ := id c52
  refine own_go (T' := T51) (g' := (mkF m 27 #[rv a, iv (1 : Int32), iv pp, rv b42] [(.int (1 : Int32)), (.int (2 : Int32)), (.ref b42), (.int (1 : Int32)), (.ref a)])) (fun t k => X51.arraylength hx (by rw [e51]; exact Ar54.1) (State.isArrayOf_alike hZ.alike Ar54.2.1) (g := (mkF m 26 #[rv a, iv (1 : Int32), iv pp, rv b42] [(.ref a), (.int (2 : Int32)), (.ref b42), (.int (1 : Int32)), (.ref a)])) rfl rfl (hb hby own_d_prog_67_method_6_code_26) _ (by rw [len_of Sz54 Nn54]; exact k)) ?_
  refine own_go (T' := T51) (g' := (mkF m 28 #[rv a, iv (1 : Int32), iv pp, rv b42] [(.int (1 : Int32)), (.int (1 : Int32)), (.int (2 : Int32)), (.ref b42), (.int (1 : Int32)), (.ref a)])) (fun t k => XS.iloadN X51.here hx rfl (hb hby own_d_prog_67_method_6_code_27) rfl k) ?_
  refine own_go (T' := T51) (g' := (mkF m 29 #[rv a, iv (1 : Int32), iv pp, rv b42] [(.int (0 : Int32)), (.int (2 : Int32)), (.ref b42), (.int (1 : Int32)), (.ref a)])) (fun t k => XS.isub X51.here hx rfl (hb hby own_d_prog_67_method_6_code_28) rfl k) ?_
  obtain ⟨T55, h55, L55, X55, e55, N55, K_55, V55q, st55⟩ := cpA X51 hx hZ hown (hw _ (List.mem_of_getElem? (i := 6) rfl)) (hw _ (List.mem_of_getElem? (i := 9) rfl)) (hw _ (List.mem_of_getElem? (i := 7) rfl)) (hw _ (List.mem_of_getElem? (i := 8) rfl)) e51 (sp := (1 : Int32)) (dp := (2 : Int32)) (nn := (0 : Int32)) (us := []) c52 V51 (Or.inl ⟨rfl, rfl⟩) (by first | decide | exact Nat.le_of_ble_eq_true rfl) (by first | decide | exact Nat.le_of_ble_eq_true rfl) (by first | decide | exact Nat.le_of_ble_eq_true rfl) (by first | decide | exact Nat.le_of_ble_eq_true rfl) (by first | decide | exact Nat.le_of_ble_eq_true rfl) rfl (by first | decide | exact Nat.le_of_ble_eq_true rfl) N51 gn42 (g := (mkF m 29 #[rv a, iv (1 : Int32), iv pp, rv b42] [(.int (0 : Int32)), (.int (2 : Int32)), (.ref b42), (.int (1 : Int32)), (.ref a)])) rfl (by rw [hml]; rfl) rfl (hb hby own_d_prog_67_method_6_code_29) (by first | decide | exact Nat.le_of_ble_eq_true rfl) (W := 0) (by show 2 * 0 + _ ≤ _; exact Nat.le_of_eq rfl) (by first | decide | exact Nat.le_of_ble_eq_true rfl)
  have V55 : Arv Z h55 b42 k42 .int (2 : Int32) [(.int v0), (.int pp)] (.int (0 : Int32)) := V55q
  have c56 := c52.keep K_55 (ninS ne44 nin0)
  have hz55 : n0 ≤ h55.size := Nat.le_trans hz51 K_55.1
  have K55 := Keep.trans K51 K_55 (allS (P := fun x => x ∈ _ ∨ h0.size ≤ x) (Or.inr o42) all0)
  refine own_go (T' := T55) (g' := (mkF m 32 #[rv a, iv (1 : Int32), iv pp, rv b42] [])) (st55) ?_
  refine own_go (T' := T55) (g' := (mkF m 33 #[rv a, iv (1 : Int32), iv pp, rv b42] [(.ref b42)])) (fun t k => XS.aloadN X55.here hx rfl (hb hby own_d_prog_67_method_6_code_32) rfl rfl k) ?_
  exact own_ret X55 hlk hx Bd.returns rfl (Or.inr (Or.inr (Or.inr (Or.inr ⟨rfl, rfl, rfl⟩)))) (hb hby own_d_prog_67_method_6_code_33) (by rw [e55]; exact ⟨b42, _, rfl, N55, o42, K55, V55⟩) (by decide) (by decide)

def Q_own_ws_2_0 (Z : State) (v0 v1 : Int32) (pp : Int32) (h0 : Heap) (n0 : Nat) (v : Option Value) (h : Heap) (L : List Loc) : Prop := ∃ (b : Addr) (k : ClassId), v = some (.ref b) ∧ Fr n0 L ∧ h0.size ≤ b ∧ Keep h0 h [] ∧ Arv Z h b k .int (3 : Int32) [(.int pp), (.int v0), (.int v1)] (.int (0 : Int32))
set_option maxRecDepth 65536 in
set_option maxHeartbeats 40000000 in
theorem own_ws_2_0 (l : Launch) (Z : State) (a0 : Array Value) (hw : ∀ d ∈ tables_1, d.before a0 Z = true) (ws : List Jvm.Cond) (v0 v1 : Int32) (pp : Int32) (a : Addr) (ka : ClassId) (h0 : Heap) (n0 : Nat) (Z0 : n0 ≤ h0.size) (V_a : Arv Z h0 a ka .int (2 : Int32) [(.int v0), (.int v1)] (.int (0 : Int32))) :
    MetFree l (⟨"com/example/tankroute/tankroute/solve/Solution$Tour", "withStop", "([III)[I"⟩ : MethodName) (head1 (Jvm.Cond.code (⟨"com/example/tankroute/tankroute/solve/Solution$Tour", "withStop", "([III)[I"⟩ : MethodName) prog_67_method_6_code 4 (some (.array .int)) :: ws) ({ frames := 1, cells := 1, slots := 3, locals := 30 } : Room)) (fun au Uu => au = #[(.ref a), (.int (0 : Int32)), (.int pp)] ∧ Z.Warmed39 Uu.vm ∧ Uu.heap = h0) (fun _ _ _ _ _ => True) (fun _ Uu ou Uw => ∃ vu Lu, ou = .returned vu ∧ Q_own_ws_2_0 Z v0 v1 pp h0 n0 vu Uw.heap Lu ∧ FrameEnd Uu ou Uw Lu ({ frames := 1, cells := 1, slots := 3, locals := 30 } : Room).cells ({ frames := 1, cells := 1, slots := 3, locals := 30 } : Room).slots) := by
  refine MetFree.of_bodySF (plainFor_of_name (by first | (simp [plainName, overriddenIn]; done) | decide +kernel)) hisR ?_
  intro p e s m args below meth c s₁ Bd hml0 hP hK
  obtain ⟨rfl, hZ, hh⟩ := hP
  have hx := Bd.exec
  have hby := Bd.bytes
  have hlk := Bd.notSynchronized
  have hml : c.maxLocals = 4 := hml0
  have hown : s.vm.findClass "com/example/tankroute/tankroute/solve/Solution$Tour" = some m.cls := findClass_of_methodNamed Bd.named
  have hnm := (name_of_methodNamed Bd.named Bd.method).1
  have X0 : Stand p l e ({ frames := 1, cells := 1, slots := 3, locals := 30 } : Room) s m #[(.ref a), (.int (0 : Int32)), (.int pp)] below meth c s₁ [] 0 0 := Stand.of_body Bd
  have e0 : s₁.heap = h0 := by rw [← hh, Bd.state]; rfl
  have N0 := Fr.nil n0
  show own_Ends p e below s₁ (entryFrame m #[(.ref a), (.int (0 : Int32)), (.int pp)] 4) (fun ou Uw => ∃ vu Lu, ou = .returned vu ∧ Q_own_ws_2_0 Z v0 v1 pp h0 n0 vu Uw.heap Lu ∧ FrameEnd s ou Uw Lu ({ frames := 1, cells := 1, slots := 3, locals := 30 } : Room).cells ({ frames := 1, cells := 1, slots := 3, locals := 30 } : Room).slots)
  refine own_start (g' := (mkF m 0 #[rv a, iv (0 : Int32), iv pp, .unset] [])) (by first | (simp [entryFrame, mkF, argsToLocals, Value.category, iv, rv]; done) | rfl) ?_
  refine own_go (T' := s₁) (g' := (mkF m 1 #[rv a, iv (0 : Int32), iv pp, .unset] [(.ref a)])) (fun t k => XS.aloadN X0.here hx rfl (hb hby own_d_prog_67_method_6_code_0) rfl rfl k) ?_
  obtain ⟨cl61, Ar61, -, Sz61, Nn61, -, -⟩ := id V_a
  refine own_go (T' := s₁) (g' := (mkF m 2 #[rv a, iv (0 : Int32), iv pp, .unset] [(.int (2 : Int32))])) (fun t k => X0.arraylength hx (by rw [e0]; exact Ar61.1) (State.isArrayOf_alike hZ.alike Ar61.2.1) (g := (mkF m 1 #[rv a, iv (0 : Int32), iv pp, .unset] [(.ref a)])) rfl rfl (hb hby own_d_prog_67_method_6_code_1) _ (by rw [len_of Sz61 Nn61]; exact k)) ?_
  refine own_go (T' := s₁) (g' := (mkF m 3 #[rv a, iv (0 : Int32), iv pp, .unset] [(.int (1 : Int32)), (.int (2 : Int32))])) (fun t k => XS.iconst X0.here hx rfl (hb hby own_d_prog_67_method_6_code_2) k) ?_
  refine own_go (T' := s₁) (g' := (mkF m 4 #[rv a, iv (0 : Int32), iv pp, .unset] [(.int (3 : Int32))])) (fun t k => XS.iadd X0.here hx rfl (hb hby own_d_prog_67_method_6_code_3) rfl k) ?_
  obtain ⟨T62, h62, k62, X62, e62, E62, A62, st62⟩ := newP X0 hx hZ (hw _ (List.mem_of_getElem? (i := 1) rfl)) e0 (g := (mkF m 4 #[rv a, iv (0 : Int32), iv pp, .unset] [(.int (3 : Int32))])) rfl (hb hby own_d_prog_67_method_6_code_4) rfl (by decide) (cap := 3) (by decide) (by decide) (by decide) (by decide)
  obtain ⟨b62, g62⟩ : ∃ z, z = h0.size := ⟨_, rfl⟩
  rw [← g62] at A62 st62
  have gn62 : n0 ≤ b62 := Nat.le_trans Z0 (Nat.le_of_eq g62.symm)
  have hz62 : n0 ≤ h62.size := Nat.le_trans Z0 E62.1
  have o62 : h0.size ≤ b62 := Nat.le_trans (Keep.refl h0 []).1 (Nat.le_of_eq g62.symm)
  have K62 := (Keep.refl h0 []).ext E62
  have c63 := V_a.ext E62
  have ne64 : a ≠ b62 := Nat.ne_of_lt (Nat.lt_of_lt_of_le V_a.lt (Nat.le_of_eq g62.symm))
  have V62 : Arv Z h62 b62 k62 .int (3 : Int32) [(.int (0 : Int32)), (.int (0 : Int32)), (.int (0 : Int32))] (.int (0 : Int32)) := (Arv.new A62 (by decide)).pad (pad_rep [] (.int (0 : Int32)) 3)
  refine own_go (T' := T62) (g' := (mkF m 6 #[rv a, iv (0 : Int32), iv pp, .unset] [(.ref b62)])) (st62) ?_
  refine own_go (T' := T62) (g' := (mkF m 7 #[rv a, iv (0 : Int32), iv pp, rv b62] [])) (fun t k => XS.astoreN X62.here hx rfl (hb hby own_d_prog_67_method_6_code_6) rfl rfl (l' := #[rv a, iv (0 : Int32), iv pp, rv b62]) rfl k) ?_
  refine own_go (T' := T62) (g' := (mkF m 8 #[rv a, iv (0 : Int32), iv pp, rv b62] [(.ref a)])) (fun t k => XS.aloadN X62.here hx rfl (hb hby own_d_prog_67_method_6_code_7) rfl rfl k) ?_
  refine own_go (T' := T62) (g' := (mkF m 9 #[rv a, iv (0 : Int32), iv pp, rv b62] [(.int (0 : Int32)), (.ref a)])) (fun t k => XS.iconst X62.here hx rfl (hb hby own_d_prog_67_method_6_code_8) k) ?_
  refine own_go (T' := T62) (g' := (mkF m 10 #[rv a, iv (0 : Int32), iv pp, rv b62] [(.ref b62), (.int (0 : Int32)), (.ref a)])) (fun t k => XS.aloadN X62.here hx rfl (hb hby own_d_prog_67_method_6_code_9) rfl rfl k) ?_
  refine own_go (T' := T62) (g' := (mkF m 11 #[rv a, iv (0 : Int32), iv pp, rv b62] [(.int (0 : Int32)), (.ref b62), (.int (0 : Int32)), (.ref a)])) (fun t k => XS.iconst X62.here hx rfl (hb hby own_d_prog_67_method_6_code_10) k) ?_
  refine own_go (T' := T62) (g' := (mkF m 12 #[rv a, iv (0 : Int32), iv pp, rv b62] [(.int (0 : Int32)), (.int (0 : Int32)), (.ref b62), (.int (0 : Int32)), (.ref a)])) (fun t k => XS.iloadN X62.here hx rfl (hb hby own_d_prog_67_method_6_code_11) rfl k) ?_
  obtain ⟨T65, h65, L65, X65, e65, N65, K_65, V65q, st65⟩ := cpA X62 hx hZ hown (hw _ (List.mem_of_getElem? (i := 6) rfl)) (hw _ (List.mem_of_getElem? (i := 9) rfl)) (hw _ (List.mem_of_getElem? (i := 7) rfl)) (hw _ (List.mem_of_getElem? (i := 8) rfl)) e62 (sp := (0 : Int32)) (dp := (0 : Int32)) (nn := (0 : Int32)) (us := []) c63 V62 (Or.inl ⟨rfl, rfl⟩) (by first | decide | exact Nat.le_of_ble_eq_true rfl) (by first | decide | exact Nat.le_of_ble_eq_true rfl) (by first | decide | exact Nat.le_of_ble_eq_true rfl) (by first | decide | exact Nat.le_of_ble_eq_true rfl) (by first | decide | exact Nat.le_of_ble_eq_true rfl) rfl (by first | decide | exact Nat.le_of_ble_eq_true rfl) N0 gn62 (g := (mkF m 12 #[rv a, iv (0 : Int32), iv pp, rv b62] [(.int (0 : Int32)), (.int (0 : Int32)), (.ref b62), (.int (0 : Int32)), (.ref a)])) rfl (by rw [hml]; rfl) rfl (hb hby own_d_prog_67_method_6_code_12) (by first | decide | exact Nat.le_of_ble_eq_true rfl) (W := 0) (by show 2 * 0 + _ ≤ _; exact Nat.le_of_eq rfl) (by first | decide | exact Nat.le_of_ble_eq_true rfl)
  have V65 : Arv Z h65 b62 k62 .int (3 : Int32) [(.int (0 : Int32)), (.int (0 : Int32)), (.int (0 : Int32))] (.int (0 : Int32)) := V65q
  have c66 := c63.keep K_65 (ninS ne64 nin0)
  have hz65 : n0 ≤ h65.size := Nat.le_trans hz62 K_65.1
  have K65 := Keep.trans K62 K_65 (allS (P := fun x => x ∈ _ ∨ h0.size ≤ x) (Or.inr o62) all0)
  refine own_go (T' := T65) (g' := (mkF m 15 #[rv a, iv (0 : Int32), iv pp, rv b62] [])) (st65) ?_
  refine own_go (T' := T65) (g' := (mkF m 16 #[rv a, iv (0 : Int32), iv pp, rv b62] [(.ref b62)])) (fun t k => XS.aloadN X65.here hx rfl (hb hby own_d_prog_67_method_6_code_15) rfl rfl k) ?_
  refine own_go (T' := T65) (g' := (mkF m 17 #[rv a, iv (0 : Int32), iv pp, rv b62] [(.int (0 : Int32)), (.ref b62)])) (fun t k => XS.iloadN X65.here hx rfl (hb hby own_d_prog_67_method_6_code_16) rfl k) ?_
  refine own_go (T' := T65) (g' := (mkF m 18 #[rv a, iv (0 : Int32), iv pp, rv b62] [(.int pp), (.int (0 : Int32)), (.ref b62)])) (fun t k => XS.iloadN X65.here hx rfl (hb hby own_d_prog_67_method_6_code_17) rfl k) ?_
  obtain ⟨cl71, Ar71, q71, Sz71, Nn71, Ha71, Ga71⟩ := id V65
  have hin71 : ¬ ((0 : Int32) < 0 ∨ cl71.slots.size ≤ ((0 : Int32)).toNatClampNeg) := inb_of Sz71 ⟨by decide, by decide⟩
  obtain ⟨T71, h71, X71, e71, W71, st71⟩ := stI X65 hx hZ e65 Ar71 (j := (0 : Int32)) hin71 (g := (mkF m 18 #[rv a, iv (0 : Int32), iv pp, rv b62] [(.int pp), (.int (0 : Int32)), (.ref b62)])) rfl rfl (hb hby own_d_prog_67_method_6_code_18)
  have hz71 : n0 ≤ h71.size := Nat.le_trans hz65 (Keep.of_wr W71).1
  have N71 := Fr.snoc X71 N65 gn62
  have K71 := K65.wr W71 (Or.inr o62)
  have c72 := c66.other W71 ne64
  have V71 : Arv Z h71 b62 k62 .int (3 : Int32) [(.int pp), (.int (0 : Int32)), (.int (0 : Int32))] (.int (0 : Int32)) := Arv.set Ar71 q71 Sz71 Nn71 Ha71 Ga71 rfl W71 0 rfl (Nat.le_of_ble_eq_true rfl)
  refine own_go (T' := T71) (g' := (mkF m 19 #[rv a, iv (0 : Int32), iv pp, rv b62] [])) (st71) ?_
  refine own_go (T' := T71) (g' := (mkF m 20 #[rv a, iv (0 : Int32), iv pp, rv b62] [(.ref a)])) (fun t k => XS.aloadN X71.here hx rfl (hb hby own_d_prog_67_method_6_code_19) rfl rfl k) ?_
  refine own_go (T' := T71) (g' := (mkF m 21 #[rv a, iv (0 : Int32), iv pp, rv b62] [(.int (0 : Int32)), (.ref a)])) (fun t k => XS.iloadN X71.here hx rfl (hb hby own_d_prog_67_method_6_code_20) rfl k) ?_
  refine own_go (T' := T71) (g' := (mkF m 22 #[rv a, iv (0 : Int32), iv pp, rv b62] [(.ref b62), (.int (0 : Int32)), (.ref a)])) (fun t k => XS.aloadN X71.here hx rfl (hb hby own_d_prog_67_method_6_code_21) rfl rfl k) ?_
  refine own_go (T' := T71) (g' := (mkF m 23 #[rv a, iv (0 : Int32), iv pp, rv b62] [(.int (0 : Int32)), (.ref b62), (.int (0 : Int32)), (.ref a)])) (fun t k => XS.iloadN X71.here hx rfl (hb hby own_d_prog_67_method_6_code_22) rfl k) ?_
  refine own_go (T' := T71) (g' := (mkF m 24 #[rv a, iv (0 : Int32), iv pp, rv b62] [(.int (1 : Int32)), (.int (0 : Int32)), (.ref b62), (.int (0 : Int32)), (.ref a)])) (fun t k => XS.iconst X71.here hx rfl (hb hby own_d_prog_67_method_6_code_23) k) ?_
  refine own_go (T' := T71) (g' := (mkF m 25 #[rv a, iv (0 : Int32), iv pp, rv b62] [(.int (1 : Int32)), (.ref b62), (.int (0 : Int32)), (.ref a)])) (fun t k => XS.iadd X71.here hx rfl (hb hby own_d_prog_67_method_6_code_24) rfl k) ?_
  refine own_go (T' := T71) (g' := (mkF m 26 #[rv a, iv (0 : Int32), iv pp, rv b62] [(.ref a), (.int (1 : Int32)), (.ref b62), (.int (0 : Int32)), (.ref a)])) (fun t k => XS.aloadN X71.here hx rfl (hb hby own_d_prog_67_method_6_code_25) rfl rfl k) ?_
  obtain ⟨cl74, Ar74, -, Sz74, Nn74, -, -⟩ := id c72
  refine own_go (T' := T71) (g' := (mkF m 27 #[rv a, iv (0 : Int32), iv pp, rv b62] [(.int (2 : Int32)), (.int (1 : Int32)), (.ref b62), (.int (0 : Int32)), (.ref a)])) (fun t k => X71.arraylength hx (by rw [e71]; exact Ar74.1) (State.isArrayOf_alike hZ.alike Ar74.2.1) (g := (mkF m 26 #[rv a, iv (0 : Int32), iv pp, rv b62] [(.ref a), (.int (1 : Int32)), (.ref b62), (.int (0 : Int32)), (.ref a)])) rfl rfl (hb hby own_d_prog_67_method_6_code_26) _ (by rw [len_of Sz74 Nn74]; exact k)) ?_
  refine own_go (T' := T71) (g' := (mkF m 28 #[rv a, iv (0 : Int32), iv pp, rv b62] [(.int (0 : Int32)), (.int (2 : Int32)), (.int (1 : Int32)), (.ref b62), (.int (0 : Int32)), (.ref a)])) (fun t k => XS.iloadN X71.here hx rfl (hb hby own_d_prog_67_method_6_code_27) rfl k) ?_
  refine own_go (T' := T71) (g' := (mkF m 29 #[rv a, iv (0 : Int32), iv pp, rv b62] [(.int (2 : Int32)), (.int (1 : Int32)), (.ref b62), (.int (0 : Int32)), (.ref a)])) (fun t k => XS.isub X71.here hx rfl (hb hby own_d_prog_67_method_6_code_28) rfl k) ?_
  obtain ⟨T75, h75, L75, X75, e75, N75, K_75, V75q, st75⟩ := cpA X71 hx hZ hown (hw _ (List.mem_of_getElem? (i := 6) rfl)) (hw _ (List.mem_of_getElem? (i := 9) rfl)) (hw _ (List.mem_of_getElem? (i := 7) rfl)) (hw _ (List.mem_of_getElem? (i := 8) rfl)) e71 (sp := (0 : Int32)) (dp := (1 : Int32)) (nn := (2 : Int32)) (us := [(.int v0), (.int v1)]) c72 V71 (Or.inl ⟨rfl, rfl⟩) (by first | decide | exact Nat.le_of_ble_eq_true rfl) (by first | decide | exact Nat.le_of_ble_eq_true rfl) (by first | decide | exact Nat.le_of_ble_eq_true rfl) (by first | decide | exact Nat.le_of_ble_eq_true rfl) (by first | decide | exact Nat.le_of_ble_eq_true rfl) rfl (by first | decide | exact Nat.le_of_ble_eq_true rfl) N71 gn62 (g := (mkF m 29 #[rv a, iv (0 : Int32), iv pp, rv b62] [(.int (2 : Int32)), (.int (1 : Int32)), (.ref b62), (.int (0 : Int32)), (.ref a)])) rfl (by rw [hml]; rfl) rfl (hb hby own_d_prog_67_method_6_code_29) (by first | decide | exact Nat.le_of_ble_eq_true rfl) (W := 0) (by show 2 * 0 + _ ≤ _; exact Nat.le_of_eq rfl) (by first | decide | exact Nat.le_of_ble_eq_true rfl)
  have V75 : Arv Z h75 b62 k62 .int (3 : Int32) [(.int pp), (.int v0), (.int v1)] (.int (0 : Int32)) := V75q
  have c76 := c72.keep K_75 (ninS ne64 nin0)
  have hz75 : n0 ≤ h75.size := Nat.le_trans hz71 K_75.1
  have K75 := Keep.trans K71 K_75 (allS (P := fun x => x ∈ _ ∨ h0.size ≤ x) (Or.inr o62) all0)
  refine own_go (T' := T75) (g' := (mkF m 32 #[rv a, iv (0 : Int32), iv pp, rv b62] [])) (st75) ?_
  refine own_go (T' := T75) (g' := (mkF m 33 #[rv a, iv (0 : Int32), iv pp, rv b62] [(.ref b62)])) (fun t k => XS.aloadN X75.here hx rfl (hb hby own_d_prog_67_method_6_code_32) rfl rfl k) ?_
  exact own_ret X75 hlk hx Bd.returns rfl (Or.inr (Or.inr (Or.inr (Or.inr ⟨rfl, rfl, rfl⟩)))) (hb hby own_d_prog_67_method_6_code_33) (by rw [e75]; exact ⟨b62, _, rfl, N75, o62, K75, V75⟩) (by decide) (by decide)

def Q_own_ws_2_1 (Z : State) (v0 v1 : Int32) (pp : Int32) (h0 : Heap) (n0 : Nat) (v : Option Value) (h : Heap) (L : List Loc) : Prop := ∃ (b : Addr) (k : ClassId), v = some (.ref b) ∧ Fr n0 L ∧ h0.size ≤ b ∧ Keep h0 h [] ∧ Arv Z h b k .int (3 : Int32) [(.int v0), (.int pp), (.int v1)] (.int (0 : Int32))
set_option maxRecDepth 65536 in
set_option maxHeartbeats 40000000 in
theorem own_ws_2_1 (l : Launch) (Z : State) (a0 : Array Value) (hw : ∀ d ∈ tables_1, d.before a0 Z = true) (ws : List Jvm.Cond) (v0 v1 : Int32) (pp : Int32) (a : Addr) (ka : ClassId) (h0 : Heap) (n0 : Nat) (Z0 : n0 ≤ h0.size) (V_a : Arv Z h0 a ka .int (2 : Int32) [(.int v0), (.int v1)] (.int (0 : Int32))) :
    MetFree l (⟨"com/example/tankroute/tankroute/solve/Solution$Tour", "withStop", "([III)[I"⟩ : MethodName) (head1 (Jvm.Cond.code (⟨"com/example/tankroute/tankroute/solve/Solution$Tour", "withStop", "([III)[I"⟩ : MethodName) prog_67_method_6_code 4 (some (.array .int)) :: ws) ({ frames := 1, cells := 1, slots := 3, locals := 30 } : Room)) (fun au Uu => au = #[(.ref a), (.int (1 : Int32)), (.int pp)] ∧ Z.Warmed39 Uu.vm ∧ Uu.heap = h0) (fun _ _ _ _ _ => True) (fun _ Uu ou Uw => ∃ vu Lu, ou = .returned vu ∧ Q_own_ws_2_1 Z v0 v1 pp h0 n0 vu Uw.heap Lu ∧ FrameEnd Uu ou Uw Lu ({ frames := 1, cells := 1, slots := 3, locals := 30 } : Room).cells ({ frames := 1, cells := 1, slots := 3, locals := 30 } : Room).slots) := by
  refine MetFree.of_bodySF (plainFor_of_name (by first | (simp [plainName, overriddenIn]; done) | decide +kernel)) hisR ?_
  intro p e s m args below meth c s₁ Bd hml0 hP hK
  obtain ⟨rfl, hZ, hh⟩ := hP
  have hx := Bd.exec
  have hby := Bd.bytes
  have hlk := Bd.notSynchronized
  have hml : c.maxLocals = 4 := hml0
  have hown : s.vm.findClass "com/example/tankroute/tankroute/solve/Solution$Tour" = some m.cls := findClass_of_methodNamed Bd.named
  have hnm := (name_of_methodNamed Bd.named Bd.method).1
  have X0 : Stand p l e ({ frames := 1, cells := 1, slots := 3, locals := 30 } : Room) s m #[(.ref a), (.int (1 : Int32)), (.int pp)] below meth c s₁ [] 0 0 := Stand.of_body Bd
  have e0 : s₁.heap = h0 := by rw [← hh, Bd.state]; rfl
  have N0 := Fr.nil n0
  show own_Ends p e below s₁ (entryFrame m #[(.ref a), (.int (1 : Int32)), (.int pp)] 4) (fun ou Uw => ∃ vu Lu, ou = .returned vu ∧ Q_own_ws_2_1 Z v0 v1 pp h0 n0 vu Uw.heap Lu ∧ FrameEnd s ou Uw Lu ({ frames := 1, cells := 1, slots := 3, locals := 30 } : Room).cells ({ frames := 1, cells := 1, slots := 3, locals := 30 } : Room).slots)
  refine own_start (g' := (mkF m 0 #[rv a, iv (1 : Int32), iv pp, .unset] [])) (by first | (simp [entryFrame, mkF, argsToLocals, Value.category, iv, rv]; done) | rfl) ?_
  refine own_go (T' := s₁) (g' := (mkF m 1 #[rv a, iv (1 : Int32), iv pp, .unset] [(.ref a)])) (fun t k => XS.aloadN X0.here hx rfl (hb hby own_d_prog_67_method_6_code_0) rfl rfl k) ?_
  obtain ⟨cl81, Ar81, -, Sz81, Nn81, -, -⟩ := id V_a
  refine own_go (T' := s₁) (g' := (mkF m 2 #[rv a, iv (1 : Int32), iv pp, .unset] [(.int (2 : Int32))])) (fun t k => X0.arraylength hx (by rw [e0]; exact Ar81.1) (State.isArrayOf_alike hZ.alike Ar81.2.1) (g := (mkF m 1 #[rv a, iv (1 : Int32), iv pp, .unset] [(.ref a)])) rfl rfl (hb hby own_d_prog_67_method_6_code_1) _ (by rw [len_of Sz81 Nn81]; exact k)) ?_
  refine own_go (T' := s₁) (g' := (mkF m 3 #[rv a, iv (1 : Int32), iv pp, .unset] [(.int (1 : Int32)), (.int (2 : Int32))])) (fun t k => XS.iconst X0.here hx rfl (hb hby own_d_prog_67_method_6_code_2) k) ?_
  refine own_go (T' := s₁) (g' := (mkF m 4 #[rv a, iv (1 : Int32), iv pp, .unset] [(.int (3 : Int32))])) (fun t k => XS.iadd X0.here hx rfl (hb hby own_d_prog_67_method_6_code_3) rfl k) ?_
  obtain ⟨T82, h82, k82, X82, e82, E82, A82, st82⟩ := newP X0 hx hZ (hw _ (List.mem_of_getElem? (i := 1) rfl)) e0 (g := (mkF m 4 #[rv a, iv (1 : Int32), iv pp, .unset] [(.int (3 : Int32))])) rfl (hb hby own_d_prog_67_method_6_code_4) rfl (by decide) (cap := 3) (by decide) (by decide) (by decide) (by decide)
  obtain ⟨b82, g82⟩ : ∃ z, z = h0.size := ⟨_, rfl⟩
  rw [← g82] at A82 st82
  have gn82 : n0 ≤ b82 := Nat.le_trans Z0 (Nat.le_of_eq g82.symm)
  have hz82 : n0 ≤ h82.size := Nat.le_trans Z0 E82.1
  have o82 : h0.size ≤ b82 := Nat.le_trans (Keep.refl h0 []).1 (Nat.le_of_eq g82.symm)
  have K82 := (Keep.refl h0 []).ext E82
  have c83 := V_a.ext E82
  have ne84 : a ≠ b82 := Nat.ne_of_lt (Nat.lt_of_lt_of_le V_a.lt (Nat.le_of_eq g82.symm))
  have V82 : Arv Z h82 b82 k82 .int (3 : Int32) [(.int (0 : Int32)), (.int (0 : Int32)), (.int (0 : Int32))] (.int (0 : Int32)) := (Arv.new A82 (by decide)).pad (pad_rep [] (.int (0 : Int32)) 3)
  refine own_go (T' := T82) (g' := (mkF m 6 #[rv a, iv (1 : Int32), iv pp, .unset] [(.ref b82)])) (st82) ?_
  refine own_go (T' := T82) (g' := (mkF m 7 #[rv a, iv (1 : Int32), iv pp, rv b82] [])) (fun t k => XS.astoreN X82.here hx rfl (hb hby own_d_prog_67_method_6_code_6) rfl rfl (l' := #[rv a, iv (1 : Int32), iv pp, rv b82]) rfl k) ?_
  refine own_go (T' := T82) (g' := (mkF m 8 #[rv a, iv (1 : Int32), iv pp, rv b82] [(.ref a)])) (fun t k => XS.aloadN X82.here hx rfl (hb hby own_d_prog_67_method_6_code_7) rfl rfl k) ?_
  refine own_go (T' := T82) (g' := (mkF m 9 #[rv a, iv (1 : Int32), iv pp, rv b82] [(.int (0 : Int32)), (.ref a)])) (fun t k => XS.iconst X82.here hx rfl (hb hby own_d_prog_67_method_6_code_8) k) ?_
  refine own_go (T' := T82) (g' := (mkF m 10 #[rv a, iv (1 : Int32), iv pp, rv b82] [(.ref b82), (.int (0 : Int32)), (.ref a)])) (fun t k => XS.aloadN X82.here hx rfl (hb hby own_d_prog_67_method_6_code_9) rfl rfl k) ?_
  refine own_go (T' := T82) (g' := (mkF m 11 #[rv a, iv (1 : Int32), iv pp, rv b82] [(.int (0 : Int32)), (.ref b82), (.int (0 : Int32)), (.ref a)])) (fun t k => XS.iconst X82.here hx rfl (hb hby own_d_prog_67_method_6_code_10) k) ?_
  refine own_go (T' := T82) (g' := (mkF m 12 #[rv a, iv (1 : Int32), iv pp, rv b82] [(.int (1 : Int32)), (.int (0 : Int32)), (.ref b82), (.int (0 : Int32)), (.ref a)])) (fun t k => XS.iloadN X82.here hx rfl (hb hby own_d_prog_67_method_6_code_11) rfl k) ?_
  obtain ⟨T85, h85, L85, X85, e85, N85, K_85, V85q, st85⟩ := cpA X82 hx hZ hown (hw _ (List.mem_of_getElem? (i := 6) rfl)) (hw _ (List.mem_of_getElem? (i := 9) rfl)) (hw _ (List.mem_of_getElem? (i := 7) rfl)) (hw _ (List.mem_of_getElem? (i := 8) rfl)) e82 (sp := (0 : Int32)) (dp := (0 : Int32)) (nn := (1 : Int32)) (us := [(.int v0)]) c83 V82 (Or.inl ⟨rfl, rfl⟩) (by first | decide | exact Nat.le_of_ble_eq_true rfl) (by first | decide | exact Nat.le_of_ble_eq_true rfl) (by first | decide | exact Nat.le_of_ble_eq_true rfl) (by first | decide | exact Nat.le_of_ble_eq_true rfl) (by first | decide | exact Nat.le_of_ble_eq_true rfl) rfl (by first | decide | exact Nat.le_of_ble_eq_true rfl) N0 gn82 (g := (mkF m 12 #[rv a, iv (1 : Int32), iv pp, rv b82] [(.int (1 : Int32)), (.int (0 : Int32)), (.ref b82), (.int (0 : Int32)), (.ref a)])) rfl (by rw [hml]; rfl) rfl (hb hby own_d_prog_67_method_6_code_12) (by first | decide | exact Nat.le_of_ble_eq_true rfl) (W := 0) (by show 2 * 0 + _ ≤ _; exact Nat.le_of_eq rfl) (by first | decide | exact Nat.le_of_ble_eq_true rfl)
  have V85 : Arv Z h85 b82 k82 .int (3 : Int32) [(.int v0), (.int (0 : Int32)), (.int (0 : Int32))] (.int (0 : Int32)) := V85q
  have c86 := c83.keep K_85 (ninS ne84 nin0)
  have hz85 : n0 ≤ h85.size := Nat.le_trans hz82 K_85.1
  have K85 := Keep.trans K82 K_85 (allS (P := fun x => x ∈ _ ∨ h0.size ≤ x) (Or.inr o82) all0)
  refine own_go (T' := T85) (g' := (mkF m 15 #[rv a, iv (1 : Int32), iv pp, rv b82] [])) (st85) ?_
  refine own_go (T' := T85) (g' := (mkF m 16 #[rv a, iv (1 : Int32), iv pp, rv b82] [(.ref b82)])) (fun t k => XS.aloadN X85.here hx rfl (hb hby own_d_prog_67_method_6_code_15) rfl rfl k) ?_
  refine own_go (T' := T85) (g' := (mkF m 17 #[rv a, iv (1 : Int32), iv pp, rv b82] [(.int (1 : Int32)), (.ref b82)])) (fun t k => XS.iloadN X85.here hx rfl (hb hby own_d_prog_67_method_6_code_16) rfl k) ?_
  refine own_go (T' := T85) (g' := (mkF m 18 #[rv a, iv (1 : Int32), iv pp, rv b82] [(.int pp), (.int (1 : Int32)), (.ref b82)])) (fun t k => XS.iloadN X85.here hx rfl (hb hby own_d_prog_67_method_6_code_17) rfl k) ?_
  obtain ⟨cl91, Ar91, q91, Sz91, Nn91, Ha91, Ga91⟩ := id V85
  have hin91 : ¬ ((1 : Int32) < 0 ∨ cl91.slots.size ≤ ((1 : Int32)).toNatClampNeg) := inb_of Sz91 ⟨by decide, by decide⟩
  obtain ⟨T91, h91, X91, e91, W91, st91⟩ := stI X85 hx hZ e85 Ar91 (j := (1 : Int32)) hin91 (g := (mkF m 18 #[rv a, iv (1 : Int32), iv pp, rv b82] [(.int pp), (.int (1 : Int32)), (.ref b82)])) rfl rfl (hb hby own_d_prog_67_method_6_code_18)
  have hz91 : n0 ≤ h91.size := Nat.le_trans hz85 (Keep.of_wr W91).1
  have N91 := Fr.snoc X91 N85 gn82
  have K91 := K85.wr W91 (Or.inr o82)
  have c92 := c86.other W91 ne84
  have V91 : Arv Z h91 b82 k82 .int (3 : Int32) [(.int v0), (.int pp), (.int (0 : Int32))] (.int (0 : Int32)) := Arv.set Ar91 q91 Sz91 Nn91 Ha91 Ga91 rfl W91 1 rfl (Nat.le_of_ble_eq_true rfl)
  refine own_go (T' := T91) (g' := (mkF m 19 #[rv a, iv (1 : Int32), iv pp, rv b82] [])) (st91) ?_
  refine own_go (T' := T91) (g' := (mkF m 20 #[rv a, iv (1 : Int32), iv pp, rv b82] [(.ref a)])) (fun t k => XS.aloadN X91.here hx rfl (hb hby own_d_prog_67_method_6_code_19) rfl rfl k) ?_
  refine own_go (T' := T91) (g' := (mkF m 21 #[rv a, iv (1 : Int32), iv pp, rv b82] [(.int (1 : Int32)), (.ref a)])) (fun t k => XS.iloadN X91.here hx rfl (hb hby own_d_prog_67_method_6_code_20) rfl k) ?_
  refine own_go (T' := T91) (g' := (mkF m 22 #[rv a, iv (1 : Int32), iv pp, rv b82] [(.ref b82), (.int (1 : Int32)), (.ref a)])) (fun t k => XS.aloadN X91.here hx rfl (hb hby own_d_prog_67_method_6_code_21) rfl rfl k) ?_
  refine own_go (T' := T91) (g' := (mkF m 23 #[rv a, iv (1 : Int32), iv pp, rv b82] [(.int (1 : Int32)), (.ref b82), (.int (1 : Int32)), (.ref a)])) (fun t k => XS.iloadN X91.here hx rfl (hb hby own_d_prog_67_method_6_code_22) rfl k) ?_
  refine own_go (T' := T91) (g' := (mkF m 24 #[rv a, iv (1 : Int32), iv pp, rv b82] [(.int (1 : Int32)), (.int (1 : Int32)), (.ref b82), (.int (1 : Int32)), (.ref a)])) (fun t k => XS.iconst X91.here hx rfl (hb hby own_d_prog_67_method_6_code_23) k) ?_
  refine own_go (T' := T91) (g' := (mkF m 25 #[rv a, iv (1 : Int32), iv pp, rv b82] [(.int (2 : Int32)), (.ref b82), (.int (1 : Int32)), (.ref a)])) (fun t k => XS.iadd X91.here hx rfl (hb hby own_d_prog_67_method_6_code_24) rfl k) ?_
  refine own_go (T' := T91) (g' := (mkF m 26 #[rv a, iv (1 : Int32), iv pp, rv b82] [(.ref a), (.int (2 : Int32)), (.ref b82), (.int (1 : Int32)), (.ref a)])) (fun t k => XS.aloadN X91.here hx rfl (hb hby own_d_prog_67_method_6_code_25) rfl rfl k) ?_
  obtain ⟨cl94, Ar94, -, Sz94, Nn94, -, -⟩ := id c92
  refine own_go (T' := T91) (g' := (mkF m 27 #[rv a, iv (1 : Int32), iv pp, rv b82] [(.int (2 : Int32)), (.int (2 : Int32)), (.ref b82), (.int (1 : Int32)), (.ref a)])) (fun t k => X91.arraylength hx (by rw [e91]; exact Ar94.1) (State.isArrayOf_alike hZ.alike Ar94.2.1) (g := (mkF m 26 #[rv a, iv (1 : Int32), iv pp, rv b82] [(.ref a), (.int (2 : Int32)), (.ref b82), (.int (1 : Int32)), (.ref a)])) rfl rfl (hb hby own_d_prog_67_method_6_code_26) _ (by rw [len_of Sz94 Nn94]; exact k)) ?_
  refine own_go (T' := T91) (g' := (mkF m 28 #[rv a, iv (1 : Int32), iv pp, rv b82] [(.int (1 : Int32)), (.int (2 : Int32)), (.int (2 : Int32)), (.ref b82), (.int (1 : Int32)), (.ref a)])) (fun t k => XS.iloadN X91.here hx rfl (hb hby own_d_prog_67_method_6_code_27) rfl k) ?_
  refine own_go (T' := T91) (g' := (mkF m 29 #[rv a, iv (1 : Int32), iv pp, rv b82] [(.int (1 : Int32)), (.int (2 : Int32)), (.ref b82), (.int (1 : Int32)), (.ref a)])) (fun t k => XS.isub X91.here hx rfl (hb hby own_d_prog_67_method_6_code_28) rfl k) ?_
  obtain ⟨T95, h95, L95, X95, e95, N95, K_95, V95q, st95⟩ := cpA X91 hx hZ hown (hw _ (List.mem_of_getElem? (i := 6) rfl)) (hw _ (List.mem_of_getElem? (i := 9) rfl)) (hw _ (List.mem_of_getElem? (i := 7) rfl)) (hw _ (List.mem_of_getElem? (i := 8) rfl)) e91 (sp := (1 : Int32)) (dp := (2 : Int32)) (nn := (1 : Int32)) (us := [(.int v1)]) c92 V91 (Or.inl ⟨rfl, rfl⟩) (by first | decide | exact Nat.le_of_ble_eq_true rfl) (by first | decide | exact Nat.le_of_ble_eq_true rfl) (by first | decide | exact Nat.le_of_ble_eq_true rfl) (by first | decide | exact Nat.le_of_ble_eq_true rfl) (by first | decide | exact Nat.le_of_ble_eq_true rfl) rfl (by first | decide | exact Nat.le_of_ble_eq_true rfl) N91 gn82 (g := (mkF m 29 #[rv a, iv (1 : Int32), iv pp, rv b82] [(.int (1 : Int32)), (.int (2 : Int32)), (.ref b82), (.int (1 : Int32)), (.ref a)])) rfl (by rw [hml]; rfl) rfl (hb hby own_d_prog_67_method_6_code_29) (by first | decide | exact Nat.le_of_ble_eq_true rfl) (W := 0) (by show 2 * 0 + _ ≤ _; exact Nat.le_of_eq rfl) (by first | decide | exact Nat.le_of_ble_eq_true rfl)
  have V95 : Arv Z h95 b82 k82 .int (3 : Int32) [(.int v0), (.int pp), (.int v1)] (.int (0 : Int32)) := V95q
  have c96 := c92.keep K_95 (ninS ne84 nin0)
  have hz95 : n0 ≤ h95.size := Nat.le_trans hz91 K_95.1
  have K95 := Keep.trans K91 K_95 (allS (P := fun x => x ∈ _ ∨ h0.size ≤ x) (Or.inr o82) all0)
  refine own_go (T' := T95) (g' := (mkF m 32 #[rv a, iv (1 : Int32), iv pp, rv b82] [])) (st95) ?_
  refine own_go (T' := T95) (g' := (mkF m 33 #[rv a, iv (1 : Int32), iv pp, rv b82] [(.ref b82)])) (fun t k => XS.aloadN X95.here hx rfl (hb hby own_d_prog_67_method_6_code_32) rfl rfl k) ?_
  exact own_ret X95 hlk hx Bd.returns rfl (Or.inr (Or.inr (Or.inr (Or.inr ⟨rfl, rfl, rfl⟩)))) (hb hby own_d_prog_67_method_6_code_33) (by rw [e95]; exact ⟨b82, _, rfl, N95, o82, K95, V95⟩) (by decide) (by decide)

def Q_own_ws_2_2 (Z : State) (v0 v1 : Int32) (pp : Int32) (h0 : Heap) (n0 : Nat) (v : Option Value) (h : Heap) (L : List Loc) : Prop := ∃ (b : Addr) (k : ClassId), v = some (.ref b) ∧ Fr n0 L ∧ h0.size ≤ b ∧ Keep h0 h [] ∧ Arv Z h b k .int (3 : Int32) [(.int v0), (.int v1), (.int pp)] (.int (0 : Int32))
set_option maxRecDepth 65536 in
set_option maxHeartbeats 40000000 in
theorem own_ws_2_2 (l : Launch) (Z : State) (a0 : Array Value) (hw : ∀ d ∈ tables_1, d.before a0 Z = true) (ws : List Jvm.Cond) (v0 v1 : Int32) (pp : Int32) (a : Addr) (ka : ClassId) (h0 : Heap) (n0 : Nat) (Z0 : n0 ≤ h0.size) (V_a : Arv Z h0 a ka .int (2 : Int32) [(.int v0), (.int v1)] (.int (0 : Int32))) :
    MetFree l (⟨"com/example/tankroute/tankroute/solve/Solution$Tour", "withStop", "([III)[I"⟩ : MethodName) (head1 (Jvm.Cond.code (⟨"com/example/tankroute/tankroute/solve/Solution$Tour", "withStop", "([III)[I"⟩ : MethodName) prog_67_method_6_code 4 (some (.array .int)) :: ws) ({ frames := 1, cells := 1, slots := 3, locals := 30 } : Room)) (fun au Uu => au = #[(.ref a), (.int (2 : Int32)), (.int pp)] ∧ Z.Warmed39 Uu.vm ∧ Uu.heap = h0) (fun _ _ _ _ _ => True) (fun _ Uu ou Uw => ∃ vu Lu, ou = .returned vu ∧ Q_own_ws_2_2 Z v0 v1 pp h0 n0 vu Uw.heap Lu ∧ FrameEnd Uu ou Uw Lu ({ frames := 1, cells := 1, slots := 3, locals := 30 } : Room).cells ({ frames := 1, cells := 1, slots := 3, locals := 30 } : Room).slots) := by
  refine MetFree.of_bodySF (plainFor_of_name (by first | (simp [plainName, overriddenIn]; done) | decide +kernel)) hisR ?_
  intro p e s m args below meth c s₁ Bd hml0 hP hK
  obtain ⟨rfl, hZ, hh⟩ := hP
  have hx := Bd.exec
  have hby := Bd.bytes
  have hlk := Bd.notSynchronized
  have hml : c.maxLocals = 4 := hml0
  have hown : s.vm.findClass "com/example/tankroute/tankroute/solve/Solution$Tour" = some m.cls := findClass_of_methodNamed Bd.named
  have hnm := (name_of_methodNamed Bd.named Bd.method).1
  have X0 : Stand p l e ({ frames := 1, cells := 1, slots := 3, locals := 30 } : Room) s m #[(.ref a), (.int (2 : Int32)), (.int pp)] below meth c s₁ [] 0 0 := Stand.of_body Bd
  have e0 : s₁.heap = h0 := by rw [← hh, Bd.state]; rfl
  have N0 := Fr.nil n0
  show own_Ends p e below s₁ (entryFrame m #[(.ref a), (.int (2 : Int32)), (.int pp)] 4) (fun ou Uw => ∃ vu Lu, ou = .returned vu ∧ Q_own_ws_2_2 Z v0 v1 pp h0 n0 vu Uw.heap Lu ∧ FrameEnd s ou Uw Lu ({ frames := 1, cells := 1, slots := 3, locals := 30 } : Room).cells ({ frames := 1, cells := 1, slots := 3, locals := 30 } : Room).slots)
  refine own_start (g' := (mkF m 0 #[rv a, iv (2 : Int32), iv pp, .unset] [])) (by first | (simp [entryFrame, mkF, argsToLocals, Value.category, iv, rv]; done) | rfl) ?_
  refine own_go (T' := s₁) (g' := (mkF m 1 #[rv a, iv (2 : Int32), iv pp, .unset] [(.ref a)])) (fun t k => XS.aloadN X0.here hx rfl (hb hby own_d_prog_67_method_6_code_0) rfl rfl k) ?_
  obtain ⟨cl101, Ar101, -, Sz101, Nn101, -, -⟩ := id V_a
  refine own_go (T' := s₁) (g' := (mkF m 2 #[rv a, iv (2 : Int32), iv pp, .unset] [(.int (2 : Int32))])) (fun t k => X0.arraylength hx (by rw [e0]; exact Ar101.1) (State.isArrayOf_alike hZ.alike Ar101.2.1) (g := (mkF m 1 #[rv a, iv (2 : Int32), iv pp, .unset] [(.ref a)])) rfl rfl (hb hby own_d_prog_67_method_6_code_1) _ (by rw [len_of Sz101 Nn101]; exact k)) ?_
  refine own_go (T' := s₁) (g' := (mkF m 3 #[rv a, iv (2 : Int32), iv pp, .unset] [(.int (1 : Int32)), (.int (2 : Int32))])) (fun t k => XS.iconst X0.here hx rfl (hb hby own_d_prog_67_method_6_code_2) k) ?_
  refine own_go (T' := s₁) (g' := (mkF m 4 #[rv a, iv (2 : Int32), iv pp, .unset] [(.int (3 : Int32))])) (fun t k => XS.iadd X0.here hx rfl (hb hby own_d_prog_67_method_6_code_3) rfl k) ?_
  obtain ⟨T102, h102, k102, X102, e102, E102, A102, st102⟩ := newP X0 hx hZ (hw _ (List.mem_of_getElem? (i := 1) rfl)) e0 (g := (mkF m 4 #[rv a, iv (2 : Int32), iv pp, .unset] [(.int (3 : Int32))])) rfl (hb hby own_d_prog_67_method_6_code_4) rfl (by decide) (cap := 3) (by decide) (by decide) (by decide) (by decide)
  obtain ⟨b102, g102⟩ : ∃ z, z = h0.size := ⟨_, rfl⟩
  rw [← g102] at A102 st102
  have gn102 : n0 ≤ b102 := Nat.le_trans Z0 (Nat.le_of_eq g102.symm)
  have hz102 : n0 ≤ h102.size := Nat.le_trans Z0 E102.1
  have o102 : h0.size ≤ b102 := Nat.le_trans (Keep.refl h0 []).1 (Nat.le_of_eq g102.symm)
  have K102 := (Keep.refl h0 []).ext E102
  have c103 := V_a.ext E102
  have ne104 : a ≠ b102 := Nat.ne_of_lt (Nat.lt_of_lt_of_le V_a.lt (Nat.le_of_eq g102.symm))
  have V102 : Arv Z h102 b102 k102 .int (3 : Int32) [(.int (0 : Int32)), (.int (0 : Int32)), (.int (0 : Int32))] (.int (0 : Int32)) := (Arv.new A102 (by decide)).pad (pad_rep [] (.int (0 : Int32)) 3)
  refine own_go (T' := T102) (g' := (mkF m 6 #[rv a, iv (2 : Int32), iv pp, .unset] [(.ref b102)])) (st102) ?_
  refine own_go (T' := T102) (g' := (mkF m 7 #[rv a, iv (2 : Int32), iv pp, rv b102] [])) (fun t k => XS.astoreN X102.here hx rfl (hb hby own_d_prog_67_method_6_code_6) rfl rfl (l' := #[rv a, iv (2 : Int32), iv pp, rv b102]) rfl k) ?_
  refine own_go (T' := T102) (g' := (mkF m 8 #[rv a, iv (2 : Int32), iv pp, rv b102] [(.ref a)])) (fun t k => XS.aloadN X102.here hx rfl (hb hby own_d_prog_67_method_6_code_7) rfl rfl k) ?_
  refine own_go (T' := T102) (g' := (mkF m 9 #[rv a, iv (2 : Int32), iv pp, rv b102] [(.int (0 : Int32)), (.ref a)])) (fun t k => XS.iconst X102.here hx rfl (hb hby own_d_prog_67_method_6_code_8) k) ?_
  refine own_go (T' := T102) (g' := (mkF m 10 #[rv a, iv (2 : Int32), iv pp, rv b102] [(.ref b102), (.int (0 : Int32)), (.ref a)])) (fun t k => XS.aloadN X102.here hx rfl (hb hby own_d_prog_67_method_6_code_9) rfl rfl k) ?_
  refine own_go (T' := T102) (g' := (mkF m 11 #[rv a, iv (2 : Int32), iv pp, rv b102] [(.int (0 : Int32)), (.ref b102), (.int (0 : Int32)), (.ref a)])) (fun t k => XS.iconst X102.here hx rfl (hb hby own_d_prog_67_method_6_code_10) k) ?_
  refine own_go (T' := T102) (g' := (mkF m 12 #[rv a, iv (2 : Int32), iv pp, rv b102] [(.int (2 : Int32)), (.int (0 : Int32)), (.ref b102), (.int (0 : Int32)), (.ref a)])) (fun t k => XS.iloadN X102.here hx rfl (hb hby own_d_prog_67_method_6_code_11) rfl k) ?_
  obtain ⟨T105, h105, L105, X105, e105, N105, K_105, V105q, st105⟩ := cpA X102 hx hZ hown (hw _ (List.mem_of_getElem? (i := 6) rfl)) (hw _ (List.mem_of_getElem? (i := 9) rfl)) (hw _ (List.mem_of_getElem? (i := 7) rfl)) (hw _ (List.mem_of_getElem? (i := 8) rfl)) e102 (sp := (0 : Int32)) (dp := (0 : Int32)) (nn := (2 : Int32)) (us := [(.int v0), (.int v1)]) c103 V102 (Or.inl ⟨rfl, rfl⟩) (by first | decide | exact Nat.le_of_ble_eq_true rfl) (by first | decide | exact Nat.le_of_ble_eq_true rfl) (by first | decide | exact Nat.le_of_ble_eq_true rfl) (by first | decide | exact Nat.le_of_ble_eq_true rfl) (by first | decide | exact Nat.le_of_ble_eq_true rfl) rfl (by first | decide | exact Nat.le_of_ble_eq_true rfl) N0 gn102 (g := (mkF m 12 #[rv a, iv (2 : Int32), iv pp, rv b102] [(.int (2 : Int32)), (.int (0 : Int32)), (.ref b102), (.int (0 : Int32)), (.ref a)])) rfl (by rw [hml]; rfl) rfl (hb hby own_d_prog_67_method_6_code_12) (by first | decide | exact Nat.le_of_ble_eq_true rfl) (W := 0) (by show 2 * 0 + _ ≤ _; exact Nat.le_of_eq rfl) (by first | decide | exact Nat.le_of_ble_eq_true rfl)
  have V105 : Arv Z h105 b102 k102 .int (3 : Int32) [(.int v0), (.int v1), (.int (0 : Int32))] (.int (0 : Int32)) := V105q
  have c106 := c103.keep K_105 (ninS ne104 nin0)
  have hz105 : n0 ≤ h105.size := Nat.le_trans hz102 K_105.1
  have K105 := Keep.trans K102 K_105 (allS (P := fun x => x ∈ _ ∨ h0.size ≤ x) (Or.inr o102) all0)
  refine own_go (T' := T105) (g' := (mkF m 15 #[rv a, iv (2 : Int32), iv pp, rv b102] [])) (st105) ?_
  refine own_go (T' := T105) (g' := (mkF m 16 #[rv a, iv (2 : Int32), iv pp, rv b102] [(.ref b102)])) (fun t k => XS.aloadN X105.here hx rfl (hb hby own_d_prog_67_method_6_code_15) rfl rfl k) ?_
  refine own_go (T' := T105) (g' := (mkF m 17 #[rv a, iv (2 : Int32), iv pp, rv b102] [(.int (2 : Int32)), (.ref b102)])) (fun t k => XS.iloadN X105.here hx rfl (hb hby own_d_prog_67_method_6_code_16) rfl k) ?_
  refine own_go (T' := T105) (g' := (mkF m 18 #[rv a, iv (2 : Int32), iv pp, rv b102] [(.int pp), (.int (2 : Int32)), (.ref b102)])) (fun t k => XS.iloadN X105.here hx rfl (hb hby own_d_prog_67_method_6_code_17) rfl k) ?_
  obtain ⟨cl111, Ar111, q111, Sz111, Nn111, Ha111, Ga111⟩ := id V105
  have hin111 : ¬ ((2 : Int32) < 0 ∨ cl111.slots.size ≤ ((2 : Int32)).toNatClampNeg) := inb_of Sz111 ⟨by decide, by decide⟩
  obtain ⟨T111, h111, X111, e111, W111, st111⟩ := stI X105 hx hZ e105 Ar111 (j := (2 : Int32)) hin111 (g := (mkF m 18 #[rv a, iv (2 : Int32), iv pp, rv b102] [(.int pp), (.int (2 : Int32)), (.ref b102)])) rfl rfl (hb hby own_d_prog_67_method_6_code_18)
  have hz111 : n0 ≤ h111.size := Nat.le_trans hz105 (Keep.of_wr W111).1
  have N111 := Fr.snoc X111 N105 gn102
  have K111 := K105.wr W111 (Or.inr o102)
  have c112 := c106.other W111 ne104
  have V111 : Arv Z h111 b102 k102 .int (3 : Int32) [(.int v0), (.int v1), (.int pp)] (.int (0 : Int32)) := Arv.set Ar111 q111 Sz111 Nn111 Ha111 Ga111 rfl W111 2 rfl (Nat.le_of_ble_eq_true rfl)
  refine own_go (T' := T111) (g' := (mkF m 19 #[rv a, iv (2 : Int32), iv pp, rv b102] [])) (st111) ?_
  refine own_go (T' := T111) (g' := (mkF m 20 #[rv a, iv (2 : Int32), iv pp, rv b102] [(.ref a)])) (fun t k => XS.aloadN X111.here hx rfl (hb hby own_d_prog_67_method_6_code_19) rfl rfl k) ?_
  refine own_go (T' := T111) (g' := (mkF m 21 #[rv a, iv (2 : Int32), iv pp, rv b102] [(.int (2 : Int32)), (.ref a)])) (fun t k => XS.iloadN X111.here hx rfl (hb hby own_d_prog_67_method_6_code_20) rfl k) ?_
  refine own_go (T' := T111) (g' := (mkF m 22 #[rv a, iv (2 : Int32), iv pp, rv b102] [(.ref b102), (.int (2 : Int32)), (.ref a)])) (fun t k => XS.aloadN X111.here hx rfl (hb hby own_d_prog_67_method_6_code_21) rfl rfl k) ?_
  refine own_go (T' := T111) (g' := (mkF m 23 #[rv a, iv (2 : Int32), iv pp, rv b102] [(.int (2 : Int32)), (.ref b102), (.int (2 : Int32)), (.ref a)])) (fun t k => XS.iloadN X111.here hx rfl (hb hby own_d_prog_67_method_6_code_22) rfl k) ?_
  refine own_go (T' := T111) (g' := (mkF m 24 #[rv a, iv (2 : Int32), iv pp, rv b102] [(.int (1 : Int32)), (.int (2 : Int32)), (.ref b102), (.int (2 : Int32)), (.ref a)])) (fun t k => XS.iconst X111.here hx rfl (hb hby own_d_prog_67_method_6_code_23) k) ?_
  refine own_go (T' := T111) (g' := (mkF m 25 #[rv a, iv (2 : Int32), iv pp, rv b102] [(.int (3 : Int32)), (.ref b102), (.int (2 : Int32)), (.ref a)])) (fun t k => XS.iadd X111.here hx rfl (hb hby own_d_prog_67_method_6_code_24) rfl k) ?_
  refine own_go (T' := T111) (g' := (mkF m 26 #[rv a, iv (2 : Int32), iv pp, rv b102] [(.ref a), (.int (3 : Int32)), (.ref b102), (.int (2 : Int32)), (.ref a)])) (fun t k => XS.aloadN X111.here hx rfl (hb hby own_d_prog_67_method_6_code_25) rfl rfl k) ?_
  obtain ⟨cl114, Ar114, -, Sz114, Nn114, -, -⟩ := id c112
  refine own_go (T' := T111) (g' := (mkF m 27 #[rv a, iv (2 : Int32), iv pp, rv b102] [(.int (2 : Int32)), (.int (3 : Int32)), (.ref b102), (.int (2 : Int32)), (.ref a)])) (fun t k => X111.arraylength hx (by rw [e111]; exact Ar114.1) (State.isArrayOf_alike hZ.alike Ar114.2.1) (g := (mkF m 26 #[rv a, iv (2 : Int32), iv pp, rv b102] [(.ref a), (.int (3 : Int32)), (.ref b102), (.int (2 : Int32)), (.ref a)])) rfl rfl (hb hby own_d_prog_67_method_6_code_26) _ (by rw [len_of Sz114 Nn114]; exact k)) ?_
  refine own_go (T' := T111) (g' := (mkF m 28 #[rv a, iv (2 : Int32), iv pp, rv b102] [(.int (2 : Int32)), (.int (2 : Int32)), (.int (3 : Int32)), (.ref b102), (.int (2 : Int32)), (.ref a)])) (fun t k => XS.iloadN X111.here hx rfl (hb hby own_d_prog_67_method_6_code_27) rfl k) ?_
  refine own_go (T' := T111) (g' := (mkF m 29 #[rv a, iv (2 : Int32), iv pp, rv b102] [(.int (0 : Int32)), (.int (3 : Int32)), (.ref b102), (.int (2 : Int32)), (.ref a)])) (fun t k => XS.isub X111.here hx rfl (hb hby own_d_prog_67_method_6_code_28) rfl k) ?_
  obtain ⟨T115, h115, L115, X115, e115, N115, K_115, V115q, st115⟩ := cpA X111 hx hZ hown (hw _ (List.mem_of_getElem? (i := 6) rfl)) (hw _ (List.mem_of_getElem? (i := 9) rfl)) (hw _ (List.mem_of_getElem? (i := 7) rfl)) (hw _ (List.mem_of_getElem? (i := 8) rfl)) e111 (sp := (2 : Int32)) (dp := (3 : Int32)) (nn := (0 : Int32)) (us := []) c112 V111 (Or.inl ⟨rfl, rfl⟩) (by first | decide | exact Nat.le_of_ble_eq_true rfl) (by first | decide | exact Nat.le_of_ble_eq_true rfl) (by first | decide | exact Nat.le_of_ble_eq_true rfl) (by first | decide | exact Nat.le_of_ble_eq_true rfl) (by first | decide | exact Nat.le_of_ble_eq_true rfl) rfl (by first | decide | exact Nat.le_of_ble_eq_true rfl) N111 gn102 (g := (mkF m 29 #[rv a, iv (2 : Int32), iv pp, rv b102] [(.int (0 : Int32)), (.int (3 : Int32)), (.ref b102), (.int (2 : Int32)), (.ref a)])) rfl (by rw [hml]; rfl) rfl (hb hby own_d_prog_67_method_6_code_29) (by first | decide | exact Nat.le_of_ble_eq_true rfl) (W := 0) (by show 2 * 0 + _ ≤ _; exact Nat.le_of_eq rfl) (by first | decide | exact Nat.le_of_ble_eq_true rfl)
  have V115 : Arv Z h115 b102 k102 .int (3 : Int32) [(.int v0), (.int v1), (.int pp)] (.int (0 : Int32)) := V115q
  have c116 := c112.keep K_115 (ninS ne104 nin0)
  have hz115 : n0 ≤ h115.size := Nat.le_trans hz111 K_115.1
  have K115 := Keep.trans K111 K_115 (allS (P := fun x => x ∈ _ ∨ h0.size ≤ x) (Or.inr o102) all0)
  refine own_go (T' := T115) (g' := (mkF m 32 #[rv a, iv (2 : Int32), iv pp, rv b102] [])) (st115) ?_
  refine own_go (T' := T115) (g' := (mkF m 33 #[rv a, iv (2 : Int32), iv pp, rv b102] [(.ref b102)])) (fun t k => XS.aloadN X115.here hx rfl (hb hby own_d_prog_67_method_6_code_32) rfl rfl k) ?_
  exact own_ret X115 hlk hx Bd.returns rfl (Or.inr (Or.inr (Or.inr (Or.inr ⟨rfl, rfl, rfl⟩)))) (hb hby own_d_prog_67_method_6_code_33) (by rw [e115]; exact ⟨b102, _, rfl, N115, o102, K115, V115⟩) (by decide) (by decide)

def Q_own_ws_3_0 (Z : State) (v0 v1 v2 : Int32) (pp : Int32) (h0 : Heap) (n0 : Nat) (v : Option Value) (h : Heap) (L : List Loc) : Prop := ∃ (b : Addr) (k : ClassId), v = some (.ref b) ∧ Fr n0 L ∧ h0.size ≤ b ∧ Keep h0 h [] ∧ Arv Z h b k .int (4 : Int32) [(.int pp), (.int v0), (.int v1), (.int v2)] (.int (0 : Int32))
set_option maxRecDepth 65536 in
set_option maxHeartbeats 40000000 in
theorem own_ws_3_0 (l : Launch) (Z : State) (a0 : Array Value) (hw : ∀ d ∈ tables_1, d.before a0 Z = true) (ws : List Jvm.Cond) (v0 v1 v2 : Int32) (pp : Int32) (a : Addr) (ka : ClassId) (h0 : Heap) (n0 : Nat) (Z0 : n0 ≤ h0.size) (V_a : Arv Z h0 a ka .int (3 : Int32) [(.int v0), (.int v1), (.int v2)] (.int (0 : Int32))) :
    MetFree l (⟨"com/example/tankroute/tankroute/solve/Solution$Tour", "withStop", "([III)[I"⟩ : MethodName) (head1 (Jvm.Cond.code (⟨"com/example/tankroute/tankroute/solve/Solution$Tour", "withStop", "([III)[I"⟩ : MethodName) prog_67_method_6_code 4 (some (.array .int)) :: ws) ({ frames := 1, cells := 1, slots := 4, locals := 30 } : Room)) (fun au Uu => au = #[(.ref a), (.int (0 : Int32)), (.int pp)] ∧ Z.Warmed39 Uu.vm ∧ Uu.heap = h0) (fun _ _ _ _ _ => True) (fun _ Uu ou Uw => ∃ vu Lu, ou = .returned vu ∧ Q_own_ws_3_0 Z v0 v1 v2 pp h0 n0 vu Uw.heap Lu ∧ FrameEnd Uu ou Uw Lu ({ frames := 1, cells := 1, slots := 4, locals := 30 } : Room).cells ({ frames := 1, cells := 1, slots := 4, locals := 30 } : Room).slots) := by
  refine MetFree.of_bodySF (plainFor_of_name (by first | (simp [plainName, overriddenIn]; done) | decide +kernel)) hisR ?_
  intro p e s m args below meth c s₁ Bd hml0 hP hK
  obtain ⟨rfl, hZ, hh⟩ := hP
  have hx := Bd.exec
  have hby := Bd.bytes
  have hlk := Bd.notSynchronized
  have hml : c.maxLocals = 4 := hml0
  have hown : s.vm.findClass "com/example/tankroute/tankroute/solve/Solution$Tour" = some m.cls := findClass_of_methodNamed Bd.named
  have hnm := (name_of_methodNamed Bd.named Bd.method).1
  have X0 : Stand p l e ({ frames := 1, cells := 1, slots := 4, locals := 30 } : Room) s m #[(.ref a), (.int (0 : Int32)), (.int pp)] below meth c s₁ [] 0 0 := Stand.of_body Bd
  have e0 : s₁.heap = h0 := by rw [← hh, Bd.state]; rfl
  have N0 := Fr.nil n0
  show own_Ends p e below s₁ (entryFrame m #[(.ref a), (.int (0 : Int32)), (.int pp)] 4) (fun ou Uw => ∃ vu Lu, ou = .returned vu ∧ Q_own_ws_3_0 Z v0 v1 v2 pp h0 n0 vu Uw.heap Lu ∧ FrameEnd s ou Uw Lu ({ frames := 1, cells := 1, slots := 4, locals := 30 } : Room).cells ({ frames := 1, cells := 1, slots := 4, locals := 30 } : Room).slots)
  refine own_start (g' := (mkF m 0 #[rv a, iv (0 : Int32), iv pp, .unset] [])) (by first | (simp [entryFrame, mkF, argsToLocals, Value.category, iv, rv]; done) | rfl) ?_
  refine own_go (T' := s₁) (g' := (mkF m 1 #[rv a, iv (0 : Int32), iv pp, .unset] [(.ref a)])) (fun t k => XS.aloadN X0.here hx rfl (hb hby own_d_prog_67_method_6_code_0) rfl rfl k) ?_
  obtain ⟨cl121, Ar121, -, Sz121, Nn121, -, -⟩ := id V_a
  refine own_go (T' := s₁) (g' := (mkF m 2 #[rv a, iv (0 : Int32), iv pp, .unset] [(.int (3 : Int32))])) (fun t k => X0.arraylength hx (by rw [e0]; exact Ar121.1) (State.isArrayOf_alike hZ.alike Ar121.2.1) (g := (mkF m 1 #[rv a, iv (0 : Int32), iv pp, .unset] [(.ref a)])) rfl rfl (hb hby own_d_prog_67_method_6_code_1) _ (by rw [len_of Sz121 Nn121]; exact k)) ?_
  refine own_go (T' := s₁) (g' := (mkF m 3 #[rv a, iv (0 : Int32), iv pp, .unset] [(.int (1 : Int32)), (.int (3 : Int32))])) (fun t k => XS.iconst X0.here hx rfl (hb hby own_d_prog_67_method_6_code_2) k) ?_
  refine own_go (T' := s₁) (g' := (mkF m 4 #[rv a, iv (0 : Int32), iv pp, .unset] [(.int (4 : Int32))])) (fun t k => XS.iadd X0.here hx rfl (hb hby own_d_prog_67_method_6_code_3) rfl k) ?_
  obtain ⟨T122, h122, k122, X122, e122, E122, A122, st122⟩ := newP X0 hx hZ (hw _ (List.mem_of_getElem? (i := 1) rfl)) e0 (g := (mkF m 4 #[rv a, iv (0 : Int32), iv pp, .unset] [(.int (4 : Int32))])) rfl (hb hby own_d_prog_67_method_6_code_4) rfl (by decide) (cap := 4) (by decide) (by decide) (by decide) (by decide)
  obtain ⟨b122, g122⟩ : ∃ z, z = h0.size := ⟨_, rfl⟩
  rw [← g122] at A122 st122
  have gn122 : n0 ≤ b122 := Nat.le_trans Z0 (Nat.le_of_eq g122.symm)
  have hz122 : n0 ≤ h122.size := Nat.le_trans Z0 E122.1
  have o122 : h0.size ≤ b122 := Nat.le_trans (Keep.refl h0 []).1 (Nat.le_of_eq g122.symm)
  have K122 := (Keep.refl h0 []).ext E122
  have c123 := V_a.ext E122
  have ne124 : a ≠ b122 := Nat.ne_of_lt (Nat.lt_of_lt_of_le V_a.lt (Nat.le_of_eq g122.symm))
  have V122 : Arv Z h122 b122 k122 .int (4 : Int32) [(.int (0 : Int32)), (.int (0 : Int32)), (.int (0 : Int32)), (.int (0 : Int32))] (.int (0 : Int32)) := (Arv.new A122 (by decide)).pad (pad_rep [] (.int (0 : Int32)) 4)
  refine own_go (T' := T122) (g' := (mkF m 6 #[rv a, iv (0 : Int32), iv pp, .unset] [(.ref b122)])) (st122) ?_
  refine own_go (T' := T122) (g' := (mkF m 7 #[rv a, iv (0 : Int32), iv pp, rv b122] [])) (fun t k => XS.astoreN X122.here hx rfl (hb hby own_d_prog_67_method_6_code_6) rfl rfl (l' := #[rv a, iv (0 : Int32), iv pp, rv b122]) rfl k) ?_
  refine own_go (T' := T122) (g' := (mkF m 8 #[rv a, iv (0 : Int32), iv pp, rv b122] [(.ref a)])) (fun t k => XS.aloadN X122.here hx rfl (hb hby own_d_prog_67_method_6_code_7) rfl rfl k) ?_
  refine own_go (T' := T122) (g' := (mkF m 9 #[rv a, iv (0 : Int32), iv pp, rv b122] [(.int (0 : Int32)), (.ref a)])) (fun t k => XS.iconst X122.here hx rfl (hb hby own_d_prog_67_method_6_code_8) k) ?_
  refine own_go (T' := T122) (g' := (mkF m 10 #[rv a, iv (0 : Int32), iv pp, rv b122] [(.ref b122), (.int (0 : Int32)), (.ref a)])) (fun t k => XS.aloadN X122.here hx rfl (hb hby own_d_prog_67_method_6_code_9) rfl rfl k) ?_
  refine own_go (T' := T122) (g' := (mkF m 11 #[rv a, iv (0 : Int32), iv pp, rv b122] [(.int (0 : Int32)), (.ref b122), (.int (0 : Int32)), (.ref a)])) (fun t k => XS.iconst X122.here hx rfl (hb hby own_d_prog_67_method_6_code_10) k) ?_
  refine own_go (T' := T122) (g' := (mkF m 12 #[rv a, iv (0 : Int32), iv pp, rv b122] [(.int (0 : Int32)), (.int (0 : Int32)), (.ref b122), (.int (0 : Int32)), (.ref a)])) (fun t k => XS.iloadN X122.here hx rfl (hb hby own_d_prog_67_method_6_code_11) rfl k) ?_
  obtain ⟨T125, h125, L125, X125, e125, N125, K_125, V125q, st125⟩ := cpA X122 hx hZ hown (hw _ (List.mem_of_getElem? (i := 6) rfl)) (hw _ (List.mem_of_getElem? (i := 9) rfl)) (hw _ (List.mem_of_getElem? (i := 7) rfl)) (hw _ (List.mem_of_getElem? (i := 8) rfl)) e122 (sp := (0 : Int32)) (dp := (0 : Int32)) (nn := (0 : Int32)) (us := []) c123 V122 (Or.inl ⟨rfl, rfl⟩) (by first | decide | exact Nat.le_of_ble_eq_true rfl) (by first | decide | exact Nat.le_of_ble_eq_true rfl) (by first | decide | exact Nat.le_of_ble_eq_true rfl) (by first | decide | exact Nat.le_of_ble_eq_true rfl) (by first | decide | exact Nat.le_of_ble_eq_true rfl) rfl (by first | decide | exact Nat.le_of_ble_eq_true rfl) N0 gn122 (g := (mkF m 12 #[rv a, iv (0 : Int32), iv pp, rv b122] [(.int (0 : Int32)), (.int (0 : Int32)), (.ref b122), (.int (0 : Int32)), (.ref a)])) rfl (by rw [hml]; rfl) rfl (hb hby own_d_prog_67_method_6_code_12) (by first | decide | exact Nat.le_of_ble_eq_true rfl) (W := 0) (by show 2 * 0 + _ ≤ _; exact Nat.le_of_eq rfl) (by first | decide | exact Nat.le_of_ble_eq_true rfl)
  have V125 : Arv Z h125 b122 k122 .int (4 : Int32) [(.int (0 : Int32)), (.int (0 : Int32)), (.int (0 : Int32)), (.int (0 : Int32))] (.int (0 : Int32)) := V125q
  have c126 := c123.keep K_125 (ninS ne124 nin0)
  have hz125 : n0 ≤ h125.size := Nat.le_trans hz122 K_125.1
  have K125 := Keep.trans K122 K_125 (allS (P := fun x => x ∈ _ ∨ h0.size ≤ x) (Or.inr o122) all0)
  refine own_go (T' := T125) (g' := (mkF m 15 #[rv a, iv (0 : Int32), iv pp, rv b122] [])) (st125) ?_
  refine own_go (T' := T125) (g' := (mkF m 16 #[rv a, iv (0 : Int32), iv pp, rv b122] [(.ref b122)])) (fun t k => XS.aloadN X125.here hx rfl (hb hby own_d_prog_67_method_6_code_15) rfl rfl k) ?_
  refine own_go (T' := T125) (g' := (mkF m 17 #[rv a, iv (0 : Int32), iv pp, rv b122] [(.int (0 : Int32)), (.ref b122)])) (fun t k => XS.iloadN X125.here hx rfl (hb hby own_d_prog_67_method_6_code_16) rfl k) ?_
  refine own_go (T' := T125) (g' := (mkF m 18 #[rv a, iv (0 : Int32), iv pp, rv b122] [(.int pp), (.int (0 : Int32)), (.ref b122)])) (fun t k => XS.iloadN X125.here hx rfl (hb hby own_d_prog_67_method_6_code_17) rfl k) ?_
  obtain ⟨cl131, Ar131, q131, Sz131, Nn131, Ha131, Ga131⟩ := id V125
  have hin131 : ¬ ((0 : Int32) < 0 ∨ cl131.slots.size ≤ ((0 : Int32)).toNatClampNeg) := inb_of Sz131 ⟨by decide, by decide⟩
  obtain ⟨T131, h131, X131, e131, W131, st131⟩ := stI X125 hx hZ e125 Ar131 (j := (0 : Int32)) hin131 (g := (mkF m 18 #[rv a, iv (0 : Int32), iv pp, rv b122] [(.int pp), (.int (0 : Int32)), (.ref b122)])) rfl rfl (hb hby own_d_prog_67_method_6_code_18)
  have hz131 : n0 ≤ h131.size := Nat.le_trans hz125 (Keep.of_wr W131).1
  have N131 := Fr.snoc X131 N125 gn122
  have K131 := K125.wr W131 (Or.inr o122)
  have c132 := c126.other W131 ne124
  have V131 : Arv Z h131 b122 k122 .int (4 : Int32) [(.int pp), (.int (0 : Int32)), (.int (0 : Int32)), (.int (0 : Int32))] (.int (0 : Int32)) := Arv.set Ar131 q131 Sz131 Nn131 Ha131 Ga131 rfl W131 0 rfl (Nat.le_of_ble_eq_true rfl)
  refine own_go (T' := T131) (g' := (mkF m 19 #[rv a, iv (0 : Int32), iv pp, rv b122] [])) (st131) ?_
  refine own_go (T' := T131) (g' := (mkF m 20 #[rv a, iv (0 : Int32), iv pp, rv b122] [(.ref a)])) (fun t k => XS.aloadN X131.here hx rfl (hb hby own_d_prog_67_method_6_code_19) rfl rfl k) ?_
  refine own_go (T' := T131) (g' := (mkF m 21 #[rv a, iv (0 : Int32), iv pp, rv b122] [(.int (0 : Int32)), (.ref a)])) (fun t k => XS.iloadN X131.here hx rfl (hb hby own_d_prog_67_method_6_code_20) rfl k) ?_
  refine own_go (T' := T131) (g' := (mkF m 22 #[rv a, iv (0 : Int32), iv pp, rv b122] [(.ref b122), (.int (0 : Int32)), (.ref a)])) (fun t k => XS.aloadN X131.here hx rfl (hb hby own_d_prog_67_method_6_code_21) rfl rfl k) ?_
  refine own_go (T' := T131) (g' := (mkF m 23 #[rv a, iv (0 : Int32), iv pp, rv b122] [(.int (0 : Int32)), (.ref b122), (.int (0 : Int32)), (.ref a)])) (fun t k => XS.iloadN X131.here hx rfl (hb hby own_d_prog_67_method_6_code_22) rfl k) ?_
  refine own_go (T' := T131) (g' := (mkF m 24 #[rv a, iv (0 : Int32), iv pp, rv b122] [(.int (1 : Int32)), (.int (0 : Int32)), (.ref b122), (.int (0 : Int32)), (.ref a)])) (fun t k => XS.iconst X131.here hx rfl (hb hby own_d_prog_67_method_6_code_23) k) ?_
  refine own_go (T' := T131) (g' := (mkF m 25 #[rv a, iv (0 : Int32), iv pp, rv b122] [(.int (1 : Int32)), (.ref b122), (.int (0 : Int32)), (.ref a)])) (fun t k => XS.iadd X131.here hx rfl (hb hby own_d_prog_67_method_6_code_24) rfl k) ?_
  refine own_go (T' := T131) (g' := (mkF m 26 #[rv a, iv (0 : Int32), iv pp, rv b122] [(.ref a), (.int (1 : Int32)), (.ref b122), (.int (0 : Int32)), (.ref a)])) (fun t k => XS.aloadN X131.here hx rfl (hb hby own_d_prog_67_method_6_code_25) rfl rfl k) ?_
  obtain ⟨cl134, Ar134, -, Sz134, Nn134, -, -⟩ := id c132
  refine own_go (T' := T131) (g' := (mkF m 27 #[rv a, iv (0 : Int32), iv pp, rv b122] [(.int (3 : Int32)), (.int (1 : Int32)), (.ref b122), (.int (0 : Int32)), (.ref a)])) (fun t k => X131.arraylength hx (by rw [e131]; exact Ar134.1) (State.isArrayOf_alike hZ.alike Ar134.2.1) (g := (mkF m 26 #[rv a, iv (0 : Int32), iv pp, rv b122] [(.ref a), (.int (1 : Int32)), (.ref b122), (.int (0 : Int32)), (.ref a)])) rfl rfl (hb hby own_d_prog_67_method_6_code_26) _ (by rw [len_of Sz134 Nn134]; exact k)) ?_
  refine own_go (T' := T131) (g' := (mkF m 28 #[rv a, iv (0 : Int32), iv pp, rv b122] [(.int (0 : Int32)), (.int (3 : Int32)), (.int (1 : Int32)), (.ref b122), (.int (0 : Int32)), (.ref a)])) (fun t k => XS.iloadN X131.here hx rfl (hb hby own_d_prog_67_method_6_code_27) rfl k) ?_
  refine own_go (T' := T131) (g' := (mkF m 29 #[rv a, iv (0 : Int32), iv pp, rv b122] [(.int (3 : Int32)), (.int (1 : Int32)), (.ref b122), (.int (0 : Int32)), (.ref a)])) (fun t k => XS.isub X131.here hx rfl (hb hby own_d_prog_67_method_6_code_28) rfl k) ?_
  obtain ⟨T135, h135, L135, X135, e135, N135, K_135, V135q, st135⟩ := cpA X131 hx hZ hown (hw _ (List.mem_of_getElem? (i := 6) rfl)) (hw _ (List.mem_of_getElem? (i := 9) rfl)) (hw _ (List.mem_of_getElem? (i := 7) rfl)) (hw _ (List.mem_of_getElem? (i := 8) rfl)) e131 (sp := (0 : Int32)) (dp := (1 : Int32)) (nn := (3 : Int32)) (us := [(.int v0), (.int v1), (.int v2)]) c132 V131 (Or.inl ⟨rfl, rfl⟩) (by first | decide | exact Nat.le_of_ble_eq_true rfl) (by first | decide | exact Nat.le_of_ble_eq_true rfl) (by first | decide | exact Nat.le_of_ble_eq_true rfl) (by first | decide | exact Nat.le_of_ble_eq_true rfl) (by first | decide | exact Nat.le_of_ble_eq_true rfl) rfl (by first | decide | exact Nat.le_of_ble_eq_true rfl) N131 gn122 (g := (mkF m 29 #[rv a, iv (0 : Int32), iv pp, rv b122] [(.int (3 : Int32)), (.int (1 : Int32)), (.ref b122), (.int (0 : Int32)), (.ref a)])) rfl (by rw [hml]; rfl) rfl (hb hby own_d_prog_67_method_6_code_29) (by first | decide | exact Nat.le_of_ble_eq_true rfl) (W := 0) (by show 2 * 0 + _ ≤ _; exact Nat.le_of_eq rfl) (by first | decide | exact Nat.le_of_ble_eq_true rfl)
  have V135 : Arv Z h135 b122 k122 .int (4 : Int32) [(.int pp), (.int v0), (.int v1), (.int v2)] (.int (0 : Int32)) := V135q
  have c136 := c132.keep K_135 (ninS ne124 nin0)
  have hz135 : n0 ≤ h135.size := Nat.le_trans hz131 K_135.1
  have K135 := Keep.trans K131 K_135 (allS (P := fun x => x ∈ _ ∨ h0.size ≤ x) (Or.inr o122) all0)
  refine own_go (T' := T135) (g' := (mkF m 32 #[rv a, iv (0 : Int32), iv pp, rv b122] [])) (st135) ?_
  refine own_go (T' := T135) (g' := (mkF m 33 #[rv a, iv (0 : Int32), iv pp, rv b122] [(.ref b122)])) (fun t k => XS.aloadN X135.here hx rfl (hb hby own_d_prog_67_method_6_code_32) rfl rfl k) ?_
  exact own_ret X135 hlk hx Bd.returns rfl (Or.inr (Or.inr (Or.inr (Or.inr ⟨rfl, rfl, rfl⟩)))) (hb hby own_d_prog_67_method_6_code_33) (by rw [e135]; exact ⟨b122, _, rfl, N135, o122, K135, V135⟩) (by decide) (by decide)

def Q_own_ws_3_1 (Z : State) (v0 v1 v2 : Int32) (pp : Int32) (h0 : Heap) (n0 : Nat) (v : Option Value) (h : Heap) (L : List Loc) : Prop := ∃ (b : Addr) (k : ClassId), v = some (.ref b) ∧ Fr n0 L ∧ h0.size ≤ b ∧ Keep h0 h [] ∧ Arv Z h b k .int (4 : Int32) [(.int v0), (.int pp), (.int v1), (.int v2)] (.int (0 : Int32))
set_option maxRecDepth 65536 in
set_option maxHeartbeats 40000000 in
theorem own_ws_3_1 (l : Launch) (Z : State) (a0 : Array Value) (hw : ∀ d ∈ tables_1, d.before a0 Z = true) (ws : List Jvm.Cond) (v0 v1 v2 : Int32) (pp : Int32) (a : Addr) (ka : ClassId) (h0 : Heap) (n0 : Nat) (Z0 : n0 ≤ h0.size) (V_a : Arv Z h0 a ka .int (3 : Int32) [(.int v0), (.int v1), (.int v2)] (.int (0 : Int32))) :
    MetFree l (⟨"com/example/tankroute/tankroute/solve/Solution$Tour", "withStop", "([III)[I"⟩ : MethodName) (head1 (Jvm.Cond.code (⟨"com/example/tankroute/tankroute/solve/Solution$Tour", "withStop", "([III)[I"⟩ : MethodName) prog_67_method_6_code 4 (some (.array .int)) :: ws) ({ frames := 1, cells := 1, slots := 4, locals := 30 } : Room)) (fun au Uu => au = #[(.ref a), (.int (1 : Int32)), (.int pp)] ∧ Z.Warmed39 Uu.vm ∧ Uu.heap = h0) (fun _ _ _ _ _ => True) (fun _ Uu ou Uw => ∃ vu Lu, ou = .returned vu ∧ Q_own_ws_3_1 Z v0 v1 v2 pp h0 n0 vu Uw.heap Lu ∧ FrameEnd Uu ou Uw Lu ({ frames := 1, cells := 1, slots := 4, locals := 30 } : Room).cells ({ frames := 1, cells := 1, slots := 4, locals := 30 } : Room).slots) := by
  refine MetFree.of_bodySF (plainFor_of_name (by first | (simp [plainName, overriddenIn]; done) | decide +kernel)) hisR ?_
  intro p e s m args below meth c s₁ Bd hml0 hP hK
  obtain ⟨rfl, hZ, hh⟩ := hP
  have hx := Bd.exec
  have hby := Bd.bytes
  have hlk := Bd.notSynchronized
  have hml : c.maxLocals = 4 := hml0
  have hown : s.vm.findClass "com/example/tankroute/tankroute/solve/Solution$Tour" = some m.cls := findClass_of_methodNamed Bd.named
  have hnm := (name_of_methodNamed Bd.named Bd.method).1
  have X0 : Stand p l e ({ frames := 1, cells := 1, slots := 4, locals := 30 } : Room) s m #[(.ref a), (.int (1 : Int32)), (.int pp)] below meth c s₁ [] 0 0 := Stand.of_body Bd
  have e0 : s₁.heap = h0 := by rw [← hh, Bd.state]; rfl
  have N0 := Fr.nil n0
  show own_Ends p e below s₁ (entryFrame m #[(.ref a), (.int (1 : Int32)), (.int pp)] 4) (fun ou Uw => ∃ vu Lu, ou = .returned vu ∧ Q_own_ws_3_1 Z v0 v1 v2 pp h0 n0 vu Uw.heap Lu ∧ FrameEnd s ou Uw Lu ({ frames := 1, cells := 1, slots := 4, locals := 30 } : Room).cells ({ frames := 1, cells := 1, slots := 4, locals := 30 } : Room).slots)
  refine own_start (g' := (mkF m 0 #[rv a, iv (1 : Int32), iv pp, .unset] [])) (by first | (simp [entryFrame, mkF, argsToLocals, Value.category, iv, rv]; done) | rfl) ?_
  refine own_go (T' := s₁) (g' := (mkF m 1 #[rv a, iv (1 : Int32), iv pp, .unset] [(.ref a)])) (fun t k => XS.aloadN X0.here hx rfl (hb hby own_d_prog_67_method_6_code_0) rfl rfl k) ?_
  obtain ⟨cl141, Ar141, -, Sz141, Nn141, -, -⟩ := id V_a
  refine own_go (T' := s₁) (g' := (mkF m 2 #[rv a, iv (1 : Int32), iv pp, .unset] [(.int (3 : Int32))])) (fun t k => X0.arraylength hx (by rw [e0]; exact Ar141.1) (State.isArrayOf_alike hZ.alike Ar141.2.1) (g := (mkF m 1 #[rv a, iv (1 : Int32), iv pp, .unset] [(.ref a)])) rfl rfl (hb hby own_d_prog_67_method_6_code_1) _ (by rw [len_of Sz141 Nn141]; exact k)) ?_
  refine own_go (T' := s₁) (g' := (mkF m 3 #[rv a, iv (1 : Int32), iv pp, .unset] [(.int (1 : Int32)), (.int (3 : Int32))])) (fun t k => XS.iconst X0.here hx rfl (hb hby own_d_prog_67_method_6_code_2) k) ?_
  refine own_go (T' := s₁) (g' := (mkF m 4 #[rv a, iv (1 : Int32), iv pp, .unset] [(.int (4 : Int32))])) (fun t k => XS.iadd X0.here hx rfl (hb hby own_d_prog_67_method_6_code_3) rfl k) ?_
  obtain ⟨T142, h142, k142, X142, e142, E142, A142, st142⟩ := newP X0 hx hZ (hw _ (List.mem_of_getElem? (i := 1) rfl)) e0 (g := (mkF m 4 #[rv a, iv (1 : Int32), iv pp, .unset] [(.int (4 : Int32))])) rfl (hb hby own_d_prog_67_method_6_code_4) rfl (by decide) (cap := 4) (by decide) (by decide) (by decide) (by decide)
  obtain ⟨b142, g142⟩ : ∃ z, z = h0.size := ⟨_, rfl⟩
  rw [← g142] at A142 st142
  have gn142 : n0 ≤ b142 := Nat.le_trans Z0 (Nat.le_of_eq g142.symm)
  have hz142 : n0 ≤ h142.size := Nat.le_trans Z0 E142.1
  have o142 : h0.size ≤ b142 := Nat.le_trans (Keep.refl h0 []).1 (Nat.le_of_eq g142.symm)
  have K142 := (Keep.refl h0 []).ext E142
  have c143 := V_a.ext E142
  have ne144 : a ≠ b142 := Nat.ne_of_lt (Nat.lt_of_lt_of_le V_a.lt (Nat.le_of_eq g142.symm))
  have V142 : Arv Z h142 b142 k142 .int (4 : Int32) [(.int (0 : Int32)), (.int (0 : Int32)), (.int (0 : Int32)), (.int (0 : Int32))] (.int (0 : Int32)) := (Arv.new A142 (by decide)).pad (pad_rep [] (.int (0 : Int32)) 4)
  refine own_go (T' := T142) (g' := (mkF m 6 #[rv a, iv (1 : Int32), iv pp, .unset] [(.ref b142)])) (st142) ?_
  refine own_go (T' := T142) (g' := (mkF m 7 #[rv a, iv (1 : Int32), iv pp, rv b142] [])) (fun t k => XS.astoreN X142.here hx rfl (hb hby own_d_prog_67_method_6_code_6) rfl rfl (l' := #[rv a, iv (1 : Int32), iv pp, rv b142]) rfl k) ?_
  refine own_go (T' := T142) (g' := (mkF m 8 #[rv a, iv (1 : Int32), iv pp, rv b142] [(.ref a)])) (fun t k => XS.aloadN X142.here hx rfl (hb hby own_d_prog_67_method_6_code_7) rfl rfl k) ?_
  refine own_go (T' := T142) (g' := (mkF m 9 #[rv a, iv (1 : Int32), iv pp, rv b142] [(.int (0 : Int32)), (.ref a)])) (fun t k => XS.iconst X142.here hx rfl (hb hby own_d_prog_67_method_6_code_8) k) ?_
  refine own_go (T' := T142) (g' := (mkF m 10 #[rv a, iv (1 : Int32), iv pp, rv b142] [(.ref b142), (.int (0 : Int32)), (.ref a)])) (fun t k => XS.aloadN X142.here hx rfl (hb hby own_d_prog_67_method_6_code_9) rfl rfl k) ?_
  refine own_go (T' := T142) (g' := (mkF m 11 #[rv a, iv (1 : Int32), iv pp, rv b142] [(.int (0 : Int32)), (.ref b142), (.int (0 : Int32)), (.ref a)])) (fun t k => XS.iconst X142.here hx rfl (hb hby own_d_prog_67_method_6_code_10) k) ?_
  refine own_go (T' := T142) (g' := (mkF m 12 #[rv a, iv (1 : Int32), iv pp, rv b142] [(.int (1 : Int32)), (.int (0 : Int32)), (.ref b142), (.int (0 : Int32)), (.ref a)])) (fun t k => XS.iloadN X142.here hx rfl (hb hby own_d_prog_67_method_6_code_11) rfl k) ?_
  obtain ⟨T145, h145, L145, X145, e145, N145, K_145, V145q, st145⟩ := cpA X142 hx hZ hown (hw _ (List.mem_of_getElem? (i := 6) rfl)) (hw _ (List.mem_of_getElem? (i := 9) rfl)) (hw _ (List.mem_of_getElem? (i := 7) rfl)) (hw _ (List.mem_of_getElem? (i := 8) rfl)) e142 (sp := (0 : Int32)) (dp := (0 : Int32)) (nn := (1 : Int32)) (us := [(.int v0)]) c143 V142 (Or.inl ⟨rfl, rfl⟩) (by first | decide | exact Nat.le_of_ble_eq_true rfl) (by first | decide | exact Nat.le_of_ble_eq_true rfl) (by first | decide | exact Nat.le_of_ble_eq_true rfl) (by first | decide | exact Nat.le_of_ble_eq_true rfl) (by first | decide | exact Nat.le_of_ble_eq_true rfl) rfl (by first | decide | exact Nat.le_of_ble_eq_true rfl) N0 gn142 (g := (mkF m 12 #[rv a, iv (1 : Int32), iv pp, rv b142] [(.int (1 : Int32)), (.int (0 : Int32)), (.ref b142), (.int (0 : Int32)), (.ref a)])) rfl (by rw [hml]; rfl) rfl (hb hby own_d_prog_67_method_6_code_12) (by first | decide | exact Nat.le_of_ble_eq_true rfl) (W := 0) (by show 2 * 0 + _ ≤ _; exact Nat.le_of_eq rfl) (by first | decide | exact Nat.le_of_ble_eq_true rfl)
  have V145 : Arv Z h145 b142 k142 .int (4 : Int32) [(.int v0), (.int (0 : Int32)), (.int (0 : Int32)), (.int (0 : Int32))] (.int (0 : Int32)) := V145q
  have c146 := c143.keep K_145 (ninS ne144 nin0)
  have hz145 : n0 ≤ h145.size := Nat.le_trans hz142 K_145.1
  have K145 := Keep.trans K142 K_145 (allS (P := fun x => x ∈ _ ∨ h0.size ≤ x) (Or.inr o142) all0)
  refine own_go (T' := T145) (g' := (mkF m 15 #[rv a, iv (1 : Int32), iv pp, rv b142] [])) (st145) ?_
  refine own_go (T' := T145) (g' := (mkF m 16 #[rv a, iv (1 : Int32), iv pp, rv b142] [(.ref b142)])) (fun t k => XS.aloadN X145.here hx rfl (hb hby own_d_prog_67_method_6_code_15) rfl rfl k) ?_
  refine own_go (T' := T145) (g' := (mkF m 17 #[rv a, iv (1 : Int32), iv pp, rv b142] [(.int (1 : Int32)), (.ref b142)])) (fun t k => XS.iloadN X145.here hx rfl (hb hby own_d_prog_67_method_6_code_16) rfl k) ?_
  refine own_go (T' := T145) (g' := (mkF m 18 #[rv a, iv (1 : Int32), iv pp, rv b142] [(.int pp), (.int (1 : Int32)), (.ref b142)])) (fun t k => XS.iloadN X145.here hx rfl (hb hby own_d_prog_67_method_6_code_17) rfl k) ?_
  obtain ⟨cl151, Ar151, q151, Sz151, Nn151, Ha151, Ga151⟩ := id V145
  have hin151 : ¬ ((1 : Int32) < 0 ∨ cl151.slots.size ≤ ((1 : Int32)).toNatClampNeg) := inb_of Sz151 ⟨by decide, by decide⟩
  obtain ⟨T151, h151, X151, e151, W151, st151⟩ := stI X145 hx hZ e145 Ar151 (j := (1 : Int32)) hin151 (g := (mkF m 18 #[rv a, iv (1 : Int32), iv pp, rv b142] [(.int pp), (.int (1 : Int32)), (.ref b142)])) rfl rfl (hb hby own_d_prog_67_method_6_code_18)
  have hz151 : n0 ≤ h151.size := Nat.le_trans hz145 (Keep.of_wr W151).1
  have N151 := Fr.snoc X151 N145 gn142
  have K151 := K145.wr W151 (Or.inr o142)
  have c152 := c146.other W151 ne144
  have V151 : Arv Z h151 b142 k142 .int (4 : Int32) [(.int v0), (.int pp), (.int (0 : Int32)), (.int (0 : Int32))] (.int (0 : Int32)) := Arv.set Ar151 q151 Sz151 Nn151 Ha151 Ga151 rfl W151 1 rfl (Nat.le_of_ble_eq_true rfl)
  refine own_go (T' := T151) (g' := (mkF m 19 #[rv a, iv (1 : Int32), iv pp, rv b142] [])) (st151) ?_
  refine own_go (T' := T151) (g' := (mkF m 20 #[rv a, iv (1 : Int32), iv pp, rv b142] [(.ref a)])) (fun t k => XS.aloadN X151.here hx rfl (hb hby own_d_prog_67_method_6_code_19) rfl rfl k) ?_
  refine own_go (T' := T151) (g' := (mkF m 21 #[rv a, iv (1 : Int32), iv pp, rv b142] [(.int (1 : Int32)), (.ref a)])) (fun t k => XS.iloadN X151.here hx rfl (hb hby own_d_prog_67_method_6_code_20) rfl k) ?_
  refine own_go (T' := T151) (g' := (mkF m 22 #[rv a, iv (1 : Int32), iv pp, rv b142] [(.ref b142), (.int (1 : Int32)), (.ref a)])) (fun t k => XS.aloadN X151.here hx rfl (hb hby own_d_prog_67_method_6_code_21) rfl rfl k) ?_
  refine own_go (T' := T151) (g' := (mkF m 23 #[rv a, iv (1 : Int32), iv pp, rv b142] [(.int (1 : Int32)), (.ref b142), (.int (1 : Int32)), (.ref a)])) (fun t k => XS.iloadN X151.here hx rfl (hb hby own_d_prog_67_method_6_code_22) rfl k) ?_
  refine own_go (T' := T151) (g' := (mkF m 24 #[rv a, iv (1 : Int32), iv pp, rv b142] [(.int (1 : Int32)), (.int (1 : Int32)), (.ref b142), (.int (1 : Int32)), (.ref a)])) (fun t k => XS.iconst X151.here hx rfl (hb hby own_d_prog_67_method_6_code_23) k) ?_
  refine own_go (T' := T151) (g' := (mkF m 25 #[rv a, iv (1 : Int32), iv pp, rv b142] [(.int (2 : Int32)), (.ref b142), (.int (1 : Int32)), (.ref a)])) (fun t k => XS.iadd X151.here hx rfl (hb hby own_d_prog_67_method_6_code_24) rfl k) ?_
  refine own_go (T' := T151) (g' := (mkF m 26 #[rv a, iv (1 : Int32), iv pp, rv b142] [(.ref a), (.int (2 : Int32)), (.ref b142), (.int (1 : Int32)), (.ref a)])) (fun t k => XS.aloadN X151.here hx rfl (hb hby own_d_prog_67_method_6_code_25) rfl rfl k) ?_
  obtain ⟨cl154, Ar154, -, Sz154, Nn154, -, -⟩ := id c152
  refine own_go (T' := T151) (g' := (mkF m 27 #[rv a, iv (1 : Int32), iv pp, rv b142] [(.int (3 : Int32)), (.int (2 : Int32)), (.ref b142), (.int (1 : Int32)), (.ref a)])) (fun t k => X151.arraylength hx (by rw [e151]; exact Ar154.1) (State.isArrayOf_alike hZ.alike Ar154.2.1) (g := (mkF m 26 #[rv a, iv (1 : Int32), iv pp, rv b142] [(.ref a), (.int (2 : Int32)), (.ref b142), (.int (1 : Int32)), (.ref a)])) rfl rfl (hb hby own_d_prog_67_method_6_code_26) _ (by rw [len_of Sz154 Nn154]; exact k)) ?_
  refine own_go (T' := T151) (g' := (mkF m 28 #[rv a, iv (1 : Int32), iv pp, rv b142] [(.int (1 : Int32)), (.int (3 : Int32)), (.int (2 : Int32)), (.ref b142), (.int (1 : Int32)), (.ref a)])) (fun t k => XS.iloadN X151.here hx rfl (hb hby own_d_prog_67_method_6_code_27) rfl k) ?_
  refine own_go (T' := T151) (g' := (mkF m 29 #[rv a, iv (1 : Int32), iv pp, rv b142] [(.int (2 : Int32)), (.int (2 : Int32)), (.ref b142), (.int (1 : Int32)), (.ref a)])) (fun t k => XS.isub X151.here hx rfl (hb hby own_d_prog_67_method_6_code_28) rfl k) ?_
  obtain ⟨T155, h155, L155, X155, e155, N155, K_155, V155q, st155⟩ := cpA X151 hx hZ hown (hw _ (List.mem_of_getElem? (i := 6) rfl)) (hw _ (List.mem_of_getElem? (i := 9) rfl)) (hw _ (List.mem_of_getElem? (i := 7) rfl)) (hw _ (List.mem_of_getElem? (i := 8) rfl)) e151 (sp := (1 : Int32)) (dp := (2 : Int32)) (nn := (2 : Int32)) (us := [(.int v1), (.int v2)]) c152 V151 (Or.inl ⟨rfl, rfl⟩) (by first | decide | exact Nat.le_of_ble_eq_true rfl) (by first | decide | exact Nat.le_of_ble_eq_true rfl) (by first | decide | exact Nat.le_of_ble_eq_true rfl) (by first | decide | exact Nat.le_of_ble_eq_true rfl) (by first | decide | exact Nat.le_of_ble_eq_true rfl) rfl (by first | decide | exact Nat.le_of_ble_eq_true rfl) N151 gn142 (g := (mkF m 29 #[rv a, iv (1 : Int32), iv pp, rv b142] [(.int (2 : Int32)), (.int (2 : Int32)), (.ref b142), (.int (1 : Int32)), (.ref a)])) rfl (by rw [hml]; rfl) rfl (hb hby own_d_prog_67_method_6_code_29) (by first | decide | exact Nat.le_of_ble_eq_true rfl) (W := 0) (by show 2 * 0 + _ ≤ _; exact Nat.le_of_eq rfl) (by first | decide | exact Nat.le_of_ble_eq_true rfl)
  have V155 : Arv Z h155 b142 k142 .int (4 : Int32) [(.int v0), (.int pp), (.int v1), (.int v2)] (.int (0 : Int32)) := V155q
  have c156 := c152.keep K_155 (ninS ne144 nin0)
  have hz155 : n0 ≤ h155.size := Nat.le_trans hz151 K_155.1
  have K155 := Keep.trans K151 K_155 (allS (P := fun x => x ∈ _ ∨ h0.size ≤ x) (Or.inr o142) all0)
  refine own_go (T' := T155) (g' := (mkF m 32 #[rv a, iv (1 : Int32), iv pp, rv b142] [])) (st155) ?_
  refine own_go (T' := T155) (g' := (mkF m 33 #[rv a, iv (1 : Int32), iv pp, rv b142] [(.ref b142)])) (fun t k => XS.aloadN X155.here hx rfl (hb hby own_d_prog_67_method_6_code_32) rfl rfl k) ?_
  exact own_ret X155 hlk hx Bd.returns rfl (Or.inr (Or.inr (Or.inr (Or.inr ⟨rfl, rfl, rfl⟩)))) (hb hby own_d_prog_67_method_6_code_33) (by rw [e155]; exact ⟨b142, _, rfl, N155, o142, K155, V155⟩) (by decide) (by decide)

def Q_own_ws_3_2 (Z : State) (v0 v1 v2 : Int32) (pp : Int32) (h0 : Heap) (n0 : Nat) (v : Option Value) (h : Heap) (L : List Loc) : Prop := ∃ (b : Addr) (k : ClassId), v = some (.ref b) ∧ Fr n0 L ∧ h0.size ≤ b ∧ Keep h0 h [] ∧ Arv Z h b k .int (4 : Int32) [(.int v0), (.int v1), (.int pp), (.int v2)] (.int (0 : Int32))
set_option maxRecDepth 65536 in
set_option maxHeartbeats 40000000 in
theorem own_ws_3_2 (l : Launch) (Z : State) (a0 : Array Value) (hw : ∀ d ∈ tables_1, d.before a0 Z = true) (ws : List Jvm.Cond) (v0 v1 v2 : Int32) (pp : Int32) (a : Addr) (ka : ClassId) (h0 : Heap) (n0 : Nat) (Z0 : n0 ≤ h0.size) (V_a : Arv Z h0 a ka .int (3 : Int32) [(.int v0), (.int v1), (.int v2)] (.int (0 : Int32))) :
    MetFree l (⟨"com/example/tankroute/tankroute/solve/Solution$Tour", "withStop", "([III)[I"⟩ : MethodName) (head1 (Jvm.Cond.code (⟨"com/example/tankroute/tankroute/solve/Solution$Tour", "withStop", "([III)[I"⟩ : MethodName) prog_67_method_6_code 4 (some (.array .int)) :: ws) ({ frames := 1, cells := 1, slots := 4, locals := 30 } : Room)) (fun au Uu => au = #[(.ref a), (.int (2 : Int32)), (.int pp)] ∧ Z.Warmed39 Uu.vm ∧ Uu.heap = h0) (fun _ _ _ _ _ => True) (fun _ Uu ou Uw => ∃ vu Lu, ou = .returned vu ∧ Q_own_ws_3_2 Z v0 v1 v2 pp h0 n0 vu Uw.heap Lu ∧ FrameEnd Uu ou Uw Lu ({ frames := 1, cells := 1, slots := 4, locals := 30 } : Room).cells ({ frames := 1, cells := 1, slots := 4, locals := 30 } : Room).slots) := by
  refine MetFree.of_bodySF (plainFor_of_name (by first | (simp [plainName, overriddenIn]; done) | decide +kernel)) hisR ?_
  intro p e s m args below meth c s₁ Bd hml0 hP hK
  obtain ⟨rfl, hZ, hh⟩ := hP
  have hx := Bd.exec
  have hby := Bd.bytes
  have hlk := Bd.notSynchronized
  have hml : c.maxLocals = 4 := hml0
  have hown : s.vm.findClass "com/example/tankroute/tankroute/solve/Solution$Tour" = some m.cls := findClass_of_methodNamed Bd.named
  have hnm := (name_of_methodNamed Bd.named Bd.method).1
  have X0 : Stand p l e ({ frames := 1, cells := 1, slots := 4, locals := 30 } : Room) s m #[(.ref a), (.int (2 : Int32)), (.int pp)] below meth c s₁ [] 0 0 := Stand.of_body Bd
  have e0 : s₁.heap = h0 := by rw [← hh, Bd.state]; rfl
  have N0 := Fr.nil n0
  show own_Ends p e below s₁ (entryFrame m #[(.ref a), (.int (2 : Int32)), (.int pp)] 4) (fun ou Uw => ∃ vu Lu, ou = .returned vu ∧ Q_own_ws_3_2 Z v0 v1 v2 pp h0 n0 vu Uw.heap Lu ∧ FrameEnd s ou Uw Lu ({ frames := 1, cells := 1, slots := 4, locals := 30 } : Room).cells ({ frames := 1, cells := 1, slots := 4, locals := 30 } : Room).slots)
  refine own_start (g' := (mkF m 0 #[rv a, iv (2 : Int32), iv pp, .unset] [])) (by first | (simp [entryFrame, mkF, argsToLocals, Value.category, iv, rv]; done) | rfl) ?_
  refine own_go (T' := s₁) (g' := (mkF m 1 #[rv a, iv (2 : Int32), iv pp, .unset] [(.ref a)])) (fun t k => XS.aloadN X0.here hx rfl (hb hby own_d_prog_67_method_6_code_0) rfl rfl k) ?_
  obtain ⟨cl161, Ar161, -, Sz161, Nn161, -, -⟩ := id V_a
  refine own_go (T' := s₁) (g' := (mkF m 2 #[rv a, iv (2 : Int32), iv pp, .unset] [(.int (3 : Int32))])) (fun t k => X0.arraylength hx (by rw [e0]; exact Ar161.1) (State.isArrayOf_alike hZ.alike Ar161.2.1) (g := (mkF m 1 #[rv a, iv (2 : Int32), iv pp, .unset] [(.ref a)])) rfl rfl (hb hby own_d_prog_67_method_6_code_1) _ (by rw [len_of Sz161 Nn161]; exact k)) ?_
  refine own_go (T' := s₁) (g' := (mkF m 3 #[rv a, iv (2 : Int32), iv pp, .unset] [(.int (1 : Int32)), (.int (3 : Int32))])) (fun t k => XS.iconst X0.here hx rfl (hb hby own_d_prog_67_method_6_code_2) k) ?_
  refine own_go (T' := s₁) (g' := (mkF m 4 #[rv a, iv (2 : Int32), iv pp, .unset] [(.int (4 : Int32))])) (fun t k => XS.iadd X0.here hx rfl (hb hby own_d_prog_67_method_6_code_3) rfl k) ?_
  obtain ⟨T162, h162, k162, X162, e162, E162, A162, st162⟩ := newP X0 hx hZ (hw _ (List.mem_of_getElem? (i := 1) rfl)) e0 (g := (mkF m 4 #[rv a, iv (2 : Int32), iv pp, .unset] [(.int (4 : Int32))])) rfl (hb hby own_d_prog_67_method_6_code_4) rfl (by decide) (cap := 4) (by decide) (by decide) (by decide) (by decide)
  obtain ⟨b162, g162⟩ : ∃ z, z = h0.size := ⟨_, rfl⟩
  rw [← g162] at A162 st162
  have gn162 : n0 ≤ b162 := Nat.le_trans Z0 (Nat.le_of_eq g162.symm)
  have hz162 : n0 ≤ h162.size := Nat.le_trans Z0 E162.1
  have o162 : h0.size ≤ b162 := Nat.le_trans (Keep.refl h0 []).1 (Nat.le_of_eq g162.symm)
  have K162 := (Keep.refl h0 []).ext E162
  have c163 := V_a.ext E162
  have ne164 : a ≠ b162 := Nat.ne_of_lt (Nat.lt_of_lt_of_le V_a.lt (Nat.le_of_eq g162.symm))
  have V162 : Arv Z h162 b162 k162 .int (4 : Int32) [(.int (0 : Int32)), (.int (0 : Int32)), (.int (0 : Int32)), (.int (0 : Int32))] (.int (0 : Int32)) := (Arv.new A162 (by decide)).pad (pad_rep [] (.int (0 : Int32)) 4)
  refine own_go (T' := T162) (g' := (mkF m 6 #[rv a, iv (2 : Int32), iv pp, .unset] [(.ref b162)])) (st162) ?_
  refine own_go (T' := T162) (g' := (mkF m 7 #[rv a, iv (2 : Int32), iv pp, rv b162] [])) (fun t k => XS.astoreN X162.here hx rfl (hb hby own_d_prog_67_method_6_code_6) rfl rfl (l' := #[rv a, iv (2 : Int32), iv pp, rv b162]) rfl k) ?_
  refine own_go (T' := T162) (g' := (mkF m 8 #[rv a, iv (2 : Int32), iv pp, rv b162] [(.ref a)])) (fun t k => XS.aloadN X162.here hx rfl (hb hby own_d_prog_67_method_6_code_7) rfl rfl k) ?_
  refine own_go (T' := T162) (g' := (mkF m 9 #[rv a, iv (2 : Int32), iv pp, rv b162] [(.int (0 : Int32)), (.ref a)])) (fun t k => XS.iconst X162.here hx rfl (hb hby own_d_prog_67_method_6_code_8) k) ?_
  refine own_go (T' := T162) (g' := (mkF m 10 #[rv a, iv (2 : Int32), iv pp, rv b162] [(.ref b162), (.int (0 : Int32)), (.ref a)])) (fun t k => XS.aloadN X162.here hx rfl (hb hby own_d_prog_67_method_6_code_9) rfl rfl k) ?_
  refine own_go (T' := T162) (g' := (mkF m 11 #[rv a, iv (2 : Int32), iv pp, rv b162] [(.int (0 : Int32)), (.ref b162), (.int (0 : Int32)), (.ref a)])) (fun t k => XS.iconst X162.here hx rfl (hb hby own_d_prog_67_method_6_code_10) k) ?_
  refine own_go (T' := T162) (g' := (mkF m 12 #[rv a, iv (2 : Int32), iv pp, rv b162] [(.int (2 : Int32)), (.int (0 : Int32)), (.ref b162), (.int (0 : Int32)), (.ref a)])) (fun t k => XS.iloadN X162.here hx rfl (hb hby own_d_prog_67_method_6_code_11) rfl k) ?_
  obtain ⟨T165, h165, L165, X165, e165, N165, K_165, V165q, st165⟩ := cpA X162 hx hZ hown (hw _ (List.mem_of_getElem? (i := 6) rfl)) (hw _ (List.mem_of_getElem? (i := 9) rfl)) (hw _ (List.mem_of_getElem? (i := 7) rfl)) (hw _ (List.mem_of_getElem? (i := 8) rfl)) e162 (sp := (0 : Int32)) (dp := (0 : Int32)) (nn := (2 : Int32)) (us := [(.int v0), (.int v1)]) c163 V162 (Or.inl ⟨rfl, rfl⟩) (by first | decide | exact Nat.le_of_ble_eq_true rfl) (by first | decide | exact Nat.le_of_ble_eq_true rfl) (by first | decide | exact Nat.le_of_ble_eq_true rfl) (by first | decide | exact Nat.le_of_ble_eq_true rfl) (by first | decide | exact Nat.le_of_ble_eq_true rfl) rfl (by first | decide | exact Nat.le_of_ble_eq_true rfl) N0 gn162 (g := (mkF m 12 #[rv a, iv (2 : Int32), iv pp, rv b162] [(.int (2 : Int32)), (.int (0 : Int32)), (.ref b162), (.int (0 : Int32)), (.ref a)])) rfl (by rw [hml]; rfl) rfl (hb hby own_d_prog_67_method_6_code_12) (by first | decide | exact Nat.le_of_ble_eq_true rfl) (W := 0) (by show 2 * 0 + _ ≤ _; exact Nat.le_of_eq rfl) (by first | decide | exact Nat.le_of_ble_eq_true rfl)
  have V165 : Arv Z h165 b162 k162 .int (4 : Int32) [(.int v0), (.int v1), (.int (0 : Int32)), (.int (0 : Int32))] (.int (0 : Int32)) := V165q
  have c166 := c163.keep K_165 (ninS ne164 nin0)
  have hz165 : n0 ≤ h165.size := Nat.le_trans hz162 K_165.1
  have K165 := Keep.trans K162 K_165 (allS (P := fun x => x ∈ _ ∨ h0.size ≤ x) (Or.inr o162) all0)
  refine own_go (T' := T165) (g' := (mkF m 15 #[rv a, iv (2 : Int32), iv pp, rv b162] [])) (st165) ?_
  refine own_go (T' := T165) (g' := (mkF m 16 #[rv a, iv (2 : Int32), iv pp, rv b162] [(.ref b162)])) (fun t k => XS.aloadN X165.here hx rfl (hb hby own_d_prog_67_method_6_code_15) rfl rfl k) ?_
  refine own_go (T' := T165) (g' := (mkF m 17 #[rv a, iv (2 : Int32), iv pp, rv b162] [(.int (2 : Int32)), (.ref b162)])) (fun t k => XS.iloadN X165.here hx rfl (hb hby own_d_prog_67_method_6_code_16) rfl k) ?_
  refine own_go (T' := T165) (g' := (mkF m 18 #[rv a, iv (2 : Int32), iv pp, rv b162] [(.int pp), (.int (2 : Int32)), (.ref b162)])) (fun t k => XS.iloadN X165.here hx rfl (hb hby own_d_prog_67_method_6_code_17) rfl k) ?_
  obtain ⟨cl171, Ar171, q171, Sz171, Nn171, Ha171, Ga171⟩ := id V165
  have hin171 : ¬ ((2 : Int32) < 0 ∨ cl171.slots.size ≤ ((2 : Int32)).toNatClampNeg) := inb_of Sz171 ⟨by decide, by decide⟩
  obtain ⟨T171, h171, X171, e171, W171, st171⟩ := stI X165 hx hZ e165 Ar171 (j := (2 : Int32)) hin171 (g := (mkF m 18 #[rv a, iv (2 : Int32), iv pp, rv b162] [(.int pp), (.int (2 : Int32)), (.ref b162)])) rfl rfl (hb hby own_d_prog_67_method_6_code_18)
  have hz171 : n0 ≤ h171.size := Nat.le_trans hz165 (Keep.of_wr W171).1
  have N171 := Fr.snoc X171 N165 gn162
  have K171 := K165.wr W171 (Or.inr o162)
  have c172 := c166.other W171 ne164
  have V171 : Arv Z h171 b162 k162 .int (4 : Int32) [(.int v0), (.int v1), (.int pp), (.int (0 : Int32))] (.int (0 : Int32)) := Arv.set Ar171 q171 Sz171 Nn171 Ha171 Ga171 rfl W171 2 rfl (Nat.le_of_ble_eq_true rfl)
  refine own_go (T' := T171) (g' := (mkF m 19 #[rv a, iv (2 : Int32), iv pp, rv b162] [])) (st171) ?_
  refine own_go (T' := T171) (g' := (mkF m 20 #[rv a, iv (2 : Int32), iv pp, rv b162] [(.ref a)])) (fun t k => XS.aloadN X171.here hx rfl (hb hby own_d_prog_67_method_6_code_19) rfl rfl k) ?_
  refine own_go (T' := T171) (g' := (mkF m 21 #[rv a, iv (2 : Int32), iv pp, rv b162] [(.int (2 : Int32)), (.ref a)])) (fun t k => XS.iloadN X171.here hx rfl (hb hby own_d_prog_67_method_6_code_20) rfl k) ?_
  refine own_go (T' := T171) (g' := (mkF m 22 #[rv a, iv (2 : Int32), iv pp, rv b162] [(.ref b162), (.int (2 : Int32)), (.ref a)])) (fun t k => XS.aloadN X171.here hx rfl (hb hby own_d_prog_67_method_6_code_21) rfl rfl k) ?_
  refine own_go (T' := T171) (g' := (mkF m 23 #[rv a, iv (2 : Int32), iv pp, rv b162] [(.int (2 : Int32)), (.ref b162), (.int (2 : Int32)), (.ref a)])) (fun t k => XS.iloadN X171.here hx rfl (hb hby own_d_prog_67_method_6_code_22) rfl k) ?_
  refine own_go (T' := T171) (g' := (mkF m 24 #[rv a, iv (2 : Int32), iv pp, rv b162] [(.int (1 : Int32)), (.int (2 : Int32)), (.ref b162), (.int (2 : Int32)), (.ref a)])) (fun t k => XS.iconst X171.here hx rfl (hb hby own_d_prog_67_method_6_code_23) k) ?_
  refine own_go (T' := T171) (g' := (mkF m 25 #[rv a, iv (2 : Int32), iv pp, rv b162] [(.int (3 : Int32)), (.ref b162), (.int (2 : Int32)), (.ref a)])) (fun t k => XS.iadd X171.here hx rfl (hb hby own_d_prog_67_method_6_code_24) rfl k) ?_
  refine own_go (T' := T171) (g' := (mkF m 26 #[rv a, iv (2 : Int32), iv pp, rv b162] [(.ref a), (.int (3 : Int32)), (.ref b162), (.int (2 : Int32)), (.ref a)])) (fun t k => XS.aloadN X171.here hx rfl (hb hby own_d_prog_67_method_6_code_25) rfl rfl k) ?_
  obtain ⟨cl174, Ar174, -, Sz174, Nn174, -, -⟩ := id c172
  refine own_go (T' := T171) (g' := (mkF m 27 #[rv a, iv (2 : Int32), iv pp, rv b162] [(.int (3 : Int32)), (.int (3 : Int32)), (.ref b162), (.int (2 : Int32)), (.ref a)])) (fun t k => X171.arraylength hx (by rw [e171]; exact Ar174.1) (State.isArrayOf_alike hZ.alike Ar174.2.1) (g := (mkF m 26 #[rv a, iv (2 : Int32), iv pp, rv b162] [(.ref a), (.int (3 : Int32)), (.ref b162), (.int (2 : Int32)), (.ref a)])) rfl rfl (hb hby own_d_prog_67_method_6_code_26) _ (by rw [len_of Sz174 Nn174]; exact k)) ?_
  refine own_go (T' := T171) (g' := (mkF m 28 #[rv a, iv (2 : Int32), iv pp, rv b162] [(.int (2 : Int32)), (.int (3 : Int32)), (.int (3 : Int32)), (.ref b162), (.int (2 : Int32)), (.ref a)])) (fun t k => XS.iloadN X171.here hx rfl (hb hby own_d_prog_67_method_6_code_27) rfl k) ?_
  refine own_go (T' := T171) (g' := (mkF m 29 #[rv a, iv (2 : Int32), iv pp, rv b162] [(.int (1 : Int32)), (.int (3 : Int32)), (.ref b162), (.int (2 : Int32)), (.ref a)])) (fun t k => XS.isub X171.here hx rfl (hb hby own_d_prog_67_method_6_code_28) rfl k) ?_
  obtain ⟨T175, h175, L175, X175, e175, N175, K_175, V175q, st175⟩ := cpA X171 hx hZ hown (hw _ (List.mem_of_getElem? (i := 6) rfl)) (hw _ (List.mem_of_getElem? (i := 9) rfl)) (hw _ (List.mem_of_getElem? (i := 7) rfl)) (hw _ (List.mem_of_getElem? (i := 8) rfl)) e171 (sp := (2 : Int32)) (dp := (3 : Int32)) (nn := (1 : Int32)) (us := [(.int v2)]) c172 V171 (Or.inl ⟨rfl, rfl⟩) (by first | decide | exact Nat.le_of_ble_eq_true rfl) (by first | decide | exact Nat.le_of_ble_eq_true rfl) (by first | decide | exact Nat.le_of_ble_eq_true rfl) (by first | decide | exact Nat.le_of_ble_eq_true rfl) (by first | decide | exact Nat.le_of_ble_eq_true rfl) rfl (by first | decide | exact Nat.le_of_ble_eq_true rfl) N171 gn162 (g := (mkF m 29 #[rv a, iv (2 : Int32), iv pp, rv b162] [(.int (1 : Int32)), (.int (3 : Int32)), (.ref b162), (.int (2 : Int32)), (.ref a)])) rfl (by rw [hml]; rfl) rfl (hb hby own_d_prog_67_method_6_code_29) (by first | decide | exact Nat.le_of_ble_eq_true rfl) (W := 0) (by show 2 * 0 + _ ≤ _; exact Nat.le_of_eq rfl) (by first | decide | exact Nat.le_of_ble_eq_true rfl)
  have V175 : Arv Z h175 b162 k162 .int (4 : Int32) [(.int v0), (.int v1), (.int pp), (.int v2)] (.int (0 : Int32)) := V175q
  have c176 := c172.keep K_175 (ninS ne164 nin0)
  have hz175 : n0 ≤ h175.size := Nat.le_trans hz171 K_175.1
  have K175 := Keep.trans K171 K_175 (allS (P := fun x => x ∈ _ ∨ h0.size ≤ x) (Or.inr o162) all0)
  refine own_go (T' := T175) (g' := (mkF m 32 #[rv a, iv (2 : Int32), iv pp, rv b162] [])) (st175) ?_
  refine own_go (T' := T175) (g' := (mkF m 33 #[rv a, iv (2 : Int32), iv pp, rv b162] [(.ref b162)])) (fun t k => XS.aloadN X175.here hx rfl (hb hby own_d_prog_67_method_6_code_32) rfl rfl k) ?_
  exact own_ret X175 hlk hx Bd.returns rfl (Or.inr (Or.inr (Or.inr (Or.inr ⟨rfl, rfl, rfl⟩)))) (hb hby own_d_prog_67_method_6_code_33) (by rw [e175]; exact ⟨b162, _, rfl, N175, o162, K175, V175⟩) (by decide) (by decide)

def Q_own_ws_3_3 (Z : State) (v0 v1 v2 : Int32) (pp : Int32) (h0 : Heap) (n0 : Nat) (v : Option Value) (h : Heap) (L : List Loc) : Prop := ∃ (b : Addr) (k : ClassId), v = some (.ref b) ∧ Fr n0 L ∧ h0.size ≤ b ∧ Keep h0 h [] ∧ Arv Z h b k .int (4 : Int32) [(.int v0), (.int v1), (.int v2), (.int pp)] (.int (0 : Int32))
set_option maxRecDepth 65536 in
set_option maxHeartbeats 40000000 in
theorem own_ws_3_3 (l : Launch) (Z : State) (a0 : Array Value) (hw : ∀ d ∈ tables_1, d.before a0 Z = true) (ws : List Jvm.Cond) (v0 v1 v2 : Int32) (pp : Int32) (a : Addr) (ka : ClassId) (h0 : Heap) (n0 : Nat) (Z0 : n0 ≤ h0.size) (V_a : Arv Z h0 a ka .int (3 : Int32) [(.int v0), (.int v1), (.int v2)] (.int (0 : Int32))) :
    MetFree l (⟨"com/example/tankroute/tankroute/solve/Solution$Tour", "withStop", "([III)[I"⟩ : MethodName) (head1 (Jvm.Cond.code (⟨"com/example/tankroute/tankroute/solve/Solution$Tour", "withStop", "([III)[I"⟩ : MethodName) prog_67_method_6_code 4 (some (.array .int)) :: ws) ({ frames := 1, cells := 1, slots := 4, locals := 30 } : Room)) (fun au Uu => au = #[(.ref a), (.int (3 : Int32)), (.int pp)] ∧ Z.Warmed39 Uu.vm ∧ Uu.heap = h0) (fun _ _ _ _ _ => True) (fun _ Uu ou Uw => ∃ vu Lu, ou = .returned vu ∧ Q_own_ws_3_3 Z v0 v1 v2 pp h0 n0 vu Uw.heap Lu ∧ FrameEnd Uu ou Uw Lu ({ frames := 1, cells := 1, slots := 4, locals := 30 } : Room).cells ({ frames := 1, cells := 1, slots := 4, locals := 30 } : Room).slots) := by
  refine MetFree.of_bodySF (plainFor_of_name (by first | (simp [plainName, overriddenIn]; done) | decide +kernel)) hisR ?_
  intro p e s m args below meth c s₁ Bd hml0 hP hK
  obtain ⟨rfl, hZ, hh⟩ := hP
  have hx := Bd.exec
  have hby := Bd.bytes
  have hlk := Bd.notSynchronized
  have hml : c.maxLocals = 4 := hml0
  have hown : s.vm.findClass "com/example/tankroute/tankroute/solve/Solution$Tour" = some m.cls := findClass_of_methodNamed Bd.named
  have hnm := (name_of_methodNamed Bd.named Bd.method).1
  have X0 : Stand p l e ({ frames := 1, cells := 1, slots := 4, locals := 30 } : Room) s m #[(.ref a), (.int (3 : Int32)), (.int pp)] below meth c s₁ [] 0 0 := Stand.of_body Bd
  have e0 : s₁.heap = h0 := by rw [← hh, Bd.state]; rfl
  have N0 := Fr.nil n0
  show own_Ends p e below s₁ (entryFrame m #[(.ref a), (.int (3 : Int32)), (.int pp)] 4) (fun ou Uw => ∃ vu Lu, ou = .returned vu ∧ Q_own_ws_3_3 Z v0 v1 v2 pp h0 n0 vu Uw.heap Lu ∧ FrameEnd s ou Uw Lu ({ frames := 1, cells := 1, slots := 4, locals := 30 } : Room).cells ({ frames := 1, cells := 1, slots := 4, locals := 30 } : Room).slots)
  refine own_start (g' := (mkF m 0 #[rv a, iv (3 : Int32), iv pp, .unset] [])) (by first | (simp [entryFrame, mkF, argsToLocals, Value.category, iv, rv]; done) | rfl) ?_
  refine own_go (T' := s₁) (g' := (mkF m 1 #[rv a, iv (3 : Int32), iv pp, .unset] [(.ref a)])) (fun t k => XS.aloadN X0.here hx rfl (hb hby own_d_prog_67_method_6_code_0) rfl rfl k) ?_
  obtain ⟨cl181, Ar181, -, Sz181, Nn181, -, -⟩ := id V_a
  refine own_go (T' := s₁) (g' := (mkF m 2 #[rv a, iv (3 : Int32), iv pp, .unset] [(.int (3 : Int32))])) (fun t k => X0.arraylength hx (by rw [e0]; exact Ar181.1) (State.isArrayOf_alike hZ.alike Ar181.2.1) (g := (mkF m 1 #[rv a, iv (3 : Int32), iv pp, .unset] [(.ref a)])) rfl rfl (hb hby own_d_prog_67_method_6_code_1) _ (by rw [len_of Sz181 Nn181]; exact k)) ?_
  refine own_go (T' := s₁) (g' := (mkF m 3 #[rv a, iv (3 : Int32), iv pp, .unset] [(.int (1 : Int32)), (.int (3 : Int32))])) (fun t k => XS.iconst X0.here hx rfl (hb hby own_d_prog_67_method_6_code_2) k) ?_
  refine own_go (T' := s₁) (g' := (mkF m 4 #[rv a, iv (3 : Int32), iv pp, .unset] [(.int (4 : Int32))])) (fun t k => XS.iadd X0.here hx rfl (hb hby own_d_prog_67_method_6_code_3) rfl k) ?_
  obtain ⟨T182, h182, k182, X182, e182, E182, A182, st182⟩ := newP X0 hx hZ (hw _ (List.mem_of_getElem? (i := 1) rfl)) e0 (g := (mkF m 4 #[rv a, iv (3 : Int32), iv pp, .unset] [(.int (4 : Int32))])) rfl (hb hby own_d_prog_67_method_6_code_4) rfl (by decide) (cap := 4) (by decide) (by decide) (by decide) (by decide)
  obtain ⟨b182, g182⟩ : ∃ z, z = h0.size := ⟨_, rfl⟩
  rw [← g182] at A182 st182
  have gn182 : n0 ≤ b182 := Nat.le_trans Z0 (Nat.le_of_eq g182.symm)
  have hz182 : n0 ≤ h182.size := Nat.le_trans Z0 E182.1
  have o182 : h0.size ≤ b182 := Nat.le_trans (Keep.refl h0 []).1 (Nat.le_of_eq g182.symm)
  have K182 := (Keep.refl h0 []).ext E182
  have c183 := V_a.ext E182
  have ne184 : a ≠ b182 := Nat.ne_of_lt (Nat.lt_of_lt_of_le V_a.lt (Nat.le_of_eq g182.symm))
  have V182 : Arv Z h182 b182 k182 .int (4 : Int32) [(.int (0 : Int32)), (.int (0 : Int32)), (.int (0 : Int32)), (.int (0 : Int32))] (.int (0 : Int32)) := (Arv.new A182 (by decide)).pad (pad_rep [] (.int (0 : Int32)) 4)
  refine own_go (T' := T182) (g' := (mkF m 6 #[rv a, iv (3 : Int32), iv pp, .unset] [(.ref b182)])) (st182) ?_
  refine own_go (T' := T182) (g' := (mkF m 7 #[rv a, iv (3 : Int32), iv pp, rv b182] [])) (fun t k => XS.astoreN X182.here hx rfl (hb hby own_d_prog_67_method_6_code_6) rfl rfl (l' := #[rv a, iv (3 : Int32), iv pp, rv b182]) rfl k) ?_
  refine own_go (T' := T182) (g' := (mkF m 8 #[rv a, iv (3 : Int32), iv pp, rv b182] [(.ref a)])) (fun t k => XS.aloadN X182.here hx rfl (hb hby own_d_prog_67_method_6_code_7) rfl rfl k) ?_
  refine own_go (T' := T182) (g' := (mkF m 9 #[rv a, iv (3 : Int32), iv pp, rv b182] [(.int (0 : Int32)), (.ref a)])) (fun t k => XS.iconst X182.here hx rfl (hb hby own_d_prog_67_method_6_code_8) k) ?_
  refine own_go (T' := T182) (g' := (mkF m 10 #[rv a, iv (3 : Int32), iv pp, rv b182] [(.ref b182), (.int (0 : Int32)), (.ref a)])) (fun t k => XS.aloadN X182.here hx rfl (hb hby own_d_prog_67_method_6_code_9) rfl rfl k) ?_
  refine own_go (T' := T182) (g' := (mkF m 11 #[rv a, iv (3 : Int32), iv pp, rv b182] [(.int (0 : Int32)), (.ref b182), (.int (0 : Int32)), (.ref a)])) (fun t k => XS.iconst X182.here hx rfl (hb hby own_d_prog_67_method_6_code_10) k) ?_
  refine own_go (T' := T182) (g' := (mkF m 12 #[rv a, iv (3 : Int32), iv pp, rv b182] [(.int (3 : Int32)), (.int (0 : Int32)), (.ref b182), (.int (0 : Int32)), (.ref a)])) (fun t k => XS.iloadN X182.here hx rfl (hb hby own_d_prog_67_method_6_code_11) rfl k) ?_
  obtain ⟨T185, h185, L185, X185, e185, N185, K_185, V185q, st185⟩ := cpA X182 hx hZ hown (hw _ (List.mem_of_getElem? (i := 6) rfl)) (hw _ (List.mem_of_getElem? (i := 9) rfl)) (hw _ (List.mem_of_getElem? (i := 7) rfl)) (hw _ (List.mem_of_getElem? (i := 8) rfl)) e182 (sp := (0 : Int32)) (dp := (0 : Int32)) (nn := (3 : Int32)) (us := [(.int v0), (.int v1), (.int v2)]) c183 V182 (Or.inl ⟨rfl, rfl⟩) (by first | decide | exact Nat.le_of_ble_eq_true rfl) (by first | decide | exact Nat.le_of_ble_eq_true rfl) (by first | decide | exact Nat.le_of_ble_eq_true rfl) (by first | decide | exact Nat.le_of_ble_eq_true rfl) (by first | decide | exact Nat.le_of_ble_eq_true rfl) rfl (by first | decide | exact Nat.le_of_ble_eq_true rfl) N0 gn182 (g := (mkF m 12 #[rv a, iv (3 : Int32), iv pp, rv b182] [(.int (3 : Int32)), (.int (0 : Int32)), (.ref b182), (.int (0 : Int32)), (.ref a)])) rfl (by rw [hml]; rfl) rfl (hb hby own_d_prog_67_method_6_code_12) (by first | decide | exact Nat.le_of_ble_eq_true rfl) (W := 0) (by show 2 * 0 + _ ≤ _; exact Nat.le_of_eq rfl) (by first | decide | exact Nat.le_of_ble_eq_true rfl)
  have V185 : Arv Z h185 b182 k182 .int (4 : Int32) [(.int v0), (.int v1), (.int v2), (.int (0 : Int32))] (.int (0 : Int32)) := V185q
  have c186 := c183.keep K_185 (ninS ne184 nin0)
  have hz185 : n0 ≤ h185.size := Nat.le_trans hz182 K_185.1
  have K185 := Keep.trans K182 K_185 (allS (P := fun x => x ∈ _ ∨ h0.size ≤ x) (Or.inr o182) all0)
  refine own_go (T' := T185) (g' := (mkF m 15 #[rv a, iv (3 : Int32), iv pp, rv b182] [])) (st185) ?_
  refine own_go (T' := T185) (g' := (mkF m 16 #[rv a, iv (3 : Int32), iv pp, rv b182] [(.ref b182)])) (fun t k => XS.aloadN X185.here hx rfl (hb hby own_d_prog_67_method_6_code_15) rfl rfl k) ?_
  refine own_go (T' := T185) (g' := (mkF m 17 #[rv a, iv (3 : Int32), iv pp, rv b182] [(.int (3 : Int32)), (.ref b182)])) (fun t k => XS.iloadN X185.here hx rfl (hb hby own_d_prog_67_method_6_code_16) rfl k) ?_
  refine own_go (T' := T185) (g' := (mkF m 18 #[rv a, iv (3 : Int32), iv pp, rv b182] [(.int pp), (.int (3 : Int32)), (.ref b182)])) (fun t k => XS.iloadN X185.here hx rfl (hb hby own_d_prog_67_method_6_code_17) rfl k) ?_
  obtain ⟨cl191, Ar191, q191, Sz191, Nn191, Ha191, Ga191⟩ := id V185
  have hin191 : ¬ ((3 : Int32) < 0 ∨ cl191.slots.size ≤ ((3 : Int32)).toNatClampNeg) := inb_of Sz191 ⟨by decide, by decide⟩
  obtain ⟨T191, h191, X191, e191, W191, st191⟩ := stI X185 hx hZ e185 Ar191 (j := (3 : Int32)) hin191 (g := (mkF m 18 #[rv a, iv (3 : Int32), iv pp, rv b182] [(.int pp), (.int (3 : Int32)), (.ref b182)])) rfl rfl (hb hby own_d_prog_67_method_6_code_18)
  have hz191 : n0 ≤ h191.size := Nat.le_trans hz185 (Keep.of_wr W191).1
  have N191 := Fr.snoc X191 N185 gn182
  have K191 := K185.wr W191 (Or.inr o182)
  have c192 := c186.other W191 ne184
  have V191 : Arv Z h191 b182 k182 .int (4 : Int32) [(.int v0), (.int v1), (.int v2), (.int pp)] (.int (0 : Int32)) := Arv.set Ar191 q191 Sz191 Nn191 Ha191 Ga191 rfl W191 3 rfl (Nat.le_of_ble_eq_true rfl)
  refine own_go (T' := T191) (g' := (mkF m 19 #[rv a, iv (3 : Int32), iv pp, rv b182] [])) (st191) ?_
  refine own_go (T' := T191) (g' := (mkF m 20 #[rv a, iv (3 : Int32), iv pp, rv b182] [(.ref a)])) (fun t k => XS.aloadN X191.here hx rfl (hb hby own_d_prog_67_method_6_code_19) rfl rfl k) ?_
  refine own_go (T' := T191) (g' := (mkF m 21 #[rv a, iv (3 : Int32), iv pp, rv b182] [(.int (3 : Int32)), (.ref a)])) (fun t k => XS.iloadN X191.here hx rfl (hb hby own_d_prog_67_method_6_code_20) rfl k) ?_
  refine own_go (T' := T191) (g' := (mkF m 22 #[rv a, iv (3 : Int32), iv pp, rv b182] [(.ref b182), (.int (3 : Int32)), (.ref a)])) (fun t k => XS.aloadN X191.here hx rfl (hb hby own_d_prog_67_method_6_code_21) rfl rfl k) ?_
  refine own_go (T' := T191) (g' := (mkF m 23 #[rv a, iv (3 : Int32), iv pp, rv b182] [(.int (3 : Int32)), (.ref b182), (.int (3 : Int32)), (.ref a)])) (fun t k => XS.iloadN X191.here hx rfl (hb hby own_d_prog_67_method_6_code_22) rfl k) ?_
  refine own_go (T' := T191) (g' := (mkF m 24 #[rv a, iv (3 : Int32), iv pp, rv b182] [(.int (1 : Int32)), (.int (3 : Int32)), (.ref b182), (.int (3 : Int32)), (.ref a)])) (fun t k => XS.iconst X191.here hx rfl (hb hby own_d_prog_67_method_6_code_23) k) ?_
  refine own_go (T' := T191) (g' := (mkF m 25 #[rv a, iv (3 : Int32), iv pp, rv b182] [(.int (4 : Int32)), (.ref b182), (.int (3 : Int32)), (.ref a)])) (fun t k => XS.iadd X191.here hx rfl (hb hby own_d_prog_67_method_6_code_24) rfl k) ?_
  refine own_go (T' := T191) (g' := (mkF m 26 #[rv a, iv (3 : Int32), iv pp, rv b182] [(.ref a), (.int (4 : Int32)), (.ref b182), (.int (3 : Int32)), (.ref a)])) (fun t k => XS.aloadN X191.here hx rfl (hb hby own_d_prog_67_method_6_code_25) rfl rfl k) ?_
  obtain ⟨cl194, Ar194, -, Sz194, Nn194, -, -⟩ := id c192
  refine own_go (T' := T191) (g' := (mkF m 27 #[rv a, iv (3 : Int32), iv pp, rv b182] [(.int (3 : Int32)), (.int (4 : Int32)), (.ref b182), (.int (3 : Int32)), (.ref a)])) (fun t k => X191.arraylength hx (by rw [e191]; exact Ar194.1) (State.isArrayOf_alike hZ.alike Ar194.2.1) (g := (mkF m 26 #[rv a, iv (3 : Int32), iv pp, rv b182] [(.ref a), (.int (4 : Int32)), (.ref b182), (.int (3 : Int32)), (.ref a)])) rfl rfl (hb hby own_d_prog_67_method_6_code_26) _ (by rw [len_of Sz194 Nn194]; exact k)) ?_
  refine own_go (T' := T191) (g' := (mkF m 28 #[rv a, iv (3 : Int32), iv pp, rv b182] [(.int (3 : Int32)), (.int (3 : Int32)), (.int (4 : Int32)), (.ref b182), (.int (3 : Int32)), (.ref a)])) (fun t k => XS.iloadN X191.here hx rfl (hb hby own_d_prog_67_method_6_code_27) rfl k) ?_
  refine own_go (T' := T191) (g' := (mkF m 29 #[rv a, iv (3 : Int32), iv pp, rv b182] [(.int (0 : Int32)), (.int (4 : Int32)), (.ref b182), (.int (3 : Int32)), (.ref a)])) (fun t k => XS.isub X191.here hx rfl (hb hby own_d_prog_67_method_6_code_28) rfl k) ?_
  obtain ⟨T195, h195, L195, X195, e195, N195, K_195, V195q, st195⟩ := cpA X191 hx hZ hown (hw _ (List.mem_of_getElem? (i := 6) rfl)) (hw _ (List.mem_of_getElem? (i := 9) rfl)) (hw _ (List.mem_of_getElem? (i := 7) rfl)) (hw _ (List.mem_of_getElem? (i := 8) rfl)) e191 (sp := (3 : Int32)) (dp := (4 : Int32)) (nn := (0 : Int32)) (us := []) c192 V191 (Or.inl ⟨rfl, rfl⟩) (by first | decide | exact Nat.le_of_ble_eq_true rfl) (by first | decide | exact Nat.le_of_ble_eq_true rfl) (by first | decide | exact Nat.le_of_ble_eq_true rfl) (by first | decide | exact Nat.le_of_ble_eq_true rfl) (by first | decide | exact Nat.le_of_ble_eq_true rfl) rfl (by first | decide | exact Nat.le_of_ble_eq_true rfl) N191 gn182 (g := (mkF m 29 #[rv a, iv (3 : Int32), iv pp, rv b182] [(.int (0 : Int32)), (.int (4 : Int32)), (.ref b182), (.int (3 : Int32)), (.ref a)])) rfl (by rw [hml]; rfl) rfl (hb hby own_d_prog_67_method_6_code_29) (by first | decide | exact Nat.le_of_ble_eq_true rfl) (W := 0) (by show 2 * 0 + _ ≤ _; exact Nat.le_of_eq rfl) (by first | decide | exact Nat.le_of_ble_eq_true rfl)
  have V195 : Arv Z h195 b182 k182 .int (4 : Int32) [(.int v0), (.int v1), (.int v2), (.int pp)] (.int (0 : Int32)) := V195q
  have c196 := c192.keep K_195 (ninS ne184 nin0)
  have hz195 : n0 ≤ h195.size := Nat.le_trans hz191 K_195.1
  have K195 := Keep.trans K191 K_195 (allS (P := fun x => x ∈ _ ∨ h0.size ≤ x) (Or.inr o182) all0)
  refine own_go (T' := T195) (g' := (mkF m 32 #[rv a, iv (3 : Int32), iv pp, rv b182] [])) (st195) ?_
  refine own_go (T' := T195) (g' := (mkF m 33 #[rv a, iv (3 : Int32), iv pp, rv b182] [(.ref b182)])) (fun t k => XS.aloadN X195.here hx rfl (hb hby own_d_prog_67_method_6_code_32) rfl rfl k) ?_
  exact own_ret X195 hlk hx Bd.returns rfl (Or.inr (Or.inr (Or.inr (Or.inr ⟨rfl, rfl, rfl⟩)))) (hb hby own_d_prog_67_method_6_code_33) (by rw [e195]; exact ⟨b182, _, rfl, N195, o182, K195, V195⟩) (by decide) (by decide)

theorem own_d_method_2_code_0 : decode method_2_code 0 = .ok (.iload 4, 2) := by decide +kernel
theorem own_d_method_2_code_2 : decode method_2_code 2 = .ok (.aload_n 0, 1) := by decide +kernel
theorem own_d_method_2_code_3 : decode method_2_code 3 = .ok (.arraylength, 1) := by decide +kernel
theorem own_d_method_2_code_4 : decode method_2_code 4 = .ok (.if_icmp .lt 5, 3) := by decide +kernel
theorem own_d_method_2_code_7 : decode method_2_code 7 = .ok (.iconst 1, 1) := by decide +kernel
theorem own_d_method_2_code_8 : decode method_2_code 8 = .ok (.ireturn, 1) := by decide +kernel
def Q_own_slotA (h0 : Heap) (n0 : Nat) (v : Option Value) (h : Heap) (L : List Loc) : Prop := v = some (.int 1) ∧ L = [] ∧ h = h0
set_option maxRecDepth 65536 in
set_option maxHeartbeats 40000000 in
theorem own_slotA (l : Launch) (Z : State) (a0 : Array Value) (hw : ∀ d ∈ tables_1, d.before a0 Z = true) (ws : List Jvm.Cond) (g sa : Addr) (kg ks : ClassId) (zg zs at_ pp j w : Int32) (gs ss : List Value) (h0 : Heap) (n0 : Nat) (Z0 : n0 ≤ h0.size) (V_g : Arv Z h0 g kg .int zg gs (.int (0 : Int32))) (V_s : Arv Z h0 sa ks .int zs ss (.int (0 : Int32))) (hjg : ¬ j < zg) :
    MetFree l (⟨"com/example/tankroute/tankroute/solve/TourWithStopPinLaw", "slot", "([I[IIII)Z"⟩ : MethodName) (head1 (Jvm.Cond.code (⟨"com/example/tankroute/tankroute/solve/TourWithStopPinLaw", "slot", "([I[IIII)Z"⟩ : MethodName) method_2_code 6 (some .boolean) :: ws) ({ frames := 0, cells := 0, slots := 0, locals := 0 } : Room)) (fun au Uu => au = #[(.ref g), (.ref sa), (.int at_), (.int pp), (.int j)] ∧ Z.Warmed39 Uu.vm ∧ Uu.heap = h0) (fun _ _ _ _ _ => True) (fun _ Uu ou Uw => ∃ vu Lu, ou = .returned vu ∧ Q_own_slotA h0 n0 vu Uw.heap Lu ∧ FrameEnd Uu ou Uw Lu ({ frames := 0, cells := 0, slots := 0, locals := 0 } : Room).cells ({ frames := 0, cells := 0, slots := 0, locals := 0 } : Room).slots) := by
  refine MetFree.of_bodySF (plainFor_of_name (by first | (simp [plainName, overriddenIn]; done) | decide +kernel)) hisR ?_
  intro p e s m args below meth c s₁ Bd hml0 hP hK
  obtain ⟨rfl, hZ, hh⟩ := hP
  have hx := Bd.exec
  have hby := Bd.bytes
  have hlk := Bd.notSynchronized
  have hml : c.maxLocals = 6 := hml0
  have hown : s.vm.findClass "com/example/tankroute/tankroute/solve/TourWithStopPinLaw" = some m.cls := findClass_of_methodNamed Bd.named
  have hnm := (name_of_methodNamed Bd.named Bd.method).1
  have X0 : Stand p l e ({ frames := 0, cells := 0, slots := 0, locals := 0 } : Room) s m #[(.ref g), (.ref sa), (.int at_), (.int pp), (.int j)] below meth c s₁ [] 0 0 := Stand.of_body Bd
  have e0 : s₁.heap = h0 := by rw [← hh, Bd.state]; rfl
  have N0 := Fr.nil n0
  show own_Ends p e below s₁ (entryFrame m #[(.ref g), (.ref sa), (.int at_), (.int pp), (.int j)] 6) (fun ou Uw => ∃ vu Lu, ou = .returned vu ∧ Q_own_slotA h0 n0 vu Uw.heap Lu ∧ FrameEnd s ou Uw Lu ({ frames := 0, cells := 0, slots := 0, locals := 0 } : Room).cells ({ frames := 0, cells := 0, slots := 0, locals := 0 } : Room).slots)
  refine own_start (g' := (mkF m 0 #[rv g, rv sa, iv at_, iv pp, iv j, .unset] [])) (by first | (simp [entryFrame, mkF, argsToLocals, Value.category, iv, rv]; done) | rfl) ?_
  refine own_go (T' := s₁) (g' := (mkF m 2 #[rv g, rv sa, iv at_, iv pp, iv j, .unset] [(.int j)])) (fun t k => XS.iload X0.here hx rfl (hb hby own_d_method_2_code_0) rfl k) ?_
  refine own_go (T' := s₁) (g' := (mkF m 3 #[rv g, rv sa, iv at_, iv pp, iv j, .unset] [(.ref g), (.int j)])) (fun t k => XS.aloadN X0.here hx rfl (hb hby own_d_method_2_code_2) rfl rfl k) ?_
  obtain ⟨cl201, Ar201, -, Sz201, Nn201, -, -⟩ := id V_g
  refine own_go (T' := s₁) (g' := (mkF m 4 #[rv g, rv sa, iv at_, iv pp, iv j, .unset] [(.int zg), (.int j)])) (fun t k => X0.arraylength hx (by rw [e0]; exact Ar201.1) (State.isArrayOf_alike hZ.alike Ar201.2.1) (g := (mkF m 3 #[rv g, rv sa, iv at_, iv pp, iv j, .unset] [(.ref g), (.int j)])) rfl rfl (hb hby own_d_method_2_code_3) _ (by rw [len_of Sz201 Nn201]; exact k)) ?_
  refine own_go (T' := s₁) (g' := (mkF m 7 #[rv g, rv sa, iv at_, iv pp, iv j, .unset] [])) (fun t k => XS.icmpNo X0.here hx rfl (hb hby own_d_method_2_code_4) rfl (flt (hjg : ¬ (j < zg))).1 k) ?_
  refine own_go (T' := s₁) (g' := (mkF m 8 #[rv g, rv sa, iv at_, iv pp, iv j, .unset] [(.int (1 : Int32))])) (fun t k => XS.iconst X0.here hx rfl (hb hby own_d_method_2_code_7) k) ?_
  exact own_ret X0 hlk hx Bd.returns rfl (Or.inl ⟨rfl, Or.inr (Or.inl rfl), _, rfl⟩) (hb hby own_d_method_2_code_8) ⟨rfl, rfl, e0⟩ (by decide) (by decide)

theorem own_d_method_2_code_9 : decode method_2_code 9 = .ok (.iload 4, 2) := by decide +kernel
theorem own_d_method_2_code_11 : decode method_2_code 11 = .ok (.iload_n 2, 1) := by decide +kernel
theorem own_d_method_2_code_12 : decode method_2_code 12 = .ok (.if_icmp .ge 12, 3) := by decide +kernel
theorem own_d_method_2_code_15 : decode method_2_code 15 = .ok (.aload_n 1, 1) := by decide +kernel
theorem own_d_method_2_code_16 : decode method_2_code 16 = .ok (.iload 4, 2) := by decide +kernel
theorem own_d_method_2_code_18 : decode method_2_code 18 = .ok (.iaload, 1) := by decide +kernel
theorem own_d_method_2_code_19 : decode method_2_code 19 = .ok (.istore 5, 2) := by decide +kernel
theorem own_d_method_2_code_21 : decode method_2_code 21 = .ok (.goto 23, 3) := by decide +kernel
theorem own_d_method_2_code_44 : decode method_2_code 44 = .ok (.aload_n 0, 1) := by decide +kernel
theorem own_d_method_2_code_45 : decode method_2_code 45 = .ok (.iload 4, 2) := by decide +kernel
theorem own_d_method_2_code_47 : decode method_2_code 47 = .ok (.iaload, 1) := by decide +kernel
theorem own_d_method_2_code_48 : decode method_2_code 48 = .ok (.iload 5, 2) := by decide +kernel
theorem own_d_method_2_code_50 : decode method_2_code 50 = .ok (.if_icmp .ne 7, 3) := by decide +kernel
theorem own_d_method_2_code_53 : decode method_2_code 53 = .ok (.iconst 1, 1) := by decide +kernel
theorem own_d_method_2_code_54 : decode method_2_code 54 = .ok (.goto 4, 3) := by decide +kernel
theorem own_d_method_2_code_58 : decode method_2_code 58 = .ok (.ireturn, 1) := by decide +kernel
def Q_own_slotB (h0 : Heap) (n0 : Nat) (v : Option Value) (h : Heap) (L : List Loc) : Prop := v = some (.int 1) ∧ L = [] ∧ h = h0
set_option maxRecDepth 65536 in
set_option maxHeartbeats 40000000 in
theorem own_slotB (l : Launch) (Z : State) (a0 : Array Value) (hw : ∀ d ∈ tables_1, d.before a0 Z = true) (ws : List Jvm.Cond) (g sa : Addr) (kg ks : ClassId) (zg zs at_ pp j w : Int32) (gs ss : List Value) (h0 : Heap) (n0 : Nat) (Z0 : n0 ≤ h0.size) (V_g : Arv Z h0 g kg .int zg gs (.int (0 : Int32))) (V_s : Arv Z h0 sa ks .int zs ss (.int (0 : Int32))) (hjg : j < zg) (hja : j < at_) (hj : ¬ j < 0) (hjs : j < zs) (hs : ss.getD j.toNatClampNeg (.int 0) = .int w) (hg : gs.getD j.toNatClampNeg (.int 0) = .int w) :
    MetFree l (⟨"com/example/tankroute/tankroute/solve/TourWithStopPinLaw", "slot", "([I[IIII)Z"⟩ : MethodName) (head1 (Jvm.Cond.code (⟨"com/example/tankroute/tankroute/solve/TourWithStopPinLaw", "slot", "([I[IIII)Z"⟩ : MethodName) method_2_code 6 (some .boolean) :: ws) ({ frames := 0, cells := 0, slots := 0, locals := 0 } : Room)) (fun au Uu => au = #[(.ref g), (.ref sa), (.int at_), (.int pp), (.int j)] ∧ Z.Warmed39 Uu.vm ∧ Uu.heap = h0) (fun _ _ _ _ _ => True) (fun _ Uu ou Uw => ∃ vu Lu, ou = .returned vu ∧ Q_own_slotB h0 n0 vu Uw.heap Lu ∧ FrameEnd Uu ou Uw Lu ({ frames := 0, cells := 0, slots := 0, locals := 0 } : Room).cells ({ frames := 0, cells := 0, slots := 0, locals := 0 } : Room).slots) := by
  refine MetFree.of_bodySF (plainFor_of_name (by first | (simp [plainName, overriddenIn]; done) | decide +kernel)) hisR ?_
  intro p e s m args below meth c s₁ Bd hml0 hP hK
  obtain ⟨rfl, hZ, hh⟩ := hP
  have hx := Bd.exec
  have hby := Bd.bytes
  have hlk := Bd.notSynchronized
  have hml : c.maxLocals = 6 := hml0
  have hown : s.vm.findClass "com/example/tankroute/tankroute/solve/TourWithStopPinLaw" = some m.cls := findClass_of_methodNamed Bd.named
  have hnm := (name_of_methodNamed Bd.named Bd.method).1
  have X0 : Stand p l e ({ frames := 0, cells := 0, slots := 0, locals := 0 } : Room) s m #[(.ref g), (.ref sa), (.int at_), (.int pp), (.int j)] below meth c s₁ [] 0 0 := Stand.of_body Bd
  have e0 : s₁.heap = h0 := by rw [← hh, Bd.state]; rfl
  have N0 := Fr.nil n0
  show own_Ends p e below s₁ (entryFrame m #[(.ref g), (.ref sa), (.int at_), (.int pp), (.int j)] 6) (fun ou Uw => ∃ vu Lu, ou = .returned vu ∧ Q_own_slotB h0 n0 vu Uw.heap Lu ∧ FrameEnd s ou Uw Lu ({ frames := 0, cells := 0, slots := 0, locals := 0 } : Room).cells ({ frames := 0, cells := 0, slots := 0, locals := 0 } : Room).slots)
  refine own_start (g' := (mkF m 0 #[rv g, rv sa, iv at_, iv pp, iv j, .unset] [])) (by first | (simp [entryFrame, mkF, argsToLocals, Value.category, iv, rv]; done) | rfl) ?_
  refine own_go (T' := s₁) (g' := (mkF m 2 #[rv g, rv sa, iv at_, iv pp, iv j, .unset] [(.int j)])) (fun t k => XS.iload X0.here hx rfl (hb hby own_d_method_2_code_0) rfl k) ?_
  refine own_go (T' := s₁) (g' := (mkF m 3 #[rv g, rv sa, iv at_, iv pp, iv j, .unset] [(.ref g), (.int j)])) (fun t k => XS.aloadN X0.here hx rfl (hb hby own_d_method_2_code_2) rfl rfl k) ?_
  obtain ⟨cl202, Ar202, -, Sz202, Nn202, -, -⟩ := id V_g
  refine own_go (T' := s₁) (g' := (mkF m 4 #[rv g, rv sa, iv at_, iv pp, iv j, .unset] [(.int zg), (.int j)])) (fun t k => X0.arraylength hx (by rw [e0]; exact Ar202.1) (State.isArrayOf_alike hZ.alike Ar202.2.1) (g := (mkF m 3 #[rv g, rv sa, iv at_, iv pp, iv j, .unset] [(.ref g), (.int j)])) rfl rfl (hb hby own_d_method_2_code_3) _ (by rw [len_of Sz202 Nn202]; exact k)) ?_
  refine own_go (T' := s₁) (g' := (mkF m 9 #[rv g, rv sa, iv at_, iv pp, iv j, .unset] [])) (fun t k => XS.icmpYes X0.here hx rfl (pc0 := 4) (pc' := 9) rfl (hb hby own_d_method_2_code_4) rfl (tlt (hjg : (j < zg))).1 (by decide) (by decide) k) ?_
  refine own_go (T' := s₁) (g' := (mkF m 11 #[rv g, rv sa, iv at_, iv pp, iv j, .unset] [(.int j)])) (fun t k => XS.iload X0.here hx rfl (hb hby own_d_method_2_code_9) rfl k) ?_
  refine own_go (T' := s₁) (g' := (mkF m 12 #[rv g, rv sa, iv at_, iv pp, iv j, .unset] [(.int at_), (.int j)])) (fun t k => XS.iloadN X0.here hx rfl (hb hby own_d_method_2_code_11) rfl k) ?_
  refine own_go (T' := s₁) (g' := (mkF m 15 #[rv g, rv sa, iv at_, iv pp, iv j, .unset] [])) (fun t k => XS.icmpNo X0.here hx rfl (hb hby own_d_method_2_code_12) rfl (tlt (hja : (j < at_))).2.1 k) ?_
  refine own_go (T' := s₁) (g' := (mkF m 16 #[rv g, rv sa, iv at_, iv pp, iv j, .unset] [(.ref sa)])) (fun t k => XS.aloadN X0.here hx rfl (hb hby own_d_method_2_code_15) rfl rfl k) ?_
  refine own_go (T' := s₁) (g' := (mkF m 18 #[rv g, rv sa, iv at_, iv pp, iv j, .unset] [(.int j), (.ref sa)])) (fun t k => XS.iload X0.here hx rfl (hb hby own_d_method_2_code_16) rfl k) ?_
  obtain ⟨cl203, Ar203, -, Sz203, Nn203, Ha203, -⟩ := id V_s
  have hin203 : ¬ (j < 0 ∨ cl203.slots.size ≤ (j).toNatClampNeg) := inb_of Sz203 ⟨hj, hjs⟩
  have hat203 : cl203.slots[(j).toNatClampNeg]? = some (.int w) := Ha203.at hin203 hs
  refine own_go (T' := s₁) (g' := (mkF m 19 #[rv g, rv sa, iv at_, iv pp, iv j, .unset] [(.int w)])) (fun t k => X0.iaload hx (j := j) (v := (.int w)) (by rw [e0]; exact Ar203.1) (State.isArrayOf_alike hZ.alike Ar203.2.1) Ar203.2.2 hin203 hat203 (g := (mkF m 18 #[rv g, rv sa, iv at_, iv pp, iv j, .unset] [(.int j), (.ref sa)])) rfl rfl (hb hby own_d_method_2_code_18) _ k) ?_
  refine own_go (T' := s₁) (g' := (mkF m 21 #[rv g, rv sa, iv at_, iv pp, iv j, iv w] [])) (fun t k => XS.istore X0.here hx rfl (hb hby own_d_method_2_code_19) rfl (l' := #[rv g, rv sa, iv at_, iv pp, iv j, iv w]) rfl k) ?_
  refine own_go (T' := s₁) (g' := (mkF m 44 #[rv g, rv sa, iv at_, iv pp, iv j, iv w] [])) (fun t k => XS.goto X0.here hx rfl (pc0 := 21) (pc' := 44) rfl (hb hby own_d_method_2_code_21) (by decide) (by decide) k) ?_
  refine own_go (T' := s₁) (g' := (mkF m 45 #[rv g, rv sa, iv at_, iv pp, iv j, iv w] [(.ref g)])) (fun t k => XS.aloadN X0.here hx rfl (hb hby own_d_method_2_code_44) rfl rfl k) ?_
  refine own_go (T' := s₁) (g' := (mkF m 47 #[rv g, rv sa, iv at_, iv pp, iv j, iv w] [(.int j), (.ref g)])) (fun t k => XS.iload X0.here hx rfl (hb hby own_d_method_2_code_45) rfl k) ?_
  obtain ⟨cl204, Ar204, -, Sz204, Nn204, Ha204, -⟩ := id V_g
  have hin204 : ¬ (j < 0 ∨ cl204.slots.size ≤ (j).toNatClampNeg) := inb_of Sz204 ⟨hj, hjg⟩
  have hat204 : cl204.slots[(j).toNatClampNeg]? = some (.int w) := Ha204.at hin204 hg
  refine own_go (T' := s₁) (g' := (mkF m 48 #[rv g, rv sa, iv at_, iv pp, iv j, iv w] [(.int w)])) (fun t k => X0.iaload hx (j := j) (v := (.int w)) (by rw [e0]; exact Ar204.1) (State.isArrayOf_alike hZ.alike Ar204.2.1) Ar204.2.2 hin204 hat204 (g := (mkF m 47 #[rv g, rv sa, iv at_, iv pp, iv j, iv w] [(.int j), (.ref g)])) rfl rfl (hb hby own_d_method_2_code_47) _ k) ?_
  refine own_go (T' := s₁) (g' := (mkF m 50 #[rv g, rv sa, iv at_, iv pp, iv j, iv w] [(.int w), (.int w)])) (fun t k => XS.iload X0.here hx rfl (hb hby own_d_method_2_code_48) rfl k) ?_
  refine own_go (T' := s₁) (g' := (mkF m 53 #[rv g, rv sa, iv at_, iv pp, iv j, iv w] [])) (fun t k => XS.icmpNo X0.here hx rfl (hb hby own_d_method_2_code_50) rfl (teq (rfl : w = w)).2 k) ?_
  refine own_go (T' := s₁) (g' := (mkF m 54 #[rv g, rv sa, iv at_, iv pp, iv j, iv w] [(.int (1 : Int32))])) (fun t k => XS.iconst X0.here hx rfl (hb hby own_d_method_2_code_53) k) ?_
  refine own_go (T' := s₁) (g' := (mkF m 58 #[rv g, rv sa, iv at_, iv pp, iv j, iv w] [(.int (1 : Int32))])) (fun t k => XS.goto X0.here hx rfl (pc0 := 54) (pc' := 58) rfl (hb hby own_d_method_2_code_54) (by decide) (by decide) k) ?_
  exact own_ret X0 hlk hx Bd.returns rfl (Or.inl ⟨rfl, Or.inr (Or.inl rfl), _, rfl⟩) (hb hby own_d_method_2_code_58) ⟨rfl, rfl, e0⟩ (by decide) (by decide)

theorem own_d_method_2_code_24 : decode method_2_code 24 = .ok (.iload 4, 2) := by decide +kernel
theorem own_d_method_2_code_26 : decode method_2_code 26 = .ok (.iload_n 2, 1) := by decide +kernel
theorem own_d_method_2_code_27 : decode method_2_code 27 = .ok (.if_icmp .ne 9, 3) := by decide +kernel
theorem own_d_method_2_code_30 : decode method_2_code 30 = .ok (.iload_n 3, 1) := by decide +kernel
theorem own_d_method_2_code_31 : decode method_2_code 31 = .ok (.istore 5, 2) := by decide +kernel
theorem own_d_method_2_code_33 : decode method_2_code 33 = .ok (.goto 11, 3) := by decide +kernel
def Q_own_slotC (h0 : Heap) (n0 : Nat) (v : Option Value) (h : Heap) (L : List Loc) : Prop := v = some (.int 1) ∧ L = [] ∧ h = h0
set_option maxRecDepth 65536 in
set_option maxHeartbeats 40000000 in
theorem own_slotC (l : Launch) (Z : State) (a0 : Array Value) (hw : ∀ d ∈ tables_1, d.before a0 Z = true) (ws : List Jvm.Cond) (g sa : Addr) (kg ks : ClassId) (zg zs at_  j w : Int32) (gs ss : List Value) (h0 : Heap) (n0 : Nat) (Z0 : n0 ≤ h0.size) (V_g : Arv Z h0 g kg .int zg gs (.int (0 : Int32))) (V_s : Arv Z h0 sa ks .int zs ss (.int (0 : Int32))) (hjg : j < zg) (hja : ¬ j < at_) (hje : j = at_) (hj : ¬ j < 0) (hg : gs.getD j.toNatClampNeg (.int 0) = .int w) :
    MetFree l (⟨"com/example/tankroute/tankroute/solve/TourWithStopPinLaw", "slot", "([I[IIII)Z"⟩ : MethodName) (head1 (Jvm.Cond.code (⟨"com/example/tankroute/tankroute/solve/TourWithStopPinLaw", "slot", "([I[IIII)Z"⟩ : MethodName) method_2_code 6 (some .boolean) :: ws) ({ frames := 0, cells := 0, slots := 0, locals := 0 } : Room)) (fun au Uu => au = #[(.ref g), (.ref sa), (.int at_), (.int w), (.int j)] ∧ Z.Warmed39 Uu.vm ∧ Uu.heap = h0) (fun _ _ _ _ _ => True) (fun _ Uu ou Uw => ∃ vu Lu, ou = .returned vu ∧ Q_own_slotC h0 n0 vu Uw.heap Lu ∧ FrameEnd Uu ou Uw Lu ({ frames := 0, cells := 0, slots := 0, locals := 0 } : Room).cells ({ frames := 0, cells := 0, slots := 0, locals := 0 } : Room).slots) := by
  refine MetFree.of_bodySF (plainFor_of_name (by first | (simp [plainName, overriddenIn]; done) | decide +kernel)) hisR ?_
  intro p e s m args below meth c s₁ Bd hml0 hP hK
  obtain ⟨rfl, hZ, hh⟩ := hP
  have hx := Bd.exec
  have hby := Bd.bytes
  have hlk := Bd.notSynchronized
  have hml : c.maxLocals = 6 := hml0
  have hown : s.vm.findClass "com/example/tankroute/tankroute/solve/TourWithStopPinLaw" = some m.cls := findClass_of_methodNamed Bd.named
  have hnm := (name_of_methodNamed Bd.named Bd.method).1
  have X0 : Stand p l e ({ frames := 0, cells := 0, slots := 0, locals := 0 } : Room) s m #[(.ref g), (.ref sa), (.int at_), (.int w), (.int j)] below meth c s₁ [] 0 0 := Stand.of_body Bd
  have e0 : s₁.heap = h0 := by rw [← hh, Bd.state]; rfl
  have N0 := Fr.nil n0
  show own_Ends p e below s₁ (entryFrame m #[(.ref g), (.ref sa), (.int at_), (.int w), (.int j)] 6) (fun ou Uw => ∃ vu Lu, ou = .returned vu ∧ Q_own_slotC h0 n0 vu Uw.heap Lu ∧ FrameEnd s ou Uw Lu ({ frames := 0, cells := 0, slots := 0, locals := 0 } : Room).cells ({ frames := 0, cells := 0, slots := 0, locals := 0 } : Room).slots)
  refine own_start (g' := (mkF m 0 #[rv g, rv sa, iv at_, iv w, iv j, .unset] [])) (by first | (simp [entryFrame, mkF, argsToLocals, Value.category, iv, rv]; done) | rfl) ?_
  refine own_go (T' := s₁) (g' := (mkF m 2 #[rv g, rv sa, iv at_, iv w, iv j, .unset] [(.int j)])) (fun t k => XS.iload X0.here hx rfl (hb hby own_d_method_2_code_0) rfl k) ?_
  refine own_go (T' := s₁) (g' := (mkF m 3 #[rv g, rv sa, iv at_, iv w, iv j, .unset] [(.ref g), (.int j)])) (fun t k => XS.aloadN X0.here hx rfl (hb hby own_d_method_2_code_2) rfl rfl k) ?_
  obtain ⟨cl205, Ar205, -, Sz205, Nn205, -, -⟩ := id V_g
  refine own_go (T' := s₁) (g' := (mkF m 4 #[rv g, rv sa, iv at_, iv w, iv j, .unset] [(.int zg), (.int j)])) (fun t k => X0.arraylength hx (by rw [e0]; exact Ar205.1) (State.isArrayOf_alike hZ.alike Ar205.2.1) (g := (mkF m 3 #[rv g, rv sa, iv at_, iv w, iv j, .unset] [(.ref g), (.int j)])) rfl rfl (hb hby own_d_method_2_code_3) _ (by rw [len_of Sz205 Nn205]; exact k)) ?_
  refine own_go (T' := s₁) (g' := (mkF m 9 #[rv g, rv sa, iv at_, iv w, iv j, .unset] [])) (fun t k => XS.icmpYes X0.here hx rfl (pc0 := 4) (pc' := 9) rfl (hb hby own_d_method_2_code_4) rfl (tlt (hjg : (j < zg))).1 (by decide) (by decide) k) ?_
  refine own_go (T' := s₁) (g' := (mkF m 11 #[rv g, rv sa, iv at_, iv w, iv j, .unset] [(.int j)])) (fun t k => XS.iload X0.here hx rfl (hb hby own_d_method_2_code_9) rfl k) ?_
  refine own_go (T' := s₁) (g' := (mkF m 12 #[rv g, rv sa, iv at_, iv w, iv j, .unset] [(.int at_), (.int j)])) (fun t k => XS.iloadN X0.here hx rfl (hb hby own_d_method_2_code_11) rfl k) ?_
  refine own_go (T' := s₁) (g' := (mkF m 24 #[rv g, rv sa, iv at_, iv w, iv j, .unset] [])) (fun t k => XS.icmpYes X0.here hx rfl (pc0 := 12) (pc' := 24) rfl (hb hby own_d_method_2_code_12) rfl (flt (hja : ¬ (j < at_))).2.1 (by decide) (by decide) k) ?_
  refine own_go (T' := s₁) (g' := (mkF m 26 #[rv g, rv sa, iv at_, iv w, iv j, .unset] [(.int j)])) (fun t k => XS.iload X0.here hx rfl (hb hby own_d_method_2_code_24) rfl k) ?_
  refine own_go (T' := s₁) (g' := (mkF m 27 #[rv g, rv sa, iv at_, iv w, iv j, .unset] [(.int at_), (.int j)])) (fun t k => XS.iloadN X0.here hx rfl (hb hby own_d_method_2_code_26) rfl k) ?_
  refine own_go (T' := s₁) (g' := (mkF m 30 #[rv g, rv sa, iv at_, iv w, iv j, .unset] [])) (fun t k => XS.icmpNo X0.here hx rfl (hb hby own_d_method_2_code_27) rfl (teq (hje : (j = at_))).2 k) ?_
  refine own_go (T' := s₁) (g' := (mkF m 31 #[rv g, rv sa, iv at_, iv w, iv j, .unset] [(.int w)])) (fun t k => XS.iloadN X0.here hx rfl (hb hby own_d_method_2_code_30) rfl k) ?_
  refine own_go (T' := s₁) (g' := (mkF m 33 #[rv g, rv sa, iv at_, iv w, iv j, iv w] [])) (fun t k => XS.istore X0.here hx rfl (hb hby own_d_method_2_code_31) rfl (l' := #[rv g, rv sa, iv at_, iv w, iv j, iv w]) rfl k) ?_
  refine own_go (T' := s₁) (g' := (mkF m 44 #[rv g, rv sa, iv at_, iv w, iv j, iv w] [])) (fun t k => XS.goto X0.here hx rfl (pc0 := 33) (pc' := 44) rfl (hb hby own_d_method_2_code_33) (by decide) (by decide) k) ?_
  refine own_go (T' := s₁) (g' := (mkF m 45 #[rv g, rv sa, iv at_, iv w, iv j, iv w] [(.ref g)])) (fun t k => XS.aloadN X0.here hx rfl (hb hby own_d_method_2_code_44) rfl rfl k) ?_
  refine own_go (T' := s₁) (g' := (mkF m 47 #[rv g, rv sa, iv at_, iv w, iv j, iv w] [(.int j), (.ref g)])) (fun t k => XS.iload X0.here hx rfl (hb hby own_d_method_2_code_45) rfl k) ?_
  obtain ⟨cl206, Ar206, -, Sz206, Nn206, Ha206, -⟩ := id V_g
  have hin206 : ¬ (j < 0 ∨ cl206.slots.size ≤ (j).toNatClampNeg) := inb_of Sz206 ⟨hj, hjg⟩
  have hat206 : cl206.slots[(j).toNatClampNeg]? = some (.int w) := Ha206.at hin206 hg
  refine own_go (T' := s₁) (g' := (mkF m 48 #[rv g, rv sa, iv at_, iv w, iv j, iv w] [(.int w)])) (fun t k => X0.iaload hx (j := j) (v := (.int w)) (by rw [e0]; exact Ar206.1) (State.isArrayOf_alike hZ.alike Ar206.2.1) Ar206.2.2 hin206 hat206 (g := (mkF m 47 #[rv g, rv sa, iv at_, iv w, iv j, iv w] [(.int j), (.ref g)])) rfl rfl (hb hby own_d_method_2_code_47) _ k) ?_
  refine own_go (T' := s₁) (g' := (mkF m 50 #[rv g, rv sa, iv at_, iv w, iv j, iv w] [(.int w), (.int w)])) (fun t k => XS.iload X0.here hx rfl (hb hby own_d_method_2_code_48) rfl k) ?_
  refine own_go (T' := s₁) (g' := (mkF m 53 #[rv g, rv sa, iv at_, iv w, iv j, iv w] [])) (fun t k => XS.icmpNo X0.here hx rfl (hb hby own_d_method_2_code_50) rfl (teq (rfl : w = w)).2 k) ?_
  refine own_go (T' := s₁) (g' := (mkF m 54 #[rv g, rv sa, iv at_, iv w, iv j, iv w] [(.int (1 : Int32))])) (fun t k => XS.iconst X0.here hx rfl (hb hby own_d_method_2_code_53) k) ?_
  refine own_go (T' := s₁) (g' := (mkF m 58 #[rv g, rv sa, iv at_, iv w, iv j, iv w] [(.int (1 : Int32))])) (fun t k => XS.goto X0.here hx rfl (pc0 := 54) (pc' := 58) rfl (hb hby own_d_method_2_code_54) (by decide) (by decide) k) ?_
  exact own_ret X0 hlk hx Bd.returns rfl (Or.inl ⟨rfl, Or.inr (Or.inl rfl), _, rfl⟩) (hb hby own_d_method_2_code_58) ⟨rfl, rfl, e0⟩ (by decide) (by decide)

theorem own_d_method_2_code_36 : decode method_2_code 36 = .ok (.aload_n 1, 1) := by decide +kernel
theorem own_d_method_2_code_37 : decode method_2_code 37 = .ok (.iload 4, 2) := by decide +kernel
theorem own_d_method_2_code_39 : decode method_2_code 39 = .ok (.iconst 1, 1) := by decide +kernel
theorem own_d_method_2_code_40 : decode method_2_code 40 = .ok (.isub, 1) := by decide +kernel
theorem own_d_method_2_code_41 : decode method_2_code 41 = .ok (.iaload, 1) := by decide +kernel
theorem own_d_method_2_code_42 : decode method_2_code 42 = .ok (.istore 5, 2) := by decide +kernel
def Q_own_slotD (h0 : Heap) (n0 : Nat) (v : Option Value) (h : Heap) (L : List Loc) : Prop := v = some (.int 1) ∧ L = [] ∧ h = h0
set_option maxRecDepth 65536 in
set_option maxHeartbeats 40000000 in
theorem own_slotD (l : Launch) (Z : State) (a0 : Array Value) (hw : ∀ d ∈ tables_1, d.before a0 Z = true) (ws : List Jvm.Cond) (g sa : Addr) (kg ks : ClassId) (zg zs at_ pp j w : Int32) (gs ss : List Value) (h0 : Heap) (n0 : Nat) (Z0 : n0 ≤ h0.size) (V_g : Arv Z h0 g kg .int zg gs (.int (0 : Int32))) (V_s : Arv Z h0 sa ks .int zs ss (.int (0 : Int32))) (hjg : j < zg) (hja : ¬ j < at_) (hje : ¬ j = at_) (hj : ¬ j < 0) (hj1 : ¬ (j - 1) < 0) (hj2 : (j - 1) < zs) (hs : ss.getD (j - 1).toNatClampNeg (.int 0) = .int w) (hg : gs.getD j.toNatClampNeg (.int 0) = .int w) :
    MetFree l (⟨"com/example/tankroute/tankroute/solve/TourWithStopPinLaw", "slot", "([I[IIII)Z"⟩ : MethodName) (head1 (Jvm.Cond.code (⟨"com/example/tankroute/tankroute/solve/TourWithStopPinLaw", "slot", "([I[IIII)Z"⟩ : MethodName) method_2_code 6 (some .boolean) :: ws) ({ frames := 0, cells := 0, slots := 0, locals := 0 } : Room)) (fun au Uu => au = #[(.ref g), (.ref sa), (.int at_), (.int pp), (.int j)] ∧ Z.Warmed39 Uu.vm ∧ Uu.heap = h0) (fun _ _ _ _ _ => True) (fun _ Uu ou Uw => ∃ vu Lu, ou = .returned vu ∧ Q_own_slotD h0 n0 vu Uw.heap Lu ∧ FrameEnd Uu ou Uw Lu ({ frames := 0, cells := 0, slots := 0, locals := 0 } : Room).cells ({ frames := 0, cells := 0, slots := 0, locals := 0 } : Room).slots) := by
  refine MetFree.of_bodySF (plainFor_of_name (by first | (simp [plainName, overriddenIn]; done) | decide +kernel)) hisR ?_
  intro p e s m args below meth c s₁ Bd hml0 hP hK
  obtain ⟨rfl, hZ, hh⟩ := hP
  have hx := Bd.exec
  have hby := Bd.bytes
  have hlk := Bd.notSynchronized
  have hml : c.maxLocals = 6 := hml0
  have hown : s.vm.findClass "com/example/tankroute/tankroute/solve/TourWithStopPinLaw" = some m.cls := findClass_of_methodNamed Bd.named
  have hnm := (name_of_methodNamed Bd.named Bd.method).1
  have X0 : Stand p l e ({ frames := 0, cells := 0, slots := 0, locals := 0 } : Room) s m #[(.ref g), (.ref sa), (.int at_), (.int pp), (.int j)] below meth c s₁ [] 0 0 := Stand.of_body Bd
  have e0 : s₁.heap = h0 := by rw [← hh, Bd.state]; rfl
  have N0 := Fr.nil n0
  show own_Ends p e below s₁ (entryFrame m #[(.ref g), (.ref sa), (.int at_), (.int pp), (.int j)] 6) (fun ou Uw => ∃ vu Lu, ou = .returned vu ∧ Q_own_slotD h0 n0 vu Uw.heap Lu ∧ FrameEnd s ou Uw Lu ({ frames := 0, cells := 0, slots := 0, locals := 0 } : Room).cells ({ frames := 0, cells := 0, slots := 0, locals := 0 } : Room).slots)
  refine own_start (g' := (mkF m 0 #[rv g, rv sa, iv at_, iv pp, iv j, .unset] [])) (by first | (simp [entryFrame, mkF, argsToLocals, Value.category, iv, rv]; done) | rfl) ?_
  refine own_go (T' := s₁) (g' := (mkF m 2 #[rv g, rv sa, iv at_, iv pp, iv j, .unset] [(.int j)])) (fun t k => XS.iload X0.here hx rfl (hb hby own_d_method_2_code_0) rfl k) ?_
  refine own_go (T' := s₁) (g' := (mkF m 3 #[rv g, rv sa, iv at_, iv pp, iv j, .unset] [(.ref g), (.int j)])) (fun t k => XS.aloadN X0.here hx rfl (hb hby own_d_method_2_code_2) rfl rfl k) ?_
  obtain ⟨cl207, Ar207, -, Sz207, Nn207, -, -⟩ := id V_g
  refine own_go (T' := s₁) (g' := (mkF m 4 #[rv g, rv sa, iv at_, iv pp, iv j, .unset] [(.int zg), (.int j)])) (fun t k => X0.arraylength hx (by rw [e0]; exact Ar207.1) (State.isArrayOf_alike hZ.alike Ar207.2.1) (g := (mkF m 3 #[rv g, rv sa, iv at_, iv pp, iv j, .unset] [(.ref g), (.int j)])) rfl rfl (hb hby own_d_method_2_code_3) _ (by rw [len_of Sz207 Nn207]; exact k)) ?_
  refine own_go (T' := s₁) (g' := (mkF m 9 #[rv g, rv sa, iv at_, iv pp, iv j, .unset] [])) (fun t k => XS.icmpYes X0.here hx rfl (pc0 := 4) (pc' := 9) rfl (hb hby own_d_method_2_code_4) rfl (tlt (hjg : (j < zg))).1 (by decide) (by decide) k) ?_
  refine own_go (T' := s₁) (g' := (mkF m 11 #[rv g, rv sa, iv at_, iv pp, iv j, .unset] [(.int j)])) (fun t k => XS.iload X0.here hx rfl (hb hby own_d_method_2_code_9) rfl k) ?_
  refine own_go (T' := s₁) (g' := (mkF m 12 #[rv g, rv sa, iv at_, iv pp, iv j, .unset] [(.int at_), (.int j)])) (fun t k => XS.iloadN X0.here hx rfl (hb hby own_d_method_2_code_11) rfl k) ?_
  refine own_go (T' := s₁) (g' := (mkF m 24 #[rv g, rv sa, iv at_, iv pp, iv j, .unset] [])) (fun t k => XS.icmpYes X0.here hx rfl (pc0 := 12) (pc' := 24) rfl (hb hby own_d_method_2_code_12) rfl (flt (hja : ¬ (j < at_))).2.1 (by decide) (by decide) k) ?_
  refine own_go (T' := s₁) (g' := (mkF m 26 #[rv g, rv sa, iv at_, iv pp, iv j, .unset] [(.int j)])) (fun t k => XS.iload X0.here hx rfl (hb hby own_d_method_2_code_24) rfl k) ?_
  refine own_go (T' := s₁) (g' := (mkF m 27 #[rv g, rv sa, iv at_, iv pp, iv j, .unset] [(.int at_), (.int j)])) (fun t k => XS.iloadN X0.here hx rfl (hb hby own_d_method_2_code_26) rfl k) ?_
  refine own_go (T' := s₁) (g' := (mkF m 36 #[rv g, rv sa, iv at_, iv pp, iv j, .unset] [])) (fun t k => XS.icmpYes X0.here hx rfl (pc0 := 27) (pc' := 36) rfl (hb hby own_d_method_2_code_27) rfl (feq (hje : ¬ (j = at_))).2 (by decide) (by decide) k) ?_
  refine own_go (T' := s₁) (g' := (mkF m 37 #[rv g, rv sa, iv at_, iv pp, iv j, .unset] [(.ref sa)])) (fun t k => XS.aloadN X0.here hx rfl (hb hby own_d_method_2_code_36) rfl rfl k) ?_
  refine own_go (T' := s₁) (g' := (mkF m 39 #[rv g, rv sa, iv at_, iv pp, iv j, .unset] [(.int j), (.ref sa)])) (fun t k => XS.iload X0.here hx rfl (hb hby own_d_method_2_code_37) rfl k) ?_
  refine own_go (T' := s₁) (g' := (mkF m 40 #[rv g, rv sa, iv at_, iv pp, iv j, .unset] [(.int (1 : Int32)), (.int j), (.ref sa)])) (fun t k => XS.iconst X0.here hx rfl (hb hby own_d_method_2_code_39) k) ?_
  refine own_go (T' := s₁) (g' := (mkF m 41 #[rv g, rv sa, iv at_, iv pp, iv j, .unset] [(.int (j - (1 : Int32))), (.ref sa)])) (fun t k => XS.isub X0.here hx rfl (hb hby own_d_method_2_code_40) rfl k) ?_
  obtain ⟨cl208, Ar208, -, Sz208, Nn208, Ha208, -⟩ := id V_s
  have hin208 : ¬ ((j - (1 : Int32)) < 0 ∨ cl208.slots.size ≤ ((j - (1 : Int32))).toNatClampNeg) := inb_of Sz208 ⟨hj1, hj2⟩
  have hat208 : cl208.slots[((j - (1 : Int32))).toNatClampNeg]? = some (.int w) := Ha208.at hin208 hs
  refine own_go (T' := s₁) (g' := (mkF m 42 #[rv g, rv sa, iv at_, iv pp, iv j, .unset] [(.int w)])) (fun t k => X0.iaload hx (j := (j - (1 : Int32))) (v := (.int w)) (by rw [e0]; exact Ar208.1) (State.isArrayOf_alike hZ.alike Ar208.2.1) Ar208.2.2 hin208 hat208 (g := (mkF m 41 #[rv g, rv sa, iv at_, iv pp, iv j, .unset] [(.int (j - (1 : Int32))), (.ref sa)])) rfl rfl (hb hby own_d_method_2_code_41) _ k) ?_
  refine own_go (T' := s₁) (g' := (mkF m 44 #[rv g, rv sa, iv at_, iv pp, iv j, iv w] [])) (fun t k => XS.istore X0.here hx rfl (hb hby own_d_method_2_code_42) rfl (l' := #[rv g, rv sa, iv at_, iv pp, iv j, iv w]) rfl k) ?_
  refine own_go (T' := s₁) (g' := (mkF m 45 #[rv g, rv sa, iv at_, iv pp, iv j, iv w] [(.ref g)])) (fun t k => XS.aloadN X0.here hx rfl (hb hby own_d_method_2_code_44) rfl rfl k) ?_
  refine own_go (T' := s₁) (g' := (mkF m 47 #[rv g, rv sa, iv at_, iv pp, iv j, iv w] [(.int j), (.ref g)])) (fun t k => XS.iload X0.here hx rfl (hb hby own_d_method_2_code_45) rfl k) ?_
  obtain ⟨cl209, Ar209, -, Sz209, Nn209, Ha209, -⟩ := id V_g
  have hin209 : ¬ (j < 0 ∨ cl209.slots.size ≤ (j).toNatClampNeg) := inb_of Sz209 ⟨hj, hjg⟩
  have hat209 : cl209.slots[(j).toNatClampNeg]? = some (.int w) := Ha209.at hin209 hg
  refine own_go (T' := s₁) (g' := (mkF m 48 #[rv g, rv sa, iv at_, iv pp, iv j, iv w] [(.int w)])) (fun t k => X0.iaload hx (j := j) (v := (.int w)) (by rw [e0]; exact Ar209.1) (State.isArrayOf_alike hZ.alike Ar209.2.1) Ar209.2.2 hin209 hat209 (g := (mkF m 47 #[rv g, rv sa, iv at_, iv pp, iv j, iv w] [(.int j), (.ref g)])) rfl rfl (hb hby own_d_method_2_code_47) _ k) ?_
  refine own_go (T' := s₁) (g' := (mkF m 50 #[rv g, rv sa, iv at_, iv pp, iv j, iv w] [(.int w), (.int w)])) (fun t k => XS.iload X0.here hx rfl (hb hby own_d_method_2_code_48) rfl k) ?_
  refine own_go (T' := s₁) (g' := (mkF m 53 #[rv g, rv sa, iv at_, iv pp, iv j, iv w] [])) (fun t k => XS.icmpNo X0.here hx rfl (hb hby own_d_method_2_code_50) rfl (teq (rfl : w = w)).2 k) ?_
  refine own_go (T' := s₁) (g' := (mkF m 54 #[rv g, rv sa, iv at_, iv pp, iv j, iv w] [(.int (1 : Int32))])) (fun t k => XS.iconst X0.here hx rfl (hb hby own_d_method_2_code_53) k) ?_
  refine own_go (T' := s₁) (g' := (mkF m 58 #[rv g, rv sa, iv at_, iv pp, iv j, iv w] [(.int (1 : Int32))])) (fun t k => XS.goto X0.here hx rfl (pc0 := 54) (pc' := 58) rfl (hb hby own_d_method_2_code_54) (by decide) (by decide) k) ?_
  exact own_ret X0 hlk hx Bd.returns rfl (Or.inl ⟨rfl, Or.inr (Or.inl rfl), _, rfl⟩) (hb hby own_d_method_2_code_58) ⟨rfl, rfl, e0⟩ (by decide) (by decide)

theorem own_pd0 : parseMethodDescriptor "([III)[I" = some ⟨[(.array .int), .int, .int], some (.array .int)⟩ := by decide +kernel
theorem own_pd1 : parseMethodDescriptor "([I[IIII)Z" = some ⟨[(.array .int), (.array .int), .int, .int, .int], some .boolean⟩ := by decide +kernel
def Q_own_law (h0 : Heap) (n0 : Nat) (v : Option Value) (h : Heap) (L : List Loc) : Prop := v = some (.int 1) ∧ Fr n0 L
set_option maxRecDepth 65536 in
set_option maxHeartbeats 40000000 in
theorem own_law (l : Launch) (Z : State) (a0 : Array Value) (hw : ∀ d ∈ tables_1, d.before a0 Z = true) (ws : List Jvm.Cond) (x0 x1 x2 x3 x4 x5 : Int32) (h0 : Heap) (n0 : Nat) (Z0 : n0 ≤ h0.size)  :
    MetFree l x (head1 (Jvm.Cond.code x code maxLocals ret :: ws) room_1) (fun au Uu => au = #[(.int x0), (.int x1), (.int x2), (.int x3), (.int x4), (.int x5)] ∧ Z.Warmed39 Uu.vm ∧ Uu.heap = h0) (fun _ _ _ _ _ => True) (fun _ Uu ou Uw => ∃ vu Lu, ou = .returned vu ∧ Q_own_law h0 n0 vu Uw.heap Lu ∧ FrameEnd Uu ou Uw Lu 16 128) := by
  refine MetFree.of_bodySF (plainFor_of_name (by first | (simp [plainName, overriddenIn]; done) | decide +kernel)) hisR ?_
  intro p e s m args below meth c s₁ Bd hml0 hP hK
  obtain ⟨rfl, hZ, hh⟩ := hP
  have hx := Bd.exec
  have hby := Bd.bytes
  have hlk := Bd.notSynchronized
  have hml : c.maxLocals = 12 := hml0
  have hown : s.vm.findClass "com/example/tankroute/tankroute/solve/TourWithStopPinLaw" = some m.cls := findClass_of_methodNamed Bd.named
  have hnm := (name_of_methodNamed Bd.named Bd.method).1
  have X0 : Stand p l e room_1 s m #[(.int x0), (.int x1), (.int x2), (.int x3), (.int x4), (.int x5)] below meth c s₁ [] 0 0 := Stand.of_body Bd
  have e0 : s₁.heap = h0 := by rw [← hh, Bd.state]; rfl
  have N0 := Fr.nil n0
  show own_Ends p e below s₁ (entryFrame m #[(.int x0), (.int x1), (.int x2), (.int x3), (.int x4), (.int x5)] maxLocals) (fun ou Uw => ∃ vu Lu, ou = .returned vu ∧ Q_own_law h0 n0 vu Uw.heap Lu ∧ FrameEnd s ou Uw Lu 16 128)
  refine own_start (g' := (mkF m 0 #[iv x0, iv x1, iv x2, iv x3, iv x4, iv x5, .unset, .unset, .unset, .unset, .unset, .unset] [])) (by first | (simp [entryFrame, mkF, argsToLocals, Value.category, iv, rv, maxLocals]; done) | rfl) ?_
  refine own_go (T' := s₁) (g' := (mkF m 2 #[iv x0, iv x1, iv x2, iv x3, iv x4, iv x5, .unset, .unset, .unset, .unset, .unset, .unset] [(.int x5)])) (fun t k => XS.iload X0.here hx rfl (hb hby at_0) rfl k) ?_
  refine own_go (T' := s₁) (g' := (mkF m 4 #[iv x0, iv x1, iv x2, iv x3, iv x4, iv x5, .unset, .unset, .unset, .unset, .unset, .unset] [(.int (2147483647 : Int32)), (.int x5)])) (fun t k => X0.ldcInt hx hown (mvT hZ (hw _ (List.mem_of_getElem? (i := 0) rfl))) (g := (mkF m 2 #[iv x0, iv x1, iv x2, iv x3, iv x4, iv x5, .unset, .unset, .unset, .unset, .unset, .unset] [(.int x5)])) rfl (hb hby at_2) _ k) ?_
  refine own_go (T' := s₁) (g' := (mkF m 5 #[iv x0, iv x1, iv x2, iv x3, iv x4, iv x5, .unset, .unset, .unset, .unset, .unset, .unset] [(.int (x5 &&& (2147483647 : Int32)))])) (fun t k => XS.iand X0.here hx rfl (hb hby at_4) rfl k) ?_
  refine own_go (T' := s₁) (g' := (mkF m 6 #[iv x0, iv x1, iv x2, iv x3, iv x4, iv x5, .unset, .unset, .unset, .unset, .unset, .unset] [(.int (4 : Int32)), (.int (x5 &&& (2147483647 : Int32)))])) (fun t k => XS.iconst X0.here hx rfl (hb hby at_5) k) ?_
  refine own_go (T' := s₁) (g' := (mkF m 7 #[iv x0, iv x1, iv x2, iv x3, iv x4, iv x5, .unset, .unset, .unset, .unset, .unset, .unset] [(.int ((x5 &&& (2147483647 : Int32)) % (4 : Int32)))])) (fun t k => Jvm.RoadKit.iremM X0 hx rfl (hb hby at_6) rfl (by decide) k) ?_
  rcases own_m4 x5 with hn | hn | hn | hn
  · rw [hn]
    refine own_go (T' := s₁) (g' := (mkF m 9 #[iv x0, iv x1, iv x2, iv x3, iv x4, iv x5, iv (0 : Int32), .unset, .unset, .unset, .unset, .unset] [])) (fun t k => XS.istore X0.here hx rfl (hb hby at_7) rfl (l' := #[iv x0, iv x1, iv x2, iv x3, iv x4, iv x5, iv (0 : Int32), .unset, .unset, .unset, .unset, .unset]) rfl k) ?_
    refine own_go (T' := s₁) (g' := (mkF m 11 #[iv x0, iv x1, iv x2, iv x3, iv x4, iv x5, iv (0 : Int32), .unset, .unset, .unset, .unset, .unset] [(.int x4)])) (fun t k => XS.iload X0.here hx rfl (hb hby at_9) rfl k) ?_
    refine own_go (T' := s₁) (g' := (mkF m 13 #[iv x0, iv x1, iv x2, iv x3, iv x4, iv x5, iv (0 : Int32), .unset, .unset, .unset, .unset, .unset] [(.int (2147483647 : Int32)), (.int x4)])) (fun t k => X0.ldcInt hx hown (mvT hZ (hw _ (List.mem_of_getElem? (i := 0) rfl))) (g := (mkF m 11 #[iv x0, iv x1, iv x2, iv x3, iv x4, iv x5, iv (0 : Int32), .unset, .unset, .unset, .unset, .unset] [(.int x4)])) rfl (hb hby at_11) _ k) ?_
    refine own_go (T' := s₁) (g' := (mkF m 14 #[iv x0, iv x1, iv x2, iv x3, iv x4, iv x5, iv (0 : Int32), .unset, .unset, .unset, .unset, .unset] [(.int (x4 &&& (2147483647 : Int32)))])) (fun t k => XS.iand X0.here hx rfl (hb hby at_13) rfl k) ?_
    refine own_go (T' := s₁) (g' := (mkF m 16 #[iv x0, iv x1, iv x2, iv x3, iv x4, iv x5, iv (0 : Int32), .unset, .unset, .unset, .unset, .unset] [(.int (0 : Int32)), (.int (x4 &&& (2147483647 : Int32)))])) (fun t k => XS.iload X0.here hx rfl (hb hby at_14) rfl k) ?_
    refine own_go (T' := s₁) (g' := (mkF m 17 #[iv x0, iv x1, iv x2, iv x3, iv x4, iv x5, iv (0 : Int32), .unset, .unset, .unset, .unset, .unset] [(.int (1 : Int32)), (.int (0 : Int32)), (.int (x4 &&& (2147483647 : Int32)))])) (fun t k => XS.iconst X0.here hx rfl (hb hby at_16) k) ?_
    refine own_go (T' := s₁) (g' := (mkF m 18 #[iv x0, iv x1, iv x2, iv x3, iv x4, iv x5, iv (0 : Int32), .unset, .unset, .unset, .unset, .unset] [(.int (1 : Int32)), (.int (x4 &&& (2147483647 : Int32)))])) (fun t k => XS.iadd X0.here hx rfl (hb hby at_17) rfl k) ?_
    refine own_go (T' := s₁) (g' := (mkF m 19 #[iv x0, iv x1, iv x2, iv x3, iv x4, iv x5, iv (0 : Int32), .unset, .unset, .unset, .unset, .unset] [(.int ((x4 &&& (2147483647 : Int32)) % (1 : Int32)))])) (fun t k => Jvm.RoadKit.iremM X0 hx rfl (hb hby at_18) rfl (by decide) k) ?_
    rw [own_m1 x4]
    refine own_go (T' := s₁) (g' := (mkF m 21 #[iv x0, iv x1, iv x2, iv x3, iv x4, iv x5, iv (0 : Int32), iv (0 : Int32), .unset, .unset, .unset, .unset] [])) (fun t k => XS.istore X0.here hx rfl (hb hby at_19) rfl (l' := #[iv x0, iv x1, iv x2, iv x3, iv x4, iv x5, iv (0 : Int32), iv (0 : Int32), .unset, .unset, .unset, .unset]) rfl k) ?_
    refine own_go (T' := s₁) (g' := (mkF m 23 #[iv x0, iv x1, iv x2, iv x3, iv x4, iv x5, iv (0 : Int32), iv (0 : Int32), .unset, .unset, .unset, .unset] [(.int (0 : Int32))])) (fun t k => XS.iload X0.here hx rfl (hb hby at_21) rfl k) ?_
    obtain ⟨T210, h210, k210, X210, e210, E210, A210, st210⟩ := newP X0 hx hZ (hw _ (List.mem_of_getElem? (i := 1) rfl)) e0 (g := (mkF m 23 #[iv x0, iv x1, iv x2, iv x3, iv x4, iv x5, iv (0 : Int32), iv (0 : Int32), .unset, .unset, .unset, .unset] [(.int (0 : Int32))])) rfl (hb hby at_23) rfl (by decide) (cap := 0) (by decide) (by decide) (by decide) (by decide)
    obtain ⟨b210, g210⟩ : ∃ z, z = h0.size := ⟨_, rfl⟩
    rw [← g210] at A210 st210
    have gn210 : n0 ≤ b210 := Nat.le_trans Z0 (Nat.le_of_eq g210.symm)
    have hz210 : n0 ≤ h210.size := Nat.le_trans Z0 E210.1
    have V210 : Arv Z h210 b210 k210 .int (0 : Int32) [] (.int (0 : Int32)) := (Arv.new A210 (by decide)).pad (pad_rep [] (.int (0 : Int32)) 0)
    refine own_go (T' := T210) (g' := (mkF m 25 #[iv x0, iv x1, iv x2, iv x3, iv x4, iv x5, iv (0 : Int32), iv (0 : Int32), .unset, .unset, .unset, .unset] [(.ref b210)])) (st210) ?_
    refine own_go (T' := T210) (g' := (mkF m 27 #[iv x0, iv x1, iv x2, iv x3, iv x4, iv x5, iv (0 : Int32), iv (0 : Int32), rv b210, .unset, .unset, .unset] [])) (fun t k => XS.astore X210.here hx rfl (hb hby at_25) rfl rfl (l' := #[iv x0, iv x1, iv x2, iv x3, iv x4, iv x5, iv (0 : Int32), iv (0 : Int32), rv b210, .unset, .unset, .unset]) rfl k) ?_
    refine own_go (T' := T210) (g' := (mkF m 29 #[iv x0, iv x1, iv x2, iv x3, iv x4, iv x5, iv (0 : Int32), iv (0 : Int32), rv b210, .unset, .unset, .unset] [(.int (0 : Int32))])) (fun t k => XS.iload X210.here hx rfl (hb hby at_27) rfl k) ?_
    refine own_go (T' := T210) (g' := (mkF m 37 #[iv x0, iv x1, iv x2, iv x3, iv x4, iv x5, iv (0 : Int32), iv (0 : Int32), rv b210, .unset, .unset, .unset] [])) (fun t k => XS.ifYes X210.here hx rfl (pc0 := 29) (pc' := 37) rfl (hb hby at_29) rfl ((if0 _ _).trans (flt (by decide : ¬ ((0 : Int32) < (0 : Int32)))).2.2.2) (by decide) (by decide) k) ?_
    refine own_go (T' := T210) (g' := (mkF m 39 #[iv x0, iv x1, iv x2, iv x3, iv x4, iv x5, iv (0 : Int32), iv (0 : Int32), rv b210, .unset, .unset, .unset] [(.int (0 : Int32))])) (fun t k => XS.iload X210.here hx rfl (hb hby at_37) rfl k) ?_
    refine own_go (T' := T210) (g' := (mkF m 40 #[iv x0, iv x1, iv x2, iv x3, iv x4, iv x5, iv (0 : Int32), iv (0 : Int32), rv b210, .unset, .unset, .unset] [(.int (1 : Int32)), (.int (0 : Int32))])) (fun t k => XS.iconst X210.here hx rfl (hb hby at_39) k) ?_
    refine own_go (T' := T210) (g' := (mkF m 48 #[iv x0, iv x1, iv x2, iv x3, iv x4, iv x5, iv (0 : Int32), iv (0 : Int32), rv b210, .unset, .unset, .unset] [])) (fun t k => XS.icmpYes X210.here hx rfl (pc0 := 40) (pc' := 48) rfl (hb hby at_40) rfl (flt (by decide : ¬ ((1 : Int32) < (0 : Int32)))).2.2.2 (by decide) (by decide) k) ?_
    refine own_go (T' := T210) (g' := (mkF m 50 #[iv x0, iv x1, iv x2, iv x3, iv x4, iv x5, iv (0 : Int32), iv (0 : Int32), rv b210, .unset, .unset, .unset] [(.int (0 : Int32))])) (fun t k => XS.iload X210.here hx rfl (hb hby at_48) rfl k) ?_
    refine own_go (T' := T210) (g' := (mkF m 51 #[iv x0, iv x1, iv x2, iv x3, iv x4, iv x5, iv (0 : Int32), iv (0 : Int32), rv b210, .unset, .unset, .unset] [(.int (2 : Int32)), (.int (0 : Int32))])) (fun t k => XS.iconst X210.here hx rfl (hb hby at_50) k) ?_
    refine own_go (T' := T210) (g' := (mkF m 59 #[iv x0, iv x1, iv x2, iv x3, iv x4, iv x5, iv (0 : Int32), iv (0 : Int32), rv b210, .unset, .unset, .unset] [])) (fun t k => XS.icmpYes X210.here hx rfl (pc0 := 51) (pc' := 59) rfl (hb hby at_51) rfl (flt (by decide : ¬ ((2 : Int32) < (0 : Int32)))).2.2.2 (by decide) (by decide) k) ?_
    refine own_go (T' := T210) (g' := (mkF m 61 #[iv x0, iv x1, iv x2, iv x3, iv x4, iv x5, iv (0 : Int32), iv (0 : Int32), rv b210, .unset, .unset, .unset] [(.ref b210)])) (fun t k => XS.aload X210.here hx rfl (hb hby at_59) rfl rfl k) ?_
    refine own_go (T' := T210) (g' := (mkF m 63 #[iv x0, iv x1, iv x2, iv x3, iv x4, iv x5, iv (0 : Int32), iv (0 : Int32), rv b210, .unset, .unset, .unset] [(.int (0 : Int32)), (.ref b210)])) (fun t k => XS.iload X210.here hx rfl (hb hby at_61) rfl k) ?_
    refine own_go (T' := T210) (g' := (mkF m 64 #[iv x0, iv x1, iv x2, iv x3, iv x4, iv x5, iv (0 : Int32), iv (0 : Int32), rv b210, .unset, .unset, .unset] [(.int x3), (.int (0 : Int32)), (.ref b210)])) (fun t k => XS.iloadN X210.here hx rfl (hb hby at_63) rfl k) ?_
    obtain ⟨_, _, ⟨T211, L211, k211, n211⟩, -, X211, ⟨Lc211, hQ211, l211, y211, z211⟩, st211⟩ := Jvm.LawKit.callS X210 hx (y := (⟨"com/example/tankroute/tankroute/solve/Solution$Tour", "withStop", "([III)[I"⟩ : MethodName)) hown (mvT hZ (hw _ (List.mem_of_getElem? (i := 2) rfl))) (mvT hZ (hw _ (List.mem_of_getElem? (i := 3) rfl))) (mvT hZ (hw _ (List.mem_of_getElem? (i := 4) rfl))) (mvT hZ (hw _ (List.mem_of_getElem? (i := 5) rfl))) (by decide) (backOf (W := 0) (own_ws_0_0 l Z a0 hw []  x3 b210 k210 h210 n0 hz210 V210) hZ (hw _ (List.mem_of_getElem? (i := 5) rfl)) (hw _ (List.mem_of_getElem? (i := 4) rfl)) (by decide) (by decide)) (g := (mkF m 64 #[iv x0, iv x1, iv x2, iv x3, iv x4, iv x5, iv (0 : Int32), iv (0 : Int32), rv b210, .unset, .unset, .unset] [(.int x3), (.int (0 : Int32)), (.ref b210)])) rfl (by rw [hml]; rfl) (argsL := [(.ref b210), (.int (0 : Int32)), (.int x3)]) (rest := []) (lenOf own_pd0 rfl) rfl (by show 2 * 0 + _ ≤ _; exact Nat.le_of_eq rfl) (hb hby at_64) (fun _ _ => ⟨rfl, e210, (by decide : 1 + 1 ≤ _), (by decide : 0 + 1 ≤ _)⟩)
    dsimp only [Pt.U, Pt.locs, Pt.cells, Pt.slots] at X211 l211 y211 z211 st211 hQ211
    subst l211 y211 z211
    obtain ⟨b_211, k_211, rfl, N211q, ob_211, K_211, V_211⟩ := hQ211
    have N211 := Fr.app N0 N211q
    have nq211 : b210 ≠ b_211 := Nat.ne_of_lt (Nat.lt_of_lt_of_le V210.lt ob_211)
    have gq211 : n0 ≤ b_211 := Nat.le_trans hz210 ob_211
    have c213 := V210.keep K_211 nin0
    have hz211 : n0 ≤ T211.heap.size := Nat.le_trans hz210 K_211.1
    refine own_go (T' := T211) (g' := (mkF m 67 #[iv x0, iv x1, iv x2, iv x3, iv x4, iv x5, iv (0 : Int32), iv (0 : Int32), rv b210, .unset, .unset, .unset] [(.ref b_211)])) (st211) ?_
    refine own_go (T' := T211) (g' := (mkF m 69 #[iv x0, iv x1, iv x2, iv x3, iv x4, iv x5, iv (0 : Int32), iv (0 : Int32), rv b210, rv b_211, .unset, .unset] [])) (fun t k => XS.astore X211.here hx rfl (hb hby at_67) rfl rfl (l' := #[iv x0, iv x1, iv x2, iv x3, iv x4, iv x5, iv (0 : Int32), iv (0 : Int32), rv b210, rv b_211, .unset, .unset]) rfl k) ?_
    refine own_go (T' := T211) (g' := (mkF m 71 #[iv x0, iv x1, iv x2, iv x3, iv x4, iv x5, iv (0 : Int32), iv (0 : Int32), rv b210, rv b_211, .unset, .unset] [(.ref b_211)])) (fun t k => XS.aload X211.here hx rfl (hb hby at_69) rfl rfl k) ?_
    refine own_go (T' := T211) (g' := (mkF m 74 #[iv x0, iv x1, iv x2, iv x3, iv x4, iv x5, iv (0 : Int32), iv (0 : Int32), rv b210, rv b_211, .unset, .unset] [])) (fun t k => XS.ifnullNo X211.here hx rfl (hb hby at_71) rfl k) ?_
    refine own_go (T' := T211) (g' := (mkF m 76 #[iv x0, iv x1, iv x2, iv x3, iv x4, iv x5, iv (0 : Int32), iv (0 : Int32), rv b210, rv b_211, .unset, .unset] [(.ref b_211)])) (fun t k => XS.aload X211.here hx rfl (hb hby at_74) rfl rfl k) ?_
    refine own_go (T' := T211) (g' := (mkF m 78 #[iv x0, iv x1, iv x2, iv x3, iv x4, iv x5, iv (0 : Int32), iv (0 : Int32), rv b210, rv b_211, .unset, .unset] [(.ref b210), (.ref b_211)])) (fun t k => XS.aload X211.here hx rfl (hb hby at_76) rfl rfl k) ?_
    refine own_go (T' := T211) (g' := (mkF m 81 #[iv x0, iv x1, iv x2, iv x3, iv x4, iv x5, iv (0 : Int32), iv (0 : Int32), rv b210, rv b_211, .unset, .unset] [])) (fun t k => Jvm.RoadKit.acmp (g := (mkF m 78 #[iv x0, iv x1, iv x2, iv x3, iv x4, iv x5, iv (0 : Int32), iv (0 : Int32), rv b210, rv b_211, .unset, .unset] [(.ref b210), (.ref b_211)])) X211 hx rfl (x := (.ref b_211)) (y := (.ref b210)) rfl rfl (pc0 := 78) (pc' := 81) (same := false) rfl (hb hby at_78) rfl (decide_eq_false fun q => (Ne.symm nq211) (Value.ref.inj q)) (by decide) (by decide) k) ?_
    refine own_go (T' := T211) (g' := (mkF m 83 #[iv x0, iv x1, iv x2, iv x3, iv x4, iv x5, iv (0 : Int32), iv (0 : Int32), rv b210, rv b_211, .unset, .unset] [(.ref b_211)])) (fun t k => XS.aload X211.here hx rfl (hb hby at_81) rfl rfl k) ?_
    obtain ⟨cl214, Ar214, -, Sz214, Nn214, -, -⟩ := id V_211
    refine own_go (T' := T211) (g' := (mkF m 84 #[iv x0, iv x1, iv x2, iv x3, iv x4, iv x5, iv (0 : Int32), iv (0 : Int32), rv b210, rv b_211, .unset, .unset] [(.int (1 : Int32))])) (fun t k => X211.arraylength hx (by exact Ar214.1) (State.isArrayOf_alike hZ.alike Ar214.2.1) (g := (mkF m 83 #[iv x0, iv x1, iv x2, iv x3, iv x4, iv x5, iv (0 : Int32), iv (0 : Int32), rv b210, rv b_211, .unset, .unset] [(.ref b_211)])) rfl rfl (hb hby at_83) _ (by rw [len_of Sz214 Nn214]; exact k)) ?_
    refine own_go (T' := T211) (g' := (mkF m 86 #[iv x0, iv x1, iv x2, iv x3, iv x4, iv x5, iv (0 : Int32), iv (0 : Int32), rv b210, rv b_211, .unset, .unset] [(.int (0 : Int32)), (.int (1 : Int32))])) (fun t k => XS.iload X211.here hx rfl (hb hby at_84) rfl k) ?_
    refine own_go (T' := T211) (g' := (mkF m 87 #[iv x0, iv x1, iv x2, iv x3, iv x4, iv x5, iv (0 : Int32), iv (0 : Int32), rv b210, rv b_211, .unset, .unset] [(.int (1 : Int32)), (.int (0 : Int32)), (.int (1 : Int32))])) (fun t k => XS.iconst X211.here hx rfl (hb hby at_86) k) ?_
    refine own_go (T' := T211) (g' := (mkF m 88 #[iv x0, iv x1, iv x2, iv x3, iv x4, iv x5, iv (0 : Int32), iv (0 : Int32), rv b210, rv b_211, .unset, .unset] [(.int (1 : Int32)), (.int (1 : Int32))])) (fun t k => XS.iadd X211.here hx rfl (hb hby at_87) rfl k) ?_
    refine own_go (T' := T211) (g' := (mkF m 93 #[iv x0, iv x1, iv x2, iv x3, iv x4, iv x5, iv (0 : Int32), iv (0 : Int32), rv b210, rv b_211, .unset, .unset] [])) (fun t k => XS.icmpYes X211.here hx rfl (pc0 := 88) (pc' := 93) rfl (hb hby at_88) rfl (teq (by decide : ((1 : Int32) = (1 : Int32)))).1 (by decide) (by decide) k) ?_
    refine own_go (T' := T211) (g' := (mkF m 95 #[iv x0, iv x1, iv x2, iv x3, iv x4, iv x5, iv (0 : Int32), iv (0 : Int32), rv b210, rv b_211, .unset, .unset] [(.ref b_211)])) (fun t k => XS.aload X211.here hx rfl (hb hby at_93) rfl rfl k) ?_
    refine own_go (T' := T211) (g' := (mkF m 97 #[iv x0, iv x1, iv x2, iv x3, iv x4, iv x5, iv (0 : Int32), iv (0 : Int32), rv b210, rv b_211, .unset, .unset] [(.ref b210), (.ref b_211)])) (fun t k => XS.aload X211.here hx rfl (hb hby at_95) rfl rfl k) ?_
    refine own_go (T' := T211) (g' := (mkF m 99 #[iv x0, iv x1, iv x2, iv x3, iv x4, iv x5, iv (0 : Int32), iv (0 : Int32), rv b210, rv b_211, .unset, .unset] [(.int (0 : Int32)), (.ref b210), (.ref b_211)])) (fun t k => XS.iload X211.here hx rfl (hb hby at_97) rfl k) ?_
    refine own_go (T' := T211) (g' := (mkF m 100 #[iv x0, iv x1, iv x2, iv x3, iv x4, iv x5, iv (0 : Int32), iv (0 : Int32), rv b210, rv b_211, .unset, .unset] [(.int x3), (.int (0 : Int32)), (.ref b210), (.ref b_211)])) (fun t k => XS.iloadN X211.here hx rfl (hb hby at_99) rfl k) ?_
    refine own_go (T' := T211) (g' := (mkF m 101 #[iv x0, iv x1, iv x2, iv x3, iv x4, iv x5, iv (0 : Int32), iv (0 : Int32), rv b210, rv b_211, .unset, .unset] [(.int (0 : Int32)), (.int x3), (.int (0 : Int32)), (.ref b210), (.ref b_211)])) (fun t k => XS.iconst X211.here hx rfl (hb hby at_100) k) ?_
    obtain ⟨_, _, ⟨T215, L215, k215, n215⟩, -, X215, ⟨Lc215, hQ215, l215, y215, z215⟩, st215⟩ := Jvm.LawKit.callS X211 hx (y := (⟨"com/example/tankroute/tankroute/solve/TourWithStopPinLaw", "slot", "([I[IIII)Z"⟩ : MethodName)) hown (mvT hZ (hw _ (List.mem_of_getElem? (i := 10) rfl))) (mvT hZ (hw _ (List.mem_of_getElem? (i := 11) rfl))) (mvT hZ (hw _ (List.mem_of_getElem? (i := 12) rfl))) (mvT hZ (hw _ (List.mem_of_getElem? (i := 13) rfl))) (by decide) (backOf (W := 0) (own_slotC l Z a0 hw [] b_211 b210 k_211 k210 (1 : Int32) (0 : Int32) (0 : Int32)  (0 : Int32) x3 [(.int x3)] [] T211.heap n0 hz211 V_211 c213 (by decide) (by decide) rfl (by decide) rfl) hZ (hw _ (List.mem_of_getElem? (i := 13) rfl)) (hw _ (List.mem_of_getElem? (i := 12) rfl)) (by decide) (by decide)) (g := (mkF m 101 #[iv x0, iv x1, iv x2, iv x3, iv x4, iv x5, iv (0 : Int32), iv (0 : Int32), rv b210, rv b_211, .unset, .unset] [(.int (0 : Int32)), (.int x3), (.int (0 : Int32)), (.ref b210), (.ref b_211)])) rfl (by rw [hml]; rfl) (argsL := [(.ref b_211), (.ref b210), (.int (0 : Int32)), (.int x3), (.int (0 : Int32))]) (rest := []) (lenOf own_pd1 rfl) rfl (by show 2 * 0 + _ ≤ _; exact Nat.le_of_eq rfl) (hb hby at_101) (fun _ _ => ⟨rfl, rfl, (by decide : 2 + 0 ≤ _), (by decide : 1 + 0 ≤ _)⟩)
    dsimp only [Pt.U, Pt.locs, Pt.cells, Pt.slots] at X215 l215 y215 z215 st215 hQ215
    subst l215 y215 z215
    obtain ⟨rfl, rfl, e215⟩ := hQ215
    have E215q : T215.heap = T211.heap := e215
    have N215 := Fr.app N211 (Fr.nil n0)
    refine own_go (T' := T215) (g' := (mkF m 104 #[iv x0, iv x1, iv x2, iv x3, iv x4, iv x5, iv (0 : Int32), iv (0 : Int32), rv b210, rv b_211, .unset, .unset] [(.int (1 : Int32))])) (st215) ?_
    refine own_go (T' := T215) (g' := (mkF m 107 #[iv x0, iv x1, iv x2, iv x3, iv x4, iv x5, iv (0 : Int32), iv (0 : Int32), rv b210, rv b_211, .unset, .unset] [])) (fun t k => XS.ifNo X215.here hx rfl (hb hby at_104) rfl ((if0 _ _).trans (feq (by decide : ¬ ((1 : Int32) = (0 : Int32)))).1) k) ?_
    refine own_go (T' := T215) (g' := (mkF m 109 #[iv x0, iv x1, iv x2, iv x3, iv x4, iv x5, iv (0 : Int32), iv (0 : Int32), rv b210, rv b_211, .unset, .unset] [(.ref b_211)])) (fun t k => XS.aload X215.here hx rfl (hb hby at_107) rfl rfl k) ?_
    refine own_go (T' := T215) (g' := (mkF m 111 #[iv x0, iv x1, iv x2, iv x3, iv x4, iv x5, iv (0 : Int32), iv (0 : Int32), rv b210, rv b_211, .unset, .unset] [(.ref b210), (.ref b_211)])) (fun t k => XS.aload X215.here hx rfl (hb hby at_109) rfl rfl k) ?_
    refine own_go (T' := T215) (g' := (mkF m 113 #[iv x0, iv x1, iv x2, iv x3, iv x4, iv x5, iv (0 : Int32), iv (0 : Int32), rv b210, rv b_211, .unset, .unset] [(.int (0 : Int32)), (.ref b210), (.ref b_211)])) (fun t k => XS.iload X215.here hx rfl (hb hby at_111) rfl k) ?_
    refine own_go (T' := T215) (g' := (mkF m 114 #[iv x0, iv x1, iv x2, iv x3, iv x4, iv x5, iv (0 : Int32), iv (0 : Int32), rv b210, rv b_211, .unset, .unset] [(.int x3), (.int (0 : Int32)), (.ref b210), (.ref b_211)])) (fun t k => XS.iloadN X215.here hx rfl (hb hby at_113) rfl k) ?_
    refine own_go (T' := T215) (g' := (mkF m 115 #[iv x0, iv x1, iv x2, iv x3, iv x4, iv x5, iv (0 : Int32), iv (0 : Int32), rv b210, rv b_211, .unset, .unset] [(.int (1 : Int32)), (.int x3), (.int (0 : Int32)), (.ref b210), (.ref b_211)])) (fun t k => XS.iconst X215.here hx rfl (hb hby at_114) k) ?_
    obtain ⟨_, _, ⟨T216, L216, k216, n216⟩, -, X216, ⟨Lc216, hQ216, l216, y216, z216⟩, st216⟩ := Jvm.LawKit.callS X215 hx (y := (⟨"com/example/tankroute/tankroute/solve/TourWithStopPinLaw", "slot", "([I[IIII)Z"⟩ : MethodName)) hown (mvT hZ (hw _ (List.mem_of_getElem? (i := 10) rfl))) (mvT hZ (hw _ (List.mem_of_getElem? (i := 11) rfl))) (mvT hZ (hw _ (List.mem_of_getElem? (i := 12) rfl))) (mvT hZ (hw _ (List.mem_of_getElem? (i := 13) rfl))) (by decide) (backOf (W := 0) (own_slotA l Z a0 hw [] b_211 b210 k_211 k210 (1 : Int32) (0 : Int32) (0 : Int32) x3 (1 : Int32) 0 [(.int x3)] [] T211.heap n0 hz211 V_211 c213 (by decide)) hZ (hw _ (List.mem_of_getElem? (i := 13) rfl)) (hw _ (List.mem_of_getElem? (i := 12) rfl)) (by decide) (by decide)) (g := (mkF m 115 #[iv x0, iv x1, iv x2, iv x3, iv x4, iv x5, iv (0 : Int32), iv (0 : Int32), rv b210, rv b_211, .unset, .unset] [(.int (1 : Int32)), (.int x3), (.int (0 : Int32)), (.ref b210), (.ref b_211)])) rfl (by rw [hml]; rfl) (argsL := [(.ref b_211), (.ref b210), (.int (0 : Int32)), (.int x3), (.int (1 : Int32))]) (rest := []) (lenOf own_pd1 rfl) rfl (by show 2 * 0 + _ ≤ _; exact Nat.le_of_eq rfl) (hb hby at_115) (fun _ _ => ⟨rfl, E215q, (by decide : 2 + 0 ≤ _), (by decide : 1 + 0 ≤ _)⟩)
    dsimp only [Pt.U, Pt.locs, Pt.cells, Pt.slots] at X216 l216 y216 z216 st216 hQ216
    subst l216 y216 z216
    obtain ⟨rfl, rfl, e216⟩ := hQ216
    have E216q : T216.heap = T211.heap := e216
    have N216 := Fr.app N215 (Fr.nil n0)
    refine own_go (T' := T216) (g' := (mkF m 118 #[iv x0, iv x1, iv x2, iv x3, iv x4, iv x5, iv (0 : Int32), iv (0 : Int32), rv b210, rv b_211, .unset, .unset] [(.int (1 : Int32))])) (st216) ?_
    refine own_go (T' := T216) (g' := (mkF m 121 #[iv x0, iv x1, iv x2, iv x3, iv x4, iv x5, iv (0 : Int32), iv (0 : Int32), rv b210, rv b_211, .unset, .unset] [])) (fun t k => XS.ifNo X216.here hx rfl (hb hby at_118) rfl ((if0 _ _).trans (feq (by decide : ¬ ((1 : Int32) = (0 : Int32)))).1) k) ?_
    refine own_go (T' := T216) (g' := (mkF m 123 #[iv x0, iv x1, iv x2, iv x3, iv x4, iv x5, iv (0 : Int32), iv (0 : Int32), rv b210, rv b_211, .unset, .unset] [(.ref b_211)])) (fun t k => XS.aload X216.here hx rfl (hb hby at_121) rfl rfl k) ?_
    refine own_go (T' := T216) (g' := (mkF m 125 #[iv x0, iv x1, iv x2, iv x3, iv x4, iv x5, iv (0 : Int32), iv (0 : Int32), rv b210, rv b_211, .unset, .unset] [(.ref b210), (.ref b_211)])) (fun t k => XS.aload X216.here hx rfl (hb hby at_123) rfl rfl k) ?_
    refine own_go (T' := T216) (g' := (mkF m 127 #[iv x0, iv x1, iv x2, iv x3, iv x4, iv x5, iv (0 : Int32), iv (0 : Int32), rv b210, rv b_211, .unset, .unset] [(.int (0 : Int32)), (.ref b210), (.ref b_211)])) (fun t k => XS.iload X216.here hx rfl (hb hby at_125) rfl k) ?_
    refine own_go (T' := T216) (g' := (mkF m 128 #[iv x0, iv x1, iv x2, iv x3, iv x4, iv x5, iv (0 : Int32), iv (0 : Int32), rv b210, rv b_211, .unset, .unset] [(.int x3), (.int (0 : Int32)), (.ref b210), (.ref b_211)])) (fun t k => XS.iloadN X216.here hx rfl (hb hby at_127) rfl k) ?_
    refine own_go (T' := T216) (g' := (mkF m 129 #[iv x0, iv x1, iv x2, iv x3, iv x4, iv x5, iv (0 : Int32), iv (0 : Int32), rv b210, rv b_211, .unset, .unset] [(.int (2 : Int32)), (.int x3), (.int (0 : Int32)), (.ref b210), (.ref b_211)])) (fun t k => XS.iconst X216.here hx rfl (hb hby at_128) k) ?_
    obtain ⟨_, _, ⟨T217, L217, k217, n217⟩, -, X217, ⟨Lc217, hQ217, l217, y217, z217⟩, st217⟩ := Jvm.LawKit.callS X216 hx (y := (⟨"com/example/tankroute/tankroute/solve/TourWithStopPinLaw", "slot", "([I[IIII)Z"⟩ : MethodName)) hown (mvT hZ (hw _ (List.mem_of_getElem? (i := 10) rfl))) (mvT hZ (hw _ (List.mem_of_getElem? (i := 11) rfl))) (mvT hZ (hw _ (List.mem_of_getElem? (i := 12) rfl))) (mvT hZ (hw _ (List.mem_of_getElem? (i := 13) rfl))) (by decide) (backOf (W := 0) (own_slotA l Z a0 hw [] b_211 b210 k_211 k210 (1 : Int32) (0 : Int32) (0 : Int32) x3 (2 : Int32) 0 [(.int x3)] [] T211.heap n0 hz211 V_211 c213 (by decide)) hZ (hw _ (List.mem_of_getElem? (i := 13) rfl)) (hw _ (List.mem_of_getElem? (i := 12) rfl)) (by decide) (by decide)) (g := (mkF m 129 #[iv x0, iv x1, iv x2, iv x3, iv x4, iv x5, iv (0 : Int32), iv (0 : Int32), rv b210, rv b_211, .unset, .unset] [(.int (2 : Int32)), (.int x3), (.int (0 : Int32)), (.ref b210), (.ref b_211)])) rfl (by rw [hml]; rfl) (argsL := [(.ref b_211), (.ref b210), (.int (0 : Int32)), (.int x3), (.int (2 : Int32))]) (rest := []) (lenOf own_pd1 rfl) rfl (by show 2 * 0 + _ ≤ _; exact Nat.le_of_eq rfl) (hb hby at_129) (fun _ _ => ⟨rfl, E216q, (by decide : 2 + 0 ≤ _), (by decide : 1 + 0 ≤ _)⟩)
    dsimp only [Pt.U, Pt.locs, Pt.cells, Pt.slots] at X217 l217 y217 z217 st217 hQ217
    subst l217 y217 z217
    obtain ⟨rfl, rfl, e217⟩ := hQ217
    have E217q : T217.heap = T211.heap := e217
    have N217 := Fr.app N216 (Fr.nil n0)
    refine own_go (T' := T217) (g' := (mkF m 132 #[iv x0, iv x1, iv x2, iv x3, iv x4, iv x5, iv (0 : Int32), iv (0 : Int32), rv b210, rv b_211, .unset, .unset] [(.int (1 : Int32))])) (st217) ?_
    refine own_go (T' := T217) (g' := (mkF m 135 #[iv x0, iv x1, iv x2, iv x3, iv x4, iv x5, iv (0 : Int32), iv (0 : Int32), rv b210, rv b_211, .unset, .unset] [])) (fun t k => XS.ifNo X217.here hx rfl (hb hby at_132) rfl ((if0 _ _).trans (feq (by decide : ¬ ((1 : Int32) = (0 : Int32)))).1) k) ?_
    refine own_go (T' := T217) (g' := (mkF m 137 #[iv x0, iv x1, iv x2, iv x3, iv x4, iv x5, iv (0 : Int32), iv (0 : Int32), rv b210, rv b_211, .unset, .unset] [(.ref b_211)])) (fun t k => XS.aload X217.here hx rfl (hb hby at_135) rfl rfl k) ?_
    refine own_go (T' := T217) (g' := (mkF m 139 #[iv x0, iv x1, iv x2, iv x3, iv x4, iv x5, iv (0 : Int32), iv (0 : Int32), rv b210, rv b_211, .unset, .unset] [(.ref b210), (.ref b_211)])) (fun t k => XS.aload X217.here hx rfl (hb hby at_137) rfl rfl k) ?_
    refine own_go (T' := T217) (g' := (mkF m 141 #[iv x0, iv x1, iv x2, iv x3, iv x4, iv x5, iv (0 : Int32), iv (0 : Int32), rv b210, rv b_211, .unset, .unset] [(.int (0 : Int32)), (.ref b210), (.ref b_211)])) (fun t k => XS.iload X217.here hx rfl (hb hby at_139) rfl k) ?_
    refine own_go (T' := T217) (g' := (mkF m 142 #[iv x0, iv x1, iv x2, iv x3, iv x4, iv x5, iv (0 : Int32), iv (0 : Int32), rv b210, rv b_211, .unset, .unset] [(.int x3), (.int (0 : Int32)), (.ref b210), (.ref b_211)])) (fun t k => XS.iloadN X217.here hx rfl (hb hby at_141) rfl k) ?_
    refine own_go (T' := T217) (g' := (mkF m 143 #[iv x0, iv x1, iv x2, iv x3, iv x4, iv x5, iv (0 : Int32), iv (0 : Int32), rv b210, rv b_211, .unset, .unset] [(.int (3 : Int32)), (.int x3), (.int (0 : Int32)), (.ref b210), (.ref b_211)])) (fun t k => XS.iconst X217.here hx rfl (hb hby at_142) k) ?_
    obtain ⟨_, _, ⟨T218, L218, k218, n218⟩, -, X218, ⟨Lc218, hQ218, l218, y218, z218⟩, st218⟩ := Jvm.LawKit.callS X217 hx (y := (⟨"com/example/tankroute/tankroute/solve/TourWithStopPinLaw", "slot", "([I[IIII)Z"⟩ : MethodName)) hown (mvT hZ (hw _ (List.mem_of_getElem? (i := 10) rfl))) (mvT hZ (hw _ (List.mem_of_getElem? (i := 11) rfl))) (mvT hZ (hw _ (List.mem_of_getElem? (i := 12) rfl))) (mvT hZ (hw _ (List.mem_of_getElem? (i := 13) rfl))) (by decide) (backOf (W := 0) (own_slotA l Z a0 hw [] b_211 b210 k_211 k210 (1 : Int32) (0 : Int32) (0 : Int32) x3 (3 : Int32) 0 [(.int x3)] [] T211.heap n0 hz211 V_211 c213 (by decide)) hZ (hw _ (List.mem_of_getElem? (i := 13) rfl)) (hw _ (List.mem_of_getElem? (i := 12) rfl)) (by decide) (by decide)) (g := (mkF m 143 #[iv x0, iv x1, iv x2, iv x3, iv x4, iv x5, iv (0 : Int32), iv (0 : Int32), rv b210, rv b_211, .unset, .unset] [(.int (3 : Int32)), (.int x3), (.int (0 : Int32)), (.ref b210), (.ref b_211)])) rfl (by rw [hml]; rfl) (argsL := [(.ref b_211), (.ref b210), (.int (0 : Int32)), (.int x3), (.int (3 : Int32))]) (rest := []) (lenOf own_pd1 rfl) rfl (by show 2 * 0 + _ ≤ _; exact Nat.le_of_eq rfl) (hb hby at_143) (fun _ _ => ⟨rfl, E217q, (by decide : 2 + 0 ≤ _), (by decide : 1 + 0 ≤ _)⟩)
    dsimp only [Pt.U, Pt.locs, Pt.cells, Pt.slots] at X218 l218 y218 z218 st218 hQ218
    subst l218 y218 z218
    obtain ⟨rfl, rfl, e218⟩ := hQ218
    have E218q : T218.heap = T211.heap := e218
    have N218 := Fr.app N217 (Fr.nil n0)
    refine own_go (T' := T218) (g' := (mkF m 146 #[iv x0, iv x1, iv x2, iv x3, iv x4, iv x5, iv (0 : Int32), iv (0 : Int32), rv b210, rv b_211, .unset, .unset] [(.int (1 : Int32))])) (st218) ?_
    refine own_go (T' := T218) (g' := (mkF m 149 #[iv x0, iv x1, iv x2, iv x3, iv x4, iv x5, iv (0 : Int32), iv (0 : Int32), rv b210, rv b_211, .unset, .unset] [])) (fun t k => XS.ifNo X218.here hx rfl (hb hby at_146) rfl ((if0 _ _).trans (feq (by decide : ¬ ((1 : Int32) = (0 : Int32)))).1) k) ?_
    refine own_go (T' := T218) (g' := (mkF m 150 #[iv x0, iv x1, iv x2, iv x3, iv x4, iv x5, iv (0 : Int32), iv (0 : Int32), rv b210, rv b_211, .unset, .unset] [(.int (1 : Int32))])) (fun t k => XS.iconst X218.here hx rfl (hb hby at_149) k) ?_
    refine own_go (T' := T218) (g' := (mkF m 154 #[iv x0, iv x1, iv x2, iv x3, iv x4, iv x5, iv (0 : Int32), iv (0 : Int32), rv b210, rv b_211, .unset, .unset] [(.int (1 : Int32))])) (fun t k => XS.goto X218.here hx rfl (pc0 := 150) (pc' := 154) rfl (hb hby at_150) (by decide) (by decide) k) ?_
    refine own_go (T' := T218) (g' := (mkF m 156 #[iv x0, iv x1, iv x2, iv x3, iv x4, iv x5, iv (0 : Int32), iv (0 : Int32), rv b210, rv b_211, iv (1 : Int32), .unset] [])) (fun t k => XS.istore X218.here hx rfl (hb hby at_154) rfl (l' := #[iv x0, iv x1, iv x2, iv x3, iv x4, iv x5, iv (0 : Int32), iv (0 : Int32), rv b210, rv b_211, iv (1 : Int32), .unset]) rfl k) ?_
    refine own_go (T' := T218) (g' := (mkF m 158 #[iv x0, iv x1, iv x2, iv x3, iv x4, iv x5, iv (0 : Int32), iv (0 : Int32), rv b210, rv b_211, iv (1 : Int32), .unset] [(.int (0 : Int32))])) (fun t k => XS.iload X218.here hx rfl (hb hby at_156) rfl k) ?_
    refine own_go (T' := T218) (g' := (mkF m 159 #[iv x0, iv x1, iv x2, iv x3, iv x4, iv x5, iv (0 : Int32), iv (0 : Int32), rv b210, rv b_211, iv (1 : Int32), .unset] [(.int (1 : Int32)), (.int (0 : Int32))])) (fun t k => XS.iconst X218.here hx rfl (hb hby at_158) k) ?_
    refine own_go (T' := T218) (g' := (mkF m 170 #[iv x0, iv x1, iv x2, iv x3, iv x4, iv x5, iv (0 : Int32), iv (0 : Int32), rv b210, rv b_211, iv (1 : Int32), .unset] [])) (fun t k => XS.icmpYes X218.here hx rfl (pc0 := 159) (pc' := 170) rfl (hb hby at_159) rfl (tlt (by decide : ((0 : Int32) < (1 : Int32)))).1 (by decide) (by decide) k) ?_
    refine own_go (T' := T218) (g' := (mkF m 172 #[iv x0, iv x1, iv x2, iv x3, iv x4, iv x5, iv (0 : Int32), iv (0 : Int32), rv b210, rv b_211, iv (1 : Int32), .unset] [(.int (0 : Int32))])) (fun t k => XS.iload X218.here hx rfl (hb hby at_170) rfl k) ?_
    refine own_go (T' := T218) (g' := (mkF m 173 #[iv x0, iv x1, iv x2, iv x3, iv x4, iv x5, iv (0 : Int32), iv (0 : Int32), rv b210, rv b_211, iv (1 : Int32), .unset] [(.int (2 : Int32)), (.int (0 : Int32))])) (fun t k => XS.iconst X218.here hx rfl (hb hby at_172) k) ?_
    refine own_go (T' := T218) (g' := (mkF m 184 #[iv x0, iv x1, iv x2, iv x3, iv x4, iv x5, iv (0 : Int32), iv (0 : Int32), rv b210, rv b_211, iv (1 : Int32), .unset] [])) (fun t k => XS.icmpYes X218.here hx rfl (pc0 := 173) (pc' := 184) rfl (hb hby at_173) rfl (tlt (by decide : ((0 : Int32) < (2 : Int32)))).1 (by decide) (by decide) k) ?_
    refine own_go (T' := T218) (g' := (mkF m 186 #[iv x0, iv x1, iv x2, iv x3, iv x4, iv x5, iv (0 : Int32), iv (0 : Int32), rv b210, rv b_211, iv (1 : Int32), .unset] [(.int (0 : Int32))])) (fun t k => XS.iload X218.here hx rfl (hb hby at_184) rfl k) ?_
    refine own_go (T' := T218) (g' := (mkF m 187 #[iv x0, iv x1, iv x2, iv x3, iv x4, iv x5, iv (0 : Int32), iv (0 : Int32), rv b210, rv b_211, iv (1 : Int32), .unset] [(.int (3 : Int32)), (.int (0 : Int32))])) (fun t k => XS.iconst X218.here hx rfl (hb hby at_186) k) ?_
    refine own_go (T' := T218) (g' := (mkF m 198 #[iv x0, iv x1, iv x2, iv x3, iv x4, iv x5, iv (0 : Int32), iv (0 : Int32), rv b210, rv b_211, iv (1 : Int32), .unset] [])) (fun t k => XS.icmpYes X218.here hx rfl (pc0 := 187) (pc' := 198) rfl (hb hby at_187) rfl (tlt (by decide : ((0 : Int32) < (3 : Int32)))).1 (by decide) (by decide) k) ?_
    refine own_go (T' := T218) (g' := (mkF m 199 #[iv x0, iv x1, iv x2, iv x3, iv x4, iv x5, iv (0 : Int32), iv (0 : Int32), rv b210, rv b_211, iv (1 : Int32), .unset] [(.int (1 : Int32))])) (fun t k => XS.iconst X218.here hx rfl (hb hby at_198) k) ?_
    refine own_go (T' := T218) (g' := (mkF m 203 #[iv x0, iv x1, iv x2, iv x3, iv x4, iv x5, iv (0 : Int32), iv (0 : Int32), rv b210, rv b_211, iv (1 : Int32), .unset] [(.int (1 : Int32))])) (fun t k => XS.goto X218.here hx rfl (pc0 := 199) (pc' := 203) rfl (hb hby at_199) (by decide) (by decide) k) ?_
    refine own_go (T' := T218) (g' := (mkF m 205 #[iv x0, iv x1, iv x2, iv x3, iv x4, iv x5, iv (0 : Int32), iv (0 : Int32), rv b210, rv b_211, iv (1 : Int32), iv (1 : Int32)] [])) (fun t k => XS.istore X218.here hx rfl (hb hby at_203) rfl (l' := #[iv x0, iv x1, iv x2, iv x3, iv x4, iv x5, iv (0 : Int32), iv (0 : Int32), rv b210, rv b_211, iv (1 : Int32), iv (1 : Int32)]) rfl k) ?_
    refine own_go (T' := T218) (g' := (mkF m 207 #[iv x0, iv x1, iv x2, iv x3, iv x4, iv x5, iv (0 : Int32), iv (0 : Int32), rv b210, rv b_211, iv (1 : Int32), iv (1 : Int32)] [(.int (1 : Int32))])) (fun t k => XS.iload X218.here hx rfl (hb hby at_205) rfl k) ?_
    refine own_go (T' := T218) (g' := (mkF m 210 #[iv x0, iv x1, iv x2, iv x3, iv x4, iv x5, iv (0 : Int32), iv (0 : Int32), rv b210, rv b_211, iv (1 : Int32), iv (1 : Int32)] [])) (fun t k => XS.ifNo X218.here hx rfl (hb hby at_207) rfl ((if0 _ _).trans (feq (by decide : ¬ ((1 : Int32) = (0 : Int32)))).1) k) ?_
    refine own_go (T' := T218) (g' := (mkF m 212 #[iv x0, iv x1, iv x2, iv x3, iv x4, iv x5, iv (0 : Int32), iv (0 : Int32), rv b210, rv b_211, iv (1 : Int32), iv (1 : Int32)] [(.int (1 : Int32))])) (fun t k => XS.iload X218.here hx rfl (hb hby at_210) rfl k) ?_
    refine own_go (T' := T218) (g' := (mkF m 215 #[iv x0, iv x1, iv x2, iv x3, iv x4, iv x5, iv (0 : Int32), iv (0 : Int32), rv b210, rv b_211, iv (1 : Int32), iv (1 : Int32)] [])) (fun t k => XS.ifNo X218.here hx rfl (hb hby at_212) rfl ((if0 _ _).trans (feq (by decide : ¬ ((1 : Int32) = (0 : Int32)))).1) k) ?_
    refine own_go (T' := T218) (g' := (mkF m 216 #[iv x0, iv x1, iv x2, iv x3, iv x4, iv x5, iv (0 : Int32), iv (0 : Int32), rv b210, rv b_211, iv (1 : Int32), iv (1 : Int32)] [(.int (1 : Int32))])) (fun t k => XS.iconst X218.here hx rfl (hb hby at_215) k) ?_
    refine own_go (T' := T218) (g' := (mkF m 220 #[iv x0, iv x1, iv x2, iv x3, iv x4, iv x5, iv (0 : Int32), iv (0 : Int32), rv b210, rv b_211, iv (1 : Int32), iv (1 : Int32)] [(.int (1 : Int32))])) (fun t k => XS.goto X218.here hx rfl (pc0 := 216) (pc' := 220) rfl (hb hby at_216) (by decide) (by decide) k) ?_
    exact own_ret X218 hlk hx Bd.returns rfl (Or.inl ⟨rfl, Or.inr (Or.inl rfl), _, rfl⟩) (hb hby at_220) (by first | exact ⟨rfl, N218⟩ | (rw [Fr] at *; exact ⟨rfl, by simpa using N218⟩)) (by decide) (by decide)
  · rw [hn]
    refine own_go (T' := s₁) (g' := (mkF m 9 #[iv x0, iv x1, iv x2, iv x3, iv x4, iv x5, iv (1 : Int32), .unset, .unset, .unset, .unset, .unset] [])) (fun t k => XS.istore X0.here hx rfl (hb hby at_7) rfl (l' := #[iv x0, iv x1, iv x2, iv x3, iv x4, iv x5, iv (1 : Int32), .unset, .unset, .unset, .unset, .unset]) rfl k) ?_
    refine own_go (T' := s₁) (g' := (mkF m 11 #[iv x0, iv x1, iv x2, iv x3, iv x4, iv x5, iv (1 : Int32), .unset, .unset, .unset, .unset, .unset] [(.int x4)])) (fun t k => XS.iload X0.here hx rfl (hb hby at_9) rfl k) ?_
    refine own_go (T' := s₁) (g' := (mkF m 13 #[iv x0, iv x1, iv x2, iv x3, iv x4, iv x5, iv (1 : Int32), .unset, .unset, .unset, .unset, .unset] [(.int (2147483647 : Int32)), (.int x4)])) (fun t k => X0.ldcInt hx hown (mvT hZ (hw _ (List.mem_of_getElem? (i := 0) rfl))) (g := (mkF m 11 #[iv x0, iv x1, iv x2, iv x3, iv x4, iv x5, iv (1 : Int32), .unset, .unset, .unset, .unset, .unset] [(.int x4)])) rfl (hb hby at_11) _ k) ?_
    refine own_go (T' := s₁) (g' := (mkF m 14 #[iv x0, iv x1, iv x2, iv x3, iv x4, iv x5, iv (1 : Int32), .unset, .unset, .unset, .unset, .unset] [(.int (x4 &&& (2147483647 : Int32)))])) (fun t k => XS.iand X0.here hx rfl (hb hby at_13) rfl k) ?_
    refine own_go (T' := s₁) (g' := (mkF m 16 #[iv x0, iv x1, iv x2, iv x3, iv x4, iv x5, iv (1 : Int32), .unset, .unset, .unset, .unset, .unset] [(.int (1 : Int32)), (.int (x4 &&& (2147483647 : Int32)))])) (fun t k => XS.iload X0.here hx rfl (hb hby at_14) rfl k) ?_
    refine own_go (T' := s₁) (g' := (mkF m 17 #[iv x0, iv x1, iv x2, iv x3, iv x4, iv x5, iv (1 : Int32), .unset, .unset, .unset, .unset, .unset] [(.int (1 : Int32)), (.int (1 : Int32)), (.int (x4 &&& (2147483647 : Int32)))])) (fun t k => XS.iconst X0.here hx rfl (hb hby at_16) k) ?_
    refine own_go (T' := s₁) (g' := (mkF m 18 #[iv x0, iv x1, iv x2, iv x3, iv x4, iv x5, iv (1 : Int32), .unset, .unset, .unset, .unset, .unset] [(.int (2 : Int32)), (.int (x4 &&& (2147483647 : Int32)))])) (fun t k => XS.iadd X0.here hx rfl (hb hby at_17) rfl k) ?_
    refine own_go (T' := s₁) (g' := (mkF m 19 #[iv x0, iv x1, iv x2, iv x3, iv x4, iv x5, iv (1 : Int32), .unset, .unset, .unset, .unset, .unset] [(.int ((x4 &&& (2147483647 : Int32)) % (2 : Int32)))])) (fun t k => Jvm.RoadKit.iremM X0 hx rfl (hb hby at_18) rfl (by decide) k) ?_
    rcases own_m2 x4 with ha | ha
    · rw [ha]
      refine own_go (T' := s₁) (g' := (mkF m 21 #[iv x0, iv x1, iv x2, iv x3, iv x4, iv x5, iv (1 : Int32), iv (0 : Int32), .unset, .unset, .unset, .unset] [])) (fun t k => XS.istore X0.here hx rfl (hb hby at_19) rfl (l' := #[iv x0, iv x1, iv x2, iv x3, iv x4, iv x5, iv (1 : Int32), iv (0 : Int32), .unset, .unset, .unset, .unset]) rfl k) ?_
      refine own_go (T' := s₁) (g' := (mkF m 23 #[iv x0, iv x1, iv x2, iv x3, iv x4, iv x5, iv (1 : Int32), iv (0 : Int32), .unset, .unset, .unset, .unset] [(.int (1 : Int32))])) (fun t k => XS.iload X0.here hx rfl (hb hby at_21) rfl k) ?_
      obtain ⟨T219, h219, k219, X219, e219, E219, A219, st219⟩ := newP X0 hx hZ (hw _ (List.mem_of_getElem? (i := 1) rfl)) e0 (g := (mkF m 23 #[iv x0, iv x1, iv x2, iv x3, iv x4, iv x5, iv (1 : Int32), iv (0 : Int32), .unset, .unset, .unset, .unset] [(.int (1 : Int32))])) rfl (hb hby at_23) rfl (by decide) (cap := 1) (by decide) (by decide) (by decide) (by decide)
      obtain ⟨b219, g219⟩ : ∃ z, z = h0.size := ⟨_, rfl⟩
      rw [← g219] at A219 st219
      have gn219 : n0 ≤ b219 := Nat.le_trans Z0 (Nat.le_of_eq g219.symm)
      have hz219 : n0 ≤ h219.size := Nat.le_trans Z0 E219.1
      have V219 : Arv Z h219 b219 k219 .int (1 : Int32) [(.int (0 : Int32))] (.int (0 : Int32)) := (Arv.new A219 (by decide)).pad (pad_rep [] (.int (0 : Int32)) 1)
      refine own_go (T' := T219) (g' := (mkF m 25 #[iv x0, iv x1, iv x2, iv x3, iv x4, iv x5, iv (1 : Int32), iv (0 : Int32), .unset, .unset, .unset, .unset] [(.ref b219)])) (st219) ?_
      refine own_go (T' := T219) (g' := (mkF m 27 #[iv x0, iv x1, iv x2, iv x3, iv x4, iv x5, iv (1 : Int32), iv (0 : Int32), rv b219, .unset, .unset, .unset] [])) (fun t k => XS.astore X219.here hx rfl (hb hby at_25) rfl rfl (l' := #[iv x0, iv x1, iv x2, iv x3, iv x4, iv x5, iv (1 : Int32), iv (0 : Int32), rv b219, .unset, .unset, .unset]) rfl k) ?_
      refine own_go (T' := T219) (g' := (mkF m 29 #[iv x0, iv x1, iv x2, iv x3, iv x4, iv x5, iv (1 : Int32), iv (0 : Int32), rv b219, .unset, .unset, .unset] [(.int (1 : Int32))])) (fun t k => XS.iload X219.here hx rfl (hb hby at_27) rfl k) ?_
      refine own_go (T' := T219) (g' := (mkF m 32 #[iv x0, iv x1, iv x2, iv x3, iv x4, iv x5, iv (1 : Int32), iv (0 : Int32), rv b219, .unset, .unset, .unset] [])) (fun t k => XS.ifNo X219.here hx rfl (hb hby at_29) rfl ((if0 _ _).trans (tlt (by decide : ((0 : Int32) < (1 : Int32)))).2.2.2) k) ?_
      refine own_go (T' := T219) (g' := (mkF m 34 #[iv x0, iv x1, iv x2, iv x3, iv x4, iv x5, iv (1 : Int32), iv (0 : Int32), rv b219, .unset, .unset, .unset] [(.ref b219)])) (fun t k => XS.aload X219.here hx rfl (hb hby at_32) rfl rfl k) ?_
      refine own_go (T' := T219) (g' := (mkF m 35 #[iv x0, iv x1, iv x2, iv x3, iv x4, iv x5, iv (1 : Int32), iv (0 : Int32), rv b219, .unset, .unset, .unset] [(.int (0 : Int32)), (.ref b219)])) (fun t k => XS.iconst X219.here hx rfl (hb hby at_34) k) ?_
      refine own_go (T' := T219) (g' := (mkF m 36 #[iv x0, iv x1, iv x2, iv x3, iv x4, iv x5, iv (1 : Int32), iv (0 : Int32), rv b219, .unset, .unset, .unset] [(.int x0), (.int (0 : Int32)), (.ref b219)])) (fun t k => XS.iloadN X219.here hx rfl (hb hby at_35) rfl k) ?_
      obtain ⟨cl220, Ar220, q220, Sz220, Nn220, Ha220, Ga220⟩ := id V219
      have hin220 : ¬ ((0 : Int32) < 0 ∨ cl220.slots.size ≤ ((0 : Int32)).toNatClampNeg) := inb_of Sz220 ⟨by decide, by decide⟩
      obtain ⟨T220, h220, X220, e220, W220, st220⟩ := stI X219 hx hZ e219 Ar220 (j := (0 : Int32)) hin220 (g := (mkF m 36 #[iv x0, iv x1, iv x2, iv x3, iv x4, iv x5, iv (1 : Int32), iv (0 : Int32), rv b219, .unset, .unset, .unset] [(.int x0), (.int (0 : Int32)), (.ref b219)])) rfl rfl (hb hby at_36)
      have hz220 : n0 ≤ h220.size := Nat.le_trans hz219 (Keep.of_wr W220).1
      have N220 := Fr.snoc X220 N0 gn219
      have V220 : Arv Z h220 b219 k219 .int (1 : Int32) [(.int x0)] (.int (0 : Int32)) := Arv.set Ar220 q220 Sz220 Nn220 Ha220 Ga220 rfl W220 0 rfl (Nat.le_of_ble_eq_true rfl)
      refine own_go (T' := T220) (g' := (mkF m 37 #[iv x0, iv x1, iv x2, iv x3, iv x4, iv x5, iv (1 : Int32), iv (0 : Int32), rv b219, .unset, .unset, .unset] [])) (st220) ?_
      refine own_go (T' := T220) (g' := (mkF m 39 #[iv x0, iv x1, iv x2, iv x3, iv x4, iv x5, iv (1 : Int32), iv (0 : Int32), rv b219, .unset, .unset, .unset] [(.int (1 : Int32))])) (fun t k => XS.iload X220.here hx rfl (hb hby at_37) rfl k) ?_
      refine own_go (T' := T220) (g' := (mkF m 40 #[iv x0, iv x1, iv x2, iv x3, iv x4, iv x5, iv (1 : Int32), iv (0 : Int32), rv b219, .unset, .unset, .unset] [(.int (1 : Int32)), (.int (1 : Int32))])) (fun t k => XS.iconst X220.here hx rfl (hb hby at_39) k) ?_
      refine own_go (T' := T220) (g' := (mkF m 48 #[iv x0, iv x1, iv x2, iv x3, iv x4, iv x5, iv (1 : Int32), iv (0 : Int32), rv b219, .unset, .unset, .unset] [])) (fun t k => XS.icmpYes X220.here hx rfl (pc0 := 40) (pc' := 48) rfl (hb hby at_40) rfl (flt (by decide : ¬ ((1 : Int32) < (1 : Int32)))).2.2.2 (by decide) (by decide) k) ?_
      refine own_go (T' := T220) (g' := (mkF m 50 #[iv x0, iv x1, iv x2, iv x3, iv x4, iv x5, iv (1 : Int32), iv (0 : Int32), rv b219, .unset, .unset, .unset] [(.int (1 : Int32))])) (fun t k => XS.iload X220.here hx rfl (hb hby at_48) rfl k) ?_
      refine own_go (T' := T220) (g' := (mkF m 51 #[iv x0, iv x1, iv x2, iv x3, iv x4, iv x5, iv (1 : Int32), iv (0 : Int32), rv b219, .unset, .unset, .unset] [(.int (2 : Int32)), (.int (1 : Int32))])) (fun t k => XS.iconst X220.here hx rfl (hb hby at_50) k) ?_
      refine own_go (T' := T220) (g' := (mkF m 59 #[iv x0, iv x1, iv x2, iv x3, iv x4, iv x5, iv (1 : Int32), iv (0 : Int32), rv b219, .unset, .unset, .unset] [])) (fun t k => XS.icmpYes X220.here hx rfl (pc0 := 51) (pc' := 59) rfl (hb hby at_51) rfl (flt (by decide : ¬ ((2 : Int32) < (1 : Int32)))).2.2.2 (by decide) (by decide) k) ?_
      refine own_go (T' := T220) (g' := (mkF m 61 #[iv x0, iv x1, iv x2, iv x3, iv x4, iv x5, iv (1 : Int32), iv (0 : Int32), rv b219, .unset, .unset, .unset] [(.ref b219)])) (fun t k => XS.aload X220.here hx rfl (hb hby at_59) rfl rfl k) ?_
      refine own_go (T' := T220) (g' := (mkF m 63 #[iv x0, iv x1, iv x2, iv x3, iv x4, iv x5, iv (1 : Int32), iv (0 : Int32), rv b219, .unset, .unset, .unset] [(.int (0 : Int32)), (.ref b219)])) (fun t k => XS.iload X220.here hx rfl (hb hby at_61) rfl k) ?_
      refine own_go (T' := T220) (g' := (mkF m 64 #[iv x0, iv x1, iv x2, iv x3, iv x4, iv x5, iv (1 : Int32), iv (0 : Int32), rv b219, .unset, .unset, .unset] [(.int x3), (.int (0 : Int32)), (.ref b219)])) (fun t k => XS.iloadN X220.here hx rfl (hb hby at_63) rfl k) ?_
      obtain ⟨_, _, ⟨T222, L222, k222, n222⟩, -, X222, ⟨Lc222, hQ222, l222, y222, z222⟩, st222⟩ := Jvm.LawKit.callS X220 hx (y := (⟨"com/example/tankroute/tankroute/solve/Solution$Tour", "withStop", "([III)[I"⟩ : MethodName)) hown (mvT hZ (hw _ (List.mem_of_getElem? (i := 2) rfl))) (mvT hZ (hw _ (List.mem_of_getElem? (i := 3) rfl))) (mvT hZ (hw _ (List.mem_of_getElem? (i := 4) rfl))) (mvT hZ (hw _ (List.mem_of_getElem? (i := 5) rfl))) (by decide) (backOf (W := 0) (own_ws_1_0 l Z a0 hw [] x0 x3 b219 k219 h220 n0 hz220 V220) hZ (hw _ (List.mem_of_getElem? (i := 5) rfl)) (hw _ (List.mem_of_getElem? (i := 4) rfl)) (by decide) (by decide)) (g := (mkF m 64 #[iv x0, iv x1, iv x2, iv x3, iv x4, iv x5, iv (1 : Int32), iv (0 : Int32), rv b219, .unset, .unset, .unset] [(.int x3), (.int (0 : Int32)), (.ref b219)])) rfl (by rw [hml]; rfl) (argsL := [(.ref b219), (.int (0 : Int32)), (.int x3)]) (rest := []) (lenOf own_pd0 rfl) rfl (by show 2 * 0 + _ ≤ _; exact Nat.le_of_eq rfl) (hb hby at_64) (fun _ _ => ⟨rfl, e220, (by decide : 1 + 1 ≤ _), (by decide : 1 + 2 ≤ _)⟩)
      dsimp only [Pt.U, Pt.locs, Pt.cells, Pt.slots] at X222 l222 y222 z222 st222 hQ222
      subst l222 y222 z222
      obtain ⟨b_222, k_222, rfl, N222q, ob_222, K_222, V_222⟩ := hQ222
      have N222 := Fr.app N220 N222q
      have nq222 : b219 ≠ b_222 := Nat.ne_of_lt (Nat.lt_of_lt_of_le V220.lt ob_222)
      have gq222 : n0 ≤ b_222 := Nat.le_trans hz220 ob_222
      have c224 := V220.keep K_222 nin0
      have hz222 : n0 ≤ T222.heap.size := Nat.le_trans hz220 K_222.1
      refine own_go (T' := T222) (g' := (mkF m 67 #[iv x0, iv x1, iv x2, iv x3, iv x4, iv x5, iv (1 : Int32), iv (0 : Int32), rv b219, .unset, .unset, .unset] [(.ref b_222)])) (st222) ?_
      refine own_go (T' := T222) (g' := (mkF m 69 #[iv x0, iv x1, iv x2, iv x3, iv x4, iv x5, iv (1 : Int32), iv (0 : Int32), rv b219, rv b_222, .unset, .unset] [])) (fun t k => XS.astore X222.here hx rfl (hb hby at_67) rfl rfl (l' := #[iv x0, iv x1, iv x2, iv x3, iv x4, iv x5, iv (1 : Int32), iv (0 : Int32), rv b219, rv b_222, .unset, .unset]) rfl k) ?_
      refine own_go (T' := T222) (g' := (mkF m 71 #[iv x0, iv x1, iv x2, iv x3, iv x4, iv x5, iv (1 : Int32), iv (0 : Int32), rv b219, rv b_222, .unset, .unset] [(.ref b_222)])) (fun t k => XS.aload X222.here hx rfl (hb hby at_69) rfl rfl k) ?_
      refine own_go (T' := T222) (g' := (mkF m 74 #[iv x0, iv x1, iv x2, iv x3, iv x4, iv x5, iv (1 : Int32), iv (0 : Int32), rv b219, rv b_222, .unset, .unset] [])) (fun t k => XS.ifnullNo X222.here hx rfl (hb hby at_71) rfl k) ?_
      refine own_go (T' := T222) (g' := (mkF m 76 #[iv x0, iv x1, iv x2, iv x3, iv x4, iv x5, iv (1 : Int32), iv (0 : Int32), rv b219, rv b_222, .unset, .unset] [(.ref b_222)])) (fun t k => XS.aload X222.here hx rfl (hb hby at_74) rfl rfl k) ?_
      refine own_go (T' := T222) (g' := (mkF m 78 #[iv x0, iv x1, iv x2, iv x3, iv x4, iv x5, iv (1 : Int32), iv (0 : Int32), rv b219, rv b_222, .unset, .unset] [(.ref b219), (.ref b_222)])) (fun t k => XS.aload X222.here hx rfl (hb hby at_76) rfl rfl k) ?_
      refine own_go (T' := T222) (g' := (mkF m 81 #[iv x0, iv x1, iv x2, iv x3, iv x4, iv x5, iv (1 : Int32), iv (0 : Int32), rv b219, rv b_222, .unset, .unset] [])) (fun t k => Jvm.RoadKit.acmp (g := (mkF m 78 #[iv x0, iv x1, iv x2, iv x3, iv x4, iv x5, iv (1 : Int32), iv (0 : Int32), rv b219, rv b_222, .unset, .unset] [(.ref b219), (.ref b_222)])) X222 hx rfl (x := (.ref b_222)) (y := (.ref b219)) rfl rfl (pc0 := 78) (pc' := 81) (same := false) rfl (hb hby at_78) rfl (decide_eq_false fun q => (Ne.symm nq222) (Value.ref.inj q)) (by decide) (by decide) k) ?_
      refine own_go (T' := T222) (g' := (mkF m 83 #[iv x0, iv x1, iv x2, iv x3, iv x4, iv x5, iv (1 : Int32), iv (0 : Int32), rv b219, rv b_222, .unset, .unset] [(.ref b_222)])) (fun t k => XS.aload X222.here hx rfl (hb hby at_81) rfl rfl k) ?_
      obtain ⟨cl225, Ar225, -, Sz225, Nn225, -, -⟩ := id V_222
      refine own_go (T' := T222) (g' := (mkF m 84 #[iv x0, iv x1, iv x2, iv x3, iv x4, iv x5, iv (1 : Int32), iv (0 : Int32), rv b219, rv b_222, .unset, .unset] [(.int (2 : Int32))])) (fun t k => X222.arraylength hx (by exact Ar225.1) (State.isArrayOf_alike hZ.alike Ar225.2.1) (g := (mkF m 83 #[iv x0, iv x1, iv x2, iv x3, iv x4, iv x5, iv (1 : Int32), iv (0 : Int32), rv b219, rv b_222, .unset, .unset] [(.ref b_222)])) rfl rfl (hb hby at_83) _ (by rw [len_of Sz225 Nn225]; exact k)) ?_
      refine own_go (T' := T222) (g' := (mkF m 86 #[iv x0, iv x1, iv x2, iv x3, iv x4, iv x5, iv (1 : Int32), iv (0 : Int32), rv b219, rv b_222, .unset, .unset] [(.int (1 : Int32)), (.int (2 : Int32))])) (fun t k => XS.iload X222.here hx rfl (hb hby at_84) rfl k) ?_
      refine own_go (T' := T222) (g' := (mkF m 87 #[iv x0, iv x1, iv x2, iv x3, iv x4, iv x5, iv (1 : Int32), iv (0 : Int32), rv b219, rv b_222, .unset, .unset] [(.int (1 : Int32)), (.int (1 : Int32)), (.int (2 : Int32))])) (fun t k => XS.iconst X222.here hx rfl (hb hby at_86) k) ?_
      refine own_go (T' := T222) (g' := (mkF m 88 #[iv x0, iv x1, iv x2, iv x3, iv x4, iv x5, iv (1 : Int32), iv (0 : Int32), rv b219, rv b_222, .unset, .unset] [(.int (2 : Int32)), (.int (2 : Int32))])) (fun t k => XS.iadd X222.here hx rfl (hb hby at_87) rfl k) ?_
      refine own_go (T' := T222) (g' := (mkF m 93 #[iv x0, iv x1, iv x2, iv x3, iv x4, iv x5, iv (1 : Int32), iv (0 : Int32), rv b219, rv b_222, .unset, .unset] [])) (fun t k => XS.icmpYes X222.here hx rfl (pc0 := 88) (pc' := 93) rfl (hb hby at_88) rfl (teq (by decide : ((2 : Int32) = (2 : Int32)))).1 (by decide) (by decide) k) ?_
      refine own_go (T' := T222) (g' := (mkF m 95 #[iv x0, iv x1, iv x2, iv x3, iv x4, iv x5, iv (1 : Int32), iv (0 : Int32), rv b219, rv b_222, .unset, .unset] [(.ref b_222)])) (fun t k => XS.aload X222.here hx rfl (hb hby at_93) rfl rfl k) ?_
      refine own_go (T' := T222) (g' := (mkF m 97 #[iv x0, iv x1, iv x2, iv x3, iv x4, iv x5, iv (1 : Int32), iv (0 : Int32), rv b219, rv b_222, .unset, .unset] [(.ref b219), (.ref b_222)])) (fun t k => XS.aload X222.here hx rfl (hb hby at_95) rfl rfl k) ?_
      refine own_go (T' := T222) (g' := (mkF m 99 #[iv x0, iv x1, iv x2, iv x3, iv x4, iv x5, iv (1 : Int32), iv (0 : Int32), rv b219, rv b_222, .unset, .unset] [(.int (0 : Int32)), (.ref b219), (.ref b_222)])) (fun t k => XS.iload X222.here hx rfl (hb hby at_97) rfl k) ?_
      refine own_go (T' := T222) (g' := (mkF m 100 #[iv x0, iv x1, iv x2, iv x3, iv x4, iv x5, iv (1 : Int32), iv (0 : Int32), rv b219, rv b_222, .unset, .unset] [(.int x3), (.int (0 : Int32)), (.ref b219), (.ref b_222)])) (fun t k => XS.iloadN X222.here hx rfl (hb hby at_99) rfl k) ?_
      refine own_go (T' := T222) (g' := (mkF m 101 #[iv x0, iv x1, iv x2, iv x3, iv x4, iv x5, iv (1 : Int32), iv (0 : Int32), rv b219, rv b_222, .unset, .unset] [(.int (0 : Int32)), (.int x3), (.int (0 : Int32)), (.ref b219), (.ref b_222)])) (fun t k => XS.iconst X222.here hx rfl (hb hby at_100) k) ?_
      obtain ⟨_, _, ⟨T226, L226, k226, n226⟩, -, X226, ⟨Lc226, hQ226, l226, y226, z226⟩, st226⟩ := Jvm.LawKit.callS X222 hx (y := (⟨"com/example/tankroute/tankroute/solve/TourWithStopPinLaw", "slot", "([I[IIII)Z"⟩ : MethodName)) hown (mvT hZ (hw _ (List.mem_of_getElem? (i := 10) rfl))) (mvT hZ (hw _ (List.mem_of_getElem? (i := 11) rfl))) (mvT hZ (hw _ (List.mem_of_getElem? (i := 12) rfl))) (mvT hZ (hw _ (List.mem_of_getElem? (i := 13) rfl))) (by decide) (backOf (W := 0) (own_slotC l Z a0 hw [] b_222 b219 k_222 k219 (2 : Int32) (1 : Int32) (0 : Int32)  (0 : Int32) x3 [(.int x3), (.int x0)] [(.int x0)] T222.heap n0 hz222 V_222 c224 (by decide) (by decide) rfl (by decide) rfl) hZ (hw _ (List.mem_of_getElem? (i := 13) rfl)) (hw _ (List.mem_of_getElem? (i := 12) rfl)) (by decide) (by decide)) (g := (mkF m 101 #[iv x0, iv x1, iv x2, iv x3, iv x4, iv x5, iv (1 : Int32), iv (0 : Int32), rv b219, rv b_222, .unset, .unset] [(.int (0 : Int32)), (.int x3), (.int (0 : Int32)), (.ref b219), (.ref b_222)])) rfl (by rw [hml]; rfl) (argsL := [(.ref b_222), (.ref b219), (.int (0 : Int32)), (.int x3), (.int (0 : Int32))]) (rest := []) (lenOf own_pd1 rfl) rfl (by show 2 * 0 + _ ≤ _; exact Nat.le_of_eq rfl) (hb hby at_101) (fun _ _ => ⟨rfl, rfl, (by decide : 2 + 0 ≤ _), (by decide : 3 + 0 ≤ _)⟩)
      dsimp only [Pt.U, Pt.locs, Pt.cells, Pt.slots] at X226 l226 y226 z226 st226 hQ226
      subst l226 y226 z226
      obtain ⟨rfl, rfl, e226⟩ := hQ226
      have E226q : T226.heap = T222.heap := e226
      have N226 := Fr.app N222 (Fr.nil n0)
      refine own_go (T' := T226) (g' := (mkF m 104 #[iv x0, iv x1, iv x2, iv x3, iv x4, iv x5, iv (1 : Int32), iv (0 : Int32), rv b219, rv b_222, .unset, .unset] [(.int (1 : Int32))])) (st226) ?_
      refine own_go (T' := T226) (g' := (mkF m 107 #[iv x0, iv x1, iv x2, iv x3, iv x4, iv x5, iv (1 : Int32), iv (0 : Int32), rv b219, rv b_222, .unset, .unset] [])) (fun t k => XS.ifNo X226.here hx rfl (hb hby at_104) rfl ((if0 _ _).trans (feq (by decide : ¬ ((1 : Int32) = (0 : Int32)))).1) k) ?_
      refine own_go (T' := T226) (g' := (mkF m 109 #[iv x0, iv x1, iv x2, iv x3, iv x4, iv x5, iv (1 : Int32), iv (0 : Int32), rv b219, rv b_222, .unset, .unset] [(.ref b_222)])) (fun t k => XS.aload X226.here hx rfl (hb hby at_107) rfl rfl k) ?_
      refine own_go (T' := T226) (g' := (mkF m 111 #[iv x0, iv x1, iv x2, iv x3, iv x4, iv x5, iv (1 : Int32), iv (0 : Int32), rv b219, rv b_222, .unset, .unset] [(.ref b219), (.ref b_222)])) (fun t k => XS.aload X226.here hx rfl (hb hby at_109) rfl rfl k) ?_
      refine own_go (T' := T226) (g' := (mkF m 113 #[iv x0, iv x1, iv x2, iv x3, iv x4, iv x5, iv (1 : Int32), iv (0 : Int32), rv b219, rv b_222, .unset, .unset] [(.int (0 : Int32)), (.ref b219), (.ref b_222)])) (fun t k => XS.iload X226.here hx rfl (hb hby at_111) rfl k) ?_
      refine own_go (T' := T226) (g' := (mkF m 114 #[iv x0, iv x1, iv x2, iv x3, iv x4, iv x5, iv (1 : Int32), iv (0 : Int32), rv b219, rv b_222, .unset, .unset] [(.int x3), (.int (0 : Int32)), (.ref b219), (.ref b_222)])) (fun t k => XS.iloadN X226.here hx rfl (hb hby at_113) rfl k) ?_
      refine own_go (T' := T226) (g' := (mkF m 115 #[iv x0, iv x1, iv x2, iv x3, iv x4, iv x5, iv (1 : Int32), iv (0 : Int32), rv b219, rv b_222, .unset, .unset] [(.int (1 : Int32)), (.int x3), (.int (0 : Int32)), (.ref b219), (.ref b_222)])) (fun t k => XS.iconst X226.here hx rfl (hb hby at_114) k) ?_
      obtain ⟨_, _, ⟨T227, L227, k227, n227⟩, -, X227, ⟨Lc227, hQ227, l227, y227, z227⟩, st227⟩ := Jvm.LawKit.callS X226 hx (y := (⟨"com/example/tankroute/tankroute/solve/TourWithStopPinLaw", "slot", "([I[IIII)Z"⟩ : MethodName)) hown (mvT hZ (hw _ (List.mem_of_getElem? (i := 10) rfl))) (mvT hZ (hw _ (List.mem_of_getElem? (i := 11) rfl))) (mvT hZ (hw _ (List.mem_of_getElem? (i := 12) rfl))) (mvT hZ (hw _ (List.mem_of_getElem? (i := 13) rfl))) (by decide) (backOf (W := 0) (own_slotD l Z a0 hw [] b_222 b219 k_222 k219 (2 : Int32) (1 : Int32) (0 : Int32) x3 (1 : Int32) x0 [(.int x3), (.int x0)] [(.int x0)] T222.heap n0 hz222 V_222 c224 (by decide) (by decide) (by decide) (by decide) (by decide) (by decide) rfl rfl) hZ (hw _ (List.mem_of_getElem? (i := 13) rfl)) (hw _ (List.mem_of_getElem? (i := 12) rfl)) (by decide) (by decide)) (g := (mkF m 115 #[iv x0, iv x1, iv x2, iv x3, iv x4, iv x5, iv (1 : Int32), iv (0 : Int32), rv b219, rv b_222, .unset, .unset] [(.int (1 : Int32)), (.int x3), (.int (0 : Int32)), (.ref b219), (.ref b_222)])) rfl (by rw [hml]; rfl) (argsL := [(.ref b_222), (.ref b219), (.int (0 : Int32)), (.int x3), (.int (1 : Int32))]) (rest := []) (lenOf own_pd1 rfl) rfl (by show 2 * 0 + _ ≤ _; exact Nat.le_of_eq rfl) (hb hby at_115) (fun _ _ => ⟨rfl, E226q, (by decide : 2 + 0 ≤ _), (by decide : 3 + 0 ≤ _)⟩)
      dsimp only [Pt.U, Pt.locs, Pt.cells, Pt.slots] at X227 l227 y227 z227 st227 hQ227
      subst l227 y227 z227
      obtain ⟨rfl, rfl, e227⟩ := hQ227
      have E227q : T227.heap = T222.heap := e227
      have N227 := Fr.app N226 (Fr.nil n0)
      refine own_go (T' := T227) (g' := (mkF m 118 #[iv x0, iv x1, iv x2, iv x3, iv x4, iv x5, iv (1 : Int32), iv (0 : Int32), rv b219, rv b_222, .unset, .unset] [(.int (1 : Int32))])) (st227) ?_
      refine own_go (T' := T227) (g' := (mkF m 121 #[iv x0, iv x1, iv x2, iv x3, iv x4, iv x5, iv (1 : Int32), iv (0 : Int32), rv b219, rv b_222, .unset, .unset] [])) (fun t k => XS.ifNo X227.here hx rfl (hb hby at_118) rfl ((if0 _ _).trans (feq (by decide : ¬ ((1 : Int32) = (0 : Int32)))).1) k) ?_
      refine own_go (T' := T227) (g' := (mkF m 123 #[iv x0, iv x1, iv x2, iv x3, iv x4, iv x5, iv (1 : Int32), iv (0 : Int32), rv b219, rv b_222, .unset, .unset] [(.ref b_222)])) (fun t k => XS.aload X227.here hx rfl (hb hby at_121) rfl rfl k) ?_
      refine own_go (T' := T227) (g' := (mkF m 125 #[iv x0, iv x1, iv x2, iv x3, iv x4, iv x5, iv (1 : Int32), iv (0 : Int32), rv b219, rv b_222, .unset, .unset] [(.ref b219), (.ref b_222)])) (fun t k => XS.aload X227.here hx rfl (hb hby at_123) rfl rfl k) ?_
      refine own_go (T' := T227) (g' := (mkF m 127 #[iv x0, iv x1, iv x2, iv x3, iv x4, iv x5, iv (1 : Int32), iv (0 : Int32), rv b219, rv b_222, .unset, .unset] [(.int (0 : Int32)), (.ref b219), (.ref b_222)])) (fun t k => XS.iload X227.here hx rfl (hb hby at_125) rfl k) ?_
      refine own_go (T' := T227) (g' := (mkF m 128 #[iv x0, iv x1, iv x2, iv x3, iv x4, iv x5, iv (1 : Int32), iv (0 : Int32), rv b219, rv b_222, .unset, .unset] [(.int x3), (.int (0 : Int32)), (.ref b219), (.ref b_222)])) (fun t k => XS.iloadN X227.here hx rfl (hb hby at_127) rfl k) ?_
      refine own_go (T' := T227) (g' := (mkF m 129 #[iv x0, iv x1, iv x2, iv x3, iv x4, iv x5, iv (1 : Int32), iv (0 : Int32), rv b219, rv b_222, .unset, .unset] [(.int (2 : Int32)), (.int x3), (.int (0 : Int32)), (.ref b219), (.ref b_222)])) (fun t k => XS.iconst X227.here hx rfl (hb hby at_128) k) ?_
      obtain ⟨_, _, ⟨T228, L228, k228, n228⟩, -, X228, ⟨Lc228, hQ228, l228, y228, z228⟩, st228⟩ := Jvm.LawKit.callS X227 hx (y := (⟨"com/example/tankroute/tankroute/solve/TourWithStopPinLaw", "slot", "([I[IIII)Z"⟩ : MethodName)) hown (mvT hZ (hw _ (List.mem_of_getElem? (i := 10) rfl))) (mvT hZ (hw _ (List.mem_of_getElem? (i := 11) rfl))) (mvT hZ (hw _ (List.mem_of_getElem? (i := 12) rfl))) (mvT hZ (hw _ (List.mem_of_getElem? (i := 13) rfl))) (by decide) (backOf (W := 0) (own_slotA l Z a0 hw [] b_222 b219 k_222 k219 (2 : Int32) (1 : Int32) (0 : Int32) x3 (2 : Int32) 0 [(.int x3), (.int x0)] [(.int x0)] T222.heap n0 hz222 V_222 c224 (by decide)) hZ (hw _ (List.mem_of_getElem? (i := 13) rfl)) (hw _ (List.mem_of_getElem? (i := 12) rfl)) (by decide) (by decide)) (g := (mkF m 129 #[iv x0, iv x1, iv x2, iv x3, iv x4, iv x5, iv (1 : Int32), iv (0 : Int32), rv b219, rv b_222, .unset, .unset] [(.int (2 : Int32)), (.int x3), (.int (0 : Int32)), (.ref b219), (.ref b_222)])) rfl (by rw [hml]; rfl) (argsL := [(.ref b_222), (.ref b219), (.int (0 : Int32)), (.int x3), (.int (2 : Int32))]) (rest := []) (lenOf own_pd1 rfl) rfl (by show 2 * 0 + _ ≤ _; exact Nat.le_of_eq rfl) (hb hby at_129) (fun _ _ => ⟨rfl, E227q, (by decide : 2 + 0 ≤ _), (by decide : 3 + 0 ≤ _)⟩)
      dsimp only [Pt.U, Pt.locs, Pt.cells, Pt.slots] at X228 l228 y228 z228 st228 hQ228
      subst l228 y228 z228
      obtain ⟨rfl, rfl, e228⟩ := hQ228
      have E228q : T228.heap = T222.heap := e228
      have N228 := Fr.app N227 (Fr.nil n0)
      refine own_go (T' := T228) (g' := (mkF m 132 #[iv x0, iv x1, iv x2, iv x3, iv x4, iv x5, iv (1 : Int32), iv (0 : Int32), rv b219, rv b_222, .unset, .unset] [(.int (1 : Int32))])) (st228) ?_
      refine own_go (T' := T228) (g' := (mkF m 135 #[iv x0, iv x1, iv x2, iv x3, iv x4, iv x5, iv (1 : Int32), iv (0 : Int32), rv b219, rv b_222, .unset, .unset] [])) (fun t k => XS.ifNo X228.here hx rfl (hb hby at_132) rfl ((if0 _ _).trans (feq (by decide : ¬ ((1 : Int32) = (0 : Int32)))).1) k) ?_
      refine own_go (T' := T228) (g' := (mkF m 137 #[iv x0, iv x1, iv x2, iv x3, iv x4, iv x5, iv (1 : Int32), iv (0 : Int32), rv b219, rv b_222, .unset, .unset] [(.ref b_222)])) (fun t k => XS.aload X228.here hx rfl (hb hby at_135) rfl rfl k) ?_
      refine own_go (T' := T228) (g' := (mkF m 139 #[iv x0, iv x1, iv x2, iv x3, iv x4, iv x5, iv (1 : Int32), iv (0 : Int32), rv b219, rv b_222, .unset, .unset] [(.ref b219), (.ref b_222)])) (fun t k => XS.aload X228.here hx rfl (hb hby at_137) rfl rfl k) ?_
      refine own_go (T' := T228) (g' := (mkF m 141 #[iv x0, iv x1, iv x2, iv x3, iv x4, iv x5, iv (1 : Int32), iv (0 : Int32), rv b219, rv b_222, .unset, .unset] [(.int (0 : Int32)), (.ref b219), (.ref b_222)])) (fun t k => XS.iload X228.here hx rfl (hb hby at_139) rfl k) ?_
      refine own_go (T' := T228) (g' := (mkF m 142 #[iv x0, iv x1, iv x2, iv x3, iv x4, iv x5, iv (1 : Int32), iv (0 : Int32), rv b219, rv b_222, .unset, .unset] [(.int x3), (.int (0 : Int32)), (.ref b219), (.ref b_222)])) (fun t k => XS.iloadN X228.here hx rfl (hb hby at_141) rfl k) ?_
      refine own_go (T' := T228) (g' := (mkF m 143 #[iv x0, iv x1, iv x2, iv x3, iv x4, iv x5, iv (1 : Int32), iv (0 : Int32), rv b219, rv b_222, .unset, .unset] [(.int (3 : Int32)), (.int x3), (.int (0 : Int32)), (.ref b219), (.ref b_222)])) (fun t k => XS.iconst X228.here hx rfl (hb hby at_142) k) ?_
      obtain ⟨_, _, ⟨T229, L229, k229, n229⟩, -, X229, ⟨Lc229, hQ229, l229, y229, z229⟩, st229⟩ := Jvm.LawKit.callS X228 hx (y := (⟨"com/example/tankroute/tankroute/solve/TourWithStopPinLaw", "slot", "([I[IIII)Z"⟩ : MethodName)) hown (mvT hZ (hw _ (List.mem_of_getElem? (i := 10) rfl))) (mvT hZ (hw _ (List.mem_of_getElem? (i := 11) rfl))) (mvT hZ (hw _ (List.mem_of_getElem? (i := 12) rfl))) (mvT hZ (hw _ (List.mem_of_getElem? (i := 13) rfl))) (by decide) (backOf (W := 0) (own_slotA l Z a0 hw [] b_222 b219 k_222 k219 (2 : Int32) (1 : Int32) (0 : Int32) x3 (3 : Int32) 0 [(.int x3), (.int x0)] [(.int x0)] T222.heap n0 hz222 V_222 c224 (by decide)) hZ (hw _ (List.mem_of_getElem? (i := 13) rfl)) (hw _ (List.mem_of_getElem? (i := 12) rfl)) (by decide) (by decide)) (g := (mkF m 143 #[iv x0, iv x1, iv x2, iv x3, iv x4, iv x5, iv (1 : Int32), iv (0 : Int32), rv b219, rv b_222, .unset, .unset] [(.int (3 : Int32)), (.int x3), (.int (0 : Int32)), (.ref b219), (.ref b_222)])) rfl (by rw [hml]; rfl) (argsL := [(.ref b_222), (.ref b219), (.int (0 : Int32)), (.int x3), (.int (3 : Int32))]) (rest := []) (lenOf own_pd1 rfl) rfl (by show 2 * 0 + _ ≤ _; exact Nat.le_of_eq rfl) (hb hby at_143) (fun _ _ => ⟨rfl, E228q, (by decide : 2 + 0 ≤ _), (by decide : 3 + 0 ≤ _)⟩)
      dsimp only [Pt.U, Pt.locs, Pt.cells, Pt.slots] at X229 l229 y229 z229 st229 hQ229
      subst l229 y229 z229
      obtain ⟨rfl, rfl, e229⟩ := hQ229
      have E229q : T229.heap = T222.heap := e229
      have N229 := Fr.app N228 (Fr.nil n0)
      refine own_go (T' := T229) (g' := (mkF m 146 #[iv x0, iv x1, iv x2, iv x3, iv x4, iv x5, iv (1 : Int32), iv (0 : Int32), rv b219, rv b_222, .unset, .unset] [(.int (1 : Int32))])) (st229) ?_
      refine own_go (T' := T229) (g' := (mkF m 149 #[iv x0, iv x1, iv x2, iv x3, iv x4, iv x5, iv (1 : Int32), iv (0 : Int32), rv b219, rv b_222, .unset, .unset] [])) (fun t k => XS.ifNo X229.here hx rfl (hb hby at_146) rfl ((if0 _ _).trans (feq (by decide : ¬ ((1 : Int32) = (0 : Int32)))).1) k) ?_
      refine own_go (T' := T229) (g' := (mkF m 150 #[iv x0, iv x1, iv x2, iv x3, iv x4, iv x5, iv (1 : Int32), iv (0 : Int32), rv b219, rv b_222, .unset, .unset] [(.int (1 : Int32))])) (fun t k => XS.iconst X229.here hx rfl (hb hby at_149) k) ?_
      refine own_go (T' := T229) (g' := (mkF m 154 #[iv x0, iv x1, iv x2, iv x3, iv x4, iv x5, iv (1 : Int32), iv (0 : Int32), rv b219, rv b_222, .unset, .unset] [(.int (1 : Int32))])) (fun t k => XS.goto X229.here hx rfl (pc0 := 150) (pc' := 154) rfl (hb hby at_150) (by decide) (by decide) k) ?_
      refine own_go (T' := T229) (g' := (mkF m 156 #[iv x0, iv x1, iv x2, iv x3, iv x4, iv x5, iv (1 : Int32), iv (0 : Int32), rv b219, rv b_222, iv (1 : Int32), .unset] [])) (fun t k => XS.istore X229.here hx rfl (hb hby at_154) rfl (l' := #[iv x0, iv x1, iv x2, iv x3, iv x4, iv x5, iv (1 : Int32), iv (0 : Int32), rv b219, rv b_222, iv (1 : Int32), .unset]) rfl k) ?_
      refine own_go (T' := T229) (g' := (mkF m 158 #[iv x0, iv x1, iv x2, iv x3, iv x4, iv x5, iv (1 : Int32), iv (0 : Int32), rv b219, rv b_222, iv (1 : Int32), .unset] [(.int (1 : Int32))])) (fun t k => XS.iload X229.here hx rfl (hb hby at_156) rfl k) ?_
      refine own_go (T' := T229) (g' := (mkF m 159 #[iv x0, iv x1, iv x2, iv x3, iv x4, iv x5, iv (1 : Int32), iv (0 : Int32), rv b219, rv b_222, iv (1 : Int32), .unset] [(.int (1 : Int32)), (.int (1 : Int32))])) (fun t k => XS.iconst X229.here hx rfl (hb hby at_158) k) ?_
      refine own_go (T' := T229) (g' := (mkF m 162 #[iv x0, iv x1, iv x2, iv x3, iv x4, iv x5, iv (1 : Int32), iv (0 : Int32), rv b219, rv b_222, iv (1 : Int32), .unset] [])) (fun t k => XS.icmpNo X229.here hx rfl (hb hby at_159) rfl (flt (by decide : ¬ ((1 : Int32) < (1 : Int32)))).1 k) ?_
      refine own_go (T' := T229) (g' := (mkF m 164 #[iv x0, iv x1, iv x2, iv x3, iv x4, iv x5, iv (1 : Int32), iv (0 : Int32), rv b219, rv b_222, iv (1 : Int32), .unset] [(.ref b219)])) (fun t k => XS.aload X229.here hx rfl (hb hby at_162) rfl rfl k) ?_
      refine own_go (T' := T229) (g' := (mkF m 165 #[iv x0, iv x1, iv x2, iv x3, iv x4, iv x5, iv (1 : Int32), iv (0 : Int32), rv b219, rv b_222, iv (1 : Int32), .unset] [(.int (0 : Int32)), (.ref b219)])) (fun t k => XS.iconst X229.here hx rfl (hb hby at_164) k) ?_
      obtain ⟨cl230, Ar230, -, Sz230, Nn230, Ha230, -⟩ := id c224
      have hin230 : ¬ ((0 : Int32) < 0 ∨ cl230.slots.size ≤ ((0 : Int32)).toNatClampNeg) := inb_of Sz230 ⟨by decide, by decide⟩
      have hat230 : cl230.slots[((0 : Int32)).toNatClampNeg]? = some (.int x0) := Ha230.at hin230 rfl
      refine own_go (T' := T229) (g' := (mkF m 166 #[iv x0, iv x1, iv x2, iv x3, iv x4, iv x5, iv (1 : Int32), iv (0 : Int32), rv b219, rv b_222, iv (1 : Int32), .unset] [(.int x0)])) (fun t k => X229.iaload hx (j := (0 : Int32)) (v := (.int x0)) (by rw [E229q]; exact Ar230.1) (State.isArrayOf_alike hZ.alike Ar230.2.1) Ar230.2.2 hin230 hat230 (g := (mkF m 165 #[iv x0, iv x1, iv x2, iv x3, iv x4, iv x5, iv (1 : Int32), iv (0 : Int32), rv b219, rv b_222, iv (1 : Int32), .unset] [(.int (0 : Int32)), (.ref b219)])) rfl rfl (hb hby at_165) _ k) ?_
      refine own_go (T' := T229) (g' := (mkF m 167 #[iv x0, iv x1, iv x2, iv x3, iv x4, iv x5, iv (1 : Int32), iv (0 : Int32), rv b219, rv b_222, iv (1 : Int32), .unset] [(.int x0), (.int x0)])) (fun t k => XS.iloadN X229.here hx rfl (hb hby at_166) rfl k) ?_
      refine own_go (T' := T229) (g' := (mkF m 170 #[iv x0, iv x1, iv x2, iv x3, iv x4, iv x5, iv (1 : Int32), iv (0 : Int32), rv b219, rv b_222, iv (1 : Int32), .unset] [])) (fun t k => XS.icmpNo X229.here hx rfl (hb hby at_167) rfl (teq (rfl : x0 = x0)).2 k) ?_
      refine own_go (T' := T229) (g' := (mkF m 172 #[iv x0, iv x1, iv x2, iv x3, iv x4, iv x5, iv (1 : Int32), iv (0 : Int32), rv b219, rv b_222, iv (1 : Int32), .unset] [(.int (1 : Int32))])) (fun t k => XS.iload X229.here hx rfl (hb hby at_170) rfl k) ?_
      refine own_go (T' := T229) (g' := (mkF m 173 #[iv x0, iv x1, iv x2, iv x3, iv x4, iv x5, iv (1 : Int32), iv (0 : Int32), rv b219, rv b_222, iv (1 : Int32), .unset] [(.int (2 : Int32)), (.int (1 : Int32))])) (fun t k => XS.iconst X229.here hx rfl (hb hby at_172) k) ?_
      refine own_go (T' := T229) (g' := (mkF m 184 #[iv x0, iv x1, iv x2, iv x3, iv x4, iv x5, iv (1 : Int32), iv (0 : Int32), rv b219, rv b_222, iv (1 : Int32), .unset] [])) (fun t k => XS.icmpYes X229.here hx rfl (pc0 := 173) (pc' := 184) rfl (hb hby at_173) rfl (tlt (by decide : ((1 : Int32) < (2 : Int32)))).1 (by decide) (by decide) k) ?_
      refine own_go (T' := T229) (g' := (mkF m 186 #[iv x0, iv x1, iv x2, iv x3, iv x4, iv x5, iv (1 : Int32), iv (0 : Int32), rv b219, rv b_222, iv (1 : Int32), .unset] [(.int (1 : Int32))])) (fun t k => XS.iload X229.here hx rfl (hb hby at_184) rfl k) ?_
      refine own_go (T' := T229) (g' := (mkF m 187 #[iv x0, iv x1, iv x2, iv x3, iv x4, iv x5, iv (1 : Int32), iv (0 : Int32), rv b219, rv b_222, iv (1 : Int32), .unset] [(.int (3 : Int32)), (.int (1 : Int32))])) (fun t k => XS.iconst X229.here hx rfl (hb hby at_186) k) ?_
      refine own_go (T' := T229) (g' := (mkF m 198 #[iv x0, iv x1, iv x2, iv x3, iv x4, iv x5, iv (1 : Int32), iv (0 : Int32), rv b219, rv b_222, iv (1 : Int32), .unset] [])) (fun t k => XS.icmpYes X229.here hx rfl (pc0 := 187) (pc' := 198) rfl (hb hby at_187) rfl (tlt (by decide : ((1 : Int32) < (3 : Int32)))).1 (by decide) (by decide) k) ?_
      refine own_go (T' := T229) (g' := (mkF m 199 #[iv x0, iv x1, iv x2, iv x3, iv x4, iv x5, iv (1 : Int32), iv (0 : Int32), rv b219, rv b_222, iv (1 : Int32), .unset] [(.int (1 : Int32))])) (fun t k => XS.iconst X229.here hx rfl (hb hby at_198) k) ?_
      refine own_go (T' := T229) (g' := (mkF m 203 #[iv x0, iv x1, iv x2, iv x3, iv x4, iv x5, iv (1 : Int32), iv (0 : Int32), rv b219, rv b_222, iv (1 : Int32), .unset] [(.int (1 : Int32))])) (fun t k => XS.goto X229.here hx rfl (pc0 := 199) (pc' := 203) rfl (hb hby at_199) (by decide) (by decide) k) ?_
      refine own_go (T' := T229) (g' := (mkF m 205 #[iv x0, iv x1, iv x2, iv x3, iv x4, iv x5, iv (1 : Int32), iv (0 : Int32), rv b219, rv b_222, iv (1 : Int32), iv (1 : Int32)] [])) (fun t k => XS.istore X229.here hx rfl (hb hby at_203) rfl (l' := #[iv x0, iv x1, iv x2, iv x3, iv x4, iv x5, iv (1 : Int32), iv (0 : Int32), rv b219, rv b_222, iv (1 : Int32), iv (1 : Int32)]) rfl k) ?_
      refine own_go (T' := T229) (g' := (mkF m 207 #[iv x0, iv x1, iv x2, iv x3, iv x4, iv x5, iv (1 : Int32), iv (0 : Int32), rv b219, rv b_222, iv (1 : Int32), iv (1 : Int32)] [(.int (1 : Int32))])) (fun t k => XS.iload X229.here hx rfl (hb hby at_205) rfl k) ?_
      refine own_go (T' := T229) (g' := (mkF m 210 #[iv x0, iv x1, iv x2, iv x3, iv x4, iv x5, iv (1 : Int32), iv (0 : Int32), rv b219, rv b_222, iv (1 : Int32), iv (1 : Int32)] [])) (fun t k => XS.ifNo X229.here hx rfl (hb hby at_207) rfl ((if0 _ _).trans (feq (by decide : ¬ ((1 : Int32) = (0 : Int32)))).1) k) ?_
      refine own_go (T' := T229) (g' := (mkF m 212 #[iv x0, iv x1, iv x2, iv x3, iv x4, iv x5, iv (1 : Int32), iv (0 : Int32), rv b219, rv b_222, iv (1 : Int32), iv (1 : Int32)] [(.int (1 : Int32))])) (fun t k => XS.iload X229.here hx rfl (hb hby at_210) rfl k) ?_
      refine own_go (T' := T229) (g' := (mkF m 215 #[iv x0, iv x1, iv x2, iv x3, iv x4, iv x5, iv (1 : Int32), iv (0 : Int32), rv b219, rv b_222, iv (1 : Int32), iv (1 : Int32)] [])) (fun t k => XS.ifNo X229.here hx rfl (hb hby at_212) rfl ((if0 _ _).trans (feq (by decide : ¬ ((1 : Int32) = (0 : Int32)))).1) k) ?_
      refine own_go (T' := T229) (g' := (mkF m 216 #[iv x0, iv x1, iv x2, iv x3, iv x4, iv x5, iv (1 : Int32), iv (0 : Int32), rv b219, rv b_222, iv (1 : Int32), iv (1 : Int32)] [(.int (1 : Int32))])) (fun t k => XS.iconst X229.here hx rfl (hb hby at_215) k) ?_
      refine own_go (T' := T229) (g' := (mkF m 220 #[iv x0, iv x1, iv x2, iv x3, iv x4, iv x5, iv (1 : Int32), iv (0 : Int32), rv b219, rv b_222, iv (1 : Int32), iv (1 : Int32)] [(.int (1 : Int32))])) (fun t k => XS.goto X229.here hx rfl (pc0 := 216) (pc' := 220) rfl (hb hby at_216) (by decide) (by decide) k) ?_
      exact own_ret X229 hlk hx Bd.returns rfl (Or.inl ⟨rfl, Or.inr (Or.inl rfl), _, rfl⟩) (hb hby at_220) (by first | exact ⟨rfl, N229⟩ | (rw [Fr] at *; exact ⟨rfl, by simpa using N229⟩)) (by decide) (by decide)
    · rw [ha]
      refine own_go (T' := s₁) (g' := (mkF m 21 #[iv x0, iv x1, iv x2, iv x3, iv x4, iv x5, iv (1 : Int32), iv (1 : Int32), .unset, .unset, .unset, .unset] [])) (fun t k => XS.istore X0.here hx rfl (hb hby at_19) rfl (l' := #[iv x0, iv x1, iv x2, iv x3, iv x4, iv x5, iv (1 : Int32), iv (1 : Int32), .unset, .unset, .unset, .unset]) rfl k) ?_
      refine own_go (T' := s₁) (g' := (mkF m 23 #[iv x0, iv x1, iv x2, iv x3, iv x4, iv x5, iv (1 : Int32), iv (1 : Int32), .unset, .unset, .unset, .unset] [(.int (1 : Int32))])) (fun t k => XS.iload X0.here hx rfl (hb hby at_21) rfl k) ?_
      obtain ⟨T231, h231, k231, X231, e231, E231, A231, st231⟩ := newP X0 hx hZ (hw _ (List.mem_of_getElem? (i := 1) rfl)) e0 (g := (mkF m 23 #[iv x0, iv x1, iv x2, iv x3, iv x4, iv x5, iv (1 : Int32), iv (1 : Int32), .unset, .unset, .unset, .unset] [(.int (1 : Int32))])) rfl (hb hby at_23) rfl (by decide) (cap := 1) (by decide) (by decide) (by decide) (by decide)
      obtain ⟨b231, g231⟩ : ∃ z, z = h0.size := ⟨_, rfl⟩
      rw [← g231] at A231 st231
      have gn231 : n0 ≤ b231 := Nat.le_trans Z0 (Nat.le_of_eq g231.symm)
      have hz231 : n0 ≤ h231.size := Nat.le_trans Z0 E231.1
      have V231 : Arv Z h231 b231 k231 .int (1 : Int32) [(.int (0 : Int32))] (.int (0 : Int32)) := (Arv.new A231 (by decide)).pad (pad_rep [] (.int (0 : Int32)) 1)
      refine own_go (T' := T231) (g' := (mkF m 25 #[iv x0, iv x1, iv x2, iv x3, iv x4, iv x5, iv (1 : Int32), iv (1 : Int32), .unset, .unset, .unset, .unset] [(.ref b231)])) (st231) ?_
      refine own_go (T' := T231) (g' := (mkF m 27 #[iv x0, iv x1, iv x2, iv x3, iv x4, iv x5, iv (1 : Int32), iv (1 : Int32), rv b231, .unset, .unset, .unset] [])) (fun t k => XS.astore X231.here hx rfl (hb hby at_25) rfl rfl (l' := #[iv x0, iv x1, iv x2, iv x3, iv x4, iv x5, iv (1 : Int32), iv (1 : Int32), rv b231, .unset, .unset, .unset]) rfl k) ?_
      refine own_go (T' := T231) (g' := (mkF m 29 #[iv x0, iv x1, iv x2, iv x3, iv x4, iv x5, iv (1 : Int32), iv (1 : Int32), rv b231, .unset, .unset, .unset] [(.int (1 : Int32))])) (fun t k => XS.iload X231.here hx rfl (hb hby at_27) rfl k) ?_
      refine own_go (T' := T231) (g' := (mkF m 32 #[iv x0, iv x1, iv x2, iv x3, iv x4, iv x5, iv (1 : Int32), iv (1 : Int32), rv b231, .unset, .unset, .unset] [])) (fun t k => XS.ifNo X231.here hx rfl (hb hby at_29) rfl ((if0 _ _).trans (tlt (by decide : ((0 : Int32) < (1 : Int32)))).2.2.2) k) ?_
      refine own_go (T' := T231) (g' := (mkF m 34 #[iv x0, iv x1, iv x2, iv x3, iv x4, iv x5, iv (1 : Int32), iv (1 : Int32), rv b231, .unset, .unset, .unset] [(.ref b231)])) (fun t k => XS.aload X231.here hx rfl (hb hby at_32) rfl rfl k) ?_
      refine own_go (T' := T231) (g' := (mkF m 35 #[iv x0, iv x1, iv x2, iv x3, iv x4, iv x5, iv (1 : Int32), iv (1 : Int32), rv b231, .unset, .unset, .unset] [(.int (0 : Int32)), (.ref b231)])) (fun t k => XS.iconst X231.here hx rfl (hb hby at_34) k) ?_
      refine own_go (T' := T231) (g' := (mkF m 36 #[iv x0, iv x1, iv x2, iv x3, iv x4, iv x5, iv (1 : Int32), iv (1 : Int32), rv b231, .unset, .unset, .unset] [(.int x0), (.int (0 : Int32)), (.ref b231)])) (fun t k => XS.iloadN X231.here hx rfl (hb hby at_35) rfl k) ?_
      obtain ⟨cl232, Ar232, q232, Sz232, Nn232, Ha232, Ga232⟩ := id V231
      have hin232 : ¬ ((0 : Int32) < 0 ∨ cl232.slots.size ≤ ((0 : Int32)).toNatClampNeg) := inb_of Sz232 ⟨by decide, by decide⟩
      obtain ⟨T232, h232, X232, e232, W232, st232⟩ := stI X231 hx hZ e231 Ar232 (j := (0 : Int32)) hin232 (g := (mkF m 36 #[iv x0, iv x1, iv x2, iv x3, iv x4, iv x5, iv (1 : Int32), iv (1 : Int32), rv b231, .unset, .unset, .unset] [(.int x0), (.int (0 : Int32)), (.ref b231)])) rfl rfl (hb hby at_36)
      have hz232 : n0 ≤ h232.size := Nat.le_trans hz231 (Keep.of_wr W232).1
      have N232 := Fr.snoc X232 N0 gn231
      have V232 : Arv Z h232 b231 k231 .int (1 : Int32) [(.int x0)] (.int (0 : Int32)) := Arv.set Ar232 q232 Sz232 Nn232 Ha232 Ga232 rfl W232 0 rfl (Nat.le_of_ble_eq_true rfl)
      refine own_go (T' := T232) (g' := (mkF m 37 #[iv x0, iv x1, iv x2, iv x3, iv x4, iv x5, iv (1 : Int32), iv (1 : Int32), rv b231, .unset, .unset, .unset] [])) (st232) ?_
      refine own_go (T' := T232) (g' := (mkF m 39 #[iv x0, iv x1, iv x2, iv x3, iv x4, iv x5, iv (1 : Int32), iv (1 : Int32), rv b231, .unset, .unset, .unset] [(.int (1 : Int32))])) (fun t k => XS.iload X232.here hx rfl (hb hby at_37) rfl k) ?_
      refine own_go (T' := T232) (g' := (mkF m 40 #[iv x0, iv x1, iv x2, iv x3, iv x4, iv x5, iv (1 : Int32), iv (1 : Int32), rv b231, .unset, .unset, .unset] [(.int (1 : Int32)), (.int (1 : Int32))])) (fun t k => XS.iconst X232.here hx rfl (hb hby at_39) k) ?_
      refine own_go (T' := T232) (g' := (mkF m 48 #[iv x0, iv x1, iv x2, iv x3, iv x4, iv x5, iv (1 : Int32), iv (1 : Int32), rv b231, .unset, .unset, .unset] [])) (fun t k => XS.icmpYes X232.here hx rfl (pc0 := 40) (pc' := 48) rfl (hb hby at_40) rfl (flt (by decide : ¬ ((1 : Int32) < (1 : Int32)))).2.2.2 (by decide) (by decide) k) ?_
      refine own_go (T' := T232) (g' := (mkF m 50 #[iv x0, iv x1, iv x2, iv x3, iv x4, iv x5, iv (1 : Int32), iv (1 : Int32), rv b231, .unset, .unset, .unset] [(.int (1 : Int32))])) (fun t k => XS.iload X232.here hx rfl (hb hby at_48) rfl k) ?_
      refine own_go (T' := T232) (g' := (mkF m 51 #[iv x0, iv x1, iv x2, iv x3, iv x4, iv x5, iv (1 : Int32), iv (1 : Int32), rv b231, .unset, .unset, .unset] [(.int (2 : Int32)), (.int (1 : Int32))])) (fun t k => XS.iconst X232.here hx rfl (hb hby at_50) k) ?_
      refine own_go (T' := T232) (g' := (mkF m 59 #[iv x0, iv x1, iv x2, iv x3, iv x4, iv x5, iv (1 : Int32), iv (1 : Int32), rv b231, .unset, .unset, .unset] [])) (fun t k => XS.icmpYes X232.here hx rfl (pc0 := 51) (pc' := 59) rfl (hb hby at_51) rfl (flt (by decide : ¬ ((2 : Int32) < (1 : Int32)))).2.2.2 (by decide) (by decide) k) ?_
      refine own_go (T' := T232) (g' := (mkF m 61 #[iv x0, iv x1, iv x2, iv x3, iv x4, iv x5, iv (1 : Int32), iv (1 : Int32), rv b231, .unset, .unset, .unset] [(.ref b231)])) (fun t k => XS.aload X232.here hx rfl (hb hby at_59) rfl rfl k) ?_
      refine own_go (T' := T232) (g' := (mkF m 63 #[iv x0, iv x1, iv x2, iv x3, iv x4, iv x5, iv (1 : Int32), iv (1 : Int32), rv b231, .unset, .unset, .unset] [(.int (1 : Int32)), (.ref b231)])) (fun t k => XS.iload X232.here hx rfl (hb hby at_61) rfl k) ?_
      refine own_go (T' := T232) (g' := (mkF m 64 #[iv x0, iv x1, iv x2, iv x3, iv x4, iv x5, iv (1 : Int32), iv (1 : Int32), rv b231, .unset, .unset, .unset] [(.int x3), (.int (1 : Int32)), (.ref b231)])) (fun t k => XS.iloadN X232.here hx rfl (hb hby at_63) rfl k) ?_
      obtain ⟨_, _, ⟨T234, L234, k234, n234⟩, -, X234, ⟨Lc234, hQ234, l234, y234, z234⟩, st234⟩ := Jvm.LawKit.callS X232 hx (y := (⟨"com/example/tankroute/tankroute/solve/Solution$Tour", "withStop", "([III)[I"⟩ : MethodName)) hown (mvT hZ (hw _ (List.mem_of_getElem? (i := 2) rfl))) (mvT hZ (hw _ (List.mem_of_getElem? (i := 3) rfl))) (mvT hZ (hw _ (List.mem_of_getElem? (i := 4) rfl))) (mvT hZ (hw _ (List.mem_of_getElem? (i := 5) rfl))) (by decide) (backOf (W := 0) (own_ws_1_1 l Z a0 hw [] x0 x3 b231 k231 h232 n0 hz232 V232) hZ (hw _ (List.mem_of_getElem? (i := 5) rfl)) (hw _ (List.mem_of_getElem? (i := 4) rfl)) (by decide) (by decide)) (g := (mkF m 64 #[iv x0, iv x1, iv x2, iv x3, iv x4, iv x5, iv (1 : Int32), iv (1 : Int32), rv b231, .unset, .unset, .unset] [(.int x3), (.int (1 : Int32)), (.ref b231)])) rfl (by rw [hml]; rfl) (argsL := [(.ref b231), (.int (1 : Int32)), (.int x3)]) (rest := []) (lenOf own_pd0 rfl) rfl (by show 2 * 0 + _ ≤ _; exact Nat.le_of_eq rfl) (hb hby at_64) (fun _ _ => ⟨rfl, e232, (by decide : 1 + 1 ≤ _), (by decide : 1 + 2 ≤ _)⟩)
      dsimp only [Pt.U, Pt.locs, Pt.cells, Pt.slots] at X234 l234 y234 z234 st234 hQ234
      subst l234 y234 z234
      obtain ⟨b_234, k_234, rfl, N234q, ob_234, K_234, V_234⟩ := hQ234
      have N234 := Fr.app N232 N234q
      have nq234 : b231 ≠ b_234 := Nat.ne_of_lt (Nat.lt_of_lt_of_le V232.lt ob_234)
      have gq234 : n0 ≤ b_234 := Nat.le_trans hz232 ob_234
      have c236 := V232.keep K_234 nin0
      have hz234 : n0 ≤ T234.heap.size := Nat.le_trans hz232 K_234.1
      refine own_go (T' := T234) (g' := (mkF m 67 #[iv x0, iv x1, iv x2, iv x3, iv x4, iv x5, iv (1 : Int32), iv (1 : Int32), rv b231, .unset, .unset, .unset] [(.ref b_234)])) (st234) ?_
      refine own_go (T' := T234) (g' := (mkF m 69 #[iv x0, iv x1, iv x2, iv x3, iv x4, iv x5, iv (1 : Int32), iv (1 : Int32), rv b231, rv b_234, .unset, .unset] [])) (fun t k => XS.astore X234.here hx rfl (hb hby at_67) rfl rfl (l' := #[iv x0, iv x1, iv x2, iv x3, iv x4, iv x5, iv (1 : Int32), iv (1 : Int32), rv b231, rv b_234, .unset, .unset]) rfl k) ?_
      refine own_go (T' := T234) (g' := (mkF m 71 #[iv x0, iv x1, iv x2, iv x3, iv x4, iv x5, iv (1 : Int32), iv (1 : Int32), rv b231, rv b_234, .unset, .unset] [(.ref b_234)])) (fun t k => XS.aload X234.here hx rfl (hb hby at_69) rfl rfl k) ?_
      refine own_go (T' := T234) (g' := (mkF m 74 #[iv x0, iv x1, iv x2, iv x3, iv x4, iv x5, iv (1 : Int32), iv (1 : Int32), rv b231, rv b_234, .unset, .unset] [])) (fun t k => XS.ifnullNo X234.here hx rfl (hb hby at_71) rfl k) ?_
      refine own_go (T' := T234) (g' := (mkF m 76 #[iv x0, iv x1, iv x2, iv x3, iv x4, iv x5, iv (1 : Int32), iv (1 : Int32), rv b231, rv b_234, .unset, .unset] [(.ref b_234)])) (fun t k => XS.aload X234.here hx rfl (hb hby at_74) rfl rfl k) ?_
      refine own_go (T' := T234) (g' := (mkF m 78 #[iv x0, iv x1, iv x2, iv x3, iv x4, iv x5, iv (1 : Int32), iv (1 : Int32), rv b231, rv b_234, .unset, .unset] [(.ref b231), (.ref b_234)])) (fun t k => XS.aload X234.here hx rfl (hb hby at_76) rfl rfl k) ?_
      refine own_go (T' := T234) (g' := (mkF m 81 #[iv x0, iv x1, iv x2, iv x3, iv x4, iv x5, iv (1 : Int32), iv (1 : Int32), rv b231, rv b_234, .unset, .unset] [])) (fun t k => Jvm.RoadKit.acmp (g := (mkF m 78 #[iv x0, iv x1, iv x2, iv x3, iv x4, iv x5, iv (1 : Int32), iv (1 : Int32), rv b231, rv b_234, .unset, .unset] [(.ref b231), (.ref b_234)])) X234 hx rfl (x := (.ref b_234)) (y := (.ref b231)) rfl rfl (pc0 := 78) (pc' := 81) (same := false) rfl (hb hby at_78) rfl (decide_eq_false fun q => (Ne.symm nq234) (Value.ref.inj q)) (by decide) (by decide) k) ?_
      refine own_go (T' := T234) (g' := (mkF m 83 #[iv x0, iv x1, iv x2, iv x3, iv x4, iv x5, iv (1 : Int32), iv (1 : Int32), rv b231, rv b_234, .unset, .unset] [(.ref b_234)])) (fun t k => XS.aload X234.here hx rfl (hb hby at_81) rfl rfl k) ?_
      obtain ⟨cl237, Ar237, -, Sz237, Nn237, -, -⟩ := id V_234
      refine own_go (T' := T234) (g' := (mkF m 84 #[iv x0, iv x1, iv x2, iv x3, iv x4, iv x5, iv (1 : Int32), iv (1 : Int32), rv b231, rv b_234, .unset, .unset] [(.int (2 : Int32))])) (fun t k => X234.arraylength hx (by exact Ar237.1) (State.isArrayOf_alike hZ.alike Ar237.2.1) (g := (mkF m 83 #[iv x0, iv x1, iv x2, iv x3, iv x4, iv x5, iv (1 : Int32), iv (1 : Int32), rv b231, rv b_234, .unset, .unset] [(.ref b_234)])) rfl rfl (hb hby at_83) _ (by rw [len_of Sz237 Nn237]; exact k)) ?_
      refine own_go (T' := T234) (g' := (mkF m 86 #[iv x0, iv x1, iv x2, iv x3, iv x4, iv x5, iv (1 : Int32), iv (1 : Int32), rv b231, rv b_234, .unset, .unset] [(.int (1 : Int32)), (.int (2 : Int32))])) (fun t k => XS.iload X234.here hx rfl (hb hby at_84) rfl k) ?_
      refine own_go (T' := T234) (g' := (mkF m 87 #[iv x0, iv x1, iv x2, iv x3, iv x4, iv x5, iv (1 : Int32), iv (1 : Int32), rv b231, rv b_234, .unset, .unset] [(.int (1 : Int32)), (.int (1 : Int32)), (.int (2 : Int32))])) (fun t k => XS.iconst X234.here hx rfl (hb hby at_86) k) ?_
      refine own_go (T' := T234) (g' := (mkF m 88 #[iv x0, iv x1, iv x2, iv x3, iv x4, iv x5, iv (1 : Int32), iv (1 : Int32), rv b231, rv b_234, .unset, .unset] [(.int (2 : Int32)), (.int (2 : Int32))])) (fun t k => XS.iadd X234.here hx rfl (hb hby at_87) rfl k) ?_
      refine own_go (T' := T234) (g' := (mkF m 93 #[iv x0, iv x1, iv x2, iv x3, iv x4, iv x5, iv (1 : Int32), iv (1 : Int32), rv b231, rv b_234, .unset, .unset] [])) (fun t k => XS.icmpYes X234.here hx rfl (pc0 := 88) (pc' := 93) rfl (hb hby at_88) rfl (teq (by decide : ((2 : Int32) = (2 : Int32)))).1 (by decide) (by decide) k) ?_
      refine own_go (T' := T234) (g' := (mkF m 95 #[iv x0, iv x1, iv x2, iv x3, iv x4, iv x5, iv (1 : Int32), iv (1 : Int32), rv b231, rv b_234, .unset, .unset] [(.ref b_234)])) (fun t k => XS.aload X234.here hx rfl (hb hby at_93) rfl rfl k) ?_
      refine own_go (T' := T234) (g' := (mkF m 97 #[iv x0, iv x1, iv x2, iv x3, iv x4, iv x5, iv (1 : Int32), iv (1 : Int32), rv b231, rv b_234, .unset, .unset] [(.ref b231), (.ref b_234)])) (fun t k => XS.aload X234.here hx rfl (hb hby at_95) rfl rfl k) ?_
      refine own_go (T' := T234) (g' := (mkF m 99 #[iv x0, iv x1, iv x2, iv x3, iv x4, iv x5, iv (1 : Int32), iv (1 : Int32), rv b231, rv b_234, .unset, .unset] [(.int (1 : Int32)), (.ref b231), (.ref b_234)])) (fun t k => XS.iload X234.here hx rfl (hb hby at_97) rfl k) ?_
      refine own_go (T' := T234) (g' := (mkF m 100 #[iv x0, iv x1, iv x2, iv x3, iv x4, iv x5, iv (1 : Int32), iv (1 : Int32), rv b231, rv b_234, .unset, .unset] [(.int x3), (.int (1 : Int32)), (.ref b231), (.ref b_234)])) (fun t k => XS.iloadN X234.here hx rfl (hb hby at_99) rfl k) ?_
      refine own_go (T' := T234) (g' := (mkF m 101 #[iv x0, iv x1, iv x2, iv x3, iv x4, iv x5, iv (1 : Int32), iv (1 : Int32), rv b231, rv b_234, .unset, .unset] [(.int (0 : Int32)), (.int x3), (.int (1 : Int32)), (.ref b231), (.ref b_234)])) (fun t k => XS.iconst X234.here hx rfl (hb hby at_100) k) ?_
      obtain ⟨_, _, ⟨T238, L238, k238, n238⟩, -, X238, ⟨Lc238, hQ238, l238, y238, z238⟩, st238⟩ := Jvm.LawKit.callS X234 hx (y := (⟨"com/example/tankroute/tankroute/solve/TourWithStopPinLaw", "slot", "([I[IIII)Z"⟩ : MethodName)) hown (mvT hZ (hw _ (List.mem_of_getElem? (i := 10) rfl))) (mvT hZ (hw _ (List.mem_of_getElem? (i := 11) rfl))) (mvT hZ (hw _ (List.mem_of_getElem? (i := 12) rfl))) (mvT hZ (hw _ (List.mem_of_getElem? (i := 13) rfl))) (by decide) (backOf (W := 0) (own_slotB l Z a0 hw [] b_234 b231 k_234 k231 (2 : Int32) (1 : Int32) (1 : Int32) x3 (0 : Int32) x0 [(.int x0), (.int x3)] [(.int x0)] T234.heap n0 hz234 V_234 c236 (by decide) (by decide) (by decide) (by decide) rfl rfl) hZ (hw _ (List.mem_of_getElem? (i := 13) rfl)) (hw _ (List.mem_of_getElem? (i := 12) rfl)) (by decide) (by decide)) (g := (mkF m 101 #[iv x0, iv x1, iv x2, iv x3, iv x4, iv x5, iv (1 : Int32), iv (1 : Int32), rv b231, rv b_234, .unset, .unset] [(.int (0 : Int32)), (.int x3), (.int (1 : Int32)), (.ref b231), (.ref b_234)])) rfl (by rw [hml]; rfl) (argsL := [(.ref b_234), (.ref b231), (.int (1 : Int32)), (.int x3), (.int (0 : Int32))]) (rest := []) (lenOf own_pd1 rfl) rfl (by show 2 * 0 + _ ≤ _; exact Nat.le_of_eq rfl) (hb hby at_101) (fun _ _ => ⟨rfl, rfl, (by decide : 2 + 0 ≤ _), (by decide : 3 + 0 ≤ _)⟩)
      dsimp only [Pt.U, Pt.locs, Pt.cells, Pt.slots] at X238 l238 y238 z238 st238 hQ238
      subst l238 y238 z238
      obtain ⟨rfl, rfl, e238⟩ := hQ238
      have E238q : T238.heap = T234.heap := e238
      have N238 := Fr.app N234 (Fr.nil n0)
      refine own_go (T' := T238) (g' := (mkF m 104 #[iv x0, iv x1, iv x2, iv x3, iv x4, iv x5, iv (1 : Int32), iv (1 : Int32), rv b231, rv b_234, .unset, .unset] [(.int (1 : Int32))])) (st238) ?_
      refine own_go (T' := T238) (g' := (mkF m 107 #[iv x0, iv x1, iv x2, iv x3, iv x4, iv x5, iv (1 : Int32), iv (1 : Int32), rv b231, rv b_234, .unset, .unset] [])) (fun t k => XS.ifNo X238.here hx rfl (hb hby at_104) rfl ((if0 _ _).trans (feq (by decide : ¬ ((1 : Int32) = (0 : Int32)))).1) k) ?_
      refine own_go (T' := T238) (g' := (mkF m 109 #[iv x0, iv x1, iv x2, iv x3, iv x4, iv x5, iv (1 : Int32), iv (1 : Int32), rv b231, rv b_234, .unset, .unset] [(.ref b_234)])) (fun t k => XS.aload X238.here hx rfl (hb hby at_107) rfl rfl k) ?_
      refine own_go (T' := T238) (g' := (mkF m 111 #[iv x0, iv x1, iv x2, iv x3, iv x4, iv x5, iv (1 : Int32), iv (1 : Int32), rv b231, rv b_234, .unset, .unset] [(.ref b231), (.ref b_234)])) (fun t k => XS.aload X238.here hx rfl (hb hby at_109) rfl rfl k) ?_
      refine own_go (T' := T238) (g' := (mkF m 113 #[iv x0, iv x1, iv x2, iv x3, iv x4, iv x5, iv (1 : Int32), iv (1 : Int32), rv b231, rv b_234, .unset, .unset] [(.int (1 : Int32)), (.ref b231), (.ref b_234)])) (fun t k => XS.iload X238.here hx rfl (hb hby at_111) rfl k) ?_
      refine own_go (T' := T238) (g' := (mkF m 114 #[iv x0, iv x1, iv x2, iv x3, iv x4, iv x5, iv (1 : Int32), iv (1 : Int32), rv b231, rv b_234, .unset, .unset] [(.int x3), (.int (1 : Int32)), (.ref b231), (.ref b_234)])) (fun t k => XS.iloadN X238.here hx rfl (hb hby at_113) rfl k) ?_
      refine own_go (T' := T238) (g' := (mkF m 115 #[iv x0, iv x1, iv x2, iv x3, iv x4, iv x5, iv (1 : Int32), iv (1 : Int32), rv b231, rv b_234, .unset, .unset] [(.int (1 : Int32)), (.int x3), (.int (1 : Int32)), (.ref b231), (.ref b_234)])) (fun t k => XS.iconst X238.here hx rfl (hb hby at_114) k) ?_
      obtain ⟨_, _, ⟨T239, L239, k239, n239⟩, -, X239, ⟨Lc239, hQ239, l239, y239, z239⟩, st239⟩ := Jvm.LawKit.callS X238 hx (y := (⟨"com/example/tankroute/tankroute/solve/TourWithStopPinLaw", "slot", "([I[IIII)Z"⟩ : MethodName)) hown (mvT hZ (hw _ (List.mem_of_getElem? (i := 10) rfl))) (mvT hZ (hw _ (List.mem_of_getElem? (i := 11) rfl))) (mvT hZ (hw _ (List.mem_of_getElem? (i := 12) rfl))) (mvT hZ (hw _ (List.mem_of_getElem? (i := 13) rfl))) (by decide) (backOf (W := 0) (own_slotC l Z a0 hw [] b_234 b231 k_234 k231 (2 : Int32) (1 : Int32) (1 : Int32)  (1 : Int32) x3 [(.int x0), (.int x3)] [(.int x0)] T234.heap n0 hz234 V_234 c236 (by decide) (by decide) rfl (by decide) rfl) hZ (hw _ (List.mem_of_getElem? (i := 13) rfl)) (hw _ (List.mem_of_getElem? (i := 12) rfl)) (by decide) (by decide)) (g := (mkF m 115 #[iv x0, iv x1, iv x2, iv x3, iv x4, iv x5, iv (1 : Int32), iv (1 : Int32), rv b231, rv b_234, .unset, .unset] [(.int (1 : Int32)), (.int x3), (.int (1 : Int32)), (.ref b231), (.ref b_234)])) rfl (by rw [hml]; rfl) (argsL := [(.ref b_234), (.ref b231), (.int (1 : Int32)), (.int x3), (.int (1 : Int32))]) (rest := []) (lenOf own_pd1 rfl) rfl (by show 2 * 0 + _ ≤ _; exact Nat.le_of_eq rfl) (hb hby at_115) (fun _ _ => ⟨rfl, E238q, (by decide : 2 + 0 ≤ _), (by decide : 3 + 0 ≤ _)⟩)
      dsimp only [Pt.U, Pt.locs, Pt.cells, Pt.slots] at X239 l239 y239 z239 st239 hQ239
      subst l239 y239 z239
      obtain ⟨rfl, rfl, e239⟩ := hQ239
      have E239q : T239.heap = T234.heap := e239
      have N239 := Fr.app N238 (Fr.nil n0)
      refine own_go (T' := T239) (g' := (mkF m 118 #[iv x0, iv x1, iv x2, iv x3, iv x4, iv x5, iv (1 : Int32), iv (1 : Int32), rv b231, rv b_234, .unset, .unset] [(.int (1 : Int32))])) (st239) ?_
      refine own_go (T' := T239) (g' := (mkF m 121 #[iv x0, iv x1, iv x2, iv x3, iv x4, iv x5, iv (1 : Int32), iv (1 : Int32), rv b231, rv b_234, .unset, .unset] [])) (fun t k => XS.ifNo X239.here hx rfl (hb hby at_118) rfl ((if0 _ _).trans (feq (by decide : ¬ ((1 : Int32) = (0 : Int32)))).1) k) ?_
      refine own_go (T' := T239) (g' := (mkF m 123 #[iv x0, iv x1, iv x2, iv x3, iv x4, iv x5, iv (1 : Int32), iv (1 : Int32), rv b231, rv b_234, .unset, .unset] [(.ref b_234)])) (fun t k => XS.aload X239.here hx rfl (hb hby at_121) rfl rfl k) ?_
      refine own_go (T' := T239) (g' := (mkF m 125 #[iv x0, iv x1, iv x2, iv x3, iv x4, iv x5, iv (1 : Int32), iv (1 : Int32), rv b231, rv b_234, .unset, .unset] [(.ref b231), (.ref b_234)])) (fun t k => XS.aload X239.here hx rfl (hb hby at_123) rfl rfl k) ?_
      refine own_go (T' := T239) (g' := (mkF m 127 #[iv x0, iv x1, iv x2, iv x3, iv x4, iv x5, iv (1 : Int32), iv (1 : Int32), rv b231, rv b_234, .unset, .unset] [(.int (1 : Int32)), (.ref b231), (.ref b_234)])) (fun t k => XS.iload X239.here hx rfl (hb hby at_125) rfl k) ?_
      refine own_go (T' := T239) (g' := (mkF m 128 #[iv x0, iv x1, iv x2, iv x3, iv x4, iv x5, iv (1 : Int32), iv (1 : Int32), rv b231, rv b_234, .unset, .unset] [(.int x3), (.int (1 : Int32)), (.ref b231), (.ref b_234)])) (fun t k => XS.iloadN X239.here hx rfl (hb hby at_127) rfl k) ?_
      refine own_go (T' := T239) (g' := (mkF m 129 #[iv x0, iv x1, iv x2, iv x3, iv x4, iv x5, iv (1 : Int32), iv (1 : Int32), rv b231, rv b_234, .unset, .unset] [(.int (2 : Int32)), (.int x3), (.int (1 : Int32)), (.ref b231), (.ref b_234)])) (fun t k => XS.iconst X239.here hx rfl (hb hby at_128) k) ?_
      obtain ⟨_, _, ⟨T240, L240, k240, n240⟩, -, X240, ⟨Lc240, hQ240, l240, y240, z240⟩, st240⟩ := Jvm.LawKit.callS X239 hx (y := (⟨"com/example/tankroute/tankroute/solve/TourWithStopPinLaw", "slot", "([I[IIII)Z"⟩ : MethodName)) hown (mvT hZ (hw _ (List.mem_of_getElem? (i := 10) rfl))) (mvT hZ (hw _ (List.mem_of_getElem? (i := 11) rfl))) (mvT hZ (hw _ (List.mem_of_getElem? (i := 12) rfl))) (mvT hZ (hw _ (List.mem_of_getElem? (i := 13) rfl))) (by decide) (backOf (W := 0) (own_slotA l Z a0 hw [] b_234 b231 k_234 k231 (2 : Int32) (1 : Int32) (1 : Int32) x3 (2 : Int32) 0 [(.int x0), (.int x3)] [(.int x0)] T234.heap n0 hz234 V_234 c236 (by decide)) hZ (hw _ (List.mem_of_getElem? (i := 13) rfl)) (hw _ (List.mem_of_getElem? (i := 12) rfl)) (by decide) (by decide)) (g := (mkF m 129 #[iv x0, iv x1, iv x2, iv x3, iv x4, iv x5, iv (1 : Int32), iv (1 : Int32), rv b231, rv b_234, .unset, .unset] [(.int (2 : Int32)), (.int x3), (.int (1 : Int32)), (.ref b231), (.ref b_234)])) rfl (by rw [hml]; rfl) (argsL := [(.ref b_234), (.ref b231), (.int (1 : Int32)), (.int x3), (.int (2 : Int32))]) (rest := []) (lenOf own_pd1 rfl) rfl (by show 2 * 0 + _ ≤ _; exact Nat.le_of_eq rfl) (hb hby at_129) (fun _ _ => ⟨rfl, E239q, (by decide : 2 + 0 ≤ _), (by decide : 3 + 0 ≤ _)⟩)
      dsimp only [Pt.U, Pt.locs, Pt.cells, Pt.slots] at X240 l240 y240 z240 st240 hQ240
      subst l240 y240 z240
      obtain ⟨rfl, rfl, e240⟩ := hQ240
      have E240q : T240.heap = T234.heap := e240
      have N240 := Fr.app N239 (Fr.nil n0)
      refine own_go (T' := T240) (g' := (mkF m 132 #[iv x0, iv x1, iv x2, iv x3, iv x4, iv x5, iv (1 : Int32), iv (1 : Int32), rv b231, rv b_234, .unset, .unset] [(.int (1 : Int32))])) (st240) ?_
      refine own_go (T' := T240) (g' := (mkF m 135 #[iv x0, iv x1, iv x2, iv x3, iv x4, iv x5, iv (1 : Int32), iv (1 : Int32), rv b231, rv b_234, .unset, .unset] [])) (fun t k => XS.ifNo X240.here hx rfl (hb hby at_132) rfl ((if0 _ _).trans (feq (by decide : ¬ ((1 : Int32) = (0 : Int32)))).1) k) ?_
      refine own_go (T' := T240) (g' := (mkF m 137 #[iv x0, iv x1, iv x2, iv x3, iv x4, iv x5, iv (1 : Int32), iv (1 : Int32), rv b231, rv b_234, .unset, .unset] [(.ref b_234)])) (fun t k => XS.aload X240.here hx rfl (hb hby at_135) rfl rfl k) ?_
      refine own_go (T' := T240) (g' := (mkF m 139 #[iv x0, iv x1, iv x2, iv x3, iv x4, iv x5, iv (1 : Int32), iv (1 : Int32), rv b231, rv b_234, .unset, .unset] [(.ref b231), (.ref b_234)])) (fun t k => XS.aload X240.here hx rfl (hb hby at_137) rfl rfl k) ?_
      refine own_go (T' := T240) (g' := (mkF m 141 #[iv x0, iv x1, iv x2, iv x3, iv x4, iv x5, iv (1 : Int32), iv (1 : Int32), rv b231, rv b_234, .unset, .unset] [(.int (1 : Int32)), (.ref b231), (.ref b_234)])) (fun t k => XS.iload X240.here hx rfl (hb hby at_139) rfl k) ?_
      refine own_go (T' := T240) (g' := (mkF m 142 #[iv x0, iv x1, iv x2, iv x3, iv x4, iv x5, iv (1 : Int32), iv (1 : Int32), rv b231, rv b_234, .unset, .unset] [(.int x3), (.int (1 : Int32)), (.ref b231), (.ref b_234)])) (fun t k => XS.iloadN X240.here hx rfl (hb hby at_141) rfl k) ?_
      refine own_go (T' := T240) (g' := (mkF m 143 #[iv x0, iv x1, iv x2, iv x3, iv x4, iv x5, iv (1 : Int32), iv (1 : Int32), rv b231, rv b_234, .unset, .unset] [(.int (3 : Int32)), (.int x3), (.int (1 : Int32)), (.ref b231), (.ref b_234)])) (fun t k => XS.iconst X240.here hx rfl (hb hby at_142) k) ?_
      obtain ⟨_, _, ⟨T241, L241, k241, n241⟩, -, X241, ⟨Lc241, hQ241, l241, y241, z241⟩, st241⟩ := Jvm.LawKit.callS X240 hx (y := (⟨"com/example/tankroute/tankroute/solve/TourWithStopPinLaw", "slot", "([I[IIII)Z"⟩ : MethodName)) hown (mvT hZ (hw _ (List.mem_of_getElem? (i := 10) rfl))) (mvT hZ (hw _ (List.mem_of_getElem? (i := 11) rfl))) (mvT hZ (hw _ (List.mem_of_getElem? (i := 12) rfl))) (mvT hZ (hw _ (List.mem_of_getElem? (i := 13) rfl))) (by decide) (backOf (W := 0) (own_slotA l Z a0 hw [] b_234 b231 k_234 k231 (2 : Int32) (1 : Int32) (1 : Int32) x3 (3 : Int32) 0 [(.int x0), (.int x3)] [(.int x0)] T234.heap n0 hz234 V_234 c236 (by decide)) hZ (hw _ (List.mem_of_getElem? (i := 13) rfl)) (hw _ (List.mem_of_getElem? (i := 12) rfl)) (by decide) (by decide)) (g := (mkF m 143 #[iv x0, iv x1, iv x2, iv x3, iv x4, iv x5, iv (1 : Int32), iv (1 : Int32), rv b231, rv b_234, .unset, .unset] [(.int (3 : Int32)), (.int x3), (.int (1 : Int32)), (.ref b231), (.ref b_234)])) rfl (by rw [hml]; rfl) (argsL := [(.ref b_234), (.ref b231), (.int (1 : Int32)), (.int x3), (.int (3 : Int32))]) (rest := []) (lenOf own_pd1 rfl) rfl (by show 2 * 0 + _ ≤ _; exact Nat.le_of_eq rfl) (hb hby at_143) (fun _ _ => ⟨rfl, E240q, (by decide : 2 + 0 ≤ _), (by decide : 3 + 0 ≤ _)⟩)
      dsimp only [Pt.U, Pt.locs, Pt.cells, Pt.slots] at X241 l241 y241 z241 st241 hQ241
      subst l241 y241 z241
      obtain ⟨rfl, rfl, e241⟩ := hQ241
      have E241q : T241.heap = T234.heap := e241
      have N241 := Fr.app N240 (Fr.nil n0)
      refine own_go (T' := T241) (g' := (mkF m 146 #[iv x0, iv x1, iv x2, iv x3, iv x4, iv x5, iv (1 : Int32), iv (1 : Int32), rv b231, rv b_234, .unset, .unset] [(.int (1 : Int32))])) (st241) ?_
      refine own_go (T' := T241) (g' := (mkF m 149 #[iv x0, iv x1, iv x2, iv x3, iv x4, iv x5, iv (1 : Int32), iv (1 : Int32), rv b231, rv b_234, .unset, .unset] [])) (fun t k => XS.ifNo X241.here hx rfl (hb hby at_146) rfl ((if0 _ _).trans (feq (by decide : ¬ ((1 : Int32) = (0 : Int32)))).1) k) ?_
      refine own_go (T' := T241) (g' := (mkF m 150 #[iv x0, iv x1, iv x2, iv x3, iv x4, iv x5, iv (1 : Int32), iv (1 : Int32), rv b231, rv b_234, .unset, .unset] [(.int (1 : Int32))])) (fun t k => XS.iconst X241.here hx rfl (hb hby at_149) k) ?_
      refine own_go (T' := T241) (g' := (mkF m 154 #[iv x0, iv x1, iv x2, iv x3, iv x4, iv x5, iv (1 : Int32), iv (1 : Int32), rv b231, rv b_234, .unset, .unset] [(.int (1 : Int32))])) (fun t k => XS.goto X241.here hx rfl (pc0 := 150) (pc' := 154) rfl (hb hby at_150) (by decide) (by decide) k) ?_
      refine own_go (T' := T241) (g' := (mkF m 156 #[iv x0, iv x1, iv x2, iv x3, iv x4, iv x5, iv (1 : Int32), iv (1 : Int32), rv b231, rv b_234, iv (1 : Int32), .unset] [])) (fun t k => XS.istore X241.here hx rfl (hb hby at_154) rfl (l' := #[iv x0, iv x1, iv x2, iv x3, iv x4, iv x5, iv (1 : Int32), iv (1 : Int32), rv b231, rv b_234, iv (1 : Int32), .unset]) rfl k) ?_
      refine own_go (T' := T241) (g' := (mkF m 158 #[iv x0, iv x1, iv x2, iv x3, iv x4, iv x5, iv (1 : Int32), iv (1 : Int32), rv b231, rv b_234, iv (1 : Int32), .unset] [(.int (1 : Int32))])) (fun t k => XS.iload X241.here hx rfl (hb hby at_156) rfl k) ?_
      refine own_go (T' := T241) (g' := (mkF m 159 #[iv x0, iv x1, iv x2, iv x3, iv x4, iv x5, iv (1 : Int32), iv (1 : Int32), rv b231, rv b_234, iv (1 : Int32), .unset] [(.int (1 : Int32)), (.int (1 : Int32))])) (fun t k => XS.iconst X241.here hx rfl (hb hby at_158) k) ?_
      refine own_go (T' := T241) (g' := (mkF m 162 #[iv x0, iv x1, iv x2, iv x3, iv x4, iv x5, iv (1 : Int32), iv (1 : Int32), rv b231, rv b_234, iv (1 : Int32), .unset] [])) (fun t k => XS.icmpNo X241.here hx rfl (hb hby at_159) rfl (flt (by decide : ¬ ((1 : Int32) < (1 : Int32)))).1 k) ?_
      refine own_go (T' := T241) (g' := (mkF m 164 #[iv x0, iv x1, iv x2, iv x3, iv x4, iv x5, iv (1 : Int32), iv (1 : Int32), rv b231, rv b_234, iv (1 : Int32), .unset] [(.ref b231)])) (fun t k => XS.aload X241.here hx rfl (hb hby at_162) rfl rfl k) ?_
      refine own_go (T' := T241) (g' := (mkF m 165 #[iv x0, iv x1, iv x2, iv x3, iv x4, iv x5, iv (1 : Int32), iv (1 : Int32), rv b231, rv b_234, iv (1 : Int32), .unset] [(.int (0 : Int32)), (.ref b231)])) (fun t k => XS.iconst X241.here hx rfl (hb hby at_164) k) ?_
      obtain ⟨cl242, Ar242, -, Sz242, Nn242, Ha242, -⟩ := id c236
      have hin242 : ¬ ((0 : Int32) < 0 ∨ cl242.slots.size ≤ ((0 : Int32)).toNatClampNeg) := inb_of Sz242 ⟨by decide, by decide⟩
      have hat242 : cl242.slots[((0 : Int32)).toNatClampNeg]? = some (.int x0) := Ha242.at hin242 rfl
      refine own_go (T' := T241) (g' := (mkF m 166 #[iv x0, iv x1, iv x2, iv x3, iv x4, iv x5, iv (1 : Int32), iv (1 : Int32), rv b231, rv b_234, iv (1 : Int32), .unset] [(.int x0)])) (fun t k => X241.iaload hx (j := (0 : Int32)) (v := (.int x0)) (by rw [E241q]; exact Ar242.1) (State.isArrayOf_alike hZ.alike Ar242.2.1) Ar242.2.2 hin242 hat242 (g := (mkF m 165 #[iv x0, iv x1, iv x2, iv x3, iv x4, iv x5, iv (1 : Int32), iv (1 : Int32), rv b231, rv b_234, iv (1 : Int32), .unset] [(.int (0 : Int32)), (.ref b231)])) rfl rfl (hb hby at_165) _ k) ?_
      refine own_go (T' := T241) (g' := (mkF m 167 #[iv x0, iv x1, iv x2, iv x3, iv x4, iv x5, iv (1 : Int32), iv (1 : Int32), rv b231, rv b_234, iv (1 : Int32), .unset] [(.int x0), (.int x0)])) (fun t k => XS.iloadN X241.here hx rfl (hb hby at_166) rfl k) ?_
      refine own_go (T' := T241) (g' := (mkF m 170 #[iv x0, iv x1, iv x2, iv x3, iv x4, iv x5, iv (1 : Int32), iv (1 : Int32), rv b231, rv b_234, iv (1 : Int32), .unset] [])) (fun t k => XS.icmpNo X241.here hx rfl (hb hby at_167) rfl (teq (rfl : x0 = x0)).2 k) ?_
      refine own_go (T' := T241) (g' := (mkF m 172 #[iv x0, iv x1, iv x2, iv x3, iv x4, iv x5, iv (1 : Int32), iv (1 : Int32), rv b231, rv b_234, iv (1 : Int32), .unset] [(.int (1 : Int32))])) (fun t k => XS.iload X241.here hx rfl (hb hby at_170) rfl k) ?_
      refine own_go (T' := T241) (g' := (mkF m 173 #[iv x0, iv x1, iv x2, iv x3, iv x4, iv x5, iv (1 : Int32), iv (1 : Int32), rv b231, rv b_234, iv (1 : Int32), .unset] [(.int (2 : Int32)), (.int (1 : Int32))])) (fun t k => XS.iconst X241.here hx rfl (hb hby at_172) k) ?_
      refine own_go (T' := T241) (g' := (mkF m 184 #[iv x0, iv x1, iv x2, iv x3, iv x4, iv x5, iv (1 : Int32), iv (1 : Int32), rv b231, rv b_234, iv (1 : Int32), .unset] [])) (fun t k => XS.icmpYes X241.here hx rfl (pc0 := 173) (pc' := 184) rfl (hb hby at_173) rfl (tlt (by decide : ((1 : Int32) < (2 : Int32)))).1 (by decide) (by decide) k) ?_
      refine own_go (T' := T241) (g' := (mkF m 186 #[iv x0, iv x1, iv x2, iv x3, iv x4, iv x5, iv (1 : Int32), iv (1 : Int32), rv b231, rv b_234, iv (1 : Int32), .unset] [(.int (1 : Int32))])) (fun t k => XS.iload X241.here hx rfl (hb hby at_184) rfl k) ?_
      refine own_go (T' := T241) (g' := (mkF m 187 #[iv x0, iv x1, iv x2, iv x3, iv x4, iv x5, iv (1 : Int32), iv (1 : Int32), rv b231, rv b_234, iv (1 : Int32), .unset] [(.int (3 : Int32)), (.int (1 : Int32))])) (fun t k => XS.iconst X241.here hx rfl (hb hby at_186) k) ?_
      refine own_go (T' := T241) (g' := (mkF m 198 #[iv x0, iv x1, iv x2, iv x3, iv x4, iv x5, iv (1 : Int32), iv (1 : Int32), rv b231, rv b_234, iv (1 : Int32), .unset] [])) (fun t k => XS.icmpYes X241.here hx rfl (pc0 := 187) (pc' := 198) rfl (hb hby at_187) rfl (tlt (by decide : ((1 : Int32) < (3 : Int32)))).1 (by decide) (by decide) k) ?_
      refine own_go (T' := T241) (g' := (mkF m 199 #[iv x0, iv x1, iv x2, iv x3, iv x4, iv x5, iv (1 : Int32), iv (1 : Int32), rv b231, rv b_234, iv (1 : Int32), .unset] [(.int (1 : Int32))])) (fun t k => XS.iconst X241.here hx rfl (hb hby at_198) k) ?_
      refine own_go (T' := T241) (g' := (mkF m 203 #[iv x0, iv x1, iv x2, iv x3, iv x4, iv x5, iv (1 : Int32), iv (1 : Int32), rv b231, rv b_234, iv (1 : Int32), .unset] [(.int (1 : Int32))])) (fun t k => XS.goto X241.here hx rfl (pc0 := 199) (pc' := 203) rfl (hb hby at_199) (by decide) (by decide) k) ?_
      refine own_go (T' := T241) (g' := (mkF m 205 #[iv x0, iv x1, iv x2, iv x3, iv x4, iv x5, iv (1 : Int32), iv (1 : Int32), rv b231, rv b_234, iv (1 : Int32), iv (1 : Int32)] [])) (fun t k => XS.istore X241.here hx rfl (hb hby at_203) rfl (l' := #[iv x0, iv x1, iv x2, iv x3, iv x4, iv x5, iv (1 : Int32), iv (1 : Int32), rv b231, rv b_234, iv (1 : Int32), iv (1 : Int32)]) rfl k) ?_
      refine own_go (T' := T241) (g' := (mkF m 207 #[iv x0, iv x1, iv x2, iv x3, iv x4, iv x5, iv (1 : Int32), iv (1 : Int32), rv b231, rv b_234, iv (1 : Int32), iv (1 : Int32)] [(.int (1 : Int32))])) (fun t k => XS.iload X241.here hx rfl (hb hby at_205) rfl k) ?_
      refine own_go (T' := T241) (g' := (mkF m 210 #[iv x0, iv x1, iv x2, iv x3, iv x4, iv x5, iv (1 : Int32), iv (1 : Int32), rv b231, rv b_234, iv (1 : Int32), iv (1 : Int32)] [])) (fun t k => XS.ifNo X241.here hx rfl (hb hby at_207) rfl ((if0 _ _).trans (feq (by decide : ¬ ((1 : Int32) = (0 : Int32)))).1) k) ?_
      refine own_go (T' := T241) (g' := (mkF m 212 #[iv x0, iv x1, iv x2, iv x3, iv x4, iv x5, iv (1 : Int32), iv (1 : Int32), rv b231, rv b_234, iv (1 : Int32), iv (1 : Int32)] [(.int (1 : Int32))])) (fun t k => XS.iload X241.here hx rfl (hb hby at_210) rfl k) ?_
      refine own_go (T' := T241) (g' := (mkF m 215 #[iv x0, iv x1, iv x2, iv x3, iv x4, iv x5, iv (1 : Int32), iv (1 : Int32), rv b231, rv b_234, iv (1 : Int32), iv (1 : Int32)] [])) (fun t k => XS.ifNo X241.here hx rfl (hb hby at_212) rfl ((if0 _ _).trans (feq (by decide : ¬ ((1 : Int32) = (0 : Int32)))).1) k) ?_
      refine own_go (T' := T241) (g' := (mkF m 216 #[iv x0, iv x1, iv x2, iv x3, iv x4, iv x5, iv (1 : Int32), iv (1 : Int32), rv b231, rv b_234, iv (1 : Int32), iv (1 : Int32)] [(.int (1 : Int32))])) (fun t k => XS.iconst X241.here hx rfl (hb hby at_215) k) ?_
      refine own_go (T' := T241) (g' := (mkF m 220 #[iv x0, iv x1, iv x2, iv x3, iv x4, iv x5, iv (1 : Int32), iv (1 : Int32), rv b231, rv b_234, iv (1 : Int32), iv (1 : Int32)] [(.int (1 : Int32))])) (fun t k => XS.goto X241.here hx rfl (pc0 := 216) (pc' := 220) rfl (hb hby at_216) (by decide) (by decide) k) ?_
      exact own_ret X241 hlk hx Bd.returns rfl (Or.inl ⟨rfl, Or.inr (Or.inl rfl), _, rfl⟩) (hb hby at_220) (by first | exact ⟨rfl, N241⟩ | (rw [Fr] at *; exact ⟨rfl, by simpa using N241⟩)) (by decide) (by decide)
  · rw [hn]
    refine own_go (T' := s₁) (g' := (mkF m 9 #[iv x0, iv x1, iv x2, iv x3, iv x4, iv x5, iv (2 : Int32), .unset, .unset, .unset, .unset, .unset] [])) (fun t k => XS.istore X0.here hx rfl (hb hby at_7) rfl (l' := #[iv x0, iv x1, iv x2, iv x3, iv x4, iv x5, iv (2 : Int32), .unset, .unset, .unset, .unset, .unset]) rfl k) ?_
    refine own_go (T' := s₁) (g' := (mkF m 11 #[iv x0, iv x1, iv x2, iv x3, iv x4, iv x5, iv (2 : Int32), .unset, .unset, .unset, .unset, .unset] [(.int x4)])) (fun t k => XS.iload X0.here hx rfl (hb hby at_9) rfl k) ?_
    refine own_go (T' := s₁) (g' := (mkF m 13 #[iv x0, iv x1, iv x2, iv x3, iv x4, iv x5, iv (2 : Int32), .unset, .unset, .unset, .unset, .unset] [(.int (2147483647 : Int32)), (.int x4)])) (fun t k => X0.ldcInt hx hown (mvT hZ (hw _ (List.mem_of_getElem? (i := 0) rfl))) (g := (mkF m 11 #[iv x0, iv x1, iv x2, iv x3, iv x4, iv x5, iv (2 : Int32), .unset, .unset, .unset, .unset, .unset] [(.int x4)])) rfl (hb hby at_11) _ k) ?_
    refine own_go (T' := s₁) (g' := (mkF m 14 #[iv x0, iv x1, iv x2, iv x3, iv x4, iv x5, iv (2 : Int32), .unset, .unset, .unset, .unset, .unset] [(.int (x4 &&& (2147483647 : Int32)))])) (fun t k => XS.iand X0.here hx rfl (hb hby at_13) rfl k) ?_
    refine own_go (T' := s₁) (g' := (mkF m 16 #[iv x0, iv x1, iv x2, iv x3, iv x4, iv x5, iv (2 : Int32), .unset, .unset, .unset, .unset, .unset] [(.int (2 : Int32)), (.int (x4 &&& (2147483647 : Int32)))])) (fun t k => XS.iload X0.here hx rfl (hb hby at_14) rfl k) ?_
    refine own_go (T' := s₁) (g' := (mkF m 17 #[iv x0, iv x1, iv x2, iv x3, iv x4, iv x5, iv (2 : Int32), .unset, .unset, .unset, .unset, .unset] [(.int (1 : Int32)), (.int (2 : Int32)), (.int (x4 &&& (2147483647 : Int32)))])) (fun t k => XS.iconst X0.here hx rfl (hb hby at_16) k) ?_
    refine own_go (T' := s₁) (g' := (mkF m 18 #[iv x0, iv x1, iv x2, iv x3, iv x4, iv x5, iv (2 : Int32), .unset, .unset, .unset, .unset, .unset] [(.int (3 : Int32)), (.int (x4 &&& (2147483647 : Int32)))])) (fun t k => XS.iadd X0.here hx rfl (hb hby at_17) rfl k) ?_
    refine own_go (T' := s₁) (g' := (mkF m 19 #[iv x0, iv x1, iv x2, iv x3, iv x4, iv x5, iv (2 : Int32), .unset, .unset, .unset, .unset, .unset] [(.int ((x4 &&& (2147483647 : Int32)) % (3 : Int32)))])) (fun t k => Jvm.RoadKit.iremM X0 hx rfl (hb hby at_18) rfl (by decide) k) ?_
    rcases own_m3 x4 with ha | ha | ha
    · rw [ha]
      refine own_go (T' := s₁) (g' := (mkF m 21 #[iv x0, iv x1, iv x2, iv x3, iv x4, iv x5, iv (2 : Int32), iv (0 : Int32), .unset, .unset, .unset, .unset] [])) (fun t k => XS.istore X0.here hx rfl (hb hby at_19) rfl (l' := #[iv x0, iv x1, iv x2, iv x3, iv x4, iv x5, iv (2 : Int32), iv (0 : Int32), .unset, .unset, .unset, .unset]) rfl k) ?_
      refine own_go (T' := s₁) (g' := (mkF m 23 #[iv x0, iv x1, iv x2, iv x3, iv x4, iv x5, iv (2 : Int32), iv (0 : Int32), .unset, .unset, .unset, .unset] [(.int (2 : Int32))])) (fun t k => XS.iload X0.here hx rfl (hb hby at_21) rfl k) ?_
      obtain ⟨T243, h243, k243, X243, e243, E243, A243, st243⟩ := newP X0 hx hZ (hw _ (List.mem_of_getElem? (i := 1) rfl)) e0 (g := (mkF m 23 #[iv x0, iv x1, iv x2, iv x3, iv x4, iv x5, iv (2 : Int32), iv (0 : Int32), .unset, .unset, .unset, .unset] [(.int (2 : Int32))])) rfl (hb hby at_23) rfl (by decide) (cap := 2) (by decide) (by decide) (by decide) (by decide)
      obtain ⟨b243, g243⟩ : ∃ z, z = h0.size := ⟨_, rfl⟩
      rw [← g243] at A243 st243
      have gn243 : n0 ≤ b243 := Nat.le_trans Z0 (Nat.le_of_eq g243.symm)
      have hz243 : n0 ≤ h243.size := Nat.le_trans Z0 E243.1
      have V243 : Arv Z h243 b243 k243 .int (2 : Int32) [(.int (0 : Int32)), (.int (0 : Int32))] (.int (0 : Int32)) := (Arv.new A243 (by decide)).pad (pad_rep [] (.int (0 : Int32)) 2)
      refine own_go (T' := T243) (g' := (mkF m 25 #[iv x0, iv x1, iv x2, iv x3, iv x4, iv x5, iv (2 : Int32), iv (0 : Int32), .unset, .unset, .unset, .unset] [(.ref b243)])) (st243) ?_
      refine own_go (T' := T243) (g' := (mkF m 27 #[iv x0, iv x1, iv x2, iv x3, iv x4, iv x5, iv (2 : Int32), iv (0 : Int32), rv b243, .unset, .unset, .unset] [])) (fun t k => XS.astore X243.here hx rfl (hb hby at_25) rfl rfl (l' := #[iv x0, iv x1, iv x2, iv x3, iv x4, iv x5, iv (2 : Int32), iv (0 : Int32), rv b243, .unset, .unset, .unset]) rfl k) ?_
      refine own_go (T' := T243) (g' := (mkF m 29 #[iv x0, iv x1, iv x2, iv x3, iv x4, iv x5, iv (2 : Int32), iv (0 : Int32), rv b243, .unset, .unset, .unset] [(.int (2 : Int32))])) (fun t k => XS.iload X243.here hx rfl (hb hby at_27) rfl k) ?_
      refine own_go (T' := T243) (g' := (mkF m 32 #[iv x0, iv x1, iv x2, iv x3, iv x4, iv x5, iv (2 : Int32), iv (0 : Int32), rv b243, .unset, .unset, .unset] [])) (fun t k => XS.ifNo X243.here hx rfl (hb hby at_29) rfl ((if0 _ _).trans (tlt (by decide : ((0 : Int32) < (2 : Int32)))).2.2.2) k) ?_
      refine own_go (T' := T243) (g' := (mkF m 34 #[iv x0, iv x1, iv x2, iv x3, iv x4, iv x5, iv (2 : Int32), iv (0 : Int32), rv b243, .unset, .unset, .unset] [(.ref b243)])) (fun t k => XS.aload X243.here hx rfl (hb hby at_32) rfl rfl k) ?_
      refine own_go (T' := T243) (g' := (mkF m 35 #[iv x0, iv x1, iv x2, iv x3, iv x4, iv x5, iv (2 : Int32), iv (0 : Int32), rv b243, .unset, .unset, .unset] [(.int (0 : Int32)), (.ref b243)])) (fun t k => XS.iconst X243.here hx rfl (hb hby at_34) k) ?_
      refine own_go (T' := T243) (g' := (mkF m 36 #[iv x0, iv x1, iv x2, iv x3, iv x4, iv x5, iv (2 : Int32), iv (0 : Int32), rv b243, .unset, .unset, .unset] [(.int x0), (.int (0 : Int32)), (.ref b243)])) (fun t k => XS.iloadN X243.here hx rfl (hb hby at_35) rfl k) ?_
      obtain ⟨cl244, Ar244, q244, Sz244, Nn244, Ha244, Ga244⟩ := id V243
      have hin244 : ¬ ((0 : Int32) < 0 ∨ cl244.slots.size ≤ ((0 : Int32)).toNatClampNeg) := inb_of Sz244 ⟨by decide, by decide⟩
      obtain ⟨T244, h244, X244, e244, W244, st244⟩ := stI X243 hx hZ e243 Ar244 (j := (0 : Int32)) hin244 (g := (mkF m 36 #[iv x0, iv x1, iv x2, iv x3, iv x4, iv x5, iv (2 : Int32), iv (0 : Int32), rv b243, .unset, .unset, .unset] [(.int x0), (.int (0 : Int32)), (.ref b243)])) rfl rfl (hb hby at_36)
      have hz244 : n0 ≤ h244.size := Nat.le_trans hz243 (Keep.of_wr W244).1
      have N244 := Fr.snoc X244 N0 gn243
      have V244 : Arv Z h244 b243 k243 .int (2 : Int32) [(.int x0), (.int (0 : Int32))] (.int (0 : Int32)) := Arv.set Ar244 q244 Sz244 Nn244 Ha244 Ga244 rfl W244 0 rfl (Nat.le_of_ble_eq_true rfl)
      refine own_go (T' := T244) (g' := (mkF m 37 #[iv x0, iv x1, iv x2, iv x3, iv x4, iv x5, iv (2 : Int32), iv (0 : Int32), rv b243, .unset, .unset, .unset] [])) (st244) ?_
      refine own_go (T' := T244) (g' := (mkF m 39 #[iv x0, iv x1, iv x2, iv x3, iv x4, iv x5, iv (2 : Int32), iv (0 : Int32), rv b243, .unset, .unset, .unset] [(.int (2 : Int32))])) (fun t k => XS.iload X244.here hx rfl (hb hby at_37) rfl k) ?_
      refine own_go (T' := T244) (g' := (mkF m 40 #[iv x0, iv x1, iv x2, iv x3, iv x4, iv x5, iv (2 : Int32), iv (0 : Int32), rv b243, .unset, .unset, .unset] [(.int (1 : Int32)), (.int (2 : Int32))])) (fun t k => XS.iconst X244.here hx rfl (hb hby at_39) k) ?_
      refine own_go (T' := T244) (g' := (mkF m 43 #[iv x0, iv x1, iv x2, iv x3, iv x4, iv x5, iv (2 : Int32), iv (0 : Int32), rv b243, .unset, .unset, .unset] [])) (fun t k => XS.icmpNo X244.here hx rfl (hb hby at_40) rfl (tlt (by decide : ((1 : Int32) < (2 : Int32)))).2.2.2 k) ?_
      refine own_go (T' := T244) (g' := (mkF m 45 #[iv x0, iv x1, iv x2, iv x3, iv x4, iv x5, iv (2 : Int32), iv (0 : Int32), rv b243, .unset, .unset, .unset] [(.ref b243)])) (fun t k => XS.aload X244.here hx rfl (hb hby at_43) rfl rfl k) ?_
      refine own_go (T' := T244) (g' := (mkF m 46 #[iv x0, iv x1, iv x2, iv x3, iv x4, iv x5, iv (2 : Int32), iv (0 : Int32), rv b243, .unset, .unset, .unset] [(.int (1 : Int32)), (.ref b243)])) (fun t k => XS.iconst X244.here hx rfl (hb hby at_45) k) ?_
      refine own_go (T' := T244) (g' := (mkF m 47 #[iv x0, iv x1, iv x2, iv x3, iv x4, iv x5, iv (2 : Int32), iv (0 : Int32), rv b243, .unset, .unset, .unset] [(.int x1), (.int (1 : Int32)), (.ref b243)])) (fun t k => XS.iloadN X244.here hx rfl (hb hby at_46) rfl k) ?_
      obtain ⟨cl246, Ar246, q246, Sz246, Nn246, Ha246, Ga246⟩ := id V244
      have hin246 : ¬ ((1 : Int32) < 0 ∨ cl246.slots.size ≤ ((1 : Int32)).toNatClampNeg) := inb_of Sz246 ⟨by decide, by decide⟩
      obtain ⟨T246, h246, X246, e246, W246, st246⟩ := stI X244 hx hZ e244 Ar246 (j := (1 : Int32)) hin246 (g := (mkF m 47 #[iv x0, iv x1, iv x2, iv x3, iv x4, iv x5, iv (2 : Int32), iv (0 : Int32), rv b243, .unset, .unset, .unset] [(.int x1), (.int (1 : Int32)), (.ref b243)])) rfl rfl (hb hby at_47)
      have hz246 : n0 ≤ h246.size := Nat.le_trans hz244 (Keep.of_wr W246).1
      have N246 := Fr.snoc X246 N244 gn243
      have V246 : Arv Z h246 b243 k243 .int (2 : Int32) [(.int x0), (.int x1)] (.int (0 : Int32)) := Arv.set Ar246 q246 Sz246 Nn246 Ha246 Ga246 rfl W246 1 rfl (Nat.le_of_ble_eq_true rfl)
      refine own_go (T' := T246) (g' := (mkF m 48 #[iv x0, iv x1, iv x2, iv x3, iv x4, iv x5, iv (2 : Int32), iv (0 : Int32), rv b243, .unset, .unset, .unset] [])) (st246) ?_
      refine own_go (T' := T246) (g' := (mkF m 50 #[iv x0, iv x1, iv x2, iv x3, iv x4, iv x5, iv (2 : Int32), iv (0 : Int32), rv b243, .unset, .unset, .unset] [(.int (2 : Int32))])) (fun t k => XS.iload X246.here hx rfl (hb hby at_48) rfl k) ?_
      refine own_go (T' := T246) (g' := (mkF m 51 #[iv x0, iv x1, iv x2, iv x3, iv x4, iv x5, iv (2 : Int32), iv (0 : Int32), rv b243, .unset, .unset, .unset] [(.int (2 : Int32)), (.int (2 : Int32))])) (fun t k => XS.iconst X246.here hx rfl (hb hby at_50) k) ?_
      refine own_go (T' := T246) (g' := (mkF m 59 #[iv x0, iv x1, iv x2, iv x3, iv x4, iv x5, iv (2 : Int32), iv (0 : Int32), rv b243, .unset, .unset, .unset] [])) (fun t k => XS.icmpYes X246.here hx rfl (pc0 := 51) (pc' := 59) rfl (hb hby at_51) rfl (flt (by decide : ¬ ((2 : Int32) < (2 : Int32)))).2.2.2 (by decide) (by decide) k) ?_
      refine own_go (T' := T246) (g' := (mkF m 61 #[iv x0, iv x1, iv x2, iv x3, iv x4, iv x5, iv (2 : Int32), iv (0 : Int32), rv b243, .unset, .unset, .unset] [(.ref b243)])) (fun t k => XS.aload X246.here hx rfl (hb hby at_59) rfl rfl k) ?_
      refine own_go (T' := T246) (g' := (mkF m 63 #[iv x0, iv x1, iv x2, iv x3, iv x4, iv x5, iv (2 : Int32), iv (0 : Int32), rv b243, .unset, .unset, .unset] [(.int (0 : Int32)), (.ref b243)])) (fun t k => XS.iload X246.here hx rfl (hb hby at_61) rfl k) ?_
      refine own_go (T' := T246) (g' := (mkF m 64 #[iv x0, iv x1, iv x2, iv x3, iv x4, iv x5, iv (2 : Int32), iv (0 : Int32), rv b243, .unset, .unset, .unset] [(.int x3), (.int (0 : Int32)), (.ref b243)])) (fun t k => XS.iloadN X246.here hx rfl (hb hby at_63) rfl k) ?_
      obtain ⟨_, _, ⟨T248, L248, k248, n248⟩, -, X248, ⟨Lc248, hQ248, l248, y248, z248⟩, st248⟩ := Jvm.LawKit.callS X246 hx (y := (⟨"com/example/tankroute/tankroute/solve/Solution$Tour", "withStop", "([III)[I"⟩ : MethodName)) hown (mvT hZ (hw _ (List.mem_of_getElem? (i := 2) rfl))) (mvT hZ (hw _ (List.mem_of_getElem? (i := 3) rfl))) (mvT hZ (hw _ (List.mem_of_getElem? (i := 4) rfl))) (mvT hZ (hw _ (List.mem_of_getElem? (i := 5) rfl))) (by decide) (backOf (W := 0) (own_ws_2_0 l Z a0 hw [] x0 x1 x3 b243 k243 h246 n0 hz246 V246) hZ (hw _ (List.mem_of_getElem? (i := 5) rfl)) (hw _ (List.mem_of_getElem? (i := 4) rfl)) (by decide) (by decide)) (g := (mkF m 64 #[iv x0, iv x1, iv x2, iv x3, iv x4, iv x5, iv (2 : Int32), iv (0 : Int32), rv b243, .unset, .unset, .unset] [(.int x3), (.int (0 : Int32)), (.ref b243)])) rfl (by rw [hml]; rfl) (argsL := [(.ref b243), (.int (0 : Int32)), (.int x3)]) (rest := []) (lenOf own_pd0 rfl) rfl (by show 2 * 0 + _ ≤ _; exact Nat.le_of_eq rfl) (hb hby at_64) (fun _ _ => ⟨rfl, e246, (by decide : 1 + 1 ≤ _), (by decide : 2 + 3 ≤ _)⟩)
      dsimp only [Pt.U, Pt.locs, Pt.cells, Pt.slots] at X248 l248 y248 z248 st248 hQ248
      subst l248 y248 z248
      obtain ⟨b_248, k_248, rfl, N248q, ob_248, K_248, V_248⟩ := hQ248
      have N248 := Fr.app N246 N248q
      have nq248 : b243 ≠ b_248 := Nat.ne_of_lt (Nat.lt_of_lt_of_le V246.lt ob_248)
      have gq248 : n0 ≤ b_248 := Nat.le_trans hz246 ob_248
      have c250 := V246.keep K_248 nin0
      have hz248 : n0 ≤ T248.heap.size := Nat.le_trans hz246 K_248.1
      refine own_go (T' := T248) (g' := (mkF m 67 #[iv x0, iv x1, iv x2, iv x3, iv x4, iv x5, iv (2 : Int32), iv (0 : Int32), rv b243, .unset, .unset, .unset] [(.ref b_248)])) (st248) ?_
      refine own_go (T' := T248) (g' := (mkF m 69 #[iv x0, iv x1, iv x2, iv x3, iv x4, iv x5, iv (2 : Int32), iv (0 : Int32), rv b243, rv b_248, .unset, .unset] [])) (fun t k => XS.astore X248.here hx rfl (hb hby at_67) rfl rfl (l' := #[iv x0, iv x1, iv x2, iv x3, iv x4, iv x5, iv (2 : Int32), iv (0 : Int32), rv b243, rv b_248, .unset, .unset]) rfl k) ?_
      refine own_go (T' := T248) (g' := (mkF m 71 #[iv x0, iv x1, iv x2, iv x3, iv x4, iv x5, iv (2 : Int32), iv (0 : Int32), rv b243, rv b_248, .unset, .unset] [(.ref b_248)])) (fun t k => XS.aload X248.here hx rfl (hb hby at_69) rfl rfl k) ?_
      refine own_go (T' := T248) (g' := (mkF m 74 #[iv x0, iv x1, iv x2, iv x3, iv x4, iv x5, iv (2 : Int32), iv (0 : Int32), rv b243, rv b_248, .unset, .unset] [])) (fun t k => XS.ifnullNo X248.here hx rfl (hb hby at_71) rfl k) ?_
      refine own_go (T' := T248) (g' := (mkF m 76 #[iv x0, iv x1, iv x2, iv x3, iv x4, iv x5, iv (2 : Int32), iv (0 : Int32), rv b243, rv b_248, .unset, .unset] [(.ref b_248)])) (fun t k => XS.aload X248.here hx rfl (hb hby at_74) rfl rfl k) ?_
      refine own_go (T' := T248) (g' := (mkF m 78 #[iv x0, iv x1, iv x2, iv x3, iv x4, iv x5, iv (2 : Int32), iv (0 : Int32), rv b243, rv b_248, .unset, .unset] [(.ref b243), (.ref b_248)])) (fun t k => XS.aload X248.here hx rfl (hb hby at_76) rfl rfl k) ?_
      refine own_go (T' := T248) (g' := (mkF m 81 #[iv x0, iv x1, iv x2, iv x3, iv x4, iv x5, iv (2 : Int32), iv (0 : Int32), rv b243, rv b_248, .unset, .unset] [])) (fun t k => Jvm.RoadKit.acmp (g := (mkF m 78 #[iv x0, iv x1, iv x2, iv x3, iv x4, iv x5, iv (2 : Int32), iv (0 : Int32), rv b243, rv b_248, .unset, .unset] [(.ref b243), (.ref b_248)])) X248 hx rfl (x := (.ref b_248)) (y := (.ref b243)) rfl rfl (pc0 := 78) (pc' := 81) (same := false) rfl (hb hby at_78) rfl (decide_eq_false fun q => (Ne.symm nq248) (Value.ref.inj q)) (by decide) (by decide) k) ?_
      refine own_go (T' := T248) (g' := (mkF m 83 #[iv x0, iv x1, iv x2, iv x3, iv x4, iv x5, iv (2 : Int32), iv (0 : Int32), rv b243, rv b_248, .unset, .unset] [(.ref b_248)])) (fun t k => XS.aload X248.here hx rfl (hb hby at_81) rfl rfl k) ?_
      obtain ⟨cl251, Ar251, -, Sz251, Nn251, -, -⟩ := id V_248
      refine own_go (T' := T248) (g' := (mkF m 84 #[iv x0, iv x1, iv x2, iv x3, iv x4, iv x5, iv (2 : Int32), iv (0 : Int32), rv b243, rv b_248, .unset, .unset] [(.int (3 : Int32))])) (fun t k => X248.arraylength hx (by exact Ar251.1) (State.isArrayOf_alike hZ.alike Ar251.2.1) (g := (mkF m 83 #[iv x0, iv x1, iv x2, iv x3, iv x4, iv x5, iv (2 : Int32), iv (0 : Int32), rv b243, rv b_248, .unset, .unset] [(.ref b_248)])) rfl rfl (hb hby at_83) _ (by rw [len_of Sz251 Nn251]; exact k)) ?_
      refine own_go (T' := T248) (g' := (mkF m 86 #[iv x0, iv x1, iv x2, iv x3, iv x4, iv x5, iv (2 : Int32), iv (0 : Int32), rv b243, rv b_248, .unset, .unset] [(.int (2 : Int32)), (.int (3 : Int32))])) (fun t k => XS.iload X248.here hx rfl (hb hby at_84) rfl k) ?_
      refine own_go (T' := T248) (g' := (mkF m 87 #[iv x0, iv x1, iv x2, iv x3, iv x4, iv x5, iv (2 : Int32), iv (0 : Int32), rv b243, rv b_248, .unset, .unset] [(.int (1 : Int32)), (.int (2 : Int32)), (.int (3 : Int32))])) (fun t k => XS.iconst X248.here hx rfl (hb hby at_86) k) ?_
      refine own_go (T' := T248) (g' := (mkF m 88 #[iv x0, iv x1, iv x2, iv x3, iv x4, iv x5, iv (2 : Int32), iv (0 : Int32), rv b243, rv b_248, .unset, .unset] [(.int (3 : Int32)), (.int (3 : Int32))])) (fun t k => XS.iadd X248.here hx rfl (hb hby at_87) rfl k) ?_
      refine own_go (T' := T248) (g' := (mkF m 93 #[iv x0, iv x1, iv x2, iv x3, iv x4, iv x5, iv (2 : Int32), iv (0 : Int32), rv b243, rv b_248, .unset, .unset] [])) (fun t k => XS.icmpYes X248.here hx rfl (pc0 := 88) (pc' := 93) rfl (hb hby at_88) rfl (teq (by decide : ((3 : Int32) = (3 : Int32)))).1 (by decide) (by decide) k) ?_
      refine own_go (T' := T248) (g' := (mkF m 95 #[iv x0, iv x1, iv x2, iv x3, iv x4, iv x5, iv (2 : Int32), iv (0 : Int32), rv b243, rv b_248, .unset, .unset] [(.ref b_248)])) (fun t k => XS.aload X248.here hx rfl (hb hby at_93) rfl rfl k) ?_
      refine own_go (T' := T248) (g' := (mkF m 97 #[iv x0, iv x1, iv x2, iv x3, iv x4, iv x5, iv (2 : Int32), iv (0 : Int32), rv b243, rv b_248, .unset, .unset] [(.ref b243), (.ref b_248)])) (fun t k => XS.aload X248.here hx rfl (hb hby at_95) rfl rfl k) ?_
      refine own_go (T' := T248) (g' := (mkF m 99 #[iv x0, iv x1, iv x2, iv x3, iv x4, iv x5, iv (2 : Int32), iv (0 : Int32), rv b243, rv b_248, .unset, .unset] [(.int (0 : Int32)), (.ref b243), (.ref b_248)])) (fun t k => XS.iload X248.here hx rfl (hb hby at_97) rfl k) ?_
      refine own_go (T' := T248) (g' := (mkF m 100 #[iv x0, iv x1, iv x2, iv x3, iv x4, iv x5, iv (2 : Int32), iv (0 : Int32), rv b243, rv b_248, .unset, .unset] [(.int x3), (.int (0 : Int32)), (.ref b243), (.ref b_248)])) (fun t k => XS.iloadN X248.here hx rfl (hb hby at_99) rfl k) ?_
      refine own_go (T' := T248) (g' := (mkF m 101 #[iv x0, iv x1, iv x2, iv x3, iv x4, iv x5, iv (2 : Int32), iv (0 : Int32), rv b243, rv b_248, .unset, .unset] [(.int (0 : Int32)), (.int x3), (.int (0 : Int32)), (.ref b243), (.ref b_248)])) (fun t k => XS.iconst X248.here hx rfl (hb hby at_100) k) ?_
      obtain ⟨_, _, ⟨T252, L252, k252, n252⟩, -, X252, ⟨Lc252, hQ252, l252, y252, z252⟩, st252⟩ := Jvm.LawKit.callS X248 hx (y := (⟨"com/example/tankroute/tankroute/solve/TourWithStopPinLaw", "slot", "([I[IIII)Z"⟩ : MethodName)) hown (mvT hZ (hw _ (List.mem_of_getElem? (i := 10) rfl))) (mvT hZ (hw _ (List.mem_of_getElem? (i := 11) rfl))) (mvT hZ (hw _ (List.mem_of_getElem? (i := 12) rfl))) (mvT hZ (hw _ (List.mem_of_getElem? (i := 13) rfl))) (by decide) (backOf (W := 0) (own_slotC l Z a0 hw [] b_248 b243 k_248 k243 (3 : Int32) (2 : Int32) (0 : Int32)  (0 : Int32) x3 [(.int x3), (.int x0), (.int x1)] [(.int x0), (.int x1)] T248.heap n0 hz248 V_248 c250 (by decide) (by decide) rfl (by decide) rfl) hZ (hw _ (List.mem_of_getElem? (i := 13) rfl)) (hw _ (List.mem_of_getElem? (i := 12) rfl)) (by decide) (by decide)) (g := (mkF m 101 #[iv x0, iv x1, iv x2, iv x3, iv x4, iv x5, iv (2 : Int32), iv (0 : Int32), rv b243, rv b_248, .unset, .unset] [(.int (0 : Int32)), (.int x3), (.int (0 : Int32)), (.ref b243), (.ref b_248)])) rfl (by rw [hml]; rfl) (argsL := [(.ref b_248), (.ref b243), (.int (0 : Int32)), (.int x3), (.int (0 : Int32))]) (rest := []) (lenOf own_pd1 rfl) rfl (by show 2 * 0 + _ ≤ _; exact Nat.le_of_eq rfl) (hb hby at_101) (fun _ _ => ⟨rfl, rfl, (by decide : 2 + 0 ≤ _), (by decide : 5 + 0 ≤ _)⟩)
      dsimp only [Pt.U, Pt.locs, Pt.cells, Pt.slots] at X252 l252 y252 z252 st252 hQ252
      subst l252 y252 z252
      obtain ⟨rfl, rfl, e252⟩ := hQ252
      have E252q : T252.heap = T248.heap := e252
      have N252 := Fr.app N248 (Fr.nil n0)
      refine own_go (T' := T252) (g' := (mkF m 104 #[iv x0, iv x1, iv x2, iv x3, iv x4, iv x5, iv (2 : Int32), iv (0 : Int32), rv b243, rv b_248, .unset, .unset] [(.int (1 : Int32))])) (st252) ?_
      refine own_go (T' := T252) (g' := (mkF m 107 #[iv x0, iv x1, iv x2, iv x3, iv x4, iv x5, iv (2 : Int32), iv (0 : Int32), rv b243, rv b_248, .unset, .unset] [])) (fun t k => XS.ifNo X252.here hx rfl (hb hby at_104) rfl ((if0 _ _).trans (feq (by decide : ¬ ((1 : Int32) = (0 : Int32)))).1) k) ?_
      refine own_go (T' := T252) (g' := (mkF m 109 #[iv x0, iv x1, iv x2, iv x3, iv x4, iv x5, iv (2 : Int32), iv (0 : Int32), rv b243, rv b_248, .unset, .unset] [(.ref b_248)])) (fun t k => XS.aload X252.here hx rfl (hb hby at_107) rfl rfl k) ?_
      refine own_go (T' := T252) (g' := (mkF m 111 #[iv x0, iv x1, iv x2, iv x3, iv x4, iv x5, iv (2 : Int32), iv (0 : Int32), rv b243, rv b_248, .unset, .unset] [(.ref b243), (.ref b_248)])) (fun t k => XS.aload X252.here hx rfl (hb hby at_109) rfl rfl k) ?_
      refine own_go (T' := T252) (g' := (mkF m 113 #[iv x0, iv x1, iv x2, iv x3, iv x4, iv x5, iv (2 : Int32), iv (0 : Int32), rv b243, rv b_248, .unset, .unset] [(.int (0 : Int32)), (.ref b243), (.ref b_248)])) (fun t k => XS.iload X252.here hx rfl (hb hby at_111) rfl k) ?_
      refine own_go (T' := T252) (g' := (mkF m 114 #[iv x0, iv x1, iv x2, iv x3, iv x4, iv x5, iv (2 : Int32), iv (0 : Int32), rv b243, rv b_248, .unset, .unset] [(.int x3), (.int (0 : Int32)), (.ref b243), (.ref b_248)])) (fun t k => XS.iloadN X252.here hx rfl (hb hby at_113) rfl k) ?_
      refine own_go (T' := T252) (g' := (mkF m 115 #[iv x0, iv x1, iv x2, iv x3, iv x4, iv x5, iv (2 : Int32), iv (0 : Int32), rv b243, rv b_248, .unset, .unset] [(.int (1 : Int32)), (.int x3), (.int (0 : Int32)), (.ref b243), (.ref b_248)])) (fun t k => XS.iconst X252.here hx rfl (hb hby at_114) k) ?_
      obtain ⟨_, _, ⟨T253, L253, k253, n253⟩, -, X253, ⟨Lc253, hQ253, l253, y253, z253⟩, st253⟩ := Jvm.LawKit.callS X252 hx (y := (⟨"com/example/tankroute/tankroute/solve/TourWithStopPinLaw", "slot", "([I[IIII)Z"⟩ : MethodName)) hown (mvT hZ (hw _ (List.mem_of_getElem? (i := 10) rfl))) (mvT hZ (hw _ (List.mem_of_getElem? (i := 11) rfl))) (mvT hZ (hw _ (List.mem_of_getElem? (i := 12) rfl))) (mvT hZ (hw _ (List.mem_of_getElem? (i := 13) rfl))) (by decide) (backOf (W := 0) (own_slotD l Z a0 hw [] b_248 b243 k_248 k243 (3 : Int32) (2 : Int32) (0 : Int32) x3 (1 : Int32) x0 [(.int x3), (.int x0), (.int x1)] [(.int x0), (.int x1)] T248.heap n0 hz248 V_248 c250 (by decide) (by decide) (by decide) (by decide) (by decide) (by decide) rfl rfl) hZ (hw _ (List.mem_of_getElem? (i := 13) rfl)) (hw _ (List.mem_of_getElem? (i := 12) rfl)) (by decide) (by decide)) (g := (mkF m 115 #[iv x0, iv x1, iv x2, iv x3, iv x4, iv x5, iv (2 : Int32), iv (0 : Int32), rv b243, rv b_248, .unset, .unset] [(.int (1 : Int32)), (.int x3), (.int (0 : Int32)), (.ref b243), (.ref b_248)])) rfl (by rw [hml]; rfl) (argsL := [(.ref b_248), (.ref b243), (.int (0 : Int32)), (.int x3), (.int (1 : Int32))]) (rest := []) (lenOf own_pd1 rfl) rfl (by show 2 * 0 + _ ≤ _; exact Nat.le_of_eq rfl) (hb hby at_115) (fun _ _ => ⟨rfl, E252q, (by decide : 2 + 0 ≤ _), (by decide : 5 + 0 ≤ _)⟩)
      dsimp only [Pt.U, Pt.locs, Pt.cells, Pt.slots] at X253 l253 y253 z253 st253 hQ253
      subst l253 y253 z253
      obtain ⟨rfl, rfl, e253⟩ := hQ253
      have E253q : T253.heap = T248.heap := e253
      have N253 := Fr.app N252 (Fr.nil n0)
      refine own_go (T' := T253) (g' := (mkF m 118 #[iv x0, iv x1, iv x2, iv x3, iv x4, iv x5, iv (2 : Int32), iv (0 : Int32), rv b243, rv b_248, .unset, .unset] [(.int (1 : Int32))])) (st253) ?_
      refine own_go (T' := T253) (g' := (mkF m 121 #[iv x0, iv x1, iv x2, iv x3, iv x4, iv x5, iv (2 : Int32), iv (0 : Int32), rv b243, rv b_248, .unset, .unset] [])) (fun t k => XS.ifNo X253.here hx rfl (hb hby at_118) rfl ((if0 _ _).trans (feq (by decide : ¬ ((1 : Int32) = (0 : Int32)))).1) k) ?_
      refine own_go (T' := T253) (g' := (mkF m 123 #[iv x0, iv x1, iv x2, iv x3, iv x4, iv x5, iv (2 : Int32), iv (0 : Int32), rv b243, rv b_248, .unset, .unset] [(.ref b_248)])) (fun t k => XS.aload X253.here hx rfl (hb hby at_121) rfl rfl k) ?_
      refine own_go (T' := T253) (g' := (mkF m 125 #[iv x0, iv x1, iv x2, iv x3, iv x4, iv x5, iv (2 : Int32), iv (0 : Int32), rv b243, rv b_248, .unset, .unset] [(.ref b243), (.ref b_248)])) (fun t k => XS.aload X253.here hx rfl (hb hby at_123) rfl rfl k) ?_
      refine own_go (T' := T253) (g' := (mkF m 127 #[iv x0, iv x1, iv x2, iv x3, iv x4, iv x5, iv (2 : Int32), iv (0 : Int32), rv b243, rv b_248, .unset, .unset] [(.int (0 : Int32)), (.ref b243), (.ref b_248)])) (fun t k => XS.iload X253.here hx rfl (hb hby at_125) rfl k) ?_
      refine own_go (T' := T253) (g' := (mkF m 128 #[iv x0, iv x1, iv x2, iv x3, iv x4, iv x5, iv (2 : Int32), iv (0 : Int32), rv b243, rv b_248, .unset, .unset] [(.int x3), (.int (0 : Int32)), (.ref b243), (.ref b_248)])) (fun t k => XS.iloadN X253.here hx rfl (hb hby at_127) rfl k) ?_
      refine own_go (T' := T253) (g' := (mkF m 129 #[iv x0, iv x1, iv x2, iv x3, iv x4, iv x5, iv (2 : Int32), iv (0 : Int32), rv b243, rv b_248, .unset, .unset] [(.int (2 : Int32)), (.int x3), (.int (0 : Int32)), (.ref b243), (.ref b_248)])) (fun t k => XS.iconst X253.here hx rfl (hb hby at_128) k) ?_
      obtain ⟨_, _, ⟨T254, L254, k254, n254⟩, -, X254, ⟨Lc254, hQ254, l254, y254, z254⟩, st254⟩ := Jvm.LawKit.callS X253 hx (y := (⟨"com/example/tankroute/tankroute/solve/TourWithStopPinLaw", "slot", "([I[IIII)Z"⟩ : MethodName)) hown (mvT hZ (hw _ (List.mem_of_getElem? (i := 10) rfl))) (mvT hZ (hw _ (List.mem_of_getElem? (i := 11) rfl))) (mvT hZ (hw _ (List.mem_of_getElem? (i := 12) rfl))) (mvT hZ (hw _ (List.mem_of_getElem? (i := 13) rfl))) (by decide) (backOf (W := 0) (own_slotD l Z a0 hw [] b_248 b243 k_248 k243 (3 : Int32) (2 : Int32) (0 : Int32) x3 (2 : Int32) x1 [(.int x3), (.int x0), (.int x1)] [(.int x0), (.int x1)] T248.heap n0 hz248 V_248 c250 (by decide) (by decide) (by decide) (by decide) (by decide) (by decide) rfl rfl) hZ (hw _ (List.mem_of_getElem? (i := 13) rfl)) (hw _ (List.mem_of_getElem? (i := 12) rfl)) (by decide) (by decide)) (g := (mkF m 129 #[iv x0, iv x1, iv x2, iv x3, iv x4, iv x5, iv (2 : Int32), iv (0 : Int32), rv b243, rv b_248, .unset, .unset] [(.int (2 : Int32)), (.int x3), (.int (0 : Int32)), (.ref b243), (.ref b_248)])) rfl (by rw [hml]; rfl) (argsL := [(.ref b_248), (.ref b243), (.int (0 : Int32)), (.int x3), (.int (2 : Int32))]) (rest := []) (lenOf own_pd1 rfl) rfl (by show 2 * 0 + _ ≤ _; exact Nat.le_of_eq rfl) (hb hby at_129) (fun _ _ => ⟨rfl, E253q, (by decide : 2 + 0 ≤ _), (by decide : 5 + 0 ≤ _)⟩)
      dsimp only [Pt.U, Pt.locs, Pt.cells, Pt.slots] at X254 l254 y254 z254 st254 hQ254
      subst l254 y254 z254
      obtain ⟨rfl, rfl, e254⟩ := hQ254
      have E254q : T254.heap = T248.heap := e254
      have N254 := Fr.app N253 (Fr.nil n0)
      refine own_go (T' := T254) (g' := (mkF m 132 #[iv x0, iv x1, iv x2, iv x3, iv x4, iv x5, iv (2 : Int32), iv (0 : Int32), rv b243, rv b_248, .unset, .unset] [(.int (1 : Int32))])) (st254) ?_
      refine own_go (T' := T254) (g' := (mkF m 135 #[iv x0, iv x1, iv x2, iv x3, iv x4, iv x5, iv (2 : Int32), iv (0 : Int32), rv b243, rv b_248, .unset, .unset] [])) (fun t k => XS.ifNo X254.here hx rfl (hb hby at_132) rfl ((if0 _ _).trans (feq (by decide : ¬ ((1 : Int32) = (0 : Int32)))).1) k) ?_
      refine own_go (T' := T254) (g' := (mkF m 137 #[iv x0, iv x1, iv x2, iv x3, iv x4, iv x5, iv (2 : Int32), iv (0 : Int32), rv b243, rv b_248, .unset, .unset] [(.ref b_248)])) (fun t k => XS.aload X254.here hx rfl (hb hby at_135) rfl rfl k) ?_
      refine own_go (T' := T254) (g' := (mkF m 139 #[iv x0, iv x1, iv x2, iv x3, iv x4, iv x5, iv (2 : Int32), iv (0 : Int32), rv b243, rv b_248, .unset, .unset] [(.ref b243), (.ref b_248)])) (fun t k => XS.aload X254.here hx rfl (hb hby at_137) rfl rfl k) ?_
      refine own_go (T' := T254) (g' := (mkF m 141 #[iv x0, iv x1, iv x2, iv x3, iv x4, iv x5, iv (2 : Int32), iv (0 : Int32), rv b243, rv b_248, .unset, .unset] [(.int (0 : Int32)), (.ref b243), (.ref b_248)])) (fun t k => XS.iload X254.here hx rfl (hb hby at_139) rfl k) ?_
      refine own_go (T' := T254) (g' := (mkF m 142 #[iv x0, iv x1, iv x2, iv x3, iv x4, iv x5, iv (2 : Int32), iv (0 : Int32), rv b243, rv b_248, .unset, .unset] [(.int x3), (.int (0 : Int32)), (.ref b243), (.ref b_248)])) (fun t k => XS.iloadN X254.here hx rfl (hb hby at_141) rfl k) ?_
      refine own_go (T' := T254) (g' := (mkF m 143 #[iv x0, iv x1, iv x2, iv x3, iv x4, iv x5, iv (2 : Int32), iv (0 : Int32), rv b243, rv b_248, .unset, .unset] [(.int (3 : Int32)), (.int x3), (.int (0 : Int32)), (.ref b243), (.ref b_248)])) (fun t k => XS.iconst X254.here hx rfl (hb hby at_142) k) ?_
      obtain ⟨_, _, ⟨T255, L255, k255, n255⟩, -, X255, ⟨Lc255, hQ255, l255, y255, z255⟩, st255⟩ := Jvm.LawKit.callS X254 hx (y := (⟨"com/example/tankroute/tankroute/solve/TourWithStopPinLaw", "slot", "([I[IIII)Z"⟩ : MethodName)) hown (mvT hZ (hw _ (List.mem_of_getElem? (i := 10) rfl))) (mvT hZ (hw _ (List.mem_of_getElem? (i := 11) rfl))) (mvT hZ (hw _ (List.mem_of_getElem? (i := 12) rfl))) (mvT hZ (hw _ (List.mem_of_getElem? (i := 13) rfl))) (by decide) (backOf (W := 0) (own_slotA l Z a0 hw [] b_248 b243 k_248 k243 (3 : Int32) (2 : Int32) (0 : Int32) x3 (3 : Int32) 0 [(.int x3), (.int x0), (.int x1)] [(.int x0), (.int x1)] T248.heap n0 hz248 V_248 c250 (by decide)) hZ (hw _ (List.mem_of_getElem? (i := 13) rfl)) (hw _ (List.mem_of_getElem? (i := 12) rfl)) (by decide) (by decide)) (g := (mkF m 143 #[iv x0, iv x1, iv x2, iv x3, iv x4, iv x5, iv (2 : Int32), iv (0 : Int32), rv b243, rv b_248, .unset, .unset] [(.int (3 : Int32)), (.int x3), (.int (0 : Int32)), (.ref b243), (.ref b_248)])) rfl (by rw [hml]; rfl) (argsL := [(.ref b_248), (.ref b243), (.int (0 : Int32)), (.int x3), (.int (3 : Int32))]) (rest := []) (lenOf own_pd1 rfl) rfl (by show 2 * 0 + _ ≤ _; exact Nat.le_of_eq rfl) (hb hby at_143) (fun _ _ => ⟨rfl, E254q, (by decide : 2 + 0 ≤ _), (by decide : 5 + 0 ≤ _)⟩)
      dsimp only [Pt.U, Pt.locs, Pt.cells, Pt.slots] at X255 l255 y255 z255 st255 hQ255
      subst l255 y255 z255
      obtain ⟨rfl, rfl, e255⟩ := hQ255
      have E255q : T255.heap = T248.heap := e255
      have N255 := Fr.app N254 (Fr.nil n0)
      refine own_go (T' := T255) (g' := (mkF m 146 #[iv x0, iv x1, iv x2, iv x3, iv x4, iv x5, iv (2 : Int32), iv (0 : Int32), rv b243, rv b_248, .unset, .unset] [(.int (1 : Int32))])) (st255) ?_
      refine own_go (T' := T255) (g' := (mkF m 149 #[iv x0, iv x1, iv x2, iv x3, iv x4, iv x5, iv (2 : Int32), iv (0 : Int32), rv b243, rv b_248, .unset, .unset] [])) (fun t k => XS.ifNo X255.here hx rfl (hb hby at_146) rfl ((if0 _ _).trans (feq (by decide : ¬ ((1 : Int32) = (0 : Int32)))).1) k) ?_
      refine own_go (T' := T255) (g' := (mkF m 150 #[iv x0, iv x1, iv x2, iv x3, iv x4, iv x5, iv (2 : Int32), iv (0 : Int32), rv b243, rv b_248, .unset, .unset] [(.int (1 : Int32))])) (fun t k => XS.iconst X255.here hx rfl (hb hby at_149) k) ?_
      refine own_go (T' := T255) (g' := (mkF m 154 #[iv x0, iv x1, iv x2, iv x3, iv x4, iv x5, iv (2 : Int32), iv (0 : Int32), rv b243, rv b_248, .unset, .unset] [(.int (1 : Int32))])) (fun t k => XS.goto X255.here hx rfl (pc0 := 150) (pc' := 154) rfl (hb hby at_150) (by decide) (by decide) k) ?_
      refine own_go (T' := T255) (g' := (mkF m 156 #[iv x0, iv x1, iv x2, iv x3, iv x4, iv x5, iv (2 : Int32), iv (0 : Int32), rv b243, rv b_248, iv (1 : Int32), .unset] [])) (fun t k => XS.istore X255.here hx rfl (hb hby at_154) rfl (l' := #[iv x0, iv x1, iv x2, iv x3, iv x4, iv x5, iv (2 : Int32), iv (0 : Int32), rv b243, rv b_248, iv (1 : Int32), .unset]) rfl k) ?_
      refine own_go (T' := T255) (g' := (mkF m 158 #[iv x0, iv x1, iv x2, iv x3, iv x4, iv x5, iv (2 : Int32), iv (0 : Int32), rv b243, rv b_248, iv (1 : Int32), .unset] [(.int (2 : Int32))])) (fun t k => XS.iload X255.here hx rfl (hb hby at_156) rfl k) ?_
      refine own_go (T' := T255) (g' := (mkF m 159 #[iv x0, iv x1, iv x2, iv x3, iv x4, iv x5, iv (2 : Int32), iv (0 : Int32), rv b243, rv b_248, iv (1 : Int32), .unset] [(.int (1 : Int32)), (.int (2 : Int32))])) (fun t k => XS.iconst X255.here hx rfl (hb hby at_158) k) ?_
      refine own_go (T' := T255) (g' := (mkF m 162 #[iv x0, iv x1, iv x2, iv x3, iv x4, iv x5, iv (2 : Int32), iv (0 : Int32), rv b243, rv b_248, iv (1 : Int32), .unset] [])) (fun t k => XS.icmpNo X255.here hx rfl (hb hby at_159) rfl (flt (by decide : ¬ ((2 : Int32) < (1 : Int32)))).1 k) ?_
      refine own_go (T' := T255) (g' := (mkF m 164 #[iv x0, iv x1, iv x2, iv x3, iv x4, iv x5, iv (2 : Int32), iv (0 : Int32), rv b243, rv b_248, iv (1 : Int32), .unset] [(.ref b243)])) (fun t k => XS.aload X255.here hx rfl (hb hby at_162) rfl rfl k) ?_
      refine own_go (T' := T255) (g' := (mkF m 165 #[iv x0, iv x1, iv x2, iv x3, iv x4, iv x5, iv (2 : Int32), iv (0 : Int32), rv b243, rv b_248, iv (1 : Int32), .unset] [(.int (0 : Int32)), (.ref b243)])) (fun t k => XS.iconst X255.here hx rfl (hb hby at_164) k) ?_
      obtain ⟨cl256, Ar256, -, Sz256, Nn256, Ha256, -⟩ := id c250
      have hin256 : ¬ ((0 : Int32) < 0 ∨ cl256.slots.size ≤ ((0 : Int32)).toNatClampNeg) := inb_of Sz256 ⟨by decide, by decide⟩
      have hat256 : cl256.slots[((0 : Int32)).toNatClampNeg]? = some (.int x0) := Ha256.at hin256 rfl
      refine own_go (T' := T255) (g' := (mkF m 166 #[iv x0, iv x1, iv x2, iv x3, iv x4, iv x5, iv (2 : Int32), iv (0 : Int32), rv b243, rv b_248, iv (1 : Int32), .unset] [(.int x0)])) (fun t k => X255.iaload hx (j := (0 : Int32)) (v := (.int x0)) (by rw [E255q]; exact Ar256.1) (State.isArrayOf_alike hZ.alike Ar256.2.1) Ar256.2.2 hin256 hat256 (g := (mkF m 165 #[iv x0, iv x1, iv x2, iv x3, iv x4, iv x5, iv (2 : Int32), iv (0 : Int32), rv b243, rv b_248, iv (1 : Int32), .unset] [(.int (0 : Int32)), (.ref b243)])) rfl rfl (hb hby at_165) _ k) ?_
      refine own_go (T' := T255) (g' := (mkF m 167 #[iv x0, iv x1, iv x2, iv x3, iv x4, iv x5, iv (2 : Int32), iv (0 : Int32), rv b243, rv b_248, iv (1 : Int32), .unset] [(.int x0), (.int x0)])) (fun t k => XS.iloadN X255.here hx rfl (hb hby at_166) rfl k) ?_
      refine own_go (T' := T255) (g' := (mkF m 170 #[iv x0, iv x1, iv x2, iv x3, iv x4, iv x5, iv (2 : Int32), iv (0 : Int32), rv b243, rv b_248, iv (1 : Int32), .unset] [])) (fun t k => XS.icmpNo X255.here hx rfl (hb hby at_167) rfl (teq (rfl : x0 = x0)).2 k) ?_
      refine own_go (T' := T255) (g' := (mkF m 172 #[iv x0, iv x1, iv x2, iv x3, iv x4, iv x5, iv (2 : Int32), iv (0 : Int32), rv b243, rv b_248, iv (1 : Int32), .unset] [(.int (2 : Int32))])) (fun t k => XS.iload X255.here hx rfl (hb hby at_170) rfl k) ?_
      refine own_go (T' := T255) (g' := (mkF m 173 #[iv x0, iv x1, iv x2, iv x3, iv x4, iv x5, iv (2 : Int32), iv (0 : Int32), rv b243, rv b_248, iv (1 : Int32), .unset] [(.int (2 : Int32)), (.int (2 : Int32))])) (fun t k => XS.iconst X255.here hx rfl (hb hby at_172) k) ?_
      refine own_go (T' := T255) (g' := (mkF m 176 #[iv x0, iv x1, iv x2, iv x3, iv x4, iv x5, iv (2 : Int32), iv (0 : Int32), rv b243, rv b_248, iv (1 : Int32), .unset] [])) (fun t k => XS.icmpNo X255.here hx rfl (hb hby at_173) rfl (flt (by decide : ¬ ((2 : Int32) < (2 : Int32)))).1 k) ?_
      refine own_go (T' := T255) (g' := (mkF m 178 #[iv x0, iv x1, iv x2, iv x3, iv x4, iv x5, iv (2 : Int32), iv (0 : Int32), rv b243, rv b_248, iv (1 : Int32), .unset] [(.ref b243)])) (fun t k => XS.aload X255.here hx rfl (hb hby at_176) rfl rfl k) ?_
      refine own_go (T' := T255) (g' := (mkF m 179 #[iv x0, iv x1, iv x2, iv x3, iv x4, iv x5, iv (2 : Int32), iv (0 : Int32), rv b243, rv b_248, iv (1 : Int32), .unset] [(.int (1 : Int32)), (.ref b243)])) (fun t k => XS.iconst X255.here hx rfl (hb hby at_178) k) ?_
      obtain ⟨cl257, Ar257, -, Sz257, Nn257, Ha257, -⟩ := id c250
      have hin257 : ¬ ((1 : Int32) < 0 ∨ cl257.slots.size ≤ ((1 : Int32)).toNatClampNeg) := inb_of Sz257 ⟨by decide, by decide⟩
      have hat257 : cl257.slots[((1 : Int32)).toNatClampNeg]? = some (.int x1) := Ha257.at hin257 rfl
      refine own_go (T' := T255) (g' := (mkF m 180 #[iv x0, iv x1, iv x2, iv x3, iv x4, iv x5, iv (2 : Int32), iv (0 : Int32), rv b243, rv b_248, iv (1 : Int32), .unset] [(.int x1)])) (fun t k => X255.iaload hx (j := (1 : Int32)) (v := (.int x1)) (by rw [E255q]; exact Ar257.1) (State.isArrayOf_alike hZ.alike Ar257.2.1) Ar257.2.2 hin257 hat257 (g := (mkF m 179 #[iv x0, iv x1, iv x2, iv x3, iv x4, iv x5, iv (2 : Int32), iv (0 : Int32), rv b243, rv b_248, iv (1 : Int32), .unset] [(.int (1 : Int32)), (.ref b243)])) rfl rfl (hb hby at_179) _ k) ?_
      refine own_go (T' := T255) (g' := (mkF m 181 #[iv x0, iv x1, iv x2, iv x3, iv x4, iv x5, iv (2 : Int32), iv (0 : Int32), rv b243, rv b_248, iv (1 : Int32), .unset] [(.int x1), (.int x1)])) (fun t k => XS.iloadN X255.here hx rfl (hb hby at_180) rfl k) ?_
      refine own_go (T' := T255) (g' := (mkF m 184 #[iv x0, iv x1, iv x2, iv x3, iv x4, iv x5, iv (2 : Int32), iv (0 : Int32), rv b243, rv b_248, iv (1 : Int32), .unset] [])) (fun t k => XS.icmpNo X255.here hx rfl (hb hby at_181) rfl (teq (rfl : x1 = x1)).2 k) ?_
      refine own_go (T' := T255) (g' := (mkF m 186 #[iv x0, iv x1, iv x2, iv x3, iv x4, iv x5, iv (2 : Int32), iv (0 : Int32), rv b243, rv b_248, iv (1 : Int32), .unset] [(.int (2 : Int32))])) (fun t k => XS.iload X255.here hx rfl (hb hby at_184) rfl k) ?_
      refine own_go (T' := T255) (g' := (mkF m 187 #[iv x0, iv x1, iv x2, iv x3, iv x4, iv x5, iv (2 : Int32), iv (0 : Int32), rv b243, rv b_248, iv (1 : Int32), .unset] [(.int (3 : Int32)), (.int (2 : Int32))])) (fun t k => XS.iconst X255.here hx rfl (hb hby at_186) k) ?_
      refine own_go (T' := T255) (g' := (mkF m 198 #[iv x0, iv x1, iv x2, iv x3, iv x4, iv x5, iv (2 : Int32), iv (0 : Int32), rv b243, rv b_248, iv (1 : Int32), .unset] [])) (fun t k => XS.icmpYes X255.here hx rfl (pc0 := 187) (pc' := 198) rfl (hb hby at_187) rfl (tlt (by decide : ((2 : Int32) < (3 : Int32)))).1 (by decide) (by decide) k) ?_
      refine own_go (T' := T255) (g' := (mkF m 199 #[iv x0, iv x1, iv x2, iv x3, iv x4, iv x5, iv (2 : Int32), iv (0 : Int32), rv b243, rv b_248, iv (1 : Int32), .unset] [(.int (1 : Int32))])) (fun t k => XS.iconst X255.here hx rfl (hb hby at_198) k) ?_
      refine own_go (T' := T255) (g' := (mkF m 203 #[iv x0, iv x1, iv x2, iv x3, iv x4, iv x5, iv (2 : Int32), iv (0 : Int32), rv b243, rv b_248, iv (1 : Int32), .unset] [(.int (1 : Int32))])) (fun t k => XS.goto X255.here hx rfl (pc0 := 199) (pc' := 203) rfl (hb hby at_199) (by decide) (by decide) k) ?_
      refine own_go (T' := T255) (g' := (mkF m 205 #[iv x0, iv x1, iv x2, iv x3, iv x4, iv x5, iv (2 : Int32), iv (0 : Int32), rv b243, rv b_248, iv (1 : Int32), iv (1 : Int32)] [])) (fun t k => XS.istore X255.here hx rfl (hb hby at_203) rfl (l' := #[iv x0, iv x1, iv x2, iv x3, iv x4, iv x5, iv (2 : Int32), iv (0 : Int32), rv b243, rv b_248, iv (1 : Int32), iv (1 : Int32)]) rfl k) ?_
      refine own_go (T' := T255) (g' := (mkF m 207 #[iv x0, iv x1, iv x2, iv x3, iv x4, iv x5, iv (2 : Int32), iv (0 : Int32), rv b243, rv b_248, iv (1 : Int32), iv (1 : Int32)] [(.int (1 : Int32))])) (fun t k => XS.iload X255.here hx rfl (hb hby at_205) rfl k) ?_
      refine own_go (T' := T255) (g' := (mkF m 210 #[iv x0, iv x1, iv x2, iv x3, iv x4, iv x5, iv (2 : Int32), iv (0 : Int32), rv b243, rv b_248, iv (1 : Int32), iv (1 : Int32)] [])) (fun t k => XS.ifNo X255.here hx rfl (hb hby at_207) rfl ((if0 _ _).trans (feq (by decide : ¬ ((1 : Int32) = (0 : Int32)))).1) k) ?_
      refine own_go (T' := T255) (g' := (mkF m 212 #[iv x0, iv x1, iv x2, iv x3, iv x4, iv x5, iv (2 : Int32), iv (0 : Int32), rv b243, rv b_248, iv (1 : Int32), iv (1 : Int32)] [(.int (1 : Int32))])) (fun t k => XS.iload X255.here hx rfl (hb hby at_210) rfl k) ?_
      refine own_go (T' := T255) (g' := (mkF m 215 #[iv x0, iv x1, iv x2, iv x3, iv x4, iv x5, iv (2 : Int32), iv (0 : Int32), rv b243, rv b_248, iv (1 : Int32), iv (1 : Int32)] [])) (fun t k => XS.ifNo X255.here hx rfl (hb hby at_212) rfl ((if0 _ _).trans (feq (by decide : ¬ ((1 : Int32) = (0 : Int32)))).1) k) ?_
      refine own_go (T' := T255) (g' := (mkF m 216 #[iv x0, iv x1, iv x2, iv x3, iv x4, iv x5, iv (2 : Int32), iv (0 : Int32), rv b243, rv b_248, iv (1 : Int32), iv (1 : Int32)] [(.int (1 : Int32))])) (fun t k => XS.iconst X255.here hx rfl (hb hby at_215) k) ?_
      refine own_go (T' := T255) (g' := (mkF m 220 #[iv x0, iv x1, iv x2, iv x3, iv x4, iv x5, iv (2 : Int32), iv (0 : Int32), rv b243, rv b_248, iv (1 : Int32), iv (1 : Int32)] [(.int (1 : Int32))])) (fun t k => XS.goto X255.here hx rfl (pc0 := 216) (pc' := 220) rfl (hb hby at_216) (by decide) (by decide) k) ?_
      exact own_ret X255 hlk hx Bd.returns rfl (Or.inl ⟨rfl, Or.inr (Or.inl rfl), _, rfl⟩) (hb hby at_220) (by first | exact ⟨rfl, N255⟩ | (rw [Fr] at *; exact ⟨rfl, by simpa using N255⟩)) (by decide) (by decide)
    · rw [ha]
      refine own_go (T' := s₁) (g' := (mkF m 21 #[iv x0, iv x1, iv x2, iv x3, iv x4, iv x5, iv (2 : Int32), iv (1 : Int32), .unset, .unset, .unset, .unset] [])) (fun t k => XS.istore X0.here hx rfl (hb hby at_19) rfl (l' := #[iv x0, iv x1, iv x2, iv x3, iv x4, iv x5, iv (2 : Int32), iv (1 : Int32), .unset, .unset, .unset, .unset]) rfl k) ?_
      refine own_go (T' := s₁) (g' := (mkF m 23 #[iv x0, iv x1, iv x2, iv x3, iv x4, iv x5, iv (2 : Int32), iv (1 : Int32), .unset, .unset, .unset, .unset] [(.int (2 : Int32))])) (fun t k => XS.iload X0.here hx rfl (hb hby at_21) rfl k) ?_
      obtain ⟨T258, h258, k258, X258, e258, E258, A258, st258⟩ := newP X0 hx hZ (hw _ (List.mem_of_getElem? (i := 1) rfl)) e0 (g := (mkF m 23 #[iv x0, iv x1, iv x2, iv x3, iv x4, iv x5, iv (2 : Int32), iv (1 : Int32), .unset, .unset, .unset, .unset] [(.int (2 : Int32))])) rfl (hb hby at_23) rfl (by decide) (cap := 2) (by decide) (by decide) (by decide) (by decide)
      obtain ⟨b258, g258⟩ : ∃ z, z = h0.size := ⟨_, rfl⟩
      rw [← g258] at A258 st258
      have gn258 : n0 ≤ b258 := Nat.le_trans Z0 (Nat.le_of_eq g258.symm)
      have hz258 : n0 ≤ h258.size := Nat.le_trans Z0 E258.1
      have V258 : Arv Z h258 b258 k258 .int (2 : Int32) [(.int (0 : Int32)), (.int (0 : Int32))] (.int (0 : Int32)) := (Arv.new A258 (by decide)).pad (pad_rep [] (.int (0 : Int32)) 2)
      refine own_go (T' := T258) (g' := (mkF m 25 #[iv x0, iv x1, iv x2, iv x3, iv x4, iv x5, iv (2 : Int32), iv (1 : Int32), .unset, .unset, .unset, .unset] [(.ref b258)])) (st258) ?_
      refine own_go (T' := T258) (g' := (mkF m 27 #[iv x0, iv x1, iv x2, iv x3, iv x4, iv x5, iv (2 : Int32), iv (1 : Int32), rv b258, .unset, .unset, .unset] [])) (fun t k => XS.astore X258.here hx rfl (hb hby at_25) rfl rfl (l' := #[iv x0, iv x1, iv x2, iv x3, iv x4, iv x5, iv (2 : Int32), iv (1 : Int32), rv b258, .unset, .unset, .unset]) rfl k) ?_
      refine own_go (T' := T258) (g' := (mkF m 29 #[iv x0, iv x1, iv x2, iv x3, iv x4, iv x5, iv (2 : Int32), iv (1 : Int32), rv b258, .unset, .unset, .unset] [(.int (2 : Int32))])) (fun t k => XS.iload X258.here hx rfl (hb hby at_27) rfl k) ?_
      refine own_go (T' := T258) (g' := (mkF m 32 #[iv x0, iv x1, iv x2, iv x3, iv x4, iv x5, iv (2 : Int32), iv (1 : Int32), rv b258, .unset, .unset, .unset] [])) (fun t k => XS.ifNo X258.here hx rfl (hb hby at_29) rfl ((if0 _ _).trans (tlt (by decide : ((0 : Int32) < (2 : Int32)))).2.2.2) k) ?_
      refine own_go (T' := T258) (g' := (mkF m 34 #[iv x0, iv x1, iv x2, iv x3, iv x4, iv x5, iv (2 : Int32), iv (1 : Int32), rv b258, .unset, .unset, .unset] [(.ref b258)])) (fun t k => XS.aload X258.here hx rfl (hb hby at_32) rfl rfl k) ?_
      refine own_go (T' := T258) (g' := (mkF m 35 #[iv x0, iv x1, iv x2, iv x3, iv x4, iv x5, iv (2 : Int32), iv (1 : Int32), rv b258, .unset, .unset, .unset] [(.int (0 : Int32)), (.ref b258)])) (fun t k => XS.iconst X258.here hx rfl (hb hby at_34) k) ?_
      refine own_go (T' := T258) (g' := (mkF m 36 #[iv x0, iv x1, iv x2, iv x3, iv x4, iv x5, iv (2 : Int32), iv (1 : Int32), rv b258, .unset, .unset, .unset] [(.int x0), (.int (0 : Int32)), (.ref b258)])) (fun t k => XS.iloadN X258.here hx rfl (hb hby at_35) rfl k) ?_
      obtain ⟨cl259, Ar259, q259, Sz259, Nn259, Ha259, Ga259⟩ := id V258
      have hin259 : ¬ ((0 : Int32) < 0 ∨ cl259.slots.size ≤ ((0 : Int32)).toNatClampNeg) := inb_of Sz259 ⟨by decide, by decide⟩
      obtain ⟨T259, h259, X259, e259, W259, st259⟩ := stI X258 hx hZ e258 Ar259 (j := (0 : Int32)) hin259 (g := (mkF m 36 #[iv x0, iv x1, iv x2, iv x3, iv x4, iv x5, iv (2 : Int32), iv (1 : Int32), rv b258, .unset, .unset, .unset] [(.int x0), (.int (0 : Int32)), (.ref b258)])) rfl rfl (hb hby at_36)
      have hz259 : n0 ≤ h259.size := Nat.le_trans hz258 (Keep.of_wr W259).1
      have N259 := Fr.snoc X259 N0 gn258
      have V259 : Arv Z h259 b258 k258 .int (2 : Int32) [(.int x0), (.int (0 : Int32))] (.int (0 : Int32)) := Arv.set Ar259 q259 Sz259 Nn259 Ha259 Ga259 rfl W259 0 rfl (Nat.le_of_ble_eq_true rfl)
      refine own_go (T' := T259) (g' := (mkF m 37 #[iv x0, iv x1, iv x2, iv x3, iv x4, iv x5, iv (2 : Int32), iv (1 : Int32), rv b258, .unset, .unset, .unset] [])) (st259) ?_
      refine own_go (T' := T259) (g' := (mkF m 39 #[iv x0, iv x1, iv x2, iv x3, iv x4, iv x5, iv (2 : Int32), iv (1 : Int32), rv b258, .unset, .unset, .unset] [(.int (2 : Int32))])) (fun t k => XS.iload X259.here hx rfl (hb hby at_37) rfl k) ?_
      refine own_go (T' := T259) (g' := (mkF m 40 #[iv x0, iv x1, iv x2, iv x3, iv x4, iv x5, iv (2 : Int32), iv (1 : Int32), rv b258, .unset, .unset, .unset] [(.int (1 : Int32)), (.int (2 : Int32))])) (fun t k => XS.iconst X259.here hx rfl (hb hby at_39) k) ?_
      refine own_go (T' := T259) (g' := (mkF m 43 #[iv x0, iv x1, iv x2, iv x3, iv x4, iv x5, iv (2 : Int32), iv (1 : Int32), rv b258, .unset, .unset, .unset] [])) (fun t k => XS.icmpNo X259.here hx rfl (hb hby at_40) rfl (tlt (by decide : ((1 : Int32) < (2 : Int32)))).2.2.2 k) ?_
      refine own_go (T' := T259) (g' := (mkF m 45 #[iv x0, iv x1, iv x2, iv x3, iv x4, iv x5, iv (2 : Int32), iv (1 : Int32), rv b258, .unset, .unset, .unset] [(.ref b258)])) (fun t k => XS.aload X259.here hx rfl (hb hby at_43) rfl rfl k) ?_
      refine own_go (T' := T259) (g' := (mkF m 46 #[iv x0, iv x1, iv x2, iv x3, iv x4, iv x5, iv (2 : Int32), iv (1 : Int32), rv b258, .unset, .unset, .unset] [(.int (1 : Int32)), (.ref b258)])) (fun t k => XS.iconst X259.here hx rfl (hb hby at_45) k) ?_
      refine own_go (T' := T259) (g' := (mkF m 47 #[iv x0, iv x1, iv x2, iv x3, iv x4, iv x5, iv (2 : Int32), iv (1 : Int32), rv b258, .unset, .unset, .unset] [(.int x1), (.int (1 : Int32)), (.ref b258)])) (fun t k => XS.iloadN X259.here hx rfl (hb hby at_46) rfl k) ?_
      obtain ⟨cl261, Ar261, q261, Sz261, Nn261, Ha261, Ga261⟩ := id V259
      have hin261 : ¬ ((1 : Int32) < 0 ∨ cl261.slots.size ≤ ((1 : Int32)).toNatClampNeg) := inb_of Sz261 ⟨by decide, by decide⟩
      obtain ⟨T261, h261, X261, e261, W261, st261⟩ := stI X259 hx hZ e259 Ar261 (j := (1 : Int32)) hin261 (g := (mkF m 47 #[iv x0, iv x1, iv x2, iv x3, iv x4, iv x5, iv (2 : Int32), iv (1 : Int32), rv b258, .unset, .unset, .unset] [(.int x1), (.int (1 : Int32)), (.ref b258)])) rfl rfl (hb hby at_47)
      have hz261 : n0 ≤ h261.size := Nat.le_trans hz259 (Keep.of_wr W261).1
      have N261 := Fr.snoc X261 N259 gn258
      have V261 : Arv Z h261 b258 k258 .int (2 : Int32) [(.int x0), (.int x1)] (.int (0 : Int32)) := Arv.set Ar261 q261 Sz261 Nn261 Ha261 Ga261 rfl W261 1 rfl (Nat.le_of_ble_eq_true rfl)
      refine own_go (T' := T261) (g' := (mkF m 48 #[iv x0, iv x1, iv x2, iv x3, iv x4, iv x5, iv (2 : Int32), iv (1 : Int32), rv b258, .unset, .unset, .unset] [])) (st261) ?_
      refine own_go (T' := T261) (g' := (mkF m 50 #[iv x0, iv x1, iv x2, iv x3, iv x4, iv x5, iv (2 : Int32), iv (1 : Int32), rv b258, .unset, .unset, .unset] [(.int (2 : Int32))])) (fun t k => XS.iload X261.here hx rfl (hb hby at_48) rfl k) ?_
      refine own_go (T' := T261) (g' := (mkF m 51 #[iv x0, iv x1, iv x2, iv x3, iv x4, iv x5, iv (2 : Int32), iv (1 : Int32), rv b258, .unset, .unset, .unset] [(.int (2 : Int32)), (.int (2 : Int32))])) (fun t k => XS.iconst X261.here hx rfl (hb hby at_50) k) ?_
      refine own_go (T' := T261) (g' := (mkF m 59 #[iv x0, iv x1, iv x2, iv x3, iv x4, iv x5, iv (2 : Int32), iv (1 : Int32), rv b258, .unset, .unset, .unset] [])) (fun t k => XS.icmpYes X261.here hx rfl (pc0 := 51) (pc' := 59) rfl (hb hby at_51) rfl (flt (by decide : ¬ ((2 : Int32) < (2 : Int32)))).2.2.2 (by decide) (by decide) k) ?_
      refine own_go (T' := T261) (g' := (mkF m 61 #[iv x0, iv x1, iv x2, iv x3, iv x4, iv x5, iv (2 : Int32), iv (1 : Int32), rv b258, .unset, .unset, .unset] [(.ref b258)])) (fun t k => XS.aload X261.here hx rfl (hb hby at_59) rfl rfl k) ?_
      refine own_go (T' := T261) (g' := (mkF m 63 #[iv x0, iv x1, iv x2, iv x3, iv x4, iv x5, iv (2 : Int32), iv (1 : Int32), rv b258, .unset, .unset, .unset] [(.int (1 : Int32)), (.ref b258)])) (fun t k => XS.iload X261.here hx rfl (hb hby at_61) rfl k) ?_
      refine own_go (T' := T261) (g' := (mkF m 64 #[iv x0, iv x1, iv x2, iv x3, iv x4, iv x5, iv (2 : Int32), iv (1 : Int32), rv b258, .unset, .unset, .unset] [(.int x3), (.int (1 : Int32)), (.ref b258)])) (fun t k => XS.iloadN X261.here hx rfl (hb hby at_63) rfl k) ?_
      obtain ⟨_, _, ⟨T263, L263, k263, n263⟩, -, X263, ⟨Lc263, hQ263, l263, y263, z263⟩, st263⟩ := Jvm.LawKit.callS X261 hx (y := (⟨"com/example/tankroute/tankroute/solve/Solution$Tour", "withStop", "([III)[I"⟩ : MethodName)) hown (mvT hZ (hw _ (List.mem_of_getElem? (i := 2) rfl))) (mvT hZ (hw _ (List.mem_of_getElem? (i := 3) rfl))) (mvT hZ (hw _ (List.mem_of_getElem? (i := 4) rfl))) (mvT hZ (hw _ (List.mem_of_getElem? (i := 5) rfl))) (by decide) (backOf (W := 0) (own_ws_2_1 l Z a0 hw [] x0 x1 x3 b258 k258 h261 n0 hz261 V261) hZ (hw _ (List.mem_of_getElem? (i := 5) rfl)) (hw _ (List.mem_of_getElem? (i := 4) rfl)) (by decide) (by decide)) (g := (mkF m 64 #[iv x0, iv x1, iv x2, iv x3, iv x4, iv x5, iv (2 : Int32), iv (1 : Int32), rv b258, .unset, .unset, .unset] [(.int x3), (.int (1 : Int32)), (.ref b258)])) rfl (by rw [hml]; rfl) (argsL := [(.ref b258), (.int (1 : Int32)), (.int x3)]) (rest := []) (lenOf own_pd0 rfl) rfl (by show 2 * 0 + _ ≤ _; exact Nat.le_of_eq rfl) (hb hby at_64) (fun _ _ => ⟨rfl, e261, (by decide : 1 + 1 ≤ _), (by decide : 2 + 3 ≤ _)⟩)
      dsimp only [Pt.U, Pt.locs, Pt.cells, Pt.slots] at X263 l263 y263 z263 st263 hQ263
      subst l263 y263 z263
      obtain ⟨b_263, k_263, rfl, N263q, ob_263, K_263, V_263⟩ := hQ263
      have N263 := Fr.app N261 N263q
      have nq263 : b258 ≠ b_263 := Nat.ne_of_lt (Nat.lt_of_lt_of_le V261.lt ob_263)
      have gq263 : n0 ≤ b_263 := Nat.le_trans hz261 ob_263
      have c265 := V261.keep K_263 nin0
      have hz263 : n0 ≤ T263.heap.size := Nat.le_trans hz261 K_263.1
      refine own_go (T' := T263) (g' := (mkF m 67 #[iv x0, iv x1, iv x2, iv x3, iv x4, iv x5, iv (2 : Int32), iv (1 : Int32), rv b258, .unset, .unset, .unset] [(.ref b_263)])) (st263) ?_
      refine own_go (T' := T263) (g' := (mkF m 69 #[iv x0, iv x1, iv x2, iv x3, iv x4, iv x5, iv (2 : Int32), iv (1 : Int32), rv b258, rv b_263, .unset, .unset] [])) (fun t k => XS.astore X263.here hx rfl (hb hby at_67) rfl rfl (l' := #[iv x0, iv x1, iv x2, iv x3, iv x4, iv x5, iv (2 : Int32), iv (1 : Int32), rv b258, rv b_263, .unset, .unset]) rfl k) ?_
      refine own_go (T' := T263) (g' := (mkF m 71 #[iv x0, iv x1, iv x2, iv x3, iv x4, iv x5, iv (2 : Int32), iv (1 : Int32), rv b258, rv b_263, .unset, .unset] [(.ref b_263)])) (fun t k => XS.aload X263.here hx rfl (hb hby at_69) rfl rfl k) ?_
      refine own_go (T' := T263) (g' := (mkF m 74 #[iv x0, iv x1, iv x2, iv x3, iv x4, iv x5, iv (2 : Int32), iv (1 : Int32), rv b258, rv b_263, .unset, .unset] [])) (fun t k => XS.ifnullNo X263.here hx rfl (hb hby at_71) rfl k) ?_
      refine own_go (T' := T263) (g' := (mkF m 76 #[iv x0, iv x1, iv x2, iv x3, iv x4, iv x5, iv (2 : Int32), iv (1 : Int32), rv b258, rv b_263, .unset, .unset] [(.ref b_263)])) (fun t k => XS.aload X263.here hx rfl (hb hby at_74) rfl rfl k) ?_
      refine own_go (T' := T263) (g' := (mkF m 78 #[iv x0, iv x1, iv x2, iv x3, iv x4, iv x5, iv (2 : Int32), iv (1 : Int32), rv b258, rv b_263, .unset, .unset] [(.ref b258), (.ref b_263)])) (fun t k => XS.aload X263.here hx rfl (hb hby at_76) rfl rfl k) ?_
      refine own_go (T' := T263) (g' := (mkF m 81 #[iv x0, iv x1, iv x2, iv x3, iv x4, iv x5, iv (2 : Int32), iv (1 : Int32), rv b258, rv b_263, .unset, .unset] [])) (fun t k => Jvm.RoadKit.acmp (g := (mkF m 78 #[iv x0, iv x1, iv x2, iv x3, iv x4, iv x5, iv (2 : Int32), iv (1 : Int32), rv b258, rv b_263, .unset, .unset] [(.ref b258), (.ref b_263)])) X263 hx rfl (x := (.ref b_263)) (y := (.ref b258)) rfl rfl (pc0 := 78) (pc' := 81) (same := false) rfl (hb hby at_78) rfl (decide_eq_false fun q => (Ne.symm nq263) (Value.ref.inj q)) (by decide) (by decide) k) ?_
      refine own_go (T' := T263) (g' := (mkF m 83 #[iv x0, iv x1, iv x2, iv x3, iv x4, iv x5, iv (2 : Int32), iv (1 : Int32), rv b258, rv b_263, .unset, .unset] [(.ref b_263)])) (fun t k => XS.aload X263.here hx rfl (hb hby at_81) rfl rfl k) ?_
      obtain ⟨cl266, Ar266, -, Sz266, Nn266, -, -⟩ := id V_263
      refine own_go (T' := T263) (g' := (mkF m 84 #[iv x0, iv x1, iv x2, iv x3, iv x4, iv x5, iv (2 : Int32), iv (1 : Int32), rv b258, rv b_263, .unset, .unset] [(.int (3 : Int32))])) (fun t k => X263.arraylength hx (by exact Ar266.1) (State.isArrayOf_alike hZ.alike Ar266.2.1) (g := (mkF m 83 #[iv x0, iv x1, iv x2, iv x3, iv x4, iv x5, iv (2 : Int32), iv (1 : Int32), rv b258, rv b_263, .unset, .unset] [(.ref b_263)])) rfl rfl (hb hby at_83) _ (by rw [len_of Sz266 Nn266]; exact k)) ?_
      refine own_go (T' := T263) (g' := (mkF m 86 #[iv x0, iv x1, iv x2, iv x3, iv x4, iv x5, iv (2 : Int32), iv (1 : Int32), rv b258, rv b_263, .unset, .unset] [(.int (2 : Int32)), (.int (3 : Int32))])) (fun t k => XS.iload X263.here hx rfl (hb hby at_84) rfl k) ?_
      refine own_go (T' := T263) (g' := (mkF m 87 #[iv x0, iv x1, iv x2, iv x3, iv x4, iv x5, iv (2 : Int32), iv (1 : Int32), rv b258, rv b_263, .unset, .unset] [(.int (1 : Int32)), (.int (2 : Int32)), (.int (3 : Int32))])) (fun t k => XS.iconst X263.here hx rfl (hb hby at_86) k) ?_
      refine own_go (T' := T263) (g' := (mkF m 88 #[iv x0, iv x1, iv x2, iv x3, iv x4, iv x5, iv (2 : Int32), iv (1 : Int32), rv b258, rv b_263, .unset, .unset] [(.int (3 : Int32)), (.int (3 : Int32))])) (fun t k => XS.iadd X263.here hx rfl (hb hby at_87) rfl k) ?_
      refine own_go (T' := T263) (g' := (mkF m 93 #[iv x0, iv x1, iv x2, iv x3, iv x4, iv x5, iv (2 : Int32), iv (1 : Int32), rv b258, rv b_263, .unset, .unset] [])) (fun t k => XS.icmpYes X263.here hx rfl (pc0 := 88) (pc' := 93) rfl (hb hby at_88) rfl (teq (by decide : ((3 : Int32) = (3 : Int32)))).1 (by decide) (by decide) k) ?_
      refine own_go (T' := T263) (g' := (mkF m 95 #[iv x0, iv x1, iv x2, iv x3, iv x4, iv x5, iv (2 : Int32), iv (1 : Int32), rv b258, rv b_263, .unset, .unset] [(.ref b_263)])) (fun t k => XS.aload X263.here hx rfl (hb hby at_93) rfl rfl k) ?_
      refine own_go (T' := T263) (g' := (mkF m 97 #[iv x0, iv x1, iv x2, iv x3, iv x4, iv x5, iv (2 : Int32), iv (1 : Int32), rv b258, rv b_263, .unset, .unset] [(.ref b258), (.ref b_263)])) (fun t k => XS.aload X263.here hx rfl (hb hby at_95) rfl rfl k) ?_
      refine own_go (T' := T263) (g' := (mkF m 99 #[iv x0, iv x1, iv x2, iv x3, iv x4, iv x5, iv (2 : Int32), iv (1 : Int32), rv b258, rv b_263, .unset, .unset] [(.int (1 : Int32)), (.ref b258), (.ref b_263)])) (fun t k => XS.iload X263.here hx rfl (hb hby at_97) rfl k) ?_
      refine own_go (T' := T263) (g' := (mkF m 100 #[iv x0, iv x1, iv x2, iv x3, iv x4, iv x5, iv (2 : Int32), iv (1 : Int32), rv b258, rv b_263, .unset, .unset] [(.int x3), (.int (1 : Int32)), (.ref b258), (.ref b_263)])) (fun t k => XS.iloadN X263.here hx rfl (hb hby at_99) rfl k) ?_
      refine own_go (T' := T263) (g' := (mkF m 101 #[iv x0, iv x1, iv x2, iv x3, iv x4, iv x5, iv (2 : Int32), iv (1 : Int32), rv b258, rv b_263, .unset, .unset] [(.int (0 : Int32)), (.int x3), (.int (1 : Int32)), (.ref b258), (.ref b_263)])) (fun t k => XS.iconst X263.here hx rfl (hb hby at_100) k) ?_
      obtain ⟨_, _, ⟨T267, L267, k267, n267⟩, -, X267, ⟨Lc267, hQ267, l267, y267, z267⟩, st267⟩ := Jvm.LawKit.callS X263 hx (y := (⟨"com/example/tankroute/tankroute/solve/TourWithStopPinLaw", "slot", "([I[IIII)Z"⟩ : MethodName)) hown (mvT hZ (hw _ (List.mem_of_getElem? (i := 10) rfl))) (mvT hZ (hw _ (List.mem_of_getElem? (i := 11) rfl))) (mvT hZ (hw _ (List.mem_of_getElem? (i := 12) rfl))) (mvT hZ (hw _ (List.mem_of_getElem? (i := 13) rfl))) (by decide) (backOf (W := 0) (own_slotB l Z a0 hw [] b_263 b258 k_263 k258 (3 : Int32) (2 : Int32) (1 : Int32) x3 (0 : Int32) x0 [(.int x0), (.int x3), (.int x1)] [(.int x0), (.int x1)] T263.heap n0 hz263 V_263 c265 (by decide) (by decide) (by decide) (by decide) rfl rfl) hZ (hw _ (List.mem_of_getElem? (i := 13) rfl)) (hw _ (List.mem_of_getElem? (i := 12) rfl)) (by decide) (by decide)) (g := (mkF m 101 #[iv x0, iv x1, iv x2, iv x3, iv x4, iv x5, iv (2 : Int32), iv (1 : Int32), rv b258, rv b_263, .unset, .unset] [(.int (0 : Int32)), (.int x3), (.int (1 : Int32)), (.ref b258), (.ref b_263)])) rfl (by rw [hml]; rfl) (argsL := [(.ref b_263), (.ref b258), (.int (1 : Int32)), (.int x3), (.int (0 : Int32))]) (rest := []) (lenOf own_pd1 rfl) rfl (by show 2 * 0 + _ ≤ _; exact Nat.le_of_eq rfl) (hb hby at_101) (fun _ _ => ⟨rfl, rfl, (by decide : 2 + 0 ≤ _), (by decide : 5 + 0 ≤ _)⟩)
      dsimp only [Pt.U, Pt.locs, Pt.cells, Pt.slots] at X267 l267 y267 z267 st267 hQ267
      subst l267 y267 z267
      obtain ⟨rfl, rfl, e267⟩ := hQ267
      have E267q : T267.heap = T263.heap := e267
      have N267 := Fr.app N263 (Fr.nil n0)
      refine own_go (T' := T267) (g' := (mkF m 104 #[iv x0, iv x1, iv x2, iv x3, iv x4, iv x5, iv (2 : Int32), iv (1 : Int32), rv b258, rv b_263, .unset, .unset] [(.int (1 : Int32))])) (st267) ?_
      refine own_go (T' := T267) (g' := (mkF m 107 #[iv x0, iv x1, iv x2, iv x3, iv x4, iv x5, iv (2 : Int32), iv (1 : Int32), rv b258, rv b_263, .unset, .unset] [])) (fun t k => XS.ifNo X267.here hx rfl (hb hby at_104) rfl ((if0 _ _).trans (feq (by decide : ¬ ((1 : Int32) = (0 : Int32)))).1) k) ?_
      refine own_go (T' := T267) (g' := (mkF m 109 #[iv x0, iv x1, iv x2, iv x3, iv x4, iv x5, iv (2 : Int32), iv (1 : Int32), rv b258, rv b_263, .unset, .unset] [(.ref b_263)])) (fun t k => XS.aload X267.here hx rfl (hb hby at_107) rfl rfl k) ?_
      refine own_go (T' := T267) (g' := (mkF m 111 #[iv x0, iv x1, iv x2, iv x3, iv x4, iv x5, iv (2 : Int32), iv (1 : Int32), rv b258, rv b_263, .unset, .unset] [(.ref b258), (.ref b_263)])) (fun t k => XS.aload X267.here hx rfl (hb hby at_109) rfl rfl k) ?_
      refine own_go (T' := T267) (g' := (mkF m 113 #[iv x0, iv x1, iv x2, iv x3, iv x4, iv x5, iv (2 : Int32), iv (1 : Int32), rv b258, rv b_263, .unset, .unset] [(.int (1 : Int32)), (.ref b258), (.ref b_263)])) (fun t k => XS.iload X267.here hx rfl (hb hby at_111) rfl k) ?_
      refine own_go (T' := T267) (g' := (mkF m 114 #[iv x0, iv x1, iv x2, iv x3, iv x4, iv x5, iv (2 : Int32), iv (1 : Int32), rv b258, rv b_263, .unset, .unset] [(.int x3), (.int (1 : Int32)), (.ref b258), (.ref b_263)])) (fun t k => XS.iloadN X267.here hx rfl (hb hby at_113) rfl k) ?_
      refine own_go (T' := T267) (g' := (mkF m 115 #[iv x0, iv x1, iv x2, iv x3, iv x4, iv x5, iv (2 : Int32), iv (1 : Int32), rv b258, rv b_263, .unset, .unset] [(.int (1 : Int32)), (.int x3), (.int (1 : Int32)), (.ref b258), (.ref b_263)])) (fun t k => XS.iconst X267.here hx rfl (hb hby at_114) k) ?_
      obtain ⟨_, _, ⟨T268, L268, k268, n268⟩, -, X268, ⟨Lc268, hQ268, l268, y268, z268⟩, st268⟩ := Jvm.LawKit.callS X267 hx (y := (⟨"com/example/tankroute/tankroute/solve/TourWithStopPinLaw", "slot", "([I[IIII)Z"⟩ : MethodName)) hown (mvT hZ (hw _ (List.mem_of_getElem? (i := 10) rfl))) (mvT hZ (hw _ (List.mem_of_getElem? (i := 11) rfl))) (mvT hZ (hw _ (List.mem_of_getElem? (i := 12) rfl))) (mvT hZ (hw _ (List.mem_of_getElem? (i := 13) rfl))) (by decide) (backOf (W := 0) (own_slotC l Z a0 hw [] b_263 b258 k_263 k258 (3 : Int32) (2 : Int32) (1 : Int32)  (1 : Int32) x3 [(.int x0), (.int x3), (.int x1)] [(.int x0), (.int x1)] T263.heap n0 hz263 V_263 c265 (by decide) (by decide) rfl (by decide) rfl) hZ (hw _ (List.mem_of_getElem? (i := 13) rfl)) (hw _ (List.mem_of_getElem? (i := 12) rfl)) (by decide) (by decide)) (g := (mkF m 115 #[iv x0, iv x1, iv x2, iv x3, iv x4, iv x5, iv (2 : Int32), iv (1 : Int32), rv b258, rv b_263, .unset, .unset] [(.int (1 : Int32)), (.int x3), (.int (1 : Int32)), (.ref b258), (.ref b_263)])) rfl (by rw [hml]; rfl) (argsL := [(.ref b_263), (.ref b258), (.int (1 : Int32)), (.int x3), (.int (1 : Int32))]) (rest := []) (lenOf own_pd1 rfl) rfl (by show 2 * 0 + _ ≤ _; exact Nat.le_of_eq rfl) (hb hby at_115) (fun _ _ => ⟨rfl, E267q, (by decide : 2 + 0 ≤ _), (by decide : 5 + 0 ≤ _)⟩)
      dsimp only [Pt.U, Pt.locs, Pt.cells, Pt.slots] at X268 l268 y268 z268 st268 hQ268
      subst l268 y268 z268
      obtain ⟨rfl, rfl, e268⟩ := hQ268
      have E268q : T268.heap = T263.heap := e268
      have N268 := Fr.app N267 (Fr.nil n0)
      refine own_go (T' := T268) (g' := (mkF m 118 #[iv x0, iv x1, iv x2, iv x3, iv x4, iv x5, iv (2 : Int32), iv (1 : Int32), rv b258, rv b_263, .unset, .unset] [(.int (1 : Int32))])) (st268) ?_
      refine own_go (T' := T268) (g' := (mkF m 121 #[iv x0, iv x1, iv x2, iv x3, iv x4, iv x5, iv (2 : Int32), iv (1 : Int32), rv b258, rv b_263, .unset, .unset] [])) (fun t k => XS.ifNo X268.here hx rfl (hb hby at_118) rfl ((if0 _ _).trans (feq (by decide : ¬ ((1 : Int32) = (0 : Int32)))).1) k) ?_
      refine own_go (T' := T268) (g' := (mkF m 123 #[iv x0, iv x1, iv x2, iv x3, iv x4, iv x5, iv (2 : Int32), iv (1 : Int32), rv b258, rv b_263, .unset, .unset] [(.ref b_263)])) (fun t k => XS.aload X268.here hx rfl (hb hby at_121) rfl rfl k) ?_
      refine own_go (T' := T268) (g' := (mkF m 125 #[iv x0, iv x1, iv x2, iv x3, iv x4, iv x5, iv (2 : Int32), iv (1 : Int32), rv b258, rv b_263, .unset, .unset] [(.ref b258), (.ref b_263)])) (fun t k => XS.aload X268.here hx rfl (hb hby at_123) rfl rfl k) ?_
      refine own_go (T' := T268) (g' := (mkF m 127 #[iv x0, iv x1, iv x2, iv x3, iv x4, iv x5, iv (2 : Int32), iv (1 : Int32), rv b258, rv b_263, .unset, .unset] [(.int (1 : Int32)), (.ref b258), (.ref b_263)])) (fun t k => XS.iload X268.here hx rfl (hb hby at_125) rfl k) ?_
      refine own_go (T' := T268) (g' := (mkF m 128 #[iv x0, iv x1, iv x2, iv x3, iv x4, iv x5, iv (2 : Int32), iv (1 : Int32), rv b258, rv b_263, .unset, .unset] [(.int x3), (.int (1 : Int32)), (.ref b258), (.ref b_263)])) (fun t k => XS.iloadN X268.here hx rfl (hb hby at_127) rfl k) ?_
      refine own_go (T' := T268) (g' := (mkF m 129 #[iv x0, iv x1, iv x2, iv x3, iv x4, iv x5, iv (2 : Int32), iv (1 : Int32), rv b258, rv b_263, .unset, .unset] [(.int (2 : Int32)), (.int x3), (.int (1 : Int32)), (.ref b258), (.ref b_263)])) (fun t k => XS.iconst X268.here hx rfl (hb hby at_128) k) ?_
      obtain ⟨_, _, ⟨T269, L269, k269, n269⟩, -, X269, ⟨Lc269, hQ269, l269, y269, z269⟩, st269⟩ := Jvm.LawKit.callS X268 hx (y := (⟨"com/example/tankroute/tankroute/solve/TourWithStopPinLaw", "slot", "([I[IIII)Z"⟩ : MethodName)) hown (mvT hZ (hw _ (List.mem_of_getElem? (i := 10) rfl))) (mvT hZ (hw _ (List.mem_of_getElem? (i := 11) rfl))) (mvT hZ (hw _ (List.mem_of_getElem? (i := 12) rfl))) (mvT hZ (hw _ (List.mem_of_getElem? (i := 13) rfl))) (by decide) (backOf (W := 0) (own_slotD l Z a0 hw [] b_263 b258 k_263 k258 (3 : Int32) (2 : Int32) (1 : Int32) x3 (2 : Int32) x1 [(.int x0), (.int x3), (.int x1)] [(.int x0), (.int x1)] T263.heap n0 hz263 V_263 c265 (by decide) (by decide) (by decide) (by decide) (by decide) (by decide) rfl rfl) hZ (hw _ (List.mem_of_getElem? (i := 13) rfl)) (hw _ (List.mem_of_getElem? (i := 12) rfl)) (by decide) (by decide)) (g := (mkF m 129 #[iv x0, iv x1, iv x2, iv x3, iv x4, iv x5, iv (2 : Int32), iv (1 : Int32), rv b258, rv b_263, .unset, .unset] [(.int (2 : Int32)), (.int x3), (.int (1 : Int32)), (.ref b258), (.ref b_263)])) rfl (by rw [hml]; rfl) (argsL := [(.ref b_263), (.ref b258), (.int (1 : Int32)), (.int x3), (.int (2 : Int32))]) (rest := []) (lenOf own_pd1 rfl) rfl (by show 2 * 0 + _ ≤ _; exact Nat.le_of_eq rfl) (hb hby at_129) (fun _ _ => ⟨rfl, E268q, (by decide : 2 + 0 ≤ _), (by decide : 5 + 0 ≤ _)⟩)
      dsimp only [Pt.U, Pt.locs, Pt.cells, Pt.slots] at X269 l269 y269 z269 st269 hQ269
      subst l269 y269 z269
      obtain ⟨rfl, rfl, e269⟩ := hQ269
      have E269q : T269.heap = T263.heap := e269
      have N269 := Fr.app N268 (Fr.nil n0)
      refine own_go (T' := T269) (g' := (mkF m 132 #[iv x0, iv x1, iv x2, iv x3, iv x4, iv x5, iv (2 : Int32), iv (1 : Int32), rv b258, rv b_263, .unset, .unset] [(.int (1 : Int32))])) (st269) ?_
      refine own_go (T' := T269) (g' := (mkF m 135 #[iv x0, iv x1, iv x2, iv x3, iv x4, iv x5, iv (2 : Int32), iv (1 : Int32), rv b258, rv b_263, .unset, .unset] [])) (fun t k => XS.ifNo X269.here hx rfl (hb hby at_132) rfl ((if0 _ _).trans (feq (by decide : ¬ ((1 : Int32) = (0 : Int32)))).1) k) ?_
      refine own_go (T' := T269) (g' := (mkF m 137 #[iv x0, iv x1, iv x2, iv x3, iv x4, iv x5, iv (2 : Int32), iv (1 : Int32), rv b258, rv b_263, .unset, .unset] [(.ref b_263)])) (fun t k => XS.aload X269.here hx rfl (hb hby at_135) rfl rfl k) ?_
      refine own_go (T' := T269) (g' := (mkF m 139 #[iv x0, iv x1, iv x2, iv x3, iv x4, iv x5, iv (2 : Int32), iv (1 : Int32), rv b258, rv b_263, .unset, .unset] [(.ref b258), (.ref b_263)])) (fun t k => XS.aload X269.here hx rfl (hb hby at_137) rfl rfl k) ?_
      refine own_go (T' := T269) (g' := (mkF m 141 #[iv x0, iv x1, iv x2, iv x3, iv x4, iv x5, iv (2 : Int32), iv (1 : Int32), rv b258, rv b_263, .unset, .unset] [(.int (1 : Int32)), (.ref b258), (.ref b_263)])) (fun t k => XS.iload X269.here hx rfl (hb hby at_139) rfl k) ?_
      refine own_go (T' := T269) (g' := (mkF m 142 #[iv x0, iv x1, iv x2, iv x3, iv x4, iv x5, iv (2 : Int32), iv (1 : Int32), rv b258, rv b_263, .unset, .unset] [(.int x3), (.int (1 : Int32)), (.ref b258), (.ref b_263)])) (fun t k => XS.iloadN X269.here hx rfl (hb hby at_141) rfl k) ?_
      refine own_go (T' := T269) (g' := (mkF m 143 #[iv x0, iv x1, iv x2, iv x3, iv x4, iv x5, iv (2 : Int32), iv (1 : Int32), rv b258, rv b_263, .unset, .unset] [(.int (3 : Int32)), (.int x3), (.int (1 : Int32)), (.ref b258), (.ref b_263)])) (fun t k => XS.iconst X269.here hx rfl (hb hby at_142) k) ?_
      obtain ⟨_, _, ⟨T270, L270, k270, n270⟩, -, X270, ⟨Lc270, hQ270, l270, y270, z270⟩, st270⟩ := Jvm.LawKit.callS X269 hx (y := (⟨"com/example/tankroute/tankroute/solve/TourWithStopPinLaw", "slot", "([I[IIII)Z"⟩ : MethodName)) hown (mvT hZ (hw _ (List.mem_of_getElem? (i := 10) rfl))) (mvT hZ (hw _ (List.mem_of_getElem? (i := 11) rfl))) (mvT hZ (hw _ (List.mem_of_getElem? (i := 12) rfl))) (mvT hZ (hw _ (List.mem_of_getElem? (i := 13) rfl))) (by decide) (backOf (W := 0) (own_slotA l Z a0 hw [] b_263 b258 k_263 k258 (3 : Int32) (2 : Int32) (1 : Int32) x3 (3 : Int32) 0 [(.int x0), (.int x3), (.int x1)] [(.int x0), (.int x1)] T263.heap n0 hz263 V_263 c265 (by decide)) hZ (hw _ (List.mem_of_getElem? (i := 13) rfl)) (hw _ (List.mem_of_getElem? (i := 12) rfl)) (by decide) (by decide)) (g := (mkF m 143 #[iv x0, iv x1, iv x2, iv x3, iv x4, iv x5, iv (2 : Int32), iv (1 : Int32), rv b258, rv b_263, .unset, .unset] [(.int (3 : Int32)), (.int x3), (.int (1 : Int32)), (.ref b258), (.ref b_263)])) rfl (by rw [hml]; rfl) (argsL := [(.ref b_263), (.ref b258), (.int (1 : Int32)), (.int x3), (.int (3 : Int32))]) (rest := []) (lenOf own_pd1 rfl) rfl (by show 2 * 0 + _ ≤ _; exact Nat.le_of_eq rfl) (hb hby at_143) (fun _ _ => ⟨rfl, E269q, (by decide : 2 + 0 ≤ _), (by decide : 5 + 0 ≤ _)⟩)
      dsimp only [Pt.U, Pt.locs, Pt.cells, Pt.slots] at X270 l270 y270 z270 st270 hQ270
      subst l270 y270 z270
      obtain ⟨rfl, rfl, e270⟩ := hQ270
      have E270q : T270.heap = T263.heap := e270
      have N270 := Fr.app N269 (Fr.nil n0)
      refine own_go (T' := T270) (g' := (mkF m 146 #[iv x0, iv x1, iv x2, iv x3, iv x4, iv x5, iv (2 : Int32), iv (1 : Int32), rv b258, rv b_263, .unset, .unset] [(.int (1 : Int32))])) (st270) ?_
      refine own_go (T' := T270) (g' := (mkF m 149 #[iv x0, iv x1, iv x2, iv x3, iv x4, iv x5, iv (2 : Int32), iv (1 : Int32), rv b258, rv b_263, .unset, .unset] [])) (fun t k => XS.ifNo X270.here hx rfl (hb hby at_146) rfl ((if0 _ _).trans (feq (by decide : ¬ ((1 : Int32) = (0 : Int32)))).1) k) ?_
      refine own_go (T' := T270) (g' := (mkF m 150 #[iv x0, iv x1, iv x2, iv x3, iv x4, iv x5, iv (2 : Int32), iv (1 : Int32), rv b258, rv b_263, .unset, .unset] [(.int (1 : Int32))])) (fun t k => XS.iconst X270.here hx rfl (hb hby at_149) k) ?_
      refine own_go (T' := T270) (g' := (mkF m 154 #[iv x0, iv x1, iv x2, iv x3, iv x4, iv x5, iv (2 : Int32), iv (1 : Int32), rv b258, rv b_263, .unset, .unset] [(.int (1 : Int32))])) (fun t k => XS.goto X270.here hx rfl (pc0 := 150) (pc' := 154) rfl (hb hby at_150) (by decide) (by decide) k) ?_
      refine own_go (T' := T270) (g' := (mkF m 156 #[iv x0, iv x1, iv x2, iv x3, iv x4, iv x5, iv (2 : Int32), iv (1 : Int32), rv b258, rv b_263, iv (1 : Int32), .unset] [])) (fun t k => XS.istore X270.here hx rfl (hb hby at_154) rfl (l' := #[iv x0, iv x1, iv x2, iv x3, iv x4, iv x5, iv (2 : Int32), iv (1 : Int32), rv b258, rv b_263, iv (1 : Int32), .unset]) rfl k) ?_
      refine own_go (T' := T270) (g' := (mkF m 158 #[iv x0, iv x1, iv x2, iv x3, iv x4, iv x5, iv (2 : Int32), iv (1 : Int32), rv b258, rv b_263, iv (1 : Int32), .unset] [(.int (2 : Int32))])) (fun t k => XS.iload X270.here hx rfl (hb hby at_156) rfl k) ?_
      refine own_go (T' := T270) (g' := (mkF m 159 #[iv x0, iv x1, iv x2, iv x3, iv x4, iv x5, iv (2 : Int32), iv (1 : Int32), rv b258, rv b_263, iv (1 : Int32), .unset] [(.int (1 : Int32)), (.int (2 : Int32))])) (fun t k => XS.iconst X270.here hx rfl (hb hby at_158) k) ?_
      refine own_go (T' := T270) (g' := (mkF m 162 #[iv x0, iv x1, iv x2, iv x3, iv x4, iv x5, iv (2 : Int32), iv (1 : Int32), rv b258, rv b_263, iv (1 : Int32), .unset] [])) (fun t k => XS.icmpNo X270.here hx rfl (hb hby at_159) rfl (flt (by decide : ¬ ((2 : Int32) < (1 : Int32)))).1 k) ?_
      refine own_go (T' := T270) (g' := (mkF m 164 #[iv x0, iv x1, iv x2, iv x3, iv x4, iv x5, iv (2 : Int32), iv (1 : Int32), rv b258, rv b_263, iv (1 : Int32), .unset] [(.ref b258)])) (fun t k => XS.aload X270.here hx rfl (hb hby at_162) rfl rfl k) ?_
      refine own_go (T' := T270) (g' := (mkF m 165 #[iv x0, iv x1, iv x2, iv x3, iv x4, iv x5, iv (2 : Int32), iv (1 : Int32), rv b258, rv b_263, iv (1 : Int32), .unset] [(.int (0 : Int32)), (.ref b258)])) (fun t k => XS.iconst X270.here hx rfl (hb hby at_164) k) ?_
      obtain ⟨cl271, Ar271, -, Sz271, Nn271, Ha271, -⟩ := id c265
      have hin271 : ¬ ((0 : Int32) < 0 ∨ cl271.slots.size ≤ ((0 : Int32)).toNatClampNeg) := inb_of Sz271 ⟨by decide, by decide⟩
      have hat271 : cl271.slots[((0 : Int32)).toNatClampNeg]? = some (.int x0) := Ha271.at hin271 rfl
      refine own_go (T' := T270) (g' := (mkF m 166 #[iv x0, iv x1, iv x2, iv x3, iv x4, iv x5, iv (2 : Int32), iv (1 : Int32), rv b258, rv b_263, iv (1 : Int32), .unset] [(.int x0)])) (fun t k => X270.iaload hx (j := (0 : Int32)) (v := (.int x0)) (by rw [E270q]; exact Ar271.1) (State.isArrayOf_alike hZ.alike Ar271.2.1) Ar271.2.2 hin271 hat271 (g := (mkF m 165 #[iv x0, iv x1, iv x2, iv x3, iv x4, iv x5, iv (2 : Int32), iv (1 : Int32), rv b258, rv b_263, iv (1 : Int32), .unset] [(.int (0 : Int32)), (.ref b258)])) rfl rfl (hb hby at_165) _ k) ?_
      refine own_go (T' := T270) (g' := (mkF m 167 #[iv x0, iv x1, iv x2, iv x3, iv x4, iv x5, iv (2 : Int32), iv (1 : Int32), rv b258, rv b_263, iv (1 : Int32), .unset] [(.int x0), (.int x0)])) (fun t k => XS.iloadN X270.here hx rfl (hb hby at_166) rfl k) ?_
      refine own_go (T' := T270) (g' := (mkF m 170 #[iv x0, iv x1, iv x2, iv x3, iv x4, iv x5, iv (2 : Int32), iv (1 : Int32), rv b258, rv b_263, iv (1 : Int32), .unset] [])) (fun t k => XS.icmpNo X270.here hx rfl (hb hby at_167) rfl (teq (rfl : x0 = x0)).2 k) ?_
      refine own_go (T' := T270) (g' := (mkF m 172 #[iv x0, iv x1, iv x2, iv x3, iv x4, iv x5, iv (2 : Int32), iv (1 : Int32), rv b258, rv b_263, iv (1 : Int32), .unset] [(.int (2 : Int32))])) (fun t k => XS.iload X270.here hx rfl (hb hby at_170) rfl k) ?_
      refine own_go (T' := T270) (g' := (mkF m 173 #[iv x0, iv x1, iv x2, iv x3, iv x4, iv x5, iv (2 : Int32), iv (1 : Int32), rv b258, rv b_263, iv (1 : Int32), .unset] [(.int (2 : Int32)), (.int (2 : Int32))])) (fun t k => XS.iconst X270.here hx rfl (hb hby at_172) k) ?_
      refine own_go (T' := T270) (g' := (mkF m 176 #[iv x0, iv x1, iv x2, iv x3, iv x4, iv x5, iv (2 : Int32), iv (1 : Int32), rv b258, rv b_263, iv (1 : Int32), .unset] [])) (fun t k => XS.icmpNo X270.here hx rfl (hb hby at_173) rfl (flt (by decide : ¬ ((2 : Int32) < (2 : Int32)))).1 k) ?_
      refine own_go (T' := T270) (g' := (mkF m 178 #[iv x0, iv x1, iv x2, iv x3, iv x4, iv x5, iv (2 : Int32), iv (1 : Int32), rv b258, rv b_263, iv (1 : Int32), .unset] [(.ref b258)])) (fun t k => XS.aload X270.here hx rfl (hb hby at_176) rfl rfl k) ?_
      refine own_go (T' := T270) (g' := (mkF m 179 #[iv x0, iv x1, iv x2, iv x3, iv x4, iv x5, iv (2 : Int32), iv (1 : Int32), rv b258, rv b_263, iv (1 : Int32), .unset] [(.int (1 : Int32)), (.ref b258)])) (fun t k => XS.iconst X270.here hx rfl (hb hby at_178) k) ?_
      obtain ⟨cl272, Ar272, -, Sz272, Nn272, Ha272, -⟩ := id c265
      have hin272 : ¬ ((1 : Int32) < 0 ∨ cl272.slots.size ≤ ((1 : Int32)).toNatClampNeg) := inb_of Sz272 ⟨by decide, by decide⟩
      have hat272 : cl272.slots[((1 : Int32)).toNatClampNeg]? = some (.int x1) := Ha272.at hin272 rfl
      refine own_go (T' := T270) (g' := (mkF m 180 #[iv x0, iv x1, iv x2, iv x3, iv x4, iv x5, iv (2 : Int32), iv (1 : Int32), rv b258, rv b_263, iv (1 : Int32), .unset] [(.int x1)])) (fun t k => X270.iaload hx (j := (1 : Int32)) (v := (.int x1)) (by rw [E270q]; exact Ar272.1) (State.isArrayOf_alike hZ.alike Ar272.2.1) Ar272.2.2 hin272 hat272 (g := (mkF m 179 #[iv x0, iv x1, iv x2, iv x3, iv x4, iv x5, iv (2 : Int32), iv (1 : Int32), rv b258, rv b_263, iv (1 : Int32), .unset] [(.int (1 : Int32)), (.ref b258)])) rfl rfl (hb hby at_179) _ k) ?_
      refine own_go (T' := T270) (g' := (mkF m 181 #[iv x0, iv x1, iv x2, iv x3, iv x4, iv x5, iv (2 : Int32), iv (1 : Int32), rv b258, rv b_263, iv (1 : Int32), .unset] [(.int x1), (.int x1)])) (fun t k => XS.iloadN X270.here hx rfl (hb hby at_180) rfl k) ?_
      refine own_go (T' := T270) (g' := (mkF m 184 #[iv x0, iv x1, iv x2, iv x3, iv x4, iv x5, iv (2 : Int32), iv (1 : Int32), rv b258, rv b_263, iv (1 : Int32), .unset] [])) (fun t k => XS.icmpNo X270.here hx rfl (hb hby at_181) rfl (teq (rfl : x1 = x1)).2 k) ?_
      refine own_go (T' := T270) (g' := (mkF m 186 #[iv x0, iv x1, iv x2, iv x3, iv x4, iv x5, iv (2 : Int32), iv (1 : Int32), rv b258, rv b_263, iv (1 : Int32), .unset] [(.int (2 : Int32))])) (fun t k => XS.iload X270.here hx rfl (hb hby at_184) rfl k) ?_
      refine own_go (T' := T270) (g' := (mkF m 187 #[iv x0, iv x1, iv x2, iv x3, iv x4, iv x5, iv (2 : Int32), iv (1 : Int32), rv b258, rv b_263, iv (1 : Int32), .unset] [(.int (3 : Int32)), (.int (2 : Int32))])) (fun t k => XS.iconst X270.here hx rfl (hb hby at_186) k) ?_
      refine own_go (T' := T270) (g' := (mkF m 198 #[iv x0, iv x1, iv x2, iv x3, iv x4, iv x5, iv (2 : Int32), iv (1 : Int32), rv b258, rv b_263, iv (1 : Int32), .unset] [])) (fun t k => XS.icmpYes X270.here hx rfl (pc0 := 187) (pc' := 198) rfl (hb hby at_187) rfl (tlt (by decide : ((2 : Int32) < (3 : Int32)))).1 (by decide) (by decide) k) ?_
      refine own_go (T' := T270) (g' := (mkF m 199 #[iv x0, iv x1, iv x2, iv x3, iv x4, iv x5, iv (2 : Int32), iv (1 : Int32), rv b258, rv b_263, iv (1 : Int32), .unset] [(.int (1 : Int32))])) (fun t k => XS.iconst X270.here hx rfl (hb hby at_198) k) ?_
      refine own_go (T' := T270) (g' := (mkF m 203 #[iv x0, iv x1, iv x2, iv x3, iv x4, iv x5, iv (2 : Int32), iv (1 : Int32), rv b258, rv b_263, iv (1 : Int32), .unset] [(.int (1 : Int32))])) (fun t k => XS.goto X270.here hx rfl (pc0 := 199) (pc' := 203) rfl (hb hby at_199) (by decide) (by decide) k) ?_
      refine own_go (T' := T270) (g' := (mkF m 205 #[iv x0, iv x1, iv x2, iv x3, iv x4, iv x5, iv (2 : Int32), iv (1 : Int32), rv b258, rv b_263, iv (1 : Int32), iv (1 : Int32)] [])) (fun t k => XS.istore X270.here hx rfl (hb hby at_203) rfl (l' := #[iv x0, iv x1, iv x2, iv x3, iv x4, iv x5, iv (2 : Int32), iv (1 : Int32), rv b258, rv b_263, iv (1 : Int32), iv (1 : Int32)]) rfl k) ?_
      refine own_go (T' := T270) (g' := (mkF m 207 #[iv x0, iv x1, iv x2, iv x3, iv x4, iv x5, iv (2 : Int32), iv (1 : Int32), rv b258, rv b_263, iv (1 : Int32), iv (1 : Int32)] [(.int (1 : Int32))])) (fun t k => XS.iload X270.here hx rfl (hb hby at_205) rfl k) ?_
      refine own_go (T' := T270) (g' := (mkF m 210 #[iv x0, iv x1, iv x2, iv x3, iv x4, iv x5, iv (2 : Int32), iv (1 : Int32), rv b258, rv b_263, iv (1 : Int32), iv (1 : Int32)] [])) (fun t k => XS.ifNo X270.here hx rfl (hb hby at_207) rfl ((if0 _ _).trans (feq (by decide : ¬ ((1 : Int32) = (0 : Int32)))).1) k) ?_
      refine own_go (T' := T270) (g' := (mkF m 212 #[iv x0, iv x1, iv x2, iv x3, iv x4, iv x5, iv (2 : Int32), iv (1 : Int32), rv b258, rv b_263, iv (1 : Int32), iv (1 : Int32)] [(.int (1 : Int32))])) (fun t k => XS.iload X270.here hx rfl (hb hby at_210) rfl k) ?_
      refine own_go (T' := T270) (g' := (mkF m 215 #[iv x0, iv x1, iv x2, iv x3, iv x4, iv x5, iv (2 : Int32), iv (1 : Int32), rv b258, rv b_263, iv (1 : Int32), iv (1 : Int32)] [])) (fun t k => XS.ifNo X270.here hx rfl (hb hby at_212) rfl ((if0 _ _).trans (feq (by decide : ¬ ((1 : Int32) = (0 : Int32)))).1) k) ?_
      refine own_go (T' := T270) (g' := (mkF m 216 #[iv x0, iv x1, iv x2, iv x3, iv x4, iv x5, iv (2 : Int32), iv (1 : Int32), rv b258, rv b_263, iv (1 : Int32), iv (1 : Int32)] [(.int (1 : Int32))])) (fun t k => XS.iconst X270.here hx rfl (hb hby at_215) k) ?_
      refine own_go (T' := T270) (g' := (mkF m 220 #[iv x0, iv x1, iv x2, iv x3, iv x4, iv x5, iv (2 : Int32), iv (1 : Int32), rv b258, rv b_263, iv (1 : Int32), iv (1 : Int32)] [(.int (1 : Int32))])) (fun t k => XS.goto X270.here hx rfl (pc0 := 216) (pc' := 220) rfl (hb hby at_216) (by decide) (by decide) k) ?_
      exact own_ret X270 hlk hx Bd.returns rfl (Or.inl ⟨rfl, Or.inr (Or.inl rfl), _, rfl⟩) (hb hby at_220) (by first | exact ⟨rfl, N270⟩ | (rw [Fr] at *; exact ⟨rfl, by simpa using N270⟩)) (by decide) (by decide)
    · rw [ha]
      refine own_go (T' := s₁) (g' := (mkF m 21 #[iv x0, iv x1, iv x2, iv x3, iv x4, iv x5, iv (2 : Int32), iv (2 : Int32), .unset, .unset, .unset, .unset] [])) (fun t k => XS.istore X0.here hx rfl (hb hby at_19) rfl (l' := #[iv x0, iv x1, iv x2, iv x3, iv x4, iv x5, iv (2 : Int32), iv (2 : Int32), .unset, .unset, .unset, .unset]) rfl k) ?_
      refine own_go (T' := s₁) (g' := (mkF m 23 #[iv x0, iv x1, iv x2, iv x3, iv x4, iv x5, iv (2 : Int32), iv (2 : Int32), .unset, .unset, .unset, .unset] [(.int (2 : Int32))])) (fun t k => XS.iload X0.here hx rfl (hb hby at_21) rfl k) ?_
      obtain ⟨T273, h273, k273, X273, e273, E273, A273, st273⟩ := newP X0 hx hZ (hw _ (List.mem_of_getElem? (i := 1) rfl)) e0 (g := (mkF m 23 #[iv x0, iv x1, iv x2, iv x3, iv x4, iv x5, iv (2 : Int32), iv (2 : Int32), .unset, .unset, .unset, .unset] [(.int (2 : Int32))])) rfl (hb hby at_23) rfl (by decide) (cap := 2) (by decide) (by decide) (by decide) (by decide)
      obtain ⟨b273, g273⟩ : ∃ z, z = h0.size := ⟨_, rfl⟩
      rw [← g273] at A273 st273
      have gn273 : n0 ≤ b273 := Nat.le_trans Z0 (Nat.le_of_eq g273.symm)
      have hz273 : n0 ≤ h273.size := Nat.le_trans Z0 E273.1
      have V273 : Arv Z h273 b273 k273 .int (2 : Int32) [(.int (0 : Int32)), (.int (0 : Int32))] (.int (0 : Int32)) := (Arv.new A273 (by decide)).pad (pad_rep [] (.int (0 : Int32)) 2)
      refine own_go (T' := T273) (g' := (mkF m 25 #[iv x0, iv x1, iv x2, iv x3, iv x4, iv x5, iv (2 : Int32), iv (2 : Int32), .unset, .unset, .unset, .unset] [(.ref b273)])) (st273) ?_
      refine own_go (T' := T273) (g' := (mkF m 27 #[iv x0, iv x1, iv x2, iv x3, iv x4, iv x5, iv (2 : Int32), iv (2 : Int32), rv b273, .unset, .unset, .unset] [])) (fun t k => XS.astore X273.here hx rfl (hb hby at_25) rfl rfl (l' := #[iv x0, iv x1, iv x2, iv x3, iv x4, iv x5, iv (2 : Int32), iv (2 : Int32), rv b273, .unset, .unset, .unset]) rfl k) ?_
      refine own_go (T' := T273) (g' := (mkF m 29 #[iv x0, iv x1, iv x2, iv x3, iv x4, iv x5, iv (2 : Int32), iv (2 : Int32), rv b273, .unset, .unset, .unset] [(.int (2 : Int32))])) (fun t k => XS.iload X273.here hx rfl (hb hby at_27) rfl k) ?_
      refine own_go (T' := T273) (g' := (mkF m 32 #[iv x0, iv x1, iv x2, iv x3, iv x4, iv x5, iv (2 : Int32), iv (2 : Int32), rv b273, .unset, .unset, .unset] [])) (fun t k => XS.ifNo X273.here hx rfl (hb hby at_29) rfl ((if0 _ _).trans (tlt (by decide : ((0 : Int32) < (2 : Int32)))).2.2.2) k) ?_
      refine own_go (T' := T273) (g' := (mkF m 34 #[iv x0, iv x1, iv x2, iv x3, iv x4, iv x5, iv (2 : Int32), iv (2 : Int32), rv b273, .unset, .unset, .unset] [(.ref b273)])) (fun t k => XS.aload X273.here hx rfl (hb hby at_32) rfl rfl k) ?_
      refine own_go (T' := T273) (g' := (mkF m 35 #[iv x0, iv x1, iv x2, iv x3, iv x4, iv x5, iv (2 : Int32), iv (2 : Int32), rv b273, .unset, .unset, .unset] [(.int (0 : Int32)), (.ref b273)])) (fun t k => XS.iconst X273.here hx rfl (hb hby at_34) k) ?_
      refine own_go (T' := T273) (g' := (mkF m 36 #[iv x0, iv x1, iv x2, iv x3, iv x4, iv x5, iv (2 : Int32), iv (2 : Int32), rv b273, .unset, .unset, .unset] [(.int x0), (.int (0 : Int32)), (.ref b273)])) (fun t k => XS.iloadN X273.here hx rfl (hb hby at_35) rfl k) ?_
      obtain ⟨cl274, Ar274, q274, Sz274, Nn274, Ha274, Ga274⟩ := id V273
      have hin274 : ¬ ((0 : Int32) < 0 ∨ cl274.slots.size ≤ ((0 : Int32)).toNatClampNeg) := inb_of Sz274 ⟨by decide, by decide⟩
      obtain ⟨T274, h274, X274, e274, W274, st274⟩ := stI X273 hx hZ e273 Ar274 (j := (0 : Int32)) hin274 (g := (mkF m 36 #[iv x0, iv x1, iv x2, iv x3, iv x4, iv x5, iv (2 : Int32), iv (2 : Int32), rv b273, .unset, .unset, .unset] [(.int x0), (.int (0 : Int32)), (.ref b273)])) rfl rfl (hb hby at_36)
      have hz274 : n0 ≤ h274.size := Nat.le_trans hz273 (Keep.of_wr W274).1
      have N274 := Fr.snoc X274 N0 gn273
      have V274 : Arv Z h274 b273 k273 .int (2 : Int32) [(.int x0), (.int (0 : Int32))] (.int (0 : Int32)) := Arv.set Ar274 q274 Sz274 Nn274 Ha274 Ga274 rfl W274 0 rfl (Nat.le_of_ble_eq_true rfl)
      refine own_go (T' := T274) (g' := (mkF m 37 #[iv x0, iv x1, iv x2, iv x3, iv x4, iv x5, iv (2 : Int32), iv (2 : Int32), rv b273, .unset, .unset, .unset] [])) (st274) ?_
      refine own_go (T' := T274) (g' := (mkF m 39 #[iv x0, iv x1, iv x2, iv x3, iv x4, iv x5, iv (2 : Int32), iv (2 : Int32), rv b273, .unset, .unset, .unset] [(.int (2 : Int32))])) (fun t k => XS.iload X274.here hx rfl (hb hby at_37) rfl k) ?_
      refine own_go (T' := T274) (g' := (mkF m 40 #[iv x0, iv x1, iv x2, iv x3, iv x4, iv x5, iv (2 : Int32), iv (2 : Int32), rv b273, .unset, .unset, .unset] [(.int (1 : Int32)), (.int (2 : Int32))])) (fun t k => XS.iconst X274.here hx rfl (hb hby at_39) k) ?_
      refine own_go (T' := T274) (g' := (mkF m 43 #[iv x0, iv x1, iv x2, iv x3, iv x4, iv x5, iv (2 : Int32), iv (2 : Int32), rv b273, .unset, .unset, .unset] [])) (fun t k => XS.icmpNo X274.here hx rfl (hb hby at_40) rfl (tlt (by decide : ((1 : Int32) < (2 : Int32)))).2.2.2 k) ?_
      refine own_go (T' := T274) (g' := (mkF m 45 #[iv x0, iv x1, iv x2, iv x3, iv x4, iv x5, iv (2 : Int32), iv (2 : Int32), rv b273, .unset, .unset, .unset] [(.ref b273)])) (fun t k => XS.aload X274.here hx rfl (hb hby at_43) rfl rfl k) ?_
      refine own_go (T' := T274) (g' := (mkF m 46 #[iv x0, iv x1, iv x2, iv x3, iv x4, iv x5, iv (2 : Int32), iv (2 : Int32), rv b273, .unset, .unset, .unset] [(.int (1 : Int32)), (.ref b273)])) (fun t k => XS.iconst X274.here hx rfl (hb hby at_45) k) ?_
      refine own_go (T' := T274) (g' := (mkF m 47 #[iv x0, iv x1, iv x2, iv x3, iv x4, iv x5, iv (2 : Int32), iv (2 : Int32), rv b273, .unset, .unset, .unset] [(.int x1), (.int (1 : Int32)), (.ref b273)])) (fun t k => XS.iloadN X274.here hx rfl (hb hby at_46) rfl k) ?_
      obtain ⟨cl276, Ar276, q276, Sz276, Nn276, Ha276, Ga276⟩ := id V274
      have hin276 : ¬ ((1 : Int32) < 0 ∨ cl276.slots.size ≤ ((1 : Int32)).toNatClampNeg) := inb_of Sz276 ⟨by decide, by decide⟩
      obtain ⟨T276, h276, X276, e276, W276, st276⟩ := stI X274 hx hZ e274 Ar276 (j := (1 : Int32)) hin276 (g := (mkF m 47 #[iv x0, iv x1, iv x2, iv x3, iv x4, iv x5, iv (2 : Int32), iv (2 : Int32), rv b273, .unset, .unset, .unset] [(.int x1), (.int (1 : Int32)), (.ref b273)])) rfl rfl (hb hby at_47)
      have hz276 : n0 ≤ h276.size := Nat.le_trans hz274 (Keep.of_wr W276).1
      have N276 := Fr.snoc X276 N274 gn273
      have V276 : Arv Z h276 b273 k273 .int (2 : Int32) [(.int x0), (.int x1)] (.int (0 : Int32)) := Arv.set Ar276 q276 Sz276 Nn276 Ha276 Ga276 rfl W276 1 rfl (Nat.le_of_ble_eq_true rfl)
      refine own_go (T' := T276) (g' := (mkF m 48 #[iv x0, iv x1, iv x2, iv x3, iv x4, iv x5, iv (2 : Int32), iv (2 : Int32), rv b273, .unset, .unset, .unset] [])) (st276) ?_
      refine own_go (T' := T276) (g' := (mkF m 50 #[iv x0, iv x1, iv x2, iv x3, iv x4, iv x5, iv (2 : Int32), iv (2 : Int32), rv b273, .unset, .unset, .unset] [(.int (2 : Int32))])) (fun t k => XS.iload X276.here hx rfl (hb hby at_48) rfl k) ?_
      refine own_go (T' := T276) (g' := (mkF m 51 #[iv x0, iv x1, iv x2, iv x3, iv x4, iv x5, iv (2 : Int32), iv (2 : Int32), rv b273, .unset, .unset, .unset] [(.int (2 : Int32)), (.int (2 : Int32))])) (fun t k => XS.iconst X276.here hx rfl (hb hby at_50) k) ?_
      refine own_go (T' := T276) (g' := (mkF m 59 #[iv x0, iv x1, iv x2, iv x3, iv x4, iv x5, iv (2 : Int32), iv (2 : Int32), rv b273, .unset, .unset, .unset] [])) (fun t k => XS.icmpYes X276.here hx rfl (pc0 := 51) (pc' := 59) rfl (hb hby at_51) rfl (flt (by decide : ¬ ((2 : Int32) < (2 : Int32)))).2.2.2 (by decide) (by decide) k) ?_
      refine own_go (T' := T276) (g' := (mkF m 61 #[iv x0, iv x1, iv x2, iv x3, iv x4, iv x5, iv (2 : Int32), iv (2 : Int32), rv b273, .unset, .unset, .unset] [(.ref b273)])) (fun t k => XS.aload X276.here hx rfl (hb hby at_59) rfl rfl k) ?_
      refine own_go (T' := T276) (g' := (mkF m 63 #[iv x0, iv x1, iv x2, iv x3, iv x4, iv x5, iv (2 : Int32), iv (2 : Int32), rv b273, .unset, .unset, .unset] [(.int (2 : Int32)), (.ref b273)])) (fun t k => XS.iload X276.here hx rfl (hb hby at_61) rfl k) ?_
      refine own_go (T' := T276) (g' := (mkF m 64 #[iv x0, iv x1, iv x2, iv x3, iv x4, iv x5, iv (2 : Int32), iv (2 : Int32), rv b273, .unset, .unset, .unset] [(.int x3), (.int (2 : Int32)), (.ref b273)])) (fun t k => XS.iloadN X276.here hx rfl (hb hby at_63) rfl k) ?_
      obtain ⟨_, _, ⟨T278, L278, k278, n278⟩, -, X278, ⟨Lc278, hQ278, l278, y278, z278⟩, st278⟩ := Jvm.LawKit.callS X276 hx (y := (⟨"com/example/tankroute/tankroute/solve/Solution$Tour", "withStop", "([III)[I"⟩ : MethodName)) hown (mvT hZ (hw _ (List.mem_of_getElem? (i := 2) rfl))) (mvT hZ (hw _ (List.mem_of_getElem? (i := 3) rfl))) (mvT hZ (hw _ (List.mem_of_getElem? (i := 4) rfl))) (mvT hZ (hw _ (List.mem_of_getElem? (i := 5) rfl))) (by decide) (backOf (W := 0) (own_ws_2_2 l Z a0 hw [] x0 x1 x3 b273 k273 h276 n0 hz276 V276) hZ (hw _ (List.mem_of_getElem? (i := 5) rfl)) (hw _ (List.mem_of_getElem? (i := 4) rfl)) (by decide) (by decide)) (g := (mkF m 64 #[iv x0, iv x1, iv x2, iv x3, iv x4, iv x5, iv (2 : Int32), iv (2 : Int32), rv b273, .unset, .unset, .unset] [(.int x3), (.int (2 : Int32)), (.ref b273)])) rfl (by rw [hml]; rfl) (argsL := [(.ref b273), (.int (2 : Int32)), (.int x3)]) (rest := []) (lenOf own_pd0 rfl) rfl (by show 2 * 0 + _ ≤ _; exact Nat.le_of_eq rfl) (hb hby at_64) (fun _ _ => ⟨rfl, e276, (by decide : 1 + 1 ≤ _), (by decide : 2 + 3 ≤ _)⟩)
      dsimp only [Pt.U, Pt.locs, Pt.cells, Pt.slots] at X278 l278 y278 z278 st278 hQ278
      subst l278 y278 z278
      obtain ⟨b_278, k_278, rfl, N278q, ob_278, K_278, V_278⟩ := hQ278
      have N278 := Fr.app N276 N278q
      have nq278 : b273 ≠ b_278 := Nat.ne_of_lt (Nat.lt_of_lt_of_le V276.lt ob_278)
      have gq278 : n0 ≤ b_278 := Nat.le_trans hz276 ob_278
      have c280 := V276.keep K_278 nin0
      have hz278 : n0 ≤ T278.heap.size := Nat.le_trans hz276 K_278.1
      refine own_go (T' := T278) (g' := (mkF m 67 #[iv x0, iv x1, iv x2, iv x3, iv x4, iv x5, iv (2 : Int32), iv (2 : Int32), rv b273, .unset, .unset, .unset] [(.ref b_278)])) (st278) ?_
      refine own_go (T' := T278) (g' := (mkF m 69 #[iv x0, iv x1, iv x2, iv x3, iv x4, iv x5, iv (2 : Int32), iv (2 : Int32), rv b273, rv b_278, .unset, .unset] [])) (fun t k => XS.astore X278.here hx rfl (hb hby at_67) rfl rfl (l' := #[iv x0, iv x1, iv x2, iv x3, iv x4, iv x5, iv (2 : Int32), iv (2 : Int32), rv b273, rv b_278, .unset, .unset]) rfl k) ?_
      refine own_go (T' := T278) (g' := (mkF m 71 #[iv x0, iv x1, iv x2, iv x3, iv x4, iv x5, iv (2 : Int32), iv (2 : Int32), rv b273, rv b_278, .unset, .unset] [(.ref b_278)])) (fun t k => XS.aload X278.here hx rfl (hb hby at_69) rfl rfl k) ?_
      refine own_go (T' := T278) (g' := (mkF m 74 #[iv x0, iv x1, iv x2, iv x3, iv x4, iv x5, iv (2 : Int32), iv (2 : Int32), rv b273, rv b_278, .unset, .unset] [])) (fun t k => XS.ifnullNo X278.here hx rfl (hb hby at_71) rfl k) ?_
      refine own_go (T' := T278) (g' := (mkF m 76 #[iv x0, iv x1, iv x2, iv x3, iv x4, iv x5, iv (2 : Int32), iv (2 : Int32), rv b273, rv b_278, .unset, .unset] [(.ref b_278)])) (fun t k => XS.aload X278.here hx rfl (hb hby at_74) rfl rfl k) ?_
      refine own_go (T' := T278) (g' := (mkF m 78 #[iv x0, iv x1, iv x2, iv x3, iv x4, iv x5, iv (2 : Int32), iv (2 : Int32), rv b273, rv b_278, .unset, .unset] [(.ref b273), (.ref b_278)])) (fun t k => XS.aload X278.here hx rfl (hb hby at_76) rfl rfl k) ?_
      refine own_go (T' := T278) (g' := (mkF m 81 #[iv x0, iv x1, iv x2, iv x3, iv x4, iv x5, iv (2 : Int32), iv (2 : Int32), rv b273, rv b_278, .unset, .unset] [])) (fun t k => Jvm.RoadKit.acmp (g := (mkF m 78 #[iv x0, iv x1, iv x2, iv x3, iv x4, iv x5, iv (2 : Int32), iv (2 : Int32), rv b273, rv b_278, .unset, .unset] [(.ref b273), (.ref b_278)])) X278 hx rfl (x := (.ref b_278)) (y := (.ref b273)) rfl rfl (pc0 := 78) (pc' := 81) (same := false) rfl (hb hby at_78) rfl (decide_eq_false fun q => (Ne.symm nq278) (Value.ref.inj q)) (by decide) (by decide) k) ?_
      refine own_go (T' := T278) (g' := (mkF m 83 #[iv x0, iv x1, iv x2, iv x3, iv x4, iv x5, iv (2 : Int32), iv (2 : Int32), rv b273, rv b_278, .unset, .unset] [(.ref b_278)])) (fun t k => XS.aload X278.here hx rfl (hb hby at_81) rfl rfl k) ?_
      obtain ⟨cl281, Ar281, -, Sz281, Nn281, -, -⟩ := id V_278
      refine own_go (T' := T278) (g' := (mkF m 84 #[iv x0, iv x1, iv x2, iv x3, iv x4, iv x5, iv (2 : Int32), iv (2 : Int32), rv b273, rv b_278, .unset, .unset] [(.int (3 : Int32))])) (fun t k => X278.arraylength hx (by exact Ar281.1) (State.isArrayOf_alike hZ.alike Ar281.2.1) (g := (mkF m 83 #[iv x0, iv x1, iv x2, iv x3, iv x4, iv x5, iv (2 : Int32), iv (2 : Int32), rv b273, rv b_278, .unset, .unset] [(.ref b_278)])) rfl rfl (hb hby at_83) _ (by rw [len_of Sz281 Nn281]; exact k)) ?_
      refine own_go (T' := T278) (g' := (mkF m 86 #[iv x0, iv x1, iv x2, iv x3, iv x4, iv x5, iv (2 : Int32), iv (2 : Int32), rv b273, rv b_278, .unset, .unset] [(.int (2 : Int32)), (.int (3 : Int32))])) (fun t k => XS.iload X278.here hx rfl (hb hby at_84) rfl k) ?_
      refine own_go (T' := T278) (g' := (mkF m 87 #[iv x0, iv x1, iv x2, iv x3, iv x4, iv x5, iv (2 : Int32), iv (2 : Int32), rv b273, rv b_278, .unset, .unset] [(.int (1 : Int32)), (.int (2 : Int32)), (.int (3 : Int32))])) (fun t k => XS.iconst X278.here hx rfl (hb hby at_86) k) ?_
      refine own_go (T' := T278) (g' := (mkF m 88 #[iv x0, iv x1, iv x2, iv x3, iv x4, iv x5, iv (2 : Int32), iv (2 : Int32), rv b273, rv b_278, .unset, .unset] [(.int (3 : Int32)), (.int (3 : Int32))])) (fun t k => XS.iadd X278.here hx rfl (hb hby at_87) rfl k) ?_
      refine own_go (T' := T278) (g' := (mkF m 93 #[iv x0, iv x1, iv x2, iv x3, iv x4, iv x5, iv (2 : Int32), iv (2 : Int32), rv b273, rv b_278, .unset, .unset] [])) (fun t k => XS.icmpYes X278.here hx rfl (pc0 := 88) (pc' := 93) rfl (hb hby at_88) rfl (teq (by decide : ((3 : Int32) = (3 : Int32)))).1 (by decide) (by decide) k) ?_
      refine own_go (T' := T278) (g' := (mkF m 95 #[iv x0, iv x1, iv x2, iv x3, iv x4, iv x5, iv (2 : Int32), iv (2 : Int32), rv b273, rv b_278, .unset, .unset] [(.ref b_278)])) (fun t k => XS.aload X278.here hx rfl (hb hby at_93) rfl rfl k) ?_
      refine own_go (T' := T278) (g' := (mkF m 97 #[iv x0, iv x1, iv x2, iv x3, iv x4, iv x5, iv (2 : Int32), iv (2 : Int32), rv b273, rv b_278, .unset, .unset] [(.ref b273), (.ref b_278)])) (fun t k => XS.aload X278.here hx rfl (hb hby at_95) rfl rfl k) ?_
      refine own_go (T' := T278) (g' := (mkF m 99 #[iv x0, iv x1, iv x2, iv x3, iv x4, iv x5, iv (2 : Int32), iv (2 : Int32), rv b273, rv b_278, .unset, .unset] [(.int (2 : Int32)), (.ref b273), (.ref b_278)])) (fun t k => XS.iload X278.here hx rfl (hb hby at_97) rfl k) ?_
      refine own_go (T' := T278) (g' := (mkF m 100 #[iv x0, iv x1, iv x2, iv x3, iv x4, iv x5, iv (2 : Int32), iv (2 : Int32), rv b273, rv b_278, .unset, .unset] [(.int x3), (.int (2 : Int32)), (.ref b273), (.ref b_278)])) (fun t k => XS.iloadN X278.here hx rfl (hb hby at_99) rfl k) ?_
      refine own_go (T' := T278) (g' := (mkF m 101 #[iv x0, iv x1, iv x2, iv x3, iv x4, iv x5, iv (2 : Int32), iv (2 : Int32), rv b273, rv b_278, .unset, .unset] [(.int (0 : Int32)), (.int x3), (.int (2 : Int32)), (.ref b273), (.ref b_278)])) (fun t k => XS.iconst X278.here hx rfl (hb hby at_100) k) ?_
      obtain ⟨_, _, ⟨T282, L282, k282, n282⟩, -, X282, ⟨Lc282, hQ282, l282, y282, z282⟩, st282⟩ := Jvm.LawKit.callS X278 hx (y := (⟨"com/example/tankroute/tankroute/solve/TourWithStopPinLaw", "slot", "([I[IIII)Z"⟩ : MethodName)) hown (mvT hZ (hw _ (List.mem_of_getElem? (i := 10) rfl))) (mvT hZ (hw _ (List.mem_of_getElem? (i := 11) rfl))) (mvT hZ (hw _ (List.mem_of_getElem? (i := 12) rfl))) (mvT hZ (hw _ (List.mem_of_getElem? (i := 13) rfl))) (by decide) (backOf (W := 0) (own_slotB l Z a0 hw [] b_278 b273 k_278 k273 (3 : Int32) (2 : Int32) (2 : Int32) x3 (0 : Int32) x0 [(.int x0), (.int x1), (.int x3)] [(.int x0), (.int x1)] T278.heap n0 hz278 V_278 c280 (by decide) (by decide) (by decide) (by decide) rfl rfl) hZ (hw _ (List.mem_of_getElem? (i := 13) rfl)) (hw _ (List.mem_of_getElem? (i := 12) rfl)) (by decide) (by decide)) (g := (mkF m 101 #[iv x0, iv x1, iv x2, iv x3, iv x4, iv x5, iv (2 : Int32), iv (2 : Int32), rv b273, rv b_278, .unset, .unset] [(.int (0 : Int32)), (.int x3), (.int (2 : Int32)), (.ref b273), (.ref b_278)])) rfl (by rw [hml]; rfl) (argsL := [(.ref b_278), (.ref b273), (.int (2 : Int32)), (.int x3), (.int (0 : Int32))]) (rest := []) (lenOf own_pd1 rfl) rfl (by show 2 * 0 + _ ≤ _; exact Nat.le_of_eq rfl) (hb hby at_101) (fun _ _ => ⟨rfl, rfl, (by decide : 2 + 0 ≤ _), (by decide : 5 + 0 ≤ _)⟩)
      dsimp only [Pt.U, Pt.locs, Pt.cells, Pt.slots] at X282 l282 y282 z282 st282 hQ282
      subst l282 y282 z282
      obtain ⟨rfl, rfl, e282⟩ := hQ282
      have E282q : T282.heap = T278.heap := e282
      have N282 := Fr.app N278 (Fr.nil n0)
      refine own_go (T' := T282) (g' := (mkF m 104 #[iv x0, iv x1, iv x2, iv x3, iv x4, iv x5, iv (2 : Int32), iv (2 : Int32), rv b273, rv b_278, .unset, .unset] [(.int (1 : Int32))])) (st282) ?_
      refine own_go (T' := T282) (g' := (mkF m 107 #[iv x0, iv x1, iv x2, iv x3, iv x4, iv x5, iv (2 : Int32), iv (2 : Int32), rv b273, rv b_278, .unset, .unset] [])) (fun t k => XS.ifNo X282.here hx rfl (hb hby at_104) rfl ((if0 _ _).trans (feq (by decide : ¬ ((1 : Int32) = (0 : Int32)))).1) k) ?_
      refine own_go (T' := T282) (g' := (mkF m 109 #[iv x0, iv x1, iv x2, iv x3, iv x4, iv x5, iv (2 : Int32), iv (2 : Int32), rv b273, rv b_278, .unset, .unset] [(.ref b_278)])) (fun t k => XS.aload X282.here hx rfl (hb hby at_107) rfl rfl k) ?_
      refine own_go (T' := T282) (g' := (mkF m 111 #[iv x0, iv x1, iv x2, iv x3, iv x4, iv x5, iv (2 : Int32), iv (2 : Int32), rv b273, rv b_278, .unset, .unset] [(.ref b273), (.ref b_278)])) (fun t k => XS.aload X282.here hx rfl (hb hby at_109) rfl rfl k) ?_
      refine own_go (T' := T282) (g' := (mkF m 113 #[iv x0, iv x1, iv x2, iv x3, iv x4, iv x5, iv (2 : Int32), iv (2 : Int32), rv b273, rv b_278, .unset, .unset] [(.int (2 : Int32)), (.ref b273), (.ref b_278)])) (fun t k => XS.iload X282.here hx rfl (hb hby at_111) rfl k) ?_
      refine own_go (T' := T282) (g' := (mkF m 114 #[iv x0, iv x1, iv x2, iv x3, iv x4, iv x5, iv (2 : Int32), iv (2 : Int32), rv b273, rv b_278, .unset, .unset] [(.int x3), (.int (2 : Int32)), (.ref b273), (.ref b_278)])) (fun t k => XS.iloadN X282.here hx rfl (hb hby at_113) rfl k) ?_
      refine own_go (T' := T282) (g' := (mkF m 115 #[iv x0, iv x1, iv x2, iv x3, iv x4, iv x5, iv (2 : Int32), iv (2 : Int32), rv b273, rv b_278, .unset, .unset] [(.int (1 : Int32)), (.int x3), (.int (2 : Int32)), (.ref b273), (.ref b_278)])) (fun t k => XS.iconst X282.here hx rfl (hb hby at_114) k) ?_
      obtain ⟨_, _, ⟨T283, L283, k283, n283⟩, -, X283, ⟨Lc283, hQ283, l283, y283, z283⟩, st283⟩ := Jvm.LawKit.callS X282 hx (y := (⟨"com/example/tankroute/tankroute/solve/TourWithStopPinLaw", "slot", "([I[IIII)Z"⟩ : MethodName)) hown (mvT hZ (hw _ (List.mem_of_getElem? (i := 10) rfl))) (mvT hZ (hw _ (List.mem_of_getElem? (i := 11) rfl))) (mvT hZ (hw _ (List.mem_of_getElem? (i := 12) rfl))) (mvT hZ (hw _ (List.mem_of_getElem? (i := 13) rfl))) (by decide) (backOf (W := 0) (own_slotB l Z a0 hw [] b_278 b273 k_278 k273 (3 : Int32) (2 : Int32) (2 : Int32) x3 (1 : Int32) x1 [(.int x0), (.int x1), (.int x3)] [(.int x0), (.int x1)] T278.heap n0 hz278 V_278 c280 (by decide) (by decide) (by decide) (by decide) rfl rfl) hZ (hw _ (List.mem_of_getElem? (i := 13) rfl)) (hw _ (List.mem_of_getElem? (i := 12) rfl)) (by decide) (by decide)) (g := (mkF m 115 #[iv x0, iv x1, iv x2, iv x3, iv x4, iv x5, iv (2 : Int32), iv (2 : Int32), rv b273, rv b_278, .unset, .unset] [(.int (1 : Int32)), (.int x3), (.int (2 : Int32)), (.ref b273), (.ref b_278)])) rfl (by rw [hml]; rfl) (argsL := [(.ref b_278), (.ref b273), (.int (2 : Int32)), (.int x3), (.int (1 : Int32))]) (rest := []) (lenOf own_pd1 rfl) rfl (by show 2 * 0 + _ ≤ _; exact Nat.le_of_eq rfl) (hb hby at_115) (fun _ _ => ⟨rfl, E282q, (by decide : 2 + 0 ≤ _), (by decide : 5 + 0 ≤ _)⟩)
      dsimp only [Pt.U, Pt.locs, Pt.cells, Pt.slots] at X283 l283 y283 z283 st283 hQ283
      subst l283 y283 z283
      obtain ⟨rfl, rfl, e283⟩ := hQ283
      have E283q : T283.heap = T278.heap := e283
      have N283 := Fr.app N282 (Fr.nil n0)
      refine own_go (T' := T283) (g' := (mkF m 118 #[iv x0, iv x1, iv x2, iv x3, iv x4, iv x5, iv (2 : Int32), iv (2 : Int32), rv b273, rv b_278, .unset, .unset] [(.int (1 : Int32))])) (st283) ?_
      refine own_go (T' := T283) (g' := (mkF m 121 #[iv x0, iv x1, iv x2, iv x3, iv x4, iv x5, iv (2 : Int32), iv (2 : Int32), rv b273, rv b_278, .unset, .unset] [])) (fun t k => XS.ifNo X283.here hx rfl (hb hby at_118) rfl ((if0 _ _).trans (feq (by decide : ¬ ((1 : Int32) = (0 : Int32)))).1) k) ?_
      refine own_go (T' := T283) (g' := (mkF m 123 #[iv x0, iv x1, iv x2, iv x3, iv x4, iv x5, iv (2 : Int32), iv (2 : Int32), rv b273, rv b_278, .unset, .unset] [(.ref b_278)])) (fun t k => XS.aload X283.here hx rfl (hb hby at_121) rfl rfl k) ?_
      refine own_go (T' := T283) (g' := (mkF m 125 #[iv x0, iv x1, iv x2, iv x3, iv x4, iv x5, iv (2 : Int32), iv (2 : Int32), rv b273, rv b_278, .unset, .unset] [(.ref b273), (.ref b_278)])) (fun t k => XS.aload X283.here hx rfl (hb hby at_123) rfl rfl k) ?_
      refine own_go (T' := T283) (g' := (mkF m 127 #[iv x0, iv x1, iv x2, iv x3, iv x4, iv x5, iv (2 : Int32), iv (2 : Int32), rv b273, rv b_278, .unset, .unset] [(.int (2 : Int32)), (.ref b273), (.ref b_278)])) (fun t k => XS.iload X283.here hx rfl (hb hby at_125) rfl k) ?_
      refine own_go (T' := T283) (g' := (mkF m 128 #[iv x0, iv x1, iv x2, iv x3, iv x4, iv x5, iv (2 : Int32), iv (2 : Int32), rv b273, rv b_278, .unset, .unset] [(.int x3), (.int (2 : Int32)), (.ref b273), (.ref b_278)])) (fun t k => XS.iloadN X283.here hx rfl (hb hby at_127) rfl k) ?_
      refine own_go (T' := T283) (g' := (mkF m 129 #[iv x0, iv x1, iv x2, iv x3, iv x4, iv x5, iv (2 : Int32), iv (2 : Int32), rv b273, rv b_278, .unset, .unset] [(.int (2 : Int32)), (.int x3), (.int (2 : Int32)), (.ref b273), (.ref b_278)])) (fun t k => XS.iconst X283.here hx rfl (hb hby at_128) k) ?_
      obtain ⟨_, _, ⟨T284, L284, k284, n284⟩, -, X284, ⟨Lc284, hQ284, l284, y284, z284⟩, st284⟩ := Jvm.LawKit.callS X283 hx (y := (⟨"com/example/tankroute/tankroute/solve/TourWithStopPinLaw", "slot", "([I[IIII)Z"⟩ : MethodName)) hown (mvT hZ (hw _ (List.mem_of_getElem? (i := 10) rfl))) (mvT hZ (hw _ (List.mem_of_getElem? (i := 11) rfl))) (mvT hZ (hw _ (List.mem_of_getElem? (i := 12) rfl))) (mvT hZ (hw _ (List.mem_of_getElem? (i := 13) rfl))) (by decide) (backOf (W := 0) (own_slotC l Z a0 hw [] b_278 b273 k_278 k273 (3 : Int32) (2 : Int32) (2 : Int32)  (2 : Int32) x3 [(.int x0), (.int x1), (.int x3)] [(.int x0), (.int x1)] T278.heap n0 hz278 V_278 c280 (by decide) (by decide) rfl (by decide) rfl) hZ (hw _ (List.mem_of_getElem? (i := 13) rfl)) (hw _ (List.mem_of_getElem? (i := 12) rfl)) (by decide) (by decide)) (g := (mkF m 129 #[iv x0, iv x1, iv x2, iv x3, iv x4, iv x5, iv (2 : Int32), iv (2 : Int32), rv b273, rv b_278, .unset, .unset] [(.int (2 : Int32)), (.int x3), (.int (2 : Int32)), (.ref b273), (.ref b_278)])) rfl (by rw [hml]; rfl) (argsL := [(.ref b_278), (.ref b273), (.int (2 : Int32)), (.int x3), (.int (2 : Int32))]) (rest := []) (lenOf own_pd1 rfl) rfl (by show 2 * 0 + _ ≤ _; exact Nat.le_of_eq rfl) (hb hby at_129) (fun _ _ => ⟨rfl, E283q, (by decide : 2 + 0 ≤ _), (by decide : 5 + 0 ≤ _)⟩)
      dsimp only [Pt.U, Pt.locs, Pt.cells, Pt.slots] at X284 l284 y284 z284 st284 hQ284
      subst l284 y284 z284
      obtain ⟨rfl, rfl, e284⟩ := hQ284
      have E284q : T284.heap = T278.heap := e284
      have N284 := Fr.app N283 (Fr.nil n0)
      refine own_go (T' := T284) (g' := (mkF m 132 #[iv x0, iv x1, iv x2, iv x3, iv x4, iv x5, iv (2 : Int32), iv (2 : Int32), rv b273, rv b_278, .unset, .unset] [(.int (1 : Int32))])) (st284) ?_
      refine own_go (T' := T284) (g' := (mkF m 135 #[iv x0, iv x1, iv x2, iv x3, iv x4, iv x5, iv (2 : Int32), iv (2 : Int32), rv b273, rv b_278, .unset, .unset] [])) (fun t k => XS.ifNo X284.here hx rfl (hb hby at_132) rfl ((if0 _ _).trans (feq (by decide : ¬ ((1 : Int32) = (0 : Int32)))).1) k) ?_
      refine own_go (T' := T284) (g' := (mkF m 137 #[iv x0, iv x1, iv x2, iv x3, iv x4, iv x5, iv (2 : Int32), iv (2 : Int32), rv b273, rv b_278, .unset, .unset] [(.ref b_278)])) (fun t k => XS.aload X284.here hx rfl (hb hby at_135) rfl rfl k) ?_
      refine own_go (T' := T284) (g' := (mkF m 139 #[iv x0, iv x1, iv x2, iv x3, iv x4, iv x5, iv (2 : Int32), iv (2 : Int32), rv b273, rv b_278, .unset, .unset] [(.ref b273), (.ref b_278)])) (fun t k => XS.aload X284.here hx rfl (hb hby at_137) rfl rfl k) ?_
      refine own_go (T' := T284) (g' := (mkF m 141 #[iv x0, iv x1, iv x2, iv x3, iv x4, iv x5, iv (2 : Int32), iv (2 : Int32), rv b273, rv b_278, .unset, .unset] [(.int (2 : Int32)), (.ref b273), (.ref b_278)])) (fun t k => XS.iload X284.here hx rfl (hb hby at_139) rfl k) ?_
      refine own_go (T' := T284) (g' := (mkF m 142 #[iv x0, iv x1, iv x2, iv x3, iv x4, iv x5, iv (2 : Int32), iv (2 : Int32), rv b273, rv b_278, .unset, .unset] [(.int x3), (.int (2 : Int32)), (.ref b273), (.ref b_278)])) (fun t k => XS.iloadN X284.here hx rfl (hb hby at_141) rfl k) ?_
      refine own_go (T' := T284) (g' := (mkF m 143 #[iv x0, iv x1, iv x2, iv x3, iv x4, iv x5, iv (2 : Int32), iv (2 : Int32), rv b273, rv b_278, .unset, .unset] [(.int (3 : Int32)), (.int x3), (.int (2 : Int32)), (.ref b273), (.ref b_278)])) (fun t k => XS.iconst X284.here hx rfl (hb hby at_142) k) ?_
      obtain ⟨_, _, ⟨T285, L285, k285, n285⟩, -, X285, ⟨Lc285, hQ285, l285, y285, z285⟩, st285⟩ := Jvm.LawKit.callS X284 hx (y := (⟨"com/example/tankroute/tankroute/solve/TourWithStopPinLaw", "slot", "([I[IIII)Z"⟩ : MethodName)) hown (mvT hZ (hw _ (List.mem_of_getElem? (i := 10) rfl))) (mvT hZ (hw _ (List.mem_of_getElem? (i := 11) rfl))) (mvT hZ (hw _ (List.mem_of_getElem? (i := 12) rfl))) (mvT hZ (hw _ (List.mem_of_getElem? (i := 13) rfl))) (by decide) (backOf (W := 0) (own_slotA l Z a0 hw [] b_278 b273 k_278 k273 (3 : Int32) (2 : Int32) (2 : Int32) x3 (3 : Int32) 0 [(.int x0), (.int x1), (.int x3)] [(.int x0), (.int x1)] T278.heap n0 hz278 V_278 c280 (by decide)) hZ (hw _ (List.mem_of_getElem? (i := 13) rfl)) (hw _ (List.mem_of_getElem? (i := 12) rfl)) (by decide) (by decide)) (g := (mkF m 143 #[iv x0, iv x1, iv x2, iv x3, iv x4, iv x5, iv (2 : Int32), iv (2 : Int32), rv b273, rv b_278, .unset, .unset] [(.int (3 : Int32)), (.int x3), (.int (2 : Int32)), (.ref b273), (.ref b_278)])) rfl (by rw [hml]; rfl) (argsL := [(.ref b_278), (.ref b273), (.int (2 : Int32)), (.int x3), (.int (3 : Int32))]) (rest := []) (lenOf own_pd1 rfl) rfl (by show 2 * 0 + _ ≤ _; exact Nat.le_of_eq rfl) (hb hby at_143) (fun _ _ => ⟨rfl, E284q, (by decide : 2 + 0 ≤ _), (by decide : 5 + 0 ≤ _)⟩)
      dsimp only [Pt.U, Pt.locs, Pt.cells, Pt.slots] at X285 l285 y285 z285 st285 hQ285
      subst l285 y285 z285
      obtain ⟨rfl, rfl, e285⟩ := hQ285
      have E285q : T285.heap = T278.heap := e285
      have N285 := Fr.app N284 (Fr.nil n0)
      refine own_go (T' := T285) (g' := (mkF m 146 #[iv x0, iv x1, iv x2, iv x3, iv x4, iv x5, iv (2 : Int32), iv (2 : Int32), rv b273, rv b_278, .unset, .unset] [(.int (1 : Int32))])) (st285) ?_
      refine own_go (T' := T285) (g' := (mkF m 149 #[iv x0, iv x1, iv x2, iv x3, iv x4, iv x5, iv (2 : Int32), iv (2 : Int32), rv b273, rv b_278, .unset, .unset] [])) (fun t k => XS.ifNo X285.here hx rfl (hb hby at_146) rfl ((if0 _ _).trans (feq (by decide : ¬ ((1 : Int32) = (0 : Int32)))).1) k) ?_
      refine own_go (T' := T285) (g' := (mkF m 150 #[iv x0, iv x1, iv x2, iv x3, iv x4, iv x5, iv (2 : Int32), iv (2 : Int32), rv b273, rv b_278, .unset, .unset] [(.int (1 : Int32))])) (fun t k => XS.iconst X285.here hx rfl (hb hby at_149) k) ?_
      refine own_go (T' := T285) (g' := (mkF m 154 #[iv x0, iv x1, iv x2, iv x3, iv x4, iv x5, iv (2 : Int32), iv (2 : Int32), rv b273, rv b_278, .unset, .unset] [(.int (1 : Int32))])) (fun t k => XS.goto X285.here hx rfl (pc0 := 150) (pc' := 154) rfl (hb hby at_150) (by decide) (by decide) k) ?_
      refine own_go (T' := T285) (g' := (mkF m 156 #[iv x0, iv x1, iv x2, iv x3, iv x4, iv x5, iv (2 : Int32), iv (2 : Int32), rv b273, rv b_278, iv (1 : Int32), .unset] [])) (fun t k => XS.istore X285.here hx rfl (hb hby at_154) rfl (l' := #[iv x0, iv x1, iv x2, iv x3, iv x4, iv x5, iv (2 : Int32), iv (2 : Int32), rv b273, rv b_278, iv (1 : Int32), .unset]) rfl k) ?_
      refine own_go (T' := T285) (g' := (mkF m 158 #[iv x0, iv x1, iv x2, iv x3, iv x4, iv x5, iv (2 : Int32), iv (2 : Int32), rv b273, rv b_278, iv (1 : Int32), .unset] [(.int (2 : Int32))])) (fun t k => XS.iload X285.here hx rfl (hb hby at_156) rfl k) ?_
      refine own_go (T' := T285) (g' := (mkF m 159 #[iv x0, iv x1, iv x2, iv x3, iv x4, iv x5, iv (2 : Int32), iv (2 : Int32), rv b273, rv b_278, iv (1 : Int32), .unset] [(.int (1 : Int32)), (.int (2 : Int32))])) (fun t k => XS.iconst X285.here hx rfl (hb hby at_158) k) ?_
      refine own_go (T' := T285) (g' := (mkF m 162 #[iv x0, iv x1, iv x2, iv x3, iv x4, iv x5, iv (2 : Int32), iv (2 : Int32), rv b273, rv b_278, iv (1 : Int32), .unset] [])) (fun t k => XS.icmpNo X285.here hx rfl (hb hby at_159) rfl (flt (by decide : ¬ ((2 : Int32) < (1 : Int32)))).1 k) ?_
      refine own_go (T' := T285) (g' := (mkF m 164 #[iv x0, iv x1, iv x2, iv x3, iv x4, iv x5, iv (2 : Int32), iv (2 : Int32), rv b273, rv b_278, iv (1 : Int32), .unset] [(.ref b273)])) (fun t k => XS.aload X285.here hx rfl (hb hby at_162) rfl rfl k) ?_
      refine own_go (T' := T285) (g' := (mkF m 165 #[iv x0, iv x1, iv x2, iv x3, iv x4, iv x5, iv (2 : Int32), iv (2 : Int32), rv b273, rv b_278, iv (1 : Int32), .unset] [(.int (0 : Int32)), (.ref b273)])) (fun t k => XS.iconst X285.here hx rfl (hb hby at_164) k) ?_
      obtain ⟨cl286, Ar286, -, Sz286, Nn286, Ha286, -⟩ := id c280
      have hin286 : ¬ ((0 : Int32) < 0 ∨ cl286.slots.size ≤ ((0 : Int32)).toNatClampNeg) := inb_of Sz286 ⟨by decide, by decide⟩
      have hat286 : cl286.slots[((0 : Int32)).toNatClampNeg]? = some (.int x0) := Ha286.at hin286 rfl
      refine own_go (T' := T285) (g' := (mkF m 166 #[iv x0, iv x1, iv x2, iv x3, iv x4, iv x5, iv (2 : Int32), iv (2 : Int32), rv b273, rv b_278, iv (1 : Int32), .unset] [(.int x0)])) (fun t k => X285.iaload hx (j := (0 : Int32)) (v := (.int x0)) (by rw [E285q]; exact Ar286.1) (State.isArrayOf_alike hZ.alike Ar286.2.1) Ar286.2.2 hin286 hat286 (g := (mkF m 165 #[iv x0, iv x1, iv x2, iv x3, iv x4, iv x5, iv (2 : Int32), iv (2 : Int32), rv b273, rv b_278, iv (1 : Int32), .unset] [(.int (0 : Int32)), (.ref b273)])) rfl rfl (hb hby at_165) _ k) ?_
      refine own_go (T' := T285) (g' := (mkF m 167 #[iv x0, iv x1, iv x2, iv x3, iv x4, iv x5, iv (2 : Int32), iv (2 : Int32), rv b273, rv b_278, iv (1 : Int32), .unset] [(.int x0), (.int x0)])) (fun t k => XS.iloadN X285.here hx rfl (hb hby at_166) rfl k) ?_
      refine own_go (T' := T285) (g' := (mkF m 170 #[iv x0, iv x1, iv x2, iv x3, iv x4, iv x5, iv (2 : Int32), iv (2 : Int32), rv b273, rv b_278, iv (1 : Int32), .unset] [])) (fun t k => XS.icmpNo X285.here hx rfl (hb hby at_167) rfl (teq (rfl : x0 = x0)).2 k) ?_
      refine own_go (T' := T285) (g' := (mkF m 172 #[iv x0, iv x1, iv x2, iv x3, iv x4, iv x5, iv (2 : Int32), iv (2 : Int32), rv b273, rv b_278, iv (1 : Int32), .unset] [(.int (2 : Int32))])) (fun t k => XS.iload X285.here hx rfl (hb hby at_170) rfl k) ?_
      refine own_go (T' := T285) (g' := (mkF m 173 #[iv x0, iv x1, iv x2, iv x3, iv x4, iv x5, iv (2 : Int32), iv (2 : Int32), rv b273, rv b_278, iv (1 : Int32), .unset] [(.int (2 : Int32)), (.int (2 : Int32))])) (fun t k => XS.iconst X285.here hx rfl (hb hby at_172) k) ?_
      refine own_go (T' := T285) (g' := (mkF m 176 #[iv x0, iv x1, iv x2, iv x3, iv x4, iv x5, iv (2 : Int32), iv (2 : Int32), rv b273, rv b_278, iv (1 : Int32), .unset] [])) (fun t k => XS.icmpNo X285.here hx rfl (hb hby at_173) rfl (flt (by decide : ¬ ((2 : Int32) < (2 : Int32)))).1 k) ?_
      refine own_go (T' := T285) (g' := (mkF m 178 #[iv x0, iv x1, iv x2, iv x3, iv x4, iv x5, iv (2 : Int32), iv (2 : Int32), rv b273, rv b_278, iv (1 : Int32), .unset] [(.ref b273)])) (fun t k => XS.aload X285.here hx rfl (hb hby at_176) rfl rfl k) ?_
      refine own_go (T' := T285) (g' := (mkF m 179 #[iv x0, iv x1, iv x2, iv x3, iv x4, iv x5, iv (2 : Int32), iv (2 : Int32), rv b273, rv b_278, iv (1 : Int32), .unset] [(.int (1 : Int32)), (.ref b273)])) (fun t k => XS.iconst X285.here hx rfl (hb hby at_178) k) ?_
      obtain ⟨cl287, Ar287, -, Sz287, Nn287, Ha287, -⟩ := id c280
      have hin287 : ¬ ((1 : Int32) < 0 ∨ cl287.slots.size ≤ ((1 : Int32)).toNatClampNeg) := inb_of Sz287 ⟨by decide, by decide⟩
      have hat287 : cl287.slots[((1 : Int32)).toNatClampNeg]? = some (.int x1) := Ha287.at hin287 rfl
      refine own_go (T' := T285) (g' := (mkF m 180 #[iv x0, iv x1, iv x2, iv x3, iv x4, iv x5, iv (2 : Int32), iv (2 : Int32), rv b273, rv b_278, iv (1 : Int32), .unset] [(.int x1)])) (fun t k => X285.iaload hx (j := (1 : Int32)) (v := (.int x1)) (by rw [E285q]; exact Ar287.1) (State.isArrayOf_alike hZ.alike Ar287.2.1) Ar287.2.2 hin287 hat287 (g := (mkF m 179 #[iv x0, iv x1, iv x2, iv x3, iv x4, iv x5, iv (2 : Int32), iv (2 : Int32), rv b273, rv b_278, iv (1 : Int32), .unset] [(.int (1 : Int32)), (.ref b273)])) rfl rfl (hb hby at_179) _ k) ?_
      refine own_go (T' := T285) (g' := (mkF m 181 #[iv x0, iv x1, iv x2, iv x3, iv x4, iv x5, iv (2 : Int32), iv (2 : Int32), rv b273, rv b_278, iv (1 : Int32), .unset] [(.int x1), (.int x1)])) (fun t k => XS.iloadN X285.here hx rfl (hb hby at_180) rfl k) ?_
      refine own_go (T' := T285) (g' := (mkF m 184 #[iv x0, iv x1, iv x2, iv x3, iv x4, iv x5, iv (2 : Int32), iv (2 : Int32), rv b273, rv b_278, iv (1 : Int32), .unset] [])) (fun t k => XS.icmpNo X285.here hx rfl (hb hby at_181) rfl (teq (rfl : x1 = x1)).2 k) ?_
      refine own_go (T' := T285) (g' := (mkF m 186 #[iv x0, iv x1, iv x2, iv x3, iv x4, iv x5, iv (2 : Int32), iv (2 : Int32), rv b273, rv b_278, iv (1 : Int32), .unset] [(.int (2 : Int32))])) (fun t k => XS.iload X285.here hx rfl (hb hby at_184) rfl k) ?_
      refine own_go (T' := T285) (g' := (mkF m 187 #[iv x0, iv x1, iv x2, iv x3, iv x4, iv x5, iv (2 : Int32), iv (2 : Int32), rv b273, rv b_278, iv (1 : Int32), .unset] [(.int (3 : Int32)), (.int (2 : Int32))])) (fun t k => XS.iconst X285.here hx rfl (hb hby at_186) k) ?_
      refine own_go (T' := T285) (g' := (mkF m 198 #[iv x0, iv x1, iv x2, iv x3, iv x4, iv x5, iv (2 : Int32), iv (2 : Int32), rv b273, rv b_278, iv (1 : Int32), .unset] [])) (fun t k => XS.icmpYes X285.here hx rfl (pc0 := 187) (pc' := 198) rfl (hb hby at_187) rfl (tlt (by decide : ((2 : Int32) < (3 : Int32)))).1 (by decide) (by decide) k) ?_
      refine own_go (T' := T285) (g' := (mkF m 199 #[iv x0, iv x1, iv x2, iv x3, iv x4, iv x5, iv (2 : Int32), iv (2 : Int32), rv b273, rv b_278, iv (1 : Int32), .unset] [(.int (1 : Int32))])) (fun t k => XS.iconst X285.here hx rfl (hb hby at_198) k) ?_
      refine own_go (T' := T285) (g' := (mkF m 203 #[iv x0, iv x1, iv x2, iv x3, iv x4, iv x5, iv (2 : Int32), iv (2 : Int32), rv b273, rv b_278, iv (1 : Int32), .unset] [(.int (1 : Int32))])) (fun t k => XS.goto X285.here hx rfl (pc0 := 199) (pc' := 203) rfl (hb hby at_199) (by decide) (by decide) k) ?_
      refine own_go (T' := T285) (g' := (mkF m 205 #[iv x0, iv x1, iv x2, iv x3, iv x4, iv x5, iv (2 : Int32), iv (2 : Int32), rv b273, rv b_278, iv (1 : Int32), iv (1 : Int32)] [])) (fun t k => XS.istore X285.here hx rfl (hb hby at_203) rfl (l' := #[iv x0, iv x1, iv x2, iv x3, iv x4, iv x5, iv (2 : Int32), iv (2 : Int32), rv b273, rv b_278, iv (1 : Int32), iv (1 : Int32)]) rfl k) ?_
      refine own_go (T' := T285) (g' := (mkF m 207 #[iv x0, iv x1, iv x2, iv x3, iv x4, iv x5, iv (2 : Int32), iv (2 : Int32), rv b273, rv b_278, iv (1 : Int32), iv (1 : Int32)] [(.int (1 : Int32))])) (fun t k => XS.iload X285.here hx rfl (hb hby at_205) rfl k) ?_
      refine own_go (T' := T285) (g' := (mkF m 210 #[iv x0, iv x1, iv x2, iv x3, iv x4, iv x5, iv (2 : Int32), iv (2 : Int32), rv b273, rv b_278, iv (1 : Int32), iv (1 : Int32)] [])) (fun t k => XS.ifNo X285.here hx rfl (hb hby at_207) rfl ((if0 _ _).trans (feq (by decide : ¬ ((1 : Int32) = (0 : Int32)))).1) k) ?_
      refine own_go (T' := T285) (g' := (mkF m 212 #[iv x0, iv x1, iv x2, iv x3, iv x4, iv x5, iv (2 : Int32), iv (2 : Int32), rv b273, rv b_278, iv (1 : Int32), iv (1 : Int32)] [(.int (1 : Int32))])) (fun t k => XS.iload X285.here hx rfl (hb hby at_210) rfl k) ?_
      refine own_go (T' := T285) (g' := (mkF m 215 #[iv x0, iv x1, iv x2, iv x3, iv x4, iv x5, iv (2 : Int32), iv (2 : Int32), rv b273, rv b_278, iv (1 : Int32), iv (1 : Int32)] [])) (fun t k => XS.ifNo X285.here hx rfl (hb hby at_212) rfl ((if0 _ _).trans (feq (by decide : ¬ ((1 : Int32) = (0 : Int32)))).1) k) ?_
      refine own_go (T' := T285) (g' := (mkF m 216 #[iv x0, iv x1, iv x2, iv x3, iv x4, iv x5, iv (2 : Int32), iv (2 : Int32), rv b273, rv b_278, iv (1 : Int32), iv (1 : Int32)] [(.int (1 : Int32))])) (fun t k => XS.iconst X285.here hx rfl (hb hby at_215) k) ?_
      refine own_go (T' := T285) (g' := (mkF m 220 #[iv x0, iv x1, iv x2, iv x3, iv x4, iv x5, iv (2 : Int32), iv (2 : Int32), rv b273, rv b_278, iv (1 : Int32), iv (1 : Int32)] [(.int (1 : Int32))])) (fun t k => XS.goto X285.here hx rfl (pc0 := 216) (pc' := 220) rfl (hb hby at_216) (by decide) (by decide) k) ?_
      exact own_ret X285 hlk hx Bd.returns rfl (Or.inl ⟨rfl, Or.inr (Or.inl rfl), _, rfl⟩) (hb hby at_220) (by first | exact ⟨rfl, N285⟩ | (rw [Fr] at *; exact ⟨rfl, by simpa using N285⟩)) (by decide) (by decide)
  · rw [hn]
    refine own_go (T' := s₁) (g' := (mkF m 9 #[iv x0, iv x1, iv x2, iv x3, iv x4, iv x5, iv (3 : Int32), .unset, .unset, .unset, .unset, .unset] [])) (fun t k => XS.istore X0.here hx rfl (hb hby at_7) rfl (l' := #[iv x0, iv x1, iv x2, iv x3, iv x4, iv x5, iv (3 : Int32), .unset, .unset, .unset, .unset, .unset]) rfl k) ?_
    refine own_go (T' := s₁) (g' := (mkF m 11 #[iv x0, iv x1, iv x2, iv x3, iv x4, iv x5, iv (3 : Int32), .unset, .unset, .unset, .unset, .unset] [(.int x4)])) (fun t k => XS.iload X0.here hx rfl (hb hby at_9) rfl k) ?_
    refine own_go (T' := s₁) (g' := (mkF m 13 #[iv x0, iv x1, iv x2, iv x3, iv x4, iv x5, iv (3 : Int32), .unset, .unset, .unset, .unset, .unset] [(.int (2147483647 : Int32)), (.int x4)])) (fun t k => X0.ldcInt hx hown (mvT hZ (hw _ (List.mem_of_getElem? (i := 0) rfl))) (g := (mkF m 11 #[iv x0, iv x1, iv x2, iv x3, iv x4, iv x5, iv (3 : Int32), .unset, .unset, .unset, .unset, .unset] [(.int x4)])) rfl (hb hby at_11) _ k) ?_
    refine own_go (T' := s₁) (g' := (mkF m 14 #[iv x0, iv x1, iv x2, iv x3, iv x4, iv x5, iv (3 : Int32), .unset, .unset, .unset, .unset, .unset] [(.int (x4 &&& (2147483647 : Int32)))])) (fun t k => XS.iand X0.here hx rfl (hb hby at_13) rfl k) ?_
    refine own_go (T' := s₁) (g' := (mkF m 16 #[iv x0, iv x1, iv x2, iv x3, iv x4, iv x5, iv (3 : Int32), .unset, .unset, .unset, .unset, .unset] [(.int (3 : Int32)), (.int (x4 &&& (2147483647 : Int32)))])) (fun t k => XS.iload X0.here hx rfl (hb hby at_14) rfl k) ?_
    refine own_go (T' := s₁) (g' := (mkF m 17 #[iv x0, iv x1, iv x2, iv x3, iv x4, iv x5, iv (3 : Int32), .unset, .unset, .unset, .unset, .unset] [(.int (1 : Int32)), (.int (3 : Int32)), (.int (x4 &&& (2147483647 : Int32)))])) (fun t k => XS.iconst X0.here hx rfl (hb hby at_16) k) ?_
    refine own_go (T' := s₁) (g' := (mkF m 18 #[iv x0, iv x1, iv x2, iv x3, iv x4, iv x5, iv (3 : Int32), .unset, .unset, .unset, .unset, .unset] [(.int (4 : Int32)), (.int (x4 &&& (2147483647 : Int32)))])) (fun t k => XS.iadd X0.here hx rfl (hb hby at_17) rfl k) ?_
    refine own_go (T' := s₁) (g' := (mkF m 19 #[iv x0, iv x1, iv x2, iv x3, iv x4, iv x5, iv (3 : Int32), .unset, .unset, .unset, .unset, .unset] [(.int ((x4 &&& (2147483647 : Int32)) % (4 : Int32)))])) (fun t k => Jvm.RoadKit.iremM X0 hx rfl (hb hby at_18) rfl (by decide) k) ?_
    rcases own_m4 x4 with ha | ha | ha | ha
    · rw [ha]
      refine own_go (T' := s₁) (g' := (mkF m 21 #[iv x0, iv x1, iv x2, iv x3, iv x4, iv x5, iv (3 : Int32), iv (0 : Int32), .unset, .unset, .unset, .unset] [])) (fun t k => XS.istore X0.here hx rfl (hb hby at_19) rfl (l' := #[iv x0, iv x1, iv x2, iv x3, iv x4, iv x5, iv (3 : Int32), iv (0 : Int32), .unset, .unset, .unset, .unset]) rfl k) ?_
      refine own_go (T' := s₁) (g' := (mkF m 23 #[iv x0, iv x1, iv x2, iv x3, iv x4, iv x5, iv (3 : Int32), iv (0 : Int32), .unset, .unset, .unset, .unset] [(.int (3 : Int32))])) (fun t k => XS.iload X0.here hx rfl (hb hby at_21) rfl k) ?_
      obtain ⟨T288, h288, k288, X288, e288, E288, A288, st288⟩ := newP X0 hx hZ (hw _ (List.mem_of_getElem? (i := 1) rfl)) e0 (g := (mkF m 23 #[iv x0, iv x1, iv x2, iv x3, iv x4, iv x5, iv (3 : Int32), iv (0 : Int32), .unset, .unset, .unset, .unset] [(.int (3 : Int32))])) rfl (hb hby at_23) rfl (by decide) (cap := 3) (by decide) (by decide) (by decide) (by decide)
      obtain ⟨b288, g288⟩ : ∃ z, z = h0.size := ⟨_, rfl⟩
      rw [← g288] at A288 st288
      have gn288 : n0 ≤ b288 := Nat.le_trans Z0 (Nat.le_of_eq g288.symm)
      have hz288 : n0 ≤ h288.size := Nat.le_trans Z0 E288.1
      have V288 : Arv Z h288 b288 k288 .int (3 : Int32) [(.int (0 : Int32)), (.int (0 : Int32)), (.int (0 : Int32))] (.int (0 : Int32)) := (Arv.new A288 (by decide)).pad (pad_rep [] (.int (0 : Int32)) 3)
      refine own_go (T' := T288) (g' := (mkF m 25 #[iv x0, iv x1, iv x2, iv x3, iv x4, iv x5, iv (3 : Int32), iv (0 : Int32), .unset, .unset, .unset, .unset] [(.ref b288)])) (st288) ?_
      refine own_go (T' := T288) (g' := (mkF m 27 #[iv x0, iv x1, iv x2, iv x3, iv x4, iv x5, iv (3 : Int32), iv (0 : Int32), rv b288, .unset, .unset, .unset] [])) (fun t k => XS.astore X288.here hx rfl (hb hby at_25) rfl rfl (l' := #[iv x0, iv x1, iv x2, iv x3, iv x4, iv x5, iv (3 : Int32), iv (0 : Int32), rv b288, .unset, .unset, .unset]) rfl k) ?_
      refine own_go (T' := T288) (g' := (mkF m 29 #[iv x0, iv x1, iv x2, iv x3, iv x4, iv x5, iv (3 : Int32), iv (0 : Int32), rv b288, .unset, .unset, .unset] [(.int (3 : Int32))])) (fun t k => XS.iload X288.here hx rfl (hb hby at_27) rfl k) ?_
      refine own_go (T' := T288) (g' := (mkF m 32 #[iv x0, iv x1, iv x2, iv x3, iv x4, iv x5, iv (3 : Int32), iv (0 : Int32), rv b288, .unset, .unset, .unset] [])) (fun t k => XS.ifNo X288.here hx rfl (hb hby at_29) rfl ((if0 _ _).trans (tlt (by decide : ((0 : Int32) < (3 : Int32)))).2.2.2) k) ?_
      refine own_go (T' := T288) (g' := (mkF m 34 #[iv x0, iv x1, iv x2, iv x3, iv x4, iv x5, iv (3 : Int32), iv (0 : Int32), rv b288, .unset, .unset, .unset] [(.ref b288)])) (fun t k => XS.aload X288.here hx rfl (hb hby at_32) rfl rfl k) ?_
      refine own_go (T' := T288) (g' := (mkF m 35 #[iv x0, iv x1, iv x2, iv x3, iv x4, iv x5, iv (3 : Int32), iv (0 : Int32), rv b288, .unset, .unset, .unset] [(.int (0 : Int32)), (.ref b288)])) (fun t k => XS.iconst X288.here hx rfl (hb hby at_34) k) ?_
      refine own_go (T' := T288) (g' := (mkF m 36 #[iv x0, iv x1, iv x2, iv x3, iv x4, iv x5, iv (3 : Int32), iv (0 : Int32), rv b288, .unset, .unset, .unset] [(.int x0), (.int (0 : Int32)), (.ref b288)])) (fun t k => XS.iloadN X288.here hx rfl (hb hby at_35) rfl k) ?_
      obtain ⟨cl289, Ar289, q289, Sz289, Nn289, Ha289, Ga289⟩ := id V288
      have hin289 : ¬ ((0 : Int32) < 0 ∨ cl289.slots.size ≤ ((0 : Int32)).toNatClampNeg) := inb_of Sz289 ⟨by decide, by decide⟩
      obtain ⟨T289, h289, X289, e289, W289, st289⟩ := stI X288 hx hZ e288 Ar289 (j := (0 : Int32)) hin289 (g := (mkF m 36 #[iv x0, iv x1, iv x2, iv x3, iv x4, iv x5, iv (3 : Int32), iv (0 : Int32), rv b288, .unset, .unset, .unset] [(.int x0), (.int (0 : Int32)), (.ref b288)])) rfl rfl (hb hby at_36)
      have hz289 : n0 ≤ h289.size := Nat.le_trans hz288 (Keep.of_wr W289).1
      have N289 := Fr.snoc X289 N0 gn288
      have V289 : Arv Z h289 b288 k288 .int (3 : Int32) [(.int x0), (.int (0 : Int32)), (.int (0 : Int32))] (.int (0 : Int32)) := Arv.set Ar289 q289 Sz289 Nn289 Ha289 Ga289 rfl W289 0 rfl (Nat.le_of_ble_eq_true rfl)
      refine own_go (T' := T289) (g' := (mkF m 37 #[iv x0, iv x1, iv x2, iv x3, iv x4, iv x5, iv (3 : Int32), iv (0 : Int32), rv b288, .unset, .unset, .unset] [])) (st289) ?_
      refine own_go (T' := T289) (g' := (mkF m 39 #[iv x0, iv x1, iv x2, iv x3, iv x4, iv x5, iv (3 : Int32), iv (0 : Int32), rv b288, .unset, .unset, .unset] [(.int (3 : Int32))])) (fun t k => XS.iload X289.here hx rfl (hb hby at_37) rfl k) ?_
      refine own_go (T' := T289) (g' := (mkF m 40 #[iv x0, iv x1, iv x2, iv x3, iv x4, iv x5, iv (3 : Int32), iv (0 : Int32), rv b288, .unset, .unset, .unset] [(.int (1 : Int32)), (.int (3 : Int32))])) (fun t k => XS.iconst X289.here hx rfl (hb hby at_39) k) ?_
      refine own_go (T' := T289) (g' := (mkF m 43 #[iv x0, iv x1, iv x2, iv x3, iv x4, iv x5, iv (3 : Int32), iv (0 : Int32), rv b288, .unset, .unset, .unset] [])) (fun t k => XS.icmpNo X289.here hx rfl (hb hby at_40) rfl (tlt (by decide : ((1 : Int32) < (3 : Int32)))).2.2.2 k) ?_
      refine own_go (T' := T289) (g' := (mkF m 45 #[iv x0, iv x1, iv x2, iv x3, iv x4, iv x5, iv (3 : Int32), iv (0 : Int32), rv b288, .unset, .unset, .unset] [(.ref b288)])) (fun t k => XS.aload X289.here hx rfl (hb hby at_43) rfl rfl k) ?_
      refine own_go (T' := T289) (g' := (mkF m 46 #[iv x0, iv x1, iv x2, iv x3, iv x4, iv x5, iv (3 : Int32), iv (0 : Int32), rv b288, .unset, .unset, .unset] [(.int (1 : Int32)), (.ref b288)])) (fun t k => XS.iconst X289.here hx rfl (hb hby at_45) k) ?_
      refine own_go (T' := T289) (g' := (mkF m 47 #[iv x0, iv x1, iv x2, iv x3, iv x4, iv x5, iv (3 : Int32), iv (0 : Int32), rv b288, .unset, .unset, .unset] [(.int x1), (.int (1 : Int32)), (.ref b288)])) (fun t k => XS.iloadN X289.here hx rfl (hb hby at_46) rfl k) ?_
      obtain ⟨cl291, Ar291, q291, Sz291, Nn291, Ha291, Ga291⟩ := id V289
      have hin291 : ¬ ((1 : Int32) < 0 ∨ cl291.slots.size ≤ ((1 : Int32)).toNatClampNeg) := inb_of Sz291 ⟨by decide, by decide⟩
      obtain ⟨T291, h291, X291, e291, W291, st291⟩ := stI X289 hx hZ e289 Ar291 (j := (1 : Int32)) hin291 (g := (mkF m 47 #[iv x0, iv x1, iv x2, iv x3, iv x4, iv x5, iv (3 : Int32), iv (0 : Int32), rv b288, .unset, .unset, .unset] [(.int x1), (.int (1 : Int32)), (.ref b288)])) rfl rfl (hb hby at_47)
      have hz291 : n0 ≤ h291.size := Nat.le_trans hz289 (Keep.of_wr W291).1
      have N291 := Fr.snoc X291 N289 gn288
      have V291 : Arv Z h291 b288 k288 .int (3 : Int32) [(.int x0), (.int x1), (.int (0 : Int32))] (.int (0 : Int32)) := Arv.set Ar291 q291 Sz291 Nn291 Ha291 Ga291 rfl W291 1 rfl (Nat.le_of_ble_eq_true rfl)
      refine own_go (T' := T291) (g' := (mkF m 48 #[iv x0, iv x1, iv x2, iv x3, iv x4, iv x5, iv (3 : Int32), iv (0 : Int32), rv b288, .unset, .unset, .unset] [])) (st291) ?_
      refine own_go (T' := T291) (g' := (mkF m 50 #[iv x0, iv x1, iv x2, iv x3, iv x4, iv x5, iv (3 : Int32), iv (0 : Int32), rv b288, .unset, .unset, .unset] [(.int (3 : Int32))])) (fun t k => XS.iload X291.here hx rfl (hb hby at_48) rfl k) ?_
      refine own_go (T' := T291) (g' := (mkF m 51 #[iv x0, iv x1, iv x2, iv x3, iv x4, iv x5, iv (3 : Int32), iv (0 : Int32), rv b288, .unset, .unset, .unset] [(.int (2 : Int32)), (.int (3 : Int32))])) (fun t k => XS.iconst X291.here hx rfl (hb hby at_50) k) ?_
      refine own_go (T' := T291) (g' := (mkF m 54 #[iv x0, iv x1, iv x2, iv x3, iv x4, iv x5, iv (3 : Int32), iv (0 : Int32), rv b288, .unset, .unset, .unset] [])) (fun t k => XS.icmpNo X291.here hx rfl (hb hby at_51) rfl (tlt (by decide : ((2 : Int32) < (3 : Int32)))).2.2.2 k) ?_
      refine own_go (T' := T291) (g' := (mkF m 56 #[iv x0, iv x1, iv x2, iv x3, iv x4, iv x5, iv (3 : Int32), iv (0 : Int32), rv b288, .unset, .unset, .unset] [(.ref b288)])) (fun t k => XS.aload X291.here hx rfl (hb hby at_54) rfl rfl k) ?_
      refine own_go (T' := T291) (g' := (mkF m 57 #[iv x0, iv x1, iv x2, iv x3, iv x4, iv x5, iv (3 : Int32), iv (0 : Int32), rv b288, .unset, .unset, .unset] [(.int (2 : Int32)), (.ref b288)])) (fun t k => XS.iconst X291.here hx rfl (hb hby at_56) k) ?_
      refine own_go (T' := T291) (g' := (mkF m 58 #[iv x0, iv x1, iv x2, iv x3, iv x4, iv x5, iv (3 : Int32), iv (0 : Int32), rv b288, .unset, .unset, .unset] [(.int x2), (.int (2 : Int32)), (.ref b288)])) (fun t k => XS.iloadN X291.here hx rfl (hb hby at_57) rfl k) ?_
      obtain ⟨cl293, Ar293, q293, Sz293, Nn293, Ha293, Ga293⟩ := id V291
      have hin293 : ¬ ((2 : Int32) < 0 ∨ cl293.slots.size ≤ ((2 : Int32)).toNatClampNeg) := inb_of Sz293 ⟨by decide, by decide⟩
      obtain ⟨T293, h293, X293, e293, W293, st293⟩ := stI X291 hx hZ e291 Ar293 (j := (2 : Int32)) hin293 (g := (mkF m 58 #[iv x0, iv x1, iv x2, iv x3, iv x4, iv x5, iv (3 : Int32), iv (0 : Int32), rv b288, .unset, .unset, .unset] [(.int x2), (.int (2 : Int32)), (.ref b288)])) rfl rfl (hb hby at_58)
      have hz293 : n0 ≤ h293.size := Nat.le_trans hz291 (Keep.of_wr W293).1
      have N293 := Fr.snoc X293 N291 gn288
      have V293 : Arv Z h293 b288 k288 .int (3 : Int32) [(.int x0), (.int x1), (.int x2)] (.int (0 : Int32)) := Arv.set Ar293 q293 Sz293 Nn293 Ha293 Ga293 rfl W293 2 rfl (Nat.le_of_ble_eq_true rfl)
      refine own_go (T' := T293) (g' := (mkF m 59 #[iv x0, iv x1, iv x2, iv x3, iv x4, iv x5, iv (3 : Int32), iv (0 : Int32), rv b288, .unset, .unset, .unset] [])) (st293) ?_
      refine own_go (T' := T293) (g' := (mkF m 61 #[iv x0, iv x1, iv x2, iv x3, iv x4, iv x5, iv (3 : Int32), iv (0 : Int32), rv b288, .unset, .unset, .unset] [(.ref b288)])) (fun t k => XS.aload X293.here hx rfl (hb hby at_59) rfl rfl k) ?_
      refine own_go (T' := T293) (g' := (mkF m 63 #[iv x0, iv x1, iv x2, iv x3, iv x4, iv x5, iv (3 : Int32), iv (0 : Int32), rv b288, .unset, .unset, .unset] [(.int (0 : Int32)), (.ref b288)])) (fun t k => XS.iload X293.here hx rfl (hb hby at_61) rfl k) ?_
      refine own_go (T' := T293) (g' := (mkF m 64 #[iv x0, iv x1, iv x2, iv x3, iv x4, iv x5, iv (3 : Int32), iv (0 : Int32), rv b288, .unset, .unset, .unset] [(.int x3), (.int (0 : Int32)), (.ref b288)])) (fun t k => XS.iloadN X293.here hx rfl (hb hby at_63) rfl k) ?_
      obtain ⟨_, _, ⟨T295, L295, k295, n295⟩, -, X295, ⟨Lc295, hQ295, l295, y295, z295⟩, st295⟩ := Jvm.LawKit.callS X293 hx (y := (⟨"com/example/tankroute/tankroute/solve/Solution$Tour", "withStop", "([III)[I"⟩ : MethodName)) hown (mvT hZ (hw _ (List.mem_of_getElem? (i := 2) rfl))) (mvT hZ (hw _ (List.mem_of_getElem? (i := 3) rfl))) (mvT hZ (hw _ (List.mem_of_getElem? (i := 4) rfl))) (mvT hZ (hw _ (List.mem_of_getElem? (i := 5) rfl))) (by decide) (backOf (W := 0) (own_ws_3_0 l Z a0 hw [] x0 x1 x2 x3 b288 k288 h293 n0 hz293 V293) hZ (hw _ (List.mem_of_getElem? (i := 5) rfl)) (hw _ (List.mem_of_getElem? (i := 4) rfl)) (by decide) (by decide)) (g := (mkF m 64 #[iv x0, iv x1, iv x2, iv x3, iv x4, iv x5, iv (3 : Int32), iv (0 : Int32), rv b288, .unset, .unset, .unset] [(.int x3), (.int (0 : Int32)), (.ref b288)])) rfl (by rw [hml]; rfl) (argsL := [(.ref b288), (.int (0 : Int32)), (.int x3)]) (rest := []) (lenOf own_pd0 rfl) rfl (by show 2 * 0 + _ ≤ _; exact Nat.le_of_eq rfl) (hb hby at_64) (fun _ _ => ⟨rfl, e293, (by decide : 1 + 1 ≤ _), (by decide : 3 + 4 ≤ _)⟩)
      dsimp only [Pt.U, Pt.locs, Pt.cells, Pt.slots] at X295 l295 y295 z295 st295 hQ295
      subst l295 y295 z295
      obtain ⟨b_295, k_295, rfl, N295q, ob_295, K_295, V_295⟩ := hQ295
      have N295 := Fr.app N293 N295q
      have nq295 : b288 ≠ b_295 := Nat.ne_of_lt (Nat.lt_of_lt_of_le V293.lt ob_295)
      have gq295 : n0 ≤ b_295 := Nat.le_trans hz293 ob_295
      have c297 := V293.keep K_295 nin0
      have hz295 : n0 ≤ T295.heap.size := Nat.le_trans hz293 K_295.1
      refine own_go (T' := T295) (g' := (mkF m 67 #[iv x0, iv x1, iv x2, iv x3, iv x4, iv x5, iv (3 : Int32), iv (0 : Int32), rv b288, .unset, .unset, .unset] [(.ref b_295)])) (st295) ?_
      refine own_go (T' := T295) (g' := (mkF m 69 #[iv x0, iv x1, iv x2, iv x3, iv x4, iv x5, iv (3 : Int32), iv (0 : Int32), rv b288, rv b_295, .unset, .unset] [])) (fun t k => XS.astore X295.here hx rfl (hb hby at_67) rfl rfl (l' := #[iv x0, iv x1, iv x2, iv x3, iv x4, iv x5, iv (3 : Int32), iv (0 : Int32), rv b288, rv b_295, .unset, .unset]) rfl k) ?_
      refine own_go (T' := T295) (g' := (mkF m 71 #[iv x0, iv x1, iv x2, iv x3, iv x4, iv x5, iv (3 : Int32), iv (0 : Int32), rv b288, rv b_295, .unset, .unset] [(.ref b_295)])) (fun t k => XS.aload X295.here hx rfl (hb hby at_69) rfl rfl k) ?_
      refine own_go (T' := T295) (g' := (mkF m 74 #[iv x0, iv x1, iv x2, iv x3, iv x4, iv x5, iv (3 : Int32), iv (0 : Int32), rv b288, rv b_295, .unset, .unset] [])) (fun t k => XS.ifnullNo X295.here hx rfl (hb hby at_71) rfl k) ?_
      refine own_go (T' := T295) (g' := (mkF m 76 #[iv x0, iv x1, iv x2, iv x3, iv x4, iv x5, iv (3 : Int32), iv (0 : Int32), rv b288, rv b_295, .unset, .unset] [(.ref b_295)])) (fun t k => XS.aload X295.here hx rfl (hb hby at_74) rfl rfl k) ?_
      refine own_go (T' := T295) (g' := (mkF m 78 #[iv x0, iv x1, iv x2, iv x3, iv x4, iv x5, iv (3 : Int32), iv (0 : Int32), rv b288, rv b_295, .unset, .unset] [(.ref b288), (.ref b_295)])) (fun t k => XS.aload X295.here hx rfl (hb hby at_76) rfl rfl k) ?_
      refine own_go (T' := T295) (g' := (mkF m 81 #[iv x0, iv x1, iv x2, iv x3, iv x4, iv x5, iv (3 : Int32), iv (0 : Int32), rv b288, rv b_295, .unset, .unset] [])) (fun t k => Jvm.RoadKit.acmp (g := (mkF m 78 #[iv x0, iv x1, iv x2, iv x3, iv x4, iv x5, iv (3 : Int32), iv (0 : Int32), rv b288, rv b_295, .unset, .unset] [(.ref b288), (.ref b_295)])) X295 hx rfl (x := (.ref b_295)) (y := (.ref b288)) rfl rfl (pc0 := 78) (pc' := 81) (same := false) rfl (hb hby at_78) rfl (decide_eq_false fun q => (Ne.symm nq295) (Value.ref.inj q)) (by decide) (by decide) k) ?_
      refine own_go (T' := T295) (g' := (mkF m 83 #[iv x0, iv x1, iv x2, iv x3, iv x4, iv x5, iv (3 : Int32), iv (0 : Int32), rv b288, rv b_295, .unset, .unset] [(.ref b_295)])) (fun t k => XS.aload X295.here hx rfl (hb hby at_81) rfl rfl k) ?_
      obtain ⟨cl298, Ar298, -, Sz298, Nn298, -, -⟩ := id V_295
      refine own_go (T' := T295) (g' := (mkF m 84 #[iv x0, iv x1, iv x2, iv x3, iv x4, iv x5, iv (3 : Int32), iv (0 : Int32), rv b288, rv b_295, .unset, .unset] [(.int (4 : Int32))])) (fun t k => X295.arraylength hx (by exact Ar298.1) (State.isArrayOf_alike hZ.alike Ar298.2.1) (g := (mkF m 83 #[iv x0, iv x1, iv x2, iv x3, iv x4, iv x5, iv (3 : Int32), iv (0 : Int32), rv b288, rv b_295, .unset, .unset] [(.ref b_295)])) rfl rfl (hb hby at_83) _ (by rw [len_of Sz298 Nn298]; exact k)) ?_
      refine own_go (T' := T295) (g' := (mkF m 86 #[iv x0, iv x1, iv x2, iv x3, iv x4, iv x5, iv (3 : Int32), iv (0 : Int32), rv b288, rv b_295, .unset, .unset] [(.int (3 : Int32)), (.int (4 : Int32))])) (fun t k => XS.iload X295.here hx rfl (hb hby at_84) rfl k) ?_
      refine own_go (T' := T295) (g' := (mkF m 87 #[iv x0, iv x1, iv x2, iv x3, iv x4, iv x5, iv (3 : Int32), iv (0 : Int32), rv b288, rv b_295, .unset, .unset] [(.int (1 : Int32)), (.int (3 : Int32)), (.int (4 : Int32))])) (fun t k => XS.iconst X295.here hx rfl (hb hby at_86) k) ?_
      refine own_go (T' := T295) (g' := (mkF m 88 #[iv x0, iv x1, iv x2, iv x3, iv x4, iv x5, iv (3 : Int32), iv (0 : Int32), rv b288, rv b_295, .unset, .unset] [(.int (4 : Int32)), (.int (4 : Int32))])) (fun t k => XS.iadd X295.here hx rfl (hb hby at_87) rfl k) ?_
      refine own_go (T' := T295) (g' := (mkF m 93 #[iv x0, iv x1, iv x2, iv x3, iv x4, iv x5, iv (3 : Int32), iv (0 : Int32), rv b288, rv b_295, .unset, .unset] [])) (fun t k => XS.icmpYes X295.here hx rfl (pc0 := 88) (pc' := 93) rfl (hb hby at_88) rfl (teq (by decide : ((4 : Int32) = (4 : Int32)))).1 (by decide) (by decide) k) ?_
      refine own_go (T' := T295) (g' := (mkF m 95 #[iv x0, iv x1, iv x2, iv x3, iv x4, iv x5, iv (3 : Int32), iv (0 : Int32), rv b288, rv b_295, .unset, .unset] [(.ref b_295)])) (fun t k => XS.aload X295.here hx rfl (hb hby at_93) rfl rfl k) ?_
      refine own_go (T' := T295) (g' := (mkF m 97 #[iv x0, iv x1, iv x2, iv x3, iv x4, iv x5, iv (3 : Int32), iv (0 : Int32), rv b288, rv b_295, .unset, .unset] [(.ref b288), (.ref b_295)])) (fun t k => XS.aload X295.here hx rfl (hb hby at_95) rfl rfl k) ?_
      refine own_go (T' := T295) (g' := (mkF m 99 #[iv x0, iv x1, iv x2, iv x3, iv x4, iv x5, iv (3 : Int32), iv (0 : Int32), rv b288, rv b_295, .unset, .unset] [(.int (0 : Int32)), (.ref b288), (.ref b_295)])) (fun t k => XS.iload X295.here hx rfl (hb hby at_97) rfl k) ?_
      refine own_go (T' := T295) (g' := (mkF m 100 #[iv x0, iv x1, iv x2, iv x3, iv x4, iv x5, iv (3 : Int32), iv (0 : Int32), rv b288, rv b_295, .unset, .unset] [(.int x3), (.int (0 : Int32)), (.ref b288), (.ref b_295)])) (fun t k => XS.iloadN X295.here hx rfl (hb hby at_99) rfl k) ?_
      refine own_go (T' := T295) (g' := (mkF m 101 #[iv x0, iv x1, iv x2, iv x3, iv x4, iv x5, iv (3 : Int32), iv (0 : Int32), rv b288, rv b_295, .unset, .unset] [(.int (0 : Int32)), (.int x3), (.int (0 : Int32)), (.ref b288), (.ref b_295)])) (fun t k => XS.iconst X295.here hx rfl (hb hby at_100) k) ?_
      obtain ⟨_, _, ⟨T299, L299, k299, n299⟩, -, X299, ⟨Lc299, hQ299, l299, y299, z299⟩, st299⟩ := Jvm.LawKit.callS X295 hx (y := (⟨"com/example/tankroute/tankroute/solve/TourWithStopPinLaw", "slot", "([I[IIII)Z"⟩ : MethodName)) hown (mvT hZ (hw _ (List.mem_of_getElem? (i := 10) rfl))) (mvT hZ (hw _ (List.mem_of_getElem? (i := 11) rfl))) (mvT hZ (hw _ (List.mem_of_getElem? (i := 12) rfl))) (mvT hZ (hw _ (List.mem_of_getElem? (i := 13) rfl))) (by decide) (backOf (W := 0) (own_slotC l Z a0 hw [] b_295 b288 k_295 k288 (4 : Int32) (3 : Int32) (0 : Int32)  (0 : Int32) x3 [(.int x3), (.int x0), (.int x1), (.int x2)] [(.int x0), (.int x1), (.int x2)] T295.heap n0 hz295 V_295 c297 (by decide) (by decide) rfl (by decide) rfl) hZ (hw _ (List.mem_of_getElem? (i := 13) rfl)) (hw _ (List.mem_of_getElem? (i := 12) rfl)) (by decide) (by decide)) (g := (mkF m 101 #[iv x0, iv x1, iv x2, iv x3, iv x4, iv x5, iv (3 : Int32), iv (0 : Int32), rv b288, rv b_295, .unset, .unset] [(.int (0 : Int32)), (.int x3), (.int (0 : Int32)), (.ref b288), (.ref b_295)])) rfl (by rw [hml]; rfl) (argsL := [(.ref b_295), (.ref b288), (.int (0 : Int32)), (.int x3), (.int (0 : Int32))]) (rest := []) (lenOf own_pd1 rfl) rfl (by show 2 * 0 + _ ≤ _; exact Nat.le_of_eq rfl) (hb hby at_101) (fun _ _ => ⟨rfl, rfl, (by decide : 2 + 0 ≤ _), (by decide : 7 + 0 ≤ _)⟩)
      dsimp only [Pt.U, Pt.locs, Pt.cells, Pt.slots] at X299 l299 y299 z299 st299 hQ299
      subst l299 y299 z299
      obtain ⟨rfl, rfl, e299⟩ := hQ299
      have E299q : T299.heap = T295.heap := e299
      have N299 := Fr.app N295 (Fr.nil n0)
      refine own_go (T' := T299) (g' := (mkF m 104 #[iv x0, iv x1, iv x2, iv x3, iv x4, iv x5, iv (3 : Int32), iv (0 : Int32), rv b288, rv b_295, .unset, .unset] [(.int (1 : Int32))])) (st299) ?_
      refine own_go (T' := T299) (g' := (mkF m 107 #[iv x0, iv x1, iv x2, iv x3, iv x4, iv x5, iv (3 : Int32), iv (0 : Int32), rv b288, rv b_295, .unset, .unset] [])) (fun t k => XS.ifNo X299.here hx rfl (hb hby at_104) rfl ((if0 _ _).trans (feq (by decide : ¬ ((1 : Int32) = (0 : Int32)))).1) k) ?_
      refine own_go (T' := T299) (g' := (mkF m 109 #[iv x0, iv x1, iv x2, iv x3, iv x4, iv x5, iv (3 : Int32), iv (0 : Int32), rv b288, rv b_295, .unset, .unset] [(.ref b_295)])) (fun t k => XS.aload X299.here hx rfl (hb hby at_107) rfl rfl k) ?_
      refine own_go (T' := T299) (g' := (mkF m 111 #[iv x0, iv x1, iv x2, iv x3, iv x4, iv x5, iv (3 : Int32), iv (0 : Int32), rv b288, rv b_295, .unset, .unset] [(.ref b288), (.ref b_295)])) (fun t k => XS.aload X299.here hx rfl (hb hby at_109) rfl rfl k) ?_
      refine own_go (T' := T299) (g' := (mkF m 113 #[iv x0, iv x1, iv x2, iv x3, iv x4, iv x5, iv (3 : Int32), iv (0 : Int32), rv b288, rv b_295, .unset, .unset] [(.int (0 : Int32)), (.ref b288), (.ref b_295)])) (fun t k => XS.iload X299.here hx rfl (hb hby at_111) rfl k) ?_
      refine own_go (T' := T299) (g' := (mkF m 114 #[iv x0, iv x1, iv x2, iv x3, iv x4, iv x5, iv (3 : Int32), iv (0 : Int32), rv b288, rv b_295, .unset, .unset] [(.int x3), (.int (0 : Int32)), (.ref b288), (.ref b_295)])) (fun t k => XS.iloadN X299.here hx rfl (hb hby at_113) rfl k) ?_
      refine own_go (T' := T299) (g' := (mkF m 115 #[iv x0, iv x1, iv x2, iv x3, iv x4, iv x5, iv (3 : Int32), iv (0 : Int32), rv b288, rv b_295, .unset, .unset] [(.int (1 : Int32)), (.int x3), (.int (0 : Int32)), (.ref b288), (.ref b_295)])) (fun t k => XS.iconst X299.here hx rfl (hb hby at_114) k) ?_
      obtain ⟨_, _, ⟨T300, L300, k300, n300⟩, -, X300, ⟨Lc300, hQ300, l300, y300, z300⟩, st300⟩ := Jvm.LawKit.callS X299 hx (y := (⟨"com/example/tankroute/tankroute/solve/TourWithStopPinLaw", "slot", "([I[IIII)Z"⟩ : MethodName)) hown (mvT hZ (hw _ (List.mem_of_getElem? (i := 10) rfl))) (mvT hZ (hw _ (List.mem_of_getElem? (i := 11) rfl))) (mvT hZ (hw _ (List.mem_of_getElem? (i := 12) rfl))) (mvT hZ (hw _ (List.mem_of_getElem? (i := 13) rfl))) (by decide) (backOf (W := 0) (own_slotD l Z a0 hw [] b_295 b288 k_295 k288 (4 : Int32) (3 : Int32) (0 : Int32) x3 (1 : Int32) x0 [(.int x3), (.int x0), (.int x1), (.int x2)] [(.int x0), (.int x1), (.int x2)] T295.heap n0 hz295 V_295 c297 (by decide) (by decide) (by decide) (by decide) (by decide) (by decide) rfl rfl) hZ (hw _ (List.mem_of_getElem? (i := 13) rfl)) (hw _ (List.mem_of_getElem? (i := 12) rfl)) (by decide) (by decide)) (g := (mkF m 115 #[iv x0, iv x1, iv x2, iv x3, iv x4, iv x5, iv (3 : Int32), iv (0 : Int32), rv b288, rv b_295, .unset, .unset] [(.int (1 : Int32)), (.int x3), (.int (0 : Int32)), (.ref b288), (.ref b_295)])) rfl (by rw [hml]; rfl) (argsL := [(.ref b_295), (.ref b288), (.int (0 : Int32)), (.int x3), (.int (1 : Int32))]) (rest := []) (lenOf own_pd1 rfl) rfl (by show 2 * 0 + _ ≤ _; exact Nat.le_of_eq rfl) (hb hby at_115) (fun _ _ => ⟨rfl, E299q, (by decide : 2 + 0 ≤ _), (by decide : 7 + 0 ≤ _)⟩)
      dsimp only [Pt.U, Pt.locs, Pt.cells, Pt.slots] at X300 l300 y300 z300 st300 hQ300
      subst l300 y300 z300
      obtain ⟨rfl, rfl, e300⟩ := hQ300
      have E300q : T300.heap = T295.heap := e300
      have N300 := Fr.app N299 (Fr.nil n0)
      refine own_go (T' := T300) (g' := (mkF m 118 #[iv x0, iv x1, iv x2, iv x3, iv x4, iv x5, iv (3 : Int32), iv (0 : Int32), rv b288, rv b_295, .unset, .unset] [(.int (1 : Int32))])) (st300) ?_
      refine own_go (T' := T300) (g' := (mkF m 121 #[iv x0, iv x1, iv x2, iv x3, iv x4, iv x5, iv (3 : Int32), iv (0 : Int32), rv b288, rv b_295, .unset, .unset] [])) (fun t k => XS.ifNo X300.here hx rfl (hb hby at_118) rfl ((if0 _ _).trans (feq (by decide : ¬ ((1 : Int32) = (0 : Int32)))).1) k) ?_
      refine own_go (T' := T300) (g' := (mkF m 123 #[iv x0, iv x1, iv x2, iv x3, iv x4, iv x5, iv (3 : Int32), iv (0 : Int32), rv b288, rv b_295, .unset, .unset] [(.ref b_295)])) (fun t k => XS.aload X300.here hx rfl (hb hby at_121) rfl rfl k) ?_
      refine own_go (T' := T300) (g' := (mkF m 125 #[iv x0, iv x1, iv x2, iv x3, iv x4, iv x5, iv (3 : Int32), iv (0 : Int32), rv b288, rv b_295, .unset, .unset] [(.ref b288), (.ref b_295)])) (fun t k => XS.aload X300.here hx rfl (hb hby at_123) rfl rfl k) ?_
      refine own_go (T' := T300) (g' := (mkF m 127 #[iv x0, iv x1, iv x2, iv x3, iv x4, iv x5, iv (3 : Int32), iv (0 : Int32), rv b288, rv b_295, .unset, .unset] [(.int (0 : Int32)), (.ref b288), (.ref b_295)])) (fun t k => XS.iload X300.here hx rfl (hb hby at_125) rfl k) ?_
      refine own_go (T' := T300) (g' := (mkF m 128 #[iv x0, iv x1, iv x2, iv x3, iv x4, iv x5, iv (3 : Int32), iv (0 : Int32), rv b288, rv b_295, .unset, .unset] [(.int x3), (.int (0 : Int32)), (.ref b288), (.ref b_295)])) (fun t k => XS.iloadN X300.here hx rfl (hb hby at_127) rfl k) ?_
      refine own_go (T' := T300) (g' := (mkF m 129 #[iv x0, iv x1, iv x2, iv x3, iv x4, iv x5, iv (3 : Int32), iv (0 : Int32), rv b288, rv b_295, .unset, .unset] [(.int (2 : Int32)), (.int x3), (.int (0 : Int32)), (.ref b288), (.ref b_295)])) (fun t k => XS.iconst X300.here hx rfl (hb hby at_128) k) ?_
      obtain ⟨_, _, ⟨T301, L301, k301, n301⟩, -, X301, ⟨Lc301, hQ301, l301, y301, z301⟩, st301⟩ := Jvm.LawKit.callS X300 hx (y := (⟨"com/example/tankroute/tankroute/solve/TourWithStopPinLaw", "slot", "([I[IIII)Z"⟩ : MethodName)) hown (mvT hZ (hw _ (List.mem_of_getElem? (i := 10) rfl))) (mvT hZ (hw _ (List.mem_of_getElem? (i := 11) rfl))) (mvT hZ (hw _ (List.mem_of_getElem? (i := 12) rfl))) (mvT hZ (hw _ (List.mem_of_getElem? (i := 13) rfl))) (by decide) (backOf (W := 0) (own_slotD l Z a0 hw [] b_295 b288 k_295 k288 (4 : Int32) (3 : Int32) (0 : Int32) x3 (2 : Int32) x1 [(.int x3), (.int x0), (.int x1), (.int x2)] [(.int x0), (.int x1), (.int x2)] T295.heap n0 hz295 V_295 c297 (by decide) (by decide) (by decide) (by decide) (by decide) (by decide) rfl rfl) hZ (hw _ (List.mem_of_getElem? (i := 13) rfl)) (hw _ (List.mem_of_getElem? (i := 12) rfl)) (by decide) (by decide)) (g := (mkF m 129 #[iv x0, iv x1, iv x2, iv x3, iv x4, iv x5, iv (3 : Int32), iv (0 : Int32), rv b288, rv b_295, .unset, .unset] [(.int (2 : Int32)), (.int x3), (.int (0 : Int32)), (.ref b288), (.ref b_295)])) rfl (by rw [hml]; rfl) (argsL := [(.ref b_295), (.ref b288), (.int (0 : Int32)), (.int x3), (.int (2 : Int32))]) (rest := []) (lenOf own_pd1 rfl) rfl (by show 2 * 0 + _ ≤ _; exact Nat.le_of_eq rfl) (hb hby at_129) (fun _ _ => ⟨rfl, E300q, (by decide : 2 + 0 ≤ _), (by decide : 7 + 0 ≤ _)⟩)
      dsimp only [Pt.U, Pt.locs, Pt.cells, Pt.slots] at X301 l301 y301 z301 st301 hQ301
      subst l301 y301 z301
      obtain ⟨rfl, rfl, e301⟩ := hQ301
      have E301q : T301.heap = T295.heap := e301
      have N301 := Fr.app N300 (Fr.nil n0)
      refine own_go (T' := T301) (g' := (mkF m 132 #[iv x0, iv x1, iv x2, iv x3, iv x4, iv x5, iv (3 : Int32), iv (0 : Int32), rv b288, rv b_295, .unset, .unset] [(.int (1 : Int32))])) (st301) ?_
      refine own_go (T' := T301) (g' := (mkF m 135 #[iv x0, iv x1, iv x2, iv x3, iv x4, iv x5, iv (3 : Int32), iv (0 : Int32), rv b288, rv b_295, .unset, .unset] [])) (fun t k => XS.ifNo X301.here hx rfl (hb hby at_132) rfl ((if0 _ _).trans (feq (by decide : ¬ ((1 : Int32) = (0 : Int32)))).1) k) ?_
      refine own_go (T' := T301) (g' := (mkF m 137 #[iv x0, iv x1, iv x2, iv x3, iv x4, iv x5, iv (3 : Int32), iv (0 : Int32), rv b288, rv b_295, .unset, .unset] [(.ref b_295)])) (fun t k => XS.aload X301.here hx rfl (hb hby at_135) rfl rfl k) ?_
      refine own_go (T' := T301) (g' := (mkF m 139 #[iv x0, iv x1, iv x2, iv x3, iv x4, iv x5, iv (3 : Int32), iv (0 : Int32), rv b288, rv b_295, .unset, .unset] [(.ref b288), (.ref b_295)])) (fun t k => XS.aload X301.here hx rfl (hb hby at_137) rfl rfl k) ?_
      refine own_go (T' := T301) (g' := (mkF m 141 #[iv x0, iv x1, iv x2, iv x3, iv x4, iv x5, iv (3 : Int32), iv (0 : Int32), rv b288, rv b_295, .unset, .unset] [(.int (0 : Int32)), (.ref b288), (.ref b_295)])) (fun t k => XS.iload X301.here hx rfl (hb hby at_139) rfl k) ?_
      refine own_go (T' := T301) (g' := (mkF m 142 #[iv x0, iv x1, iv x2, iv x3, iv x4, iv x5, iv (3 : Int32), iv (0 : Int32), rv b288, rv b_295, .unset, .unset] [(.int x3), (.int (0 : Int32)), (.ref b288), (.ref b_295)])) (fun t k => XS.iloadN X301.here hx rfl (hb hby at_141) rfl k) ?_
      refine own_go (T' := T301) (g' := (mkF m 143 #[iv x0, iv x1, iv x2, iv x3, iv x4, iv x5, iv (3 : Int32), iv (0 : Int32), rv b288, rv b_295, .unset, .unset] [(.int (3 : Int32)), (.int x3), (.int (0 : Int32)), (.ref b288), (.ref b_295)])) (fun t k => XS.iconst X301.here hx rfl (hb hby at_142) k) ?_
      obtain ⟨_, _, ⟨T302, L302, k302, n302⟩, -, X302, ⟨Lc302, hQ302, l302, y302, z302⟩, st302⟩ := Jvm.LawKit.callS X301 hx (y := (⟨"com/example/tankroute/tankroute/solve/TourWithStopPinLaw", "slot", "([I[IIII)Z"⟩ : MethodName)) hown (mvT hZ (hw _ (List.mem_of_getElem? (i := 10) rfl))) (mvT hZ (hw _ (List.mem_of_getElem? (i := 11) rfl))) (mvT hZ (hw _ (List.mem_of_getElem? (i := 12) rfl))) (mvT hZ (hw _ (List.mem_of_getElem? (i := 13) rfl))) (by decide) (backOf (W := 0) (own_slotD l Z a0 hw [] b_295 b288 k_295 k288 (4 : Int32) (3 : Int32) (0 : Int32) x3 (3 : Int32) x2 [(.int x3), (.int x0), (.int x1), (.int x2)] [(.int x0), (.int x1), (.int x2)] T295.heap n0 hz295 V_295 c297 (by decide) (by decide) (by decide) (by decide) (by decide) (by decide) rfl rfl) hZ (hw _ (List.mem_of_getElem? (i := 13) rfl)) (hw _ (List.mem_of_getElem? (i := 12) rfl)) (by decide) (by decide)) (g := (mkF m 143 #[iv x0, iv x1, iv x2, iv x3, iv x4, iv x5, iv (3 : Int32), iv (0 : Int32), rv b288, rv b_295, .unset, .unset] [(.int (3 : Int32)), (.int x3), (.int (0 : Int32)), (.ref b288), (.ref b_295)])) rfl (by rw [hml]; rfl) (argsL := [(.ref b_295), (.ref b288), (.int (0 : Int32)), (.int x3), (.int (3 : Int32))]) (rest := []) (lenOf own_pd1 rfl) rfl (by show 2 * 0 + _ ≤ _; exact Nat.le_of_eq rfl) (hb hby at_143) (fun _ _ => ⟨rfl, E301q, (by decide : 2 + 0 ≤ _), (by decide : 7 + 0 ≤ _)⟩)
      dsimp only [Pt.U, Pt.locs, Pt.cells, Pt.slots] at X302 l302 y302 z302 st302 hQ302
      subst l302 y302 z302
      obtain ⟨rfl, rfl, e302⟩ := hQ302
      have E302q : T302.heap = T295.heap := e302
      have N302 := Fr.app N301 (Fr.nil n0)
      refine own_go (T' := T302) (g' := (mkF m 146 #[iv x0, iv x1, iv x2, iv x3, iv x4, iv x5, iv (3 : Int32), iv (0 : Int32), rv b288, rv b_295, .unset, .unset] [(.int (1 : Int32))])) (st302) ?_
      refine own_go (T' := T302) (g' := (mkF m 149 #[iv x0, iv x1, iv x2, iv x3, iv x4, iv x5, iv (3 : Int32), iv (0 : Int32), rv b288, rv b_295, .unset, .unset] [])) (fun t k => XS.ifNo X302.here hx rfl (hb hby at_146) rfl ((if0 _ _).trans (feq (by decide : ¬ ((1 : Int32) = (0 : Int32)))).1) k) ?_
      refine own_go (T' := T302) (g' := (mkF m 150 #[iv x0, iv x1, iv x2, iv x3, iv x4, iv x5, iv (3 : Int32), iv (0 : Int32), rv b288, rv b_295, .unset, .unset] [(.int (1 : Int32))])) (fun t k => XS.iconst X302.here hx rfl (hb hby at_149) k) ?_
      refine own_go (T' := T302) (g' := (mkF m 154 #[iv x0, iv x1, iv x2, iv x3, iv x4, iv x5, iv (3 : Int32), iv (0 : Int32), rv b288, rv b_295, .unset, .unset] [(.int (1 : Int32))])) (fun t k => XS.goto X302.here hx rfl (pc0 := 150) (pc' := 154) rfl (hb hby at_150) (by decide) (by decide) k) ?_
      refine own_go (T' := T302) (g' := (mkF m 156 #[iv x0, iv x1, iv x2, iv x3, iv x4, iv x5, iv (3 : Int32), iv (0 : Int32), rv b288, rv b_295, iv (1 : Int32), .unset] [])) (fun t k => XS.istore X302.here hx rfl (hb hby at_154) rfl (l' := #[iv x0, iv x1, iv x2, iv x3, iv x4, iv x5, iv (3 : Int32), iv (0 : Int32), rv b288, rv b_295, iv (1 : Int32), .unset]) rfl k) ?_
      refine own_go (T' := T302) (g' := (mkF m 158 #[iv x0, iv x1, iv x2, iv x3, iv x4, iv x5, iv (3 : Int32), iv (0 : Int32), rv b288, rv b_295, iv (1 : Int32), .unset] [(.int (3 : Int32))])) (fun t k => XS.iload X302.here hx rfl (hb hby at_156) rfl k) ?_
      refine own_go (T' := T302) (g' := (mkF m 159 #[iv x0, iv x1, iv x2, iv x3, iv x4, iv x5, iv (3 : Int32), iv (0 : Int32), rv b288, rv b_295, iv (1 : Int32), .unset] [(.int (1 : Int32)), (.int (3 : Int32))])) (fun t k => XS.iconst X302.here hx rfl (hb hby at_158) k) ?_
      refine own_go (T' := T302) (g' := (mkF m 162 #[iv x0, iv x1, iv x2, iv x3, iv x4, iv x5, iv (3 : Int32), iv (0 : Int32), rv b288, rv b_295, iv (1 : Int32), .unset] [])) (fun t k => XS.icmpNo X302.here hx rfl (hb hby at_159) rfl (flt (by decide : ¬ ((3 : Int32) < (1 : Int32)))).1 k) ?_
      refine own_go (T' := T302) (g' := (mkF m 164 #[iv x0, iv x1, iv x2, iv x3, iv x4, iv x5, iv (3 : Int32), iv (0 : Int32), rv b288, rv b_295, iv (1 : Int32), .unset] [(.ref b288)])) (fun t k => XS.aload X302.here hx rfl (hb hby at_162) rfl rfl k) ?_
      refine own_go (T' := T302) (g' := (mkF m 165 #[iv x0, iv x1, iv x2, iv x3, iv x4, iv x5, iv (3 : Int32), iv (0 : Int32), rv b288, rv b_295, iv (1 : Int32), .unset] [(.int (0 : Int32)), (.ref b288)])) (fun t k => XS.iconst X302.here hx rfl (hb hby at_164) k) ?_
      obtain ⟨cl303, Ar303, -, Sz303, Nn303, Ha303, -⟩ := id c297
      have hin303 : ¬ ((0 : Int32) < 0 ∨ cl303.slots.size ≤ ((0 : Int32)).toNatClampNeg) := inb_of Sz303 ⟨by decide, by decide⟩
      have hat303 : cl303.slots[((0 : Int32)).toNatClampNeg]? = some (.int x0) := Ha303.at hin303 rfl
      refine own_go (T' := T302) (g' := (mkF m 166 #[iv x0, iv x1, iv x2, iv x3, iv x4, iv x5, iv (3 : Int32), iv (0 : Int32), rv b288, rv b_295, iv (1 : Int32), .unset] [(.int x0)])) (fun t k => X302.iaload hx (j := (0 : Int32)) (v := (.int x0)) (by rw [E302q]; exact Ar303.1) (State.isArrayOf_alike hZ.alike Ar303.2.1) Ar303.2.2 hin303 hat303 (g := (mkF m 165 #[iv x0, iv x1, iv x2, iv x3, iv x4, iv x5, iv (3 : Int32), iv (0 : Int32), rv b288, rv b_295, iv (1 : Int32), .unset] [(.int (0 : Int32)), (.ref b288)])) rfl rfl (hb hby at_165) _ k) ?_
      refine own_go (T' := T302) (g' := (mkF m 167 #[iv x0, iv x1, iv x2, iv x3, iv x4, iv x5, iv (3 : Int32), iv (0 : Int32), rv b288, rv b_295, iv (1 : Int32), .unset] [(.int x0), (.int x0)])) (fun t k => XS.iloadN X302.here hx rfl (hb hby at_166) rfl k) ?_
      refine own_go (T' := T302) (g' := (mkF m 170 #[iv x0, iv x1, iv x2, iv x3, iv x4, iv x5, iv (3 : Int32), iv (0 : Int32), rv b288, rv b_295, iv (1 : Int32), .unset] [])) (fun t k => XS.icmpNo X302.here hx rfl (hb hby at_167) rfl (teq (rfl : x0 = x0)).2 k) ?_
      refine own_go (T' := T302) (g' := (mkF m 172 #[iv x0, iv x1, iv x2, iv x3, iv x4, iv x5, iv (3 : Int32), iv (0 : Int32), rv b288, rv b_295, iv (1 : Int32), .unset] [(.int (3 : Int32))])) (fun t k => XS.iload X302.here hx rfl (hb hby at_170) rfl k) ?_
      refine own_go (T' := T302) (g' := (mkF m 173 #[iv x0, iv x1, iv x2, iv x3, iv x4, iv x5, iv (3 : Int32), iv (0 : Int32), rv b288, rv b_295, iv (1 : Int32), .unset] [(.int (2 : Int32)), (.int (3 : Int32))])) (fun t k => XS.iconst X302.here hx rfl (hb hby at_172) k) ?_
      refine own_go (T' := T302) (g' := (mkF m 176 #[iv x0, iv x1, iv x2, iv x3, iv x4, iv x5, iv (3 : Int32), iv (0 : Int32), rv b288, rv b_295, iv (1 : Int32), .unset] [])) (fun t k => XS.icmpNo X302.here hx rfl (hb hby at_173) rfl (flt (by decide : ¬ ((3 : Int32) < (2 : Int32)))).1 k) ?_
      refine own_go (T' := T302) (g' := (mkF m 178 #[iv x0, iv x1, iv x2, iv x3, iv x4, iv x5, iv (3 : Int32), iv (0 : Int32), rv b288, rv b_295, iv (1 : Int32), .unset] [(.ref b288)])) (fun t k => XS.aload X302.here hx rfl (hb hby at_176) rfl rfl k) ?_
      refine own_go (T' := T302) (g' := (mkF m 179 #[iv x0, iv x1, iv x2, iv x3, iv x4, iv x5, iv (3 : Int32), iv (0 : Int32), rv b288, rv b_295, iv (1 : Int32), .unset] [(.int (1 : Int32)), (.ref b288)])) (fun t k => XS.iconst X302.here hx rfl (hb hby at_178) k) ?_
      obtain ⟨cl304, Ar304, -, Sz304, Nn304, Ha304, -⟩ := id c297
      have hin304 : ¬ ((1 : Int32) < 0 ∨ cl304.slots.size ≤ ((1 : Int32)).toNatClampNeg) := inb_of Sz304 ⟨by decide, by decide⟩
      have hat304 : cl304.slots[((1 : Int32)).toNatClampNeg]? = some (.int x1) := Ha304.at hin304 rfl
      refine own_go (T' := T302) (g' := (mkF m 180 #[iv x0, iv x1, iv x2, iv x3, iv x4, iv x5, iv (3 : Int32), iv (0 : Int32), rv b288, rv b_295, iv (1 : Int32), .unset] [(.int x1)])) (fun t k => X302.iaload hx (j := (1 : Int32)) (v := (.int x1)) (by rw [E302q]; exact Ar304.1) (State.isArrayOf_alike hZ.alike Ar304.2.1) Ar304.2.2 hin304 hat304 (g := (mkF m 179 #[iv x0, iv x1, iv x2, iv x3, iv x4, iv x5, iv (3 : Int32), iv (0 : Int32), rv b288, rv b_295, iv (1 : Int32), .unset] [(.int (1 : Int32)), (.ref b288)])) rfl rfl (hb hby at_179) _ k) ?_
      refine own_go (T' := T302) (g' := (mkF m 181 #[iv x0, iv x1, iv x2, iv x3, iv x4, iv x5, iv (3 : Int32), iv (0 : Int32), rv b288, rv b_295, iv (1 : Int32), .unset] [(.int x1), (.int x1)])) (fun t k => XS.iloadN X302.here hx rfl (hb hby at_180) rfl k) ?_
      refine own_go (T' := T302) (g' := (mkF m 184 #[iv x0, iv x1, iv x2, iv x3, iv x4, iv x5, iv (3 : Int32), iv (0 : Int32), rv b288, rv b_295, iv (1 : Int32), .unset] [])) (fun t k => XS.icmpNo X302.here hx rfl (hb hby at_181) rfl (teq (rfl : x1 = x1)).2 k) ?_
      refine own_go (T' := T302) (g' := (mkF m 186 #[iv x0, iv x1, iv x2, iv x3, iv x4, iv x5, iv (3 : Int32), iv (0 : Int32), rv b288, rv b_295, iv (1 : Int32), .unset] [(.int (3 : Int32))])) (fun t k => XS.iload X302.here hx rfl (hb hby at_184) rfl k) ?_
      refine own_go (T' := T302) (g' := (mkF m 187 #[iv x0, iv x1, iv x2, iv x3, iv x4, iv x5, iv (3 : Int32), iv (0 : Int32), rv b288, rv b_295, iv (1 : Int32), .unset] [(.int (3 : Int32)), (.int (3 : Int32))])) (fun t k => XS.iconst X302.here hx rfl (hb hby at_186) k) ?_
      refine own_go (T' := T302) (g' := (mkF m 190 #[iv x0, iv x1, iv x2, iv x3, iv x4, iv x5, iv (3 : Int32), iv (0 : Int32), rv b288, rv b_295, iv (1 : Int32), .unset] [])) (fun t k => XS.icmpNo X302.here hx rfl (hb hby at_187) rfl (flt (by decide : ¬ ((3 : Int32) < (3 : Int32)))).1 k) ?_
      refine own_go (T' := T302) (g' := (mkF m 192 #[iv x0, iv x1, iv x2, iv x3, iv x4, iv x5, iv (3 : Int32), iv (0 : Int32), rv b288, rv b_295, iv (1 : Int32), .unset] [(.ref b288)])) (fun t k => XS.aload X302.here hx rfl (hb hby at_190) rfl rfl k) ?_
      refine own_go (T' := T302) (g' := (mkF m 193 #[iv x0, iv x1, iv x2, iv x3, iv x4, iv x5, iv (3 : Int32), iv (0 : Int32), rv b288, rv b_295, iv (1 : Int32), .unset] [(.int (2 : Int32)), (.ref b288)])) (fun t k => XS.iconst X302.here hx rfl (hb hby at_192) k) ?_
      obtain ⟨cl305, Ar305, -, Sz305, Nn305, Ha305, -⟩ := id c297
      have hin305 : ¬ ((2 : Int32) < 0 ∨ cl305.slots.size ≤ ((2 : Int32)).toNatClampNeg) := inb_of Sz305 ⟨by decide, by decide⟩
      have hat305 : cl305.slots[((2 : Int32)).toNatClampNeg]? = some (.int x2) := Ha305.at hin305 rfl
      refine own_go (T' := T302) (g' := (mkF m 194 #[iv x0, iv x1, iv x2, iv x3, iv x4, iv x5, iv (3 : Int32), iv (0 : Int32), rv b288, rv b_295, iv (1 : Int32), .unset] [(.int x2)])) (fun t k => X302.iaload hx (j := (2 : Int32)) (v := (.int x2)) (by rw [E302q]; exact Ar305.1) (State.isArrayOf_alike hZ.alike Ar305.2.1) Ar305.2.2 hin305 hat305 (g := (mkF m 193 #[iv x0, iv x1, iv x2, iv x3, iv x4, iv x5, iv (3 : Int32), iv (0 : Int32), rv b288, rv b_295, iv (1 : Int32), .unset] [(.int (2 : Int32)), (.ref b288)])) rfl rfl (hb hby at_193) _ k) ?_
      refine own_go (T' := T302) (g' := (mkF m 195 #[iv x0, iv x1, iv x2, iv x3, iv x4, iv x5, iv (3 : Int32), iv (0 : Int32), rv b288, rv b_295, iv (1 : Int32), .unset] [(.int x2), (.int x2)])) (fun t k => XS.iloadN X302.here hx rfl (hb hby at_194) rfl k) ?_
      refine own_go (T' := T302) (g' := (mkF m 198 #[iv x0, iv x1, iv x2, iv x3, iv x4, iv x5, iv (3 : Int32), iv (0 : Int32), rv b288, rv b_295, iv (1 : Int32), .unset] [])) (fun t k => XS.icmpNo X302.here hx rfl (hb hby at_195) rfl (teq (rfl : x2 = x2)).2 k) ?_
      refine own_go (T' := T302) (g' := (mkF m 199 #[iv x0, iv x1, iv x2, iv x3, iv x4, iv x5, iv (3 : Int32), iv (0 : Int32), rv b288, rv b_295, iv (1 : Int32), .unset] [(.int (1 : Int32))])) (fun t k => XS.iconst X302.here hx rfl (hb hby at_198) k) ?_
      refine own_go (T' := T302) (g' := (mkF m 203 #[iv x0, iv x1, iv x2, iv x3, iv x4, iv x5, iv (3 : Int32), iv (0 : Int32), rv b288, rv b_295, iv (1 : Int32), .unset] [(.int (1 : Int32))])) (fun t k => XS.goto X302.here hx rfl (pc0 := 199) (pc' := 203) rfl (hb hby at_199) (by decide) (by decide) k) ?_
      refine own_go (T' := T302) (g' := (mkF m 205 #[iv x0, iv x1, iv x2, iv x3, iv x4, iv x5, iv (3 : Int32), iv (0 : Int32), rv b288, rv b_295, iv (1 : Int32), iv (1 : Int32)] [])) (fun t k => XS.istore X302.here hx rfl (hb hby at_203) rfl (l' := #[iv x0, iv x1, iv x2, iv x3, iv x4, iv x5, iv (3 : Int32), iv (0 : Int32), rv b288, rv b_295, iv (1 : Int32), iv (1 : Int32)]) rfl k) ?_
      refine own_go (T' := T302) (g' := (mkF m 207 #[iv x0, iv x1, iv x2, iv x3, iv x4, iv x5, iv (3 : Int32), iv (0 : Int32), rv b288, rv b_295, iv (1 : Int32), iv (1 : Int32)] [(.int (1 : Int32))])) (fun t k => XS.iload X302.here hx rfl (hb hby at_205) rfl k) ?_
      refine own_go (T' := T302) (g' := (mkF m 210 #[iv x0, iv x1, iv x2, iv x3, iv x4, iv x5, iv (3 : Int32), iv (0 : Int32), rv b288, rv b_295, iv (1 : Int32), iv (1 : Int32)] [])) (fun t k => XS.ifNo X302.here hx rfl (hb hby at_207) rfl ((if0 _ _).trans (feq (by decide : ¬ ((1 : Int32) = (0 : Int32)))).1) k) ?_
      refine own_go (T' := T302) (g' := (mkF m 212 #[iv x0, iv x1, iv x2, iv x3, iv x4, iv x5, iv (3 : Int32), iv (0 : Int32), rv b288, rv b_295, iv (1 : Int32), iv (1 : Int32)] [(.int (1 : Int32))])) (fun t k => XS.iload X302.here hx rfl (hb hby at_210) rfl k) ?_
      refine own_go (T' := T302) (g' := (mkF m 215 #[iv x0, iv x1, iv x2, iv x3, iv x4, iv x5, iv (3 : Int32), iv (0 : Int32), rv b288, rv b_295, iv (1 : Int32), iv (1 : Int32)] [])) (fun t k => XS.ifNo X302.here hx rfl (hb hby at_212) rfl ((if0 _ _).trans (feq (by decide : ¬ ((1 : Int32) = (0 : Int32)))).1) k) ?_
      refine own_go (T' := T302) (g' := (mkF m 216 #[iv x0, iv x1, iv x2, iv x3, iv x4, iv x5, iv (3 : Int32), iv (0 : Int32), rv b288, rv b_295, iv (1 : Int32), iv (1 : Int32)] [(.int (1 : Int32))])) (fun t k => XS.iconst X302.here hx rfl (hb hby at_215) k) ?_
      refine own_go (T' := T302) (g' := (mkF m 220 #[iv x0, iv x1, iv x2, iv x3, iv x4, iv x5, iv (3 : Int32), iv (0 : Int32), rv b288, rv b_295, iv (1 : Int32), iv (1 : Int32)] [(.int (1 : Int32))])) (fun t k => XS.goto X302.here hx rfl (pc0 := 216) (pc' := 220) rfl (hb hby at_216) (by decide) (by decide) k) ?_
      exact own_ret X302 hlk hx Bd.returns rfl (Or.inl ⟨rfl, Or.inr (Or.inl rfl), _, rfl⟩) (hb hby at_220) (by first | exact ⟨rfl, N302⟩ | (rw [Fr] at *; exact ⟨rfl, by simpa using N302⟩)) (by decide) (by decide)
    · rw [ha]
      refine own_go (T' := s₁) (g' := (mkF m 21 #[iv x0, iv x1, iv x2, iv x3, iv x4, iv x5, iv (3 : Int32), iv (1 : Int32), .unset, .unset, .unset, .unset] [])) (fun t k => XS.istore X0.here hx rfl (hb hby at_19) rfl (l' := #[iv x0, iv x1, iv x2, iv x3, iv x4, iv x5, iv (3 : Int32), iv (1 : Int32), .unset, .unset, .unset, .unset]) rfl k) ?_
      refine own_go (T' := s₁) (g' := (mkF m 23 #[iv x0, iv x1, iv x2, iv x3, iv x4, iv x5, iv (3 : Int32), iv (1 : Int32), .unset, .unset, .unset, .unset] [(.int (3 : Int32))])) (fun t k => XS.iload X0.here hx rfl (hb hby at_21) rfl k) ?_
      obtain ⟨T306, h306, k306, X306, e306, E306, A306, st306⟩ := newP X0 hx hZ (hw _ (List.mem_of_getElem? (i := 1) rfl)) e0 (g := (mkF m 23 #[iv x0, iv x1, iv x2, iv x3, iv x4, iv x5, iv (3 : Int32), iv (1 : Int32), .unset, .unset, .unset, .unset] [(.int (3 : Int32))])) rfl (hb hby at_23) rfl (by decide) (cap := 3) (by decide) (by decide) (by decide) (by decide)
      obtain ⟨b306, g306⟩ : ∃ z, z = h0.size := ⟨_, rfl⟩
      rw [← g306] at A306 st306
      have gn306 : n0 ≤ b306 := Nat.le_trans Z0 (Nat.le_of_eq g306.symm)
      have hz306 : n0 ≤ h306.size := Nat.le_trans Z0 E306.1
      have V306 : Arv Z h306 b306 k306 .int (3 : Int32) [(.int (0 : Int32)), (.int (0 : Int32)), (.int (0 : Int32))] (.int (0 : Int32)) := (Arv.new A306 (by decide)).pad (pad_rep [] (.int (0 : Int32)) 3)
      refine own_go (T' := T306) (g' := (mkF m 25 #[iv x0, iv x1, iv x2, iv x3, iv x4, iv x5, iv (3 : Int32), iv (1 : Int32), .unset, .unset, .unset, .unset] [(.ref b306)])) (st306) ?_
      refine own_go (T' := T306) (g' := (mkF m 27 #[iv x0, iv x1, iv x2, iv x3, iv x4, iv x5, iv (3 : Int32), iv (1 : Int32), rv b306, .unset, .unset, .unset] [])) (fun t k => XS.astore X306.here hx rfl (hb hby at_25) rfl rfl (l' := #[iv x0, iv x1, iv x2, iv x3, iv x4, iv x5, iv (3 : Int32), iv (1 : Int32), rv b306, .unset, .unset, .unset]) rfl k) ?_
      refine own_go (T' := T306) (g' := (mkF m 29 #[iv x0, iv x1, iv x2, iv x3, iv x4, iv x5, iv (3 : Int32), iv (1 : Int32), rv b306, .unset, .unset, .unset] [(.int (3 : Int32))])) (fun t k => XS.iload X306.here hx rfl (hb hby at_27) rfl k) ?_
      refine own_go (T' := T306) (g' := (mkF m 32 #[iv x0, iv x1, iv x2, iv x3, iv x4, iv x5, iv (3 : Int32), iv (1 : Int32), rv b306, .unset, .unset, .unset] [])) (fun t k => XS.ifNo X306.here hx rfl (hb hby at_29) rfl ((if0 _ _).trans (tlt (by decide : ((0 : Int32) < (3 : Int32)))).2.2.2) k) ?_
      refine own_go (T' := T306) (g' := (mkF m 34 #[iv x0, iv x1, iv x2, iv x3, iv x4, iv x5, iv (3 : Int32), iv (1 : Int32), rv b306, .unset, .unset, .unset] [(.ref b306)])) (fun t k => XS.aload X306.here hx rfl (hb hby at_32) rfl rfl k) ?_
      refine own_go (T' := T306) (g' := (mkF m 35 #[iv x0, iv x1, iv x2, iv x3, iv x4, iv x5, iv (3 : Int32), iv (1 : Int32), rv b306, .unset, .unset, .unset] [(.int (0 : Int32)), (.ref b306)])) (fun t k => XS.iconst X306.here hx rfl (hb hby at_34) k) ?_
      refine own_go (T' := T306) (g' := (mkF m 36 #[iv x0, iv x1, iv x2, iv x3, iv x4, iv x5, iv (3 : Int32), iv (1 : Int32), rv b306, .unset, .unset, .unset] [(.int x0), (.int (0 : Int32)), (.ref b306)])) (fun t k => XS.iloadN X306.here hx rfl (hb hby at_35) rfl k) ?_
      obtain ⟨cl307, Ar307, q307, Sz307, Nn307, Ha307, Ga307⟩ := id V306
      have hin307 : ¬ ((0 : Int32) < 0 ∨ cl307.slots.size ≤ ((0 : Int32)).toNatClampNeg) := inb_of Sz307 ⟨by decide, by decide⟩
      obtain ⟨T307, h307, X307, e307, W307, st307⟩ := stI X306 hx hZ e306 Ar307 (j := (0 : Int32)) hin307 (g := (mkF m 36 #[iv x0, iv x1, iv x2, iv x3, iv x4, iv x5, iv (3 : Int32), iv (1 : Int32), rv b306, .unset, .unset, .unset] [(.int x0), (.int (0 : Int32)), (.ref b306)])) rfl rfl (hb hby at_36)
      have hz307 : n0 ≤ h307.size := Nat.le_trans hz306 (Keep.of_wr W307).1
      have N307 := Fr.snoc X307 N0 gn306
      have V307 : Arv Z h307 b306 k306 .int (3 : Int32) [(.int x0), (.int (0 : Int32)), (.int (0 : Int32))] (.int (0 : Int32)) := Arv.set Ar307 q307 Sz307 Nn307 Ha307 Ga307 rfl W307 0 rfl (Nat.le_of_ble_eq_true rfl)
      refine own_go (T' := T307) (g' := (mkF m 37 #[iv x0, iv x1, iv x2, iv x3, iv x4, iv x5, iv (3 : Int32), iv (1 : Int32), rv b306, .unset, .unset, .unset] [])) (st307) ?_
      refine own_go (T' := T307) (g' := (mkF m 39 #[iv x0, iv x1, iv x2, iv x3, iv x4, iv x5, iv (3 : Int32), iv (1 : Int32), rv b306, .unset, .unset, .unset] [(.int (3 : Int32))])) (fun t k => XS.iload X307.here hx rfl (hb hby at_37) rfl k) ?_
      refine own_go (T' := T307) (g' := (mkF m 40 #[iv x0, iv x1, iv x2, iv x3, iv x4, iv x5, iv (3 : Int32), iv (1 : Int32), rv b306, .unset, .unset, .unset] [(.int (1 : Int32)), (.int (3 : Int32))])) (fun t k => XS.iconst X307.here hx rfl (hb hby at_39) k) ?_
      refine own_go (T' := T307) (g' := (mkF m 43 #[iv x0, iv x1, iv x2, iv x3, iv x4, iv x5, iv (3 : Int32), iv (1 : Int32), rv b306, .unset, .unset, .unset] [])) (fun t k => XS.icmpNo X307.here hx rfl (hb hby at_40) rfl (tlt (by decide : ((1 : Int32) < (3 : Int32)))).2.2.2 k) ?_
      refine own_go (T' := T307) (g' := (mkF m 45 #[iv x0, iv x1, iv x2, iv x3, iv x4, iv x5, iv (3 : Int32), iv (1 : Int32), rv b306, .unset, .unset, .unset] [(.ref b306)])) (fun t k => XS.aload X307.here hx rfl (hb hby at_43) rfl rfl k) ?_
      refine own_go (T' := T307) (g' := (mkF m 46 #[iv x0, iv x1, iv x2, iv x3, iv x4, iv x5, iv (3 : Int32), iv (1 : Int32), rv b306, .unset, .unset, .unset] [(.int (1 : Int32)), (.ref b306)])) (fun t k => XS.iconst X307.here hx rfl (hb hby at_45) k) ?_
      refine own_go (T' := T307) (g' := (mkF m 47 #[iv x0, iv x1, iv x2, iv x3, iv x4, iv x5, iv (3 : Int32), iv (1 : Int32), rv b306, .unset, .unset, .unset] [(.int x1), (.int (1 : Int32)), (.ref b306)])) (fun t k => XS.iloadN X307.here hx rfl (hb hby at_46) rfl k) ?_
      obtain ⟨cl309, Ar309, q309, Sz309, Nn309, Ha309, Ga309⟩ := id V307
      have hin309 : ¬ ((1 : Int32) < 0 ∨ cl309.slots.size ≤ ((1 : Int32)).toNatClampNeg) := inb_of Sz309 ⟨by decide, by decide⟩
      obtain ⟨T309, h309, X309, e309, W309, st309⟩ := stI X307 hx hZ e307 Ar309 (j := (1 : Int32)) hin309 (g := (mkF m 47 #[iv x0, iv x1, iv x2, iv x3, iv x4, iv x5, iv (3 : Int32), iv (1 : Int32), rv b306, .unset, .unset, .unset] [(.int x1), (.int (1 : Int32)), (.ref b306)])) rfl rfl (hb hby at_47)
      have hz309 : n0 ≤ h309.size := Nat.le_trans hz307 (Keep.of_wr W309).1
      have N309 := Fr.snoc X309 N307 gn306
      have V309 : Arv Z h309 b306 k306 .int (3 : Int32) [(.int x0), (.int x1), (.int (0 : Int32))] (.int (0 : Int32)) := Arv.set Ar309 q309 Sz309 Nn309 Ha309 Ga309 rfl W309 1 rfl (Nat.le_of_ble_eq_true rfl)
      refine own_go (T' := T309) (g' := (mkF m 48 #[iv x0, iv x1, iv x2, iv x3, iv x4, iv x5, iv (3 : Int32), iv (1 : Int32), rv b306, .unset, .unset, .unset] [])) (st309) ?_
      refine own_go (T' := T309) (g' := (mkF m 50 #[iv x0, iv x1, iv x2, iv x3, iv x4, iv x5, iv (3 : Int32), iv (1 : Int32), rv b306, .unset, .unset, .unset] [(.int (3 : Int32))])) (fun t k => XS.iload X309.here hx rfl (hb hby at_48) rfl k) ?_
      refine own_go (T' := T309) (g' := (mkF m 51 #[iv x0, iv x1, iv x2, iv x3, iv x4, iv x5, iv (3 : Int32), iv (1 : Int32), rv b306, .unset, .unset, .unset] [(.int (2 : Int32)), (.int (3 : Int32))])) (fun t k => XS.iconst X309.here hx rfl (hb hby at_50) k) ?_
      refine own_go (T' := T309) (g' := (mkF m 54 #[iv x0, iv x1, iv x2, iv x3, iv x4, iv x5, iv (3 : Int32), iv (1 : Int32), rv b306, .unset, .unset, .unset] [])) (fun t k => XS.icmpNo X309.here hx rfl (hb hby at_51) rfl (tlt (by decide : ((2 : Int32) < (3 : Int32)))).2.2.2 k) ?_
      refine own_go (T' := T309) (g' := (mkF m 56 #[iv x0, iv x1, iv x2, iv x3, iv x4, iv x5, iv (3 : Int32), iv (1 : Int32), rv b306, .unset, .unset, .unset] [(.ref b306)])) (fun t k => XS.aload X309.here hx rfl (hb hby at_54) rfl rfl k) ?_
      refine own_go (T' := T309) (g' := (mkF m 57 #[iv x0, iv x1, iv x2, iv x3, iv x4, iv x5, iv (3 : Int32), iv (1 : Int32), rv b306, .unset, .unset, .unset] [(.int (2 : Int32)), (.ref b306)])) (fun t k => XS.iconst X309.here hx rfl (hb hby at_56) k) ?_
      refine own_go (T' := T309) (g' := (mkF m 58 #[iv x0, iv x1, iv x2, iv x3, iv x4, iv x5, iv (3 : Int32), iv (1 : Int32), rv b306, .unset, .unset, .unset] [(.int x2), (.int (2 : Int32)), (.ref b306)])) (fun t k => XS.iloadN X309.here hx rfl (hb hby at_57) rfl k) ?_
      obtain ⟨cl311, Ar311, q311, Sz311, Nn311, Ha311, Ga311⟩ := id V309
      have hin311 : ¬ ((2 : Int32) < 0 ∨ cl311.slots.size ≤ ((2 : Int32)).toNatClampNeg) := inb_of Sz311 ⟨by decide, by decide⟩
      obtain ⟨T311, h311, X311, e311, W311, st311⟩ := stI X309 hx hZ e309 Ar311 (j := (2 : Int32)) hin311 (g := (mkF m 58 #[iv x0, iv x1, iv x2, iv x3, iv x4, iv x5, iv (3 : Int32), iv (1 : Int32), rv b306, .unset, .unset, .unset] [(.int x2), (.int (2 : Int32)), (.ref b306)])) rfl rfl (hb hby at_58)
      have hz311 : n0 ≤ h311.size := Nat.le_trans hz309 (Keep.of_wr W311).1
      have N311 := Fr.snoc X311 N309 gn306
      have V311 : Arv Z h311 b306 k306 .int (3 : Int32) [(.int x0), (.int x1), (.int x2)] (.int (0 : Int32)) := Arv.set Ar311 q311 Sz311 Nn311 Ha311 Ga311 rfl W311 2 rfl (Nat.le_of_ble_eq_true rfl)
      refine own_go (T' := T311) (g' := (mkF m 59 #[iv x0, iv x1, iv x2, iv x3, iv x4, iv x5, iv (3 : Int32), iv (1 : Int32), rv b306, .unset, .unset, .unset] [])) (st311) ?_
      refine own_go (T' := T311) (g' := (mkF m 61 #[iv x0, iv x1, iv x2, iv x3, iv x4, iv x5, iv (3 : Int32), iv (1 : Int32), rv b306, .unset, .unset, .unset] [(.ref b306)])) (fun t k => XS.aload X311.here hx rfl (hb hby at_59) rfl rfl k) ?_
      refine own_go (T' := T311) (g' := (mkF m 63 #[iv x0, iv x1, iv x2, iv x3, iv x4, iv x5, iv (3 : Int32), iv (1 : Int32), rv b306, .unset, .unset, .unset] [(.int (1 : Int32)), (.ref b306)])) (fun t k => XS.iload X311.here hx rfl (hb hby at_61) rfl k) ?_
      refine own_go (T' := T311) (g' := (mkF m 64 #[iv x0, iv x1, iv x2, iv x3, iv x4, iv x5, iv (3 : Int32), iv (1 : Int32), rv b306, .unset, .unset, .unset] [(.int x3), (.int (1 : Int32)), (.ref b306)])) (fun t k => XS.iloadN X311.here hx rfl (hb hby at_63) rfl k) ?_
      obtain ⟨_, _, ⟨T313, L313, k313, n313⟩, -, X313, ⟨Lc313, hQ313, l313, y313, z313⟩, st313⟩ := Jvm.LawKit.callS X311 hx (y := (⟨"com/example/tankroute/tankroute/solve/Solution$Tour", "withStop", "([III)[I"⟩ : MethodName)) hown (mvT hZ (hw _ (List.mem_of_getElem? (i := 2) rfl))) (mvT hZ (hw _ (List.mem_of_getElem? (i := 3) rfl))) (mvT hZ (hw _ (List.mem_of_getElem? (i := 4) rfl))) (mvT hZ (hw _ (List.mem_of_getElem? (i := 5) rfl))) (by decide) (backOf (W := 0) (own_ws_3_1 l Z a0 hw [] x0 x1 x2 x3 b306 k306 h311 n0 hz311 V311) hZ (hw _ (List.mem_of_getElem? (i := 5) rfl)) (hw _ (List.mem_of_getElem? (i := 4) rfl)) (by decide) (by decide)) (g := (mkF m 64 #[iv x0, iv x1, iv x2, iv x3, iv x4, iv x5, iv (3 : Int32), iv (1 : Int32), rv b306, .unset, .unset, .unset] [(.int x3), (.int (1 : Int32)), (.ref b306)])) rfl (by rw [hml]; rfl) (argsL := [(.ref b306), (.int (1 : Int32)), (.int x3)]) (rest := []) (lenOf own_pd0 rfl) rfl (by show 2 * 0 + _ ≤ _; exact Nat.le_of_eq rfl) (hb hby at_64) (fun _ _ => ⟨rfl, e311, (by decide : 1 + 1 ≤ _), (by decide : 3 + 4 ≤ _)⟩)
      dsimp only [Pt.U, Pt.locs, Pt.cells, Pt.slots] at X313 l313 y313 z313 st313 hQ313
      subst l313 y313 z313
      obtain ⟨b_313, k_313, rfl, N313q, ob_313, K_313, V_313⟩ := hQ313
      have N313 := Fr.app N311 N313q
      have nq313 : b306 ≠ b_313 := Nat.ne_of_lt (Nat.lt_of_lt_of_le V311.lt ob_313)
      have gq313 : n0 ≤ b_313 := Nat.le_trans hz311 ob_313
      have c315 := V311.keep K_313 nin0
      have hz313 : n0 ≤ T313.heap.size := Nat.le_trans hz311 K_313.1
      refine own_go (T' := T313) (g' := (mkF m 67 #[iv x0, iv x1, iv x2, iv x3, iv x4, iv x5, iv (3 : Int32), iv (1 : Int32), rv b306, .unset, .unset, .unset] [(.ref b_313)])) (st313) ?_
      refine own_go (T' := T313) (g' := (mkF m 69 #[iv x0, iv x1, iv x2, iv x3, iv x4, iv x5, iv (3 : Int32), iv (1 : Int32), rv b306, rv b_313, .unset, .unset] [])) (fun t k => XS.astore X313.here hx rfl (hb hby at_67) rfl rfl (l' := #[iv x0, iv x1, iv x2, iv x3, iv x4, iv x5, iv (3 : Int32), iv (1 : Int32), rv b306, rv b_313, .unset, .unset]) rfl k) ?_
      refine own_go (T' := T313) (g' := (mkF m 71 #[iv x0, iv x1, iv x2, iv x3, iv x4, iv x5, iv (3 : Int32), iv (1 : Int32), rv b306, rv b_313, .unset, .unset] [(.ref b_313)])) (fun t k => XS.aload X313.here hx rfl (hb hby at_69) rfl rfl k) ?_
      refine own_go (T' := T313) (g' := (mkF m 74 #[iv x0, iv x1, iv x2, iv x3, iv x4, iv x5, iv (3 : Int32), iv (1 : Int32), rv b306, rv b_313, .unset, .unset] [])) (fun t k => XS.ifnullNo X313.here hx rfl (hb hby at_71) rfl k) ?_
      refine own_go (T' := T313) (g' := (mkF m 76 #[iv x0, iv x1, iv x2, iv x3, iv x4, iv x5, iv (3 : Int32), iv (1 : Int32), rv b306, rv b_313, .unset, .unset] [(.ref b_313)])) (fun t k => XS.aload X313.here hx rfl (hb hby at_74) rfl rfl k) ?_
      refine own_go (T' := T313) (g' := (mkF m 78 #[iv x0, iv x1, iv x2, iv x3, iv x4, iv x5, iv (3 : Int32), iv (1 : Int32), rv b306, rv b_313, .unset, .unset] [(.ref b306), (.ref b_313)])) (fun t k => XS.aload X313.here hx rfl (hb hby at_76) rfl rfl k) ?_
      refine own_go (T' := T313) (g' := (mkF m 81 #[iv x0, iv x1, iv x2, iv x3, iv x4, iv x5, iv (3 : Int32), iv (1 : Int32), rv b306, rv b_313, .unset, .unset] [])) (fun t k => Jvm.RoadKit.acmp (g := (mkF m 78 #[iv x0, iv x1, iv x2, iv x3, iv x4, iv x5, iv (3 : Int32), iv (1 : Int32), rv b306, rv b_313, .unset, .unset] [(.ref b306), (.ref b_313)])) X313 hx rfl (x := (.ref b_313)) (y := (.ref b306)) rfl rfl (pc0 := 78) (pc' := 81) (same := false) rfl (hb hby at_78) rfl (decide_eq_false fun q => (Ne.symm nq313) (Value.ref.inj q)) (by decide) (by decide) k) ?_
      refine own_go (T' := T313) (g' := (mkF m 83 #[iv x0, iv x1, iv x2, iv x3, iv x4, iv x5, iv (3 : Int32), iv (1 : Int32), rv b306, rv b_313, .unset, .unset] [(.ref b_313)])) (fun t k => XS.aload X313.here hx rfl (hb hby at_81) rfl rfl k) ?_
      obtain ⟨cl316, Ar316, -, Sz316, Nn316, -, -⟩ := id V_313
      refine own_go (T' := T313) (g' := (mkF m 84 #[iv x0, iv x1, iv x2, iv x3, iv x4, iv x5, iv (3 : Int32), iv (1 : Int32), rv b306, rv b_313, .unset, .unset] [(.int (4 : Int32))])) (fun t k => X313.arraylength hx (by exact Ar316.1) (State.isArrayOf_alike hZ.alike Ar316.2.1) (g := (mkF m 83 #[iv x0, iv x1, iv x2, iv x3, iv x4, iv x5, iv (3 : Int32), iv (1 : Int32), rv b306, rv b_313, .unset, .unset] [(.ref b_313)])) rfl rfl (hb hby at_83) _ (by rw [len_of Sz316 Nn316]; exact k)) ?_
      refine own_go (T' := T313) (g' := (mkF m 86 #[iv x0, iv x1, iv x2, iv x3, iv x4, iv x5, iv (3 : Int32), iv (1 : Int32), rv b306, rv b_313, .unset, .unset] [(.int (3 : Int32)), (.int (4 : Int32))])) (fun t k => XS.iload X313.here hx rfl (hb hby at_84) rfl k) ?_
      refine own_go (T' := T313) (g' := (mkF m 87 #[iv x0, iv x1, iv x2, iv x3, iv x4, iv x5, iv (3 : Int32), iv (1 : Int32), rv b306, rv b_313, .unset, .unset] [(.int (1 : Int32)), (.int (3 : Int32)), (.int (4 : Int32))])) (fun t k => XS.iconst X313.here hx rfl (hb hby at_86) k) ?_
      refine own_go (T' := T313) (g' := (mkF m 88 #[iv x0, iv x1, iv x2, iv x3, iv x4, iv x5, iv (3 : Int32), iv (1 : Int32), rv b306, rv b_313, .unset, .unset] [(.int (4 : Int32)), (.int (4 : Int32))])) (fun t k => XS.iadd X313.here hx rfl (hb hby at_87) rfl k) ?_
      refine own_go (T' := T313) (g' := (mkF m 93 #[iv x0, iv x1, iv x2, iv x3, iv x4, iv x5, iv (3 : Int32), iv (1 : Int32), rv b306, rv b_313, .unset, .unset] [])) (fun t k => XS.icmpYes X313.here hx rfl (pc0 := 88) (pc' := 93) rfl (hb hby at_88) rfl (teq (by decide : ((4 : Int32) = (4 : Int32)))).1 (by decide) (by decide) k) ?_
      refine own_go (T' := T313) (g' := (mkF m 95 #[iv x0, iv x1, iv x2, iv x3, iv x4, iv x5, iv (3 : Int32), iv (1 : Int32), rv b306, rv b_313, .unset, .unset] [(.ref b_313)])) (fun t k => XS.aload X313.here hx rfl (hb hby at_93) rfl rfl k) ?_
      refine own_go (T' := T313) (g' := (mkF m 97 #[iv x0, iv x1, iv x2, iv x3, iv x4, iv x5, iv (3 : Int32), iv (1 : Int32), rv b306, rv b_313, .unset, .unset] [(.ref b306), (.ref b_313)])) (fun t k => XS.aload X313.here hx rfl (hb hby at_95) rfl rfl k) ?_
      refine own_go (T' := T313) (g' := (mkF m 99 #[iv x0, iv x1, iv x2, iv x3, iv x4, iv x5, iv (3 : Int32), iv (1 : Int32), rv b306, rv b_313, .unset, .unset] [(.int (1 : Int32)), (.ref b306), (.ref b_313)])) (fun t k => XS.iload X313.here hx rfl (hb hby at_97) rfl k) ?_
      refine own_go (T' := T313) (g' := (mkF m 100 #[iv x0, iv x1, iv x2, iv x3, iv x4, iv x5, iv (3 : Int32), iv (1 : Int32), rv b306, rv b_313, .unset, .unset] [(.int x3), (.int (1 : Int32)), (.ref b306), (.ref b_313)])) (fun t k => XS.iloadN X313.here hx rfl (hb hby at_99) rfl k) ?_
      refine own_go (T' := T313) (g' := (mkF m 101 #[iv x0, iv x1, iv x2, iv x3, iv x4, iv x5, iv (3 : Int32), iv (1 : Int32), rv b306, rv b_313, .unset, .unset] [(.int (0 : Int32)), (.int x3), (.int (1 : Int32)), (.ref b306), (.ref b_313)])) (fun t k => XS.iconst X313.here hx rfl (hb hby at_100) k) ?_
      obtain ⟨_, _, ⟨T317, L317, k317, n317⟩, -, X317, ⟨Lc317, hQ317, l317, y317, z317⟩, st317⟩ := Jvm.LawKit.callS X313 hx (y := (⟨"com/example/tankroute/tankroute/solve/TourWithStopPinLaw", "slot", "([I[IIII)Z"⟩ : MethodName)) hown (mvT hZ (hw _ (List.mem_of_getElem? (i := 10) rfl))) (mvT hZ (hw _ (List.mem_of_getElem? (i := 11) rfl))) (mvT hZ (hw _ (List.mem_of_getElem? (i := 12) rfl))) (mvT hZ (hw _ (List.mem_of_getElem? (i := 13) rfl))) (by decide) (backOf (W := 0) (own_slotB l Z a0 hw [] b_313 b306 k_313 k306 (4 : Int32) (3 : Int32) (1 : Int32) x3 (0 : Int32) x0 [(.int x0), (.int x3), (.int x1), (.int x2)] [(.int x0), (.int x1), (.int x2)] T313.heap n0 hz313 V_313 c315 (by decide) (by decide) (by decide) (by decide) rfl rfl) hZ (hw _ (List.mem_of_getElem? (i := 13) rfl)) (hw _ (List.mem_of_getElem? (i := 12) rfl)) (by decide) (by decide)) (g := (mkF m 101 #[iv x0, iv x1, iv x2, iv x3, iv x4, iv x5, iv (3 : Int32), iv (1 : Int32), rv b306, rv b_313, .unset, .unset] [(.int (0 : Int32)), (.int x3), (.int (1 : Int32)), (.ref b306), (.ref b_313)])) rfl (by rw [hml]; rfl) (argsL := [(.ref b_313), (.ref b306), (.int (1 : Int32)), (.int x3), (.int (0 : Int32))]) (rest := []) (lenOf own_pd1 rfl) rfl (by show 2 * 0 + _ ≤ _; exact Nat.le_of_eq rfl) (hb hby at_101) (fun _ _ => ⟨rfl, rfl, (by decide : 2 + 0 ≤ _), (by decide : 7 + 0 ≤ _)⟩)
      dsimp only [Pt.U, Pt.locs, Pt.cells, Pt.slots] at X317 l317 y317 z317 st317 hQ317
      subst l317 y317 z317
      obtain ⟨rfl, rfl, e317⟩ := hQ317
      have E317q : T317.heap = T313.heap := e317
      have N317 := Fr.app N313 (Fr.nil n0)
      refine own_go (T' := T317) (g' := (mkF m 104 #[iv x0, iv x1, iv x2, iv x3, iv x4, iv x5, iv (3 : Int32), iv (1 : Int32), rv b306, rv b_313, .unset, .unset] [(.int (1 : Int32))])) (st317) ?_
      refine own_go (T' := T317) (g' := (mkF m 107 #[iv x0, iv x1, iv x2, iv x3, iv x4, iv x5, iv (3 : Int32), iv (1 : Int32), rv b306, rv b_313, .unset, .unset] [])) (fun t k => XS.ifNo X317.here hx rfl (hb hby at_104) rfl ((if0 _ _).trans (feq (by decide : ¬ ((1 : Int32) = (0 : Int32)))).1) k) ?_
      refine own_go (T' := T317) (g' := (mkF m 109 #[iv x0, iv x1, iv x2, iv x3, iv x4, iv x5, iv (3 : Int32), iv (1 : Int32), rv b306, rv b_313, .unset, .unset] [(.ref b_313)])) (fun t k => XS.aload X317.here hx rfl (hb hby at_107) rfl rfl k) ?_
      refine own_go (T' := T317) (g' := (mkF m 111 #[iv x0, iv x1, iv x2, iv x3, iv x4, iv x5, iv (3 : Int32), iv (1 : Int32), rv b306, rv b_313, .unset, .unset] [(.ref b306), (.ref b_313)])) (fun t k => XS.aload X317.here hx rfl (hb hby at_109) rfl rfl k) ?_
      refine own_go (T' := T317) (g' := (mkF m 113 #[iv x0, iv x1, iv x2, iv x3, iv x4, iv x5, iv (3 : Int32), iv (1 : Int32), rv b306, rv b_313, .unset, .unset] [(.int (1 : Int32)), (.ref b306), (.ref b_313)])) (fun t k => XS.iload X317.here hx rfl (hb hby at_111) rfl k) ?_
      refine own_go (T' := T317) (g' := (mkF m 114 #[iv x0, iv x1, iv x2, iv x3, iv x4, iv x5, iv (3 : Int32), iv (1 : Int32), rv b306, rv b_313, .unset, .unset] [(.int x3), (.int (1 : Int32)), (.ref b306), (.ref b_313)])) (fun t k => XS.iloadN X317.here hx rfl (hb hby at_113) rfl k) ?_
      refine own_go (T' := T317) (g' := (mkF m 115 #[iv x0, iv x1, iv x2, iv x3, iv x4, iv x5, iv (3 : Int32), iv (1 : Int32), rv b306, rv b_313, .unset, .unset] [(.int (1 : Int32)), (.int x3), (.int (1 : Int32)), (.ref b306), (.ref b_313)])) (fun t k => XS.iconst X317.here hx rfl (hb hby at_114) k) ?_
      obtain ⟨_, _, ⟨T318, L318, k318, n318⟩, -, X318, ⟨Lc318, hQ318, l318, y318, z318⟩, st318⟩ := Jvm.LawKit.callS X317 hx (y := (⟨"com/example/tankroute/tankroute/solve/TourWithStopPinLaw", "slot", "([I[IIII)Z"⟩ : MethodName)) hown (mvT hZ (hw _ (List.mem_of_getElem? (i := 10) rfl))) (mvT hZ (hw _ (List.mem_of_getElem? (i := 11) rfl))) (mvT hZ (hw _ (List.mem_of_getElem? (i := 12) rfl))) (mvT hZ (hw _ (List.mem_of_getElem? (i := 13) rfl))) (by decide) (backOf (W := 0) (own_slotC l Z a0 hw [] b_313 b306 k_313 k306 (4 : Int32) (3 : Int32) (1 : Int32)  (1 : Int32) x3 [(.int x0), (.int x3), (.int x1), (.int x2)] [(.int x0), (.int x1), (.int x2)] T313.heap n0 hz313 V_313 c315 (by decide) (by decide) rfl (by decide) rfl) hZ (hw _ (List.mem_of_getElem? (i := 13) rfl)) (hw _ (List.mem_of_getElem? (i := 12) rfl)) (by decide) (by decide)) (g := (mkF m 115 #[iv x0, iv x1, iv x2, iv x3, iv x4, iv x5, iv (3 : Int32), iv (1 : Int32), rv b306, rv b_313, .unset, .unset] [(.int (1 : Int32)), (.int x3), (.int (1 : Int32)), (.ref b306), (.ref b_313)])) rfl (by rw [hml]; rfl) (argsL := [(.ref b_313), (.ref b306), (.int (1 : Int32)), (.int x3), (.int (1 : Int32))]) (rest := []) (lenOf own_pd1 rfl) rfl (by show 2 * 0 + _ ≤ _; exact Nat.le_of_eq rfl) (hb hby at_115) (fun _ _ => ⟨rfl, E317q, (by decide : 2 + 0 ≤ _), (by decide : 7 + 0 ≤ _)⟩)
      dsimp only [Pt.U, Pt.locs, Pt.cells, Pt.slots] at X318 l318 y318 z318 st318 hQ318
      subst l318 y318 z318
      obtain ⟨rfl, rfl, e318⟩ := hQ318
      have E318q : T318.heap = T313.heap := e318
      have N318 := Fr.app N317 (Fr.nil n0)
      refine own_go (T' := T318) (g' := (mkF m 118 #[iv x0, iv x1, iv x2, iv x3, iv x4, iv x5, iv (3 : Int32), iv (1 : Int32), rv b306, rv b_313, .unset, .unset] [(.int (1 : Int32))])) (st318) ?_
      refine own_go (T' := T318) (g' := (mkF m 121 #[iv x0, iv x1, iv x2, iv x3, iv x4, iv x5, iv (3 : Int32), iv (1 : Int32), rv b306, rv b_313, .unset, .unset] [])) (fun t k => XS.ifNo X318.here hx rfl (hb hby at_118) rfl ((if0 _ _).trans (feq (by decide : ¬ ((1 : Int32) = (0 : Int32)))).1) k) ?_
      refine own_go (T' := T318) (g' := (mkF m 123 #[iv x0, iv x1, iv x2, iv x3, iv x4, iv x5, iv (3 : Int32), iv (1 : Int32), rv b306, rv b_313, .unset, .unset] [(.ref b_313)])) (fun t k => XS.aload X318.here hx rfl (hb hby at_121) rfl rfl k) ?_
      refine own_go (T' := T318) (g' := (mkF m 125 #[iv x0, iv x1, iv x2, iv x3, iv x4, iv x5, iv (3 : Int32), iv (1 : Int32), rv b306, rv b_313, .unset, .unset] [(.ref b306), (.ref b_313)])) (fun t k => XS.aload X318.here hx rfl (hb hby at_123) rfl rfl k) ?_
      refine own_go (T' := T318) (g' := (mkF m 127 #[iv x0, iv x1, iv x2, iv x3, iv x4, iv x5, iv (3 : Int32), iv (1 : Int32), rv b306, rv b_313, .unset, .unset] [(.int (1 : Int32)), (.ref b306), (.ref b_313)])) (fun t k => XS.iload X318.here hx rfl (hb hby at_125) rfl k) ?_
      refine own_go (T' := T318) (g' := (mkF m 128 #[iv x0, iv x1, iv x2, iv x3, iv x4, iv x5, iv (3 : Int32), iv (1 : Int32), rv b306, rv b_313, .unset, .unset] [(.int x3), (.int (1 : Int32)), (.ref b306), (.ref b_313)])) (fun t k => XS.iloadN X318.here hx rfl (hb hby at_127) rfl k) ?_
      refine own_go (T' := T318) (g' := (mkF m 129 #[iv x0, iv x1, iv x2, iv x3, iv x4, iv x5, iv (3 : Int32), iv (1 : Int32), rv b306, rv b_313, .unset, .unset] [(.int (2 : Int32)), (.int x3), (.int (1 : Int32)), (.ref b306), (.ref b_313)])) (fun t k => XS.iconst X318.here hx rfl (hb hby at_128) k) ?_
      obtain ⟨_, _, ⟨T319, L319, k319, n319⟩, -, X319, ⟨Lc319, hQ319, l319, y319, z319⟩, st319⟩ := Jvm.LawKit.callS X318 hx (y := (⟨"com/example/tankroute/tankroute/solve/TourWithStopPinLaw", "slot", "([I[IIII)Z"⟩ : MethodName)) hown (mvT hZ (hw _ (List.mem_of_getElem? (i := 10) rfl))) (mvT hZ (hw _ (List.mem_of_getElem? (i := 11) rfl))) (mvT hZ (hw _ (List.mem_of_getElem? (i := 12) rfl))) (mvT hZ (hw _ (List.mem_of_getElem? (i := 13) rfl))) (by decide) (backOf (W := 0) (own_slotD l Z a0 hw [] b_313 b306 k_313 k306 (4 : Int32) (3 : Int32) (1 : Int32) x3 (2 : Int32) x1 [(.int x0), (.int x3), (.int x1), (.int x2)] [(.int x0), (.int x1), (.int x2)] T313.heap n0 hz313 V_313 c315 (by decide) (by decide) (by decide) (by decide) (by decide) (by decide) rfl rfl) hZ (hw _ (List.mem_of_getElem? (i := 13) rfl)) (hw _ (List.mem_of_getElem? (i := 12) rfl)) (by decide) (by decide)) (g := (mkF m 129 #[iv x0, iv x1, iv x2, iv x3, iv x4, iv x5, iv (3 : Int32), iv (1 : Int32), rv b306, rv b_313, .unset, .unset] [(.int (2 : Int32)), (.int x3), (.int (1 : Int32)), (.ref b306), (.ref b_313)])) rfl (by rw [hml]; rfl) (argsL := [(.ref b_313), (.ref b306), (.int (1 : Int32)), (.int x3), (.int (2 : Int32))]) (rest := []) (lenOf own_pd1 rfl) rfl (by show 2 * 0 + _ ≤ _; exact Nat.le_of_eq rfl) (hb hby at_129) (fun _ _ => ⟨rfl, E318q, (by decide : 2 + 0 ≤ _), (by decide : 7 + 0 ≤ _)⟩)
      dsimp only [Pt.U, Pt.locs, Pt.cells, Pt.slots] at X319 l319 y319 z319 st319 hQ319
      subst l319 y319 z319
      obtain ⟨rfl, rfl, e319⟩ := hQ319
      have E319q : T319.heap = T313.heap := e319
      have N319 := Fr.app N318 (Fr.nil n0)
      refine own_go (T' := T319) (g' := (mkF m 132 #[iv x0, iv x1, iv x2, iv x3, iv x4, iv x5, iv (3 : Int32), iv (1 : Int32), rv b306, rv b_313, .unset, .unset] [(.int (1 : Int32))])) (st319) ?_
      refine own_go (T' := T319) (g' := (mkF m 135 #[iv x0, iv x1, iv x2, iv x3, iv x4, iv x5, iv (3 : Int32), iv (1 : Int32), rv b306, rv b_313, .unset, .unset] [])) (fun t k => XS.ifNo X319.here hx rfl (hb hby at_132) rfl ((if0 _ _).trans (feq (by decide : ¬ ((1 : Int32) = (0 : Int32)))).1) k) ?_
      refine own_go (T' := T319) (g' := (mkF m 137 #[iv x0, iv x1, iv x2, iv x3, iv x4, iv x5, iv (3 : Int32), iv (1 : Int32), rv b306, rv b_313, .unset, .unset] [(.ref b_313)])) (fun t k => XS.aload X319.here hx rfl (hb hby at_135) rfl rfl k) ?_
      refine own_go (T' := T319) (g' := (mkF m 139 #[iv x0, iv x1, iv x2, iv x3, iv x4, iv x5, iv (3 : Int32), iv (1 : Int32), rv b306, rv b_313, .unset, .unset] [(.ref b306), (.ref b_313)])) (fun t k => XS.aload X319.here hx rfl (hb hby at_137) rfl rfl k) ?_
      refine own_go (T' := T319) (g' := (mkF m 141 #[iv x0, iv x1, iv x2, iv x3, iv x4, iv x5, iv (3 : Int32), iv (1 : Int32), rv b306, rv b_313, .unset, .unset] [(.int (1 : Int32)), (.ref b306), (.ref b_313)])) (fun t k => XS.iload X319.here hx rfl (hb hby at_139) rfl k) ?_
      refine own_go (T' := T319) (g' := (mkF m 142 #[iv x0, iv x1, iv x2, iv x3, iv x4, iv x5, iv (3 : Int32), iv (1 : Int32), rv b306, rv b_313, .unset, .unset] [(.int x3), (.int (1 : Int32)), (.ref b306), (.ref b_313)])) (fun t k => XS.iloadN X319.here hx rfl (hb hby at_141) rfl k) ?_
      refine own_go (T' := T319) (g' := (mkF m 143 #[iv x0, iv x1, iv x2, iv x3, iv x4, iv x5, iv (3 : Int32), iv (1 : Int32), rv b306, rv b_313, .unset, .unset] [(.int (3 : Int32)), (.int x3), (.int (1 : Int32)), (.ref b306), (.ref b_313)])) (fun t k => XS.iconst X319.here hx rfl (hb hby at_142) k) ?_
      obtain ⟨_, _, ⟨T320, L320, k320, n320⟩, -, X320, ⟨Lc320, hQ320, l320, y320, z320⟩, st320⟩ := Jvm.LawKit.callS X319 hx (y := (⟨"com/example/tankroute/tankroute/solve/TourWithStopPinLaw", "slot", "([I[IIII)Z"⟩ : MethodName)) hown (mvT hZ (hw _ (List.mem_of_getElem? (i := 10) rfl))) (mvT hZ (hw _ (List.mem_of_getElem? (i := 11) rfl))) (mvT hZ (hw _ (List.mem_of_getElem? (i := 12) rfl))) (mvT hZ (hw _ (List.mem_of_getElem? (i := 13) rfl))) (by decide) (backOf (W := 0) (own_slotD l Z a0 hw [] b_313 b306 k_313 k306 (4 : Int32) (3 : Int32) (1 : Int32) x3 (3 : Int32) x2 [(.int x0), (.int x3), (.int x1), (.int x2)] [(.int x0), (.int x1), (.int x2)] T313.heap n0 hz313 V_313 c315 (by decide) (by decide) (by decide) (by decide) (by decide) (by decide) rfl rfl) hZ (hw _ (List.mem_of_getElem? (i := 13) rfl)) (hw _ (List.mem_of_getElem? (i := 12) rfl)) (by decide) (by decide)) (g := (mkF m 143 #[iv x0, iv x1, iv x2, iv x3, iv x4, iv x5, iv (3 : Int32), iv (1 : Int32), rv b306, rv b_313, .unset, .unset] [(.int (3 : Int32)), (.int x3), (.int (1 : Int32)), (.ref b306), (.ref b_313)])) rfl (by rw [hml]; rfl) (argsL := [(.ref b_313), (.ref b306), (.int (1 : Int32)), (.int x3), (.int (3 : Int32))]) (rest := []) (lenOf own_pd1 rfl) rfl (by show 2 * 0 + _ ≤ _; exact Nat.le_of_eq rfl) (hb hby at_143) (fun _ _ => ⟨rfl, E319q, (by decide : 2 + 0 ≤ _), (by decide : 7 + 0 ≤ _)⟩)
      dsimp only [Pt.U, Pt.locs, Pt.cells, Pt.slots] at X320 l320 y320 z320 st320 hQ320
      subst l320 y320 z320
      obtain ⟨rfl, rfl, e320⟩ := hQ320
      have E320q : T320.heap = T313.heap := e320
      have N320 := Fr.app N319 (Fr.nil n0)
      refine own_go (T' := T320) (g' := (mkF m 146 #[iv x0, iv x1, iv x2, iv x3, iv x4, iv x5, iv (3 : Int32), iv (1 : Int32), rv b306, rv b_313, .unset, .unset] [(.int (1 : Int32))])) (st320) ?_
      refine own_go (T' := T320) (g' := (mkF m 149 #[iv x0, iv x1, iv x2, iv x3, iv x4, iv x5, iv (3 : Int32), iv (1 : Int32), rv b306, rv b_313, .unset, .unset] [])) (fun t k => XS.ifNo X320.here hx rfl (hb hby at_146) rfl ((if0 _ _).trans (feq (by decide : ¬ ((1 : Int32) = (0 : Int32)))).1) k) ?_
      refine own_go (T' := T320) (g' := (mkF m 150 #[iv x0, iv x1, iv x2, iv x3, iv x4, iv x5, iv (3 : Int32), iv (1 : Int32), rv b306, rv b_313, .unset, .unset] [(.int (1 : Int32))])) (fun t k => XS.iconst X320.here hx rfl (hb hby at_149) k) ?_
      refine own_go (T' := T320) (g' := (mkF m 154 #[iv x0, iv x1, iv x2, iv x3, iv x4, iv x5, iv (3 : Int32), iv (1 : Int32), rv b306, rv b_313, .unset, .unset] [(.int (1 : Int32))])) (fun t k => XS.goto X320.here hx rfl (pc0 := 150) (pc' := 154) rfl (hb hby at_150) (by decide) (by decide) k) ?_
      refine own_go (T' := T320) (g' := (mkF m 156 #[iv x0, iv x1, iv x2, iv x3, iv x4, iv x5, iv (3 : Int32), iv (1 : Int32), rv b306, rv b_313, iv (1 : Int32), .unset] [])) (fun t k => XS.istore X320.here hx rfl (hb hby at_154) rfl (l' := #[iv x0, iv x1, iv x2, iv x3, iv x4, iv x5, iv (3 : Int32), iv (1 : Int32), rv b306, rv b_313, iv (1 : Int32), .unset]) rfl k) ?_
      refine own_go (T' := T320) (g' := (mkF m 158 #[iv x0, iv x1, iv x2, iv x3, iv x4, iv x5, iv (3 : Int32), iv (1 : Int32), rv b306, rv b_313, iv (1 : Int32), .unset] [(.int (3 : Int32))])) (fun t k => XS.iload X320.here hx rfl (hb hby at_156) rfl k) ?_
      refine own_go (T' := T320) (g' := (mkF m 159 #[iv x0, iv x1, iv x2, iv x3, iv x4, iv x5, iv (3 : Int32), iv (1 : Int32), rv b306, rv b_313, iv (1 : Int32), .unset] [(.int (1 : Int32)), (.int (3 : Int32))])) (fun t k => XS.iconst X320.here hx rfl (hb hby at_158) k) ?_
      refine own_go (T' := T320) (g' := (mkF m 162 #[iv x0, iv x1, iv x2, iv x3, iv x4, iv x5, iv (3 : Int32), iv (1 : Int32), rv b306, rv b_313, iv (1 : Int32), .unset] [])) (fun t k => XS.icmpNo X320.here hx rfl (hb hby at_159) rfl (flt (by decide : ¬ ((3 : Int32) < (1 : Int32)))).1 k) ?_
      refine own_go (T' := T320) (g' := (mkF m 164 #[iv x0, iv x1, iv x2, iv x3, iv x4, iv x5, iv (3 : Int32), iv (1 : Int32), rv b306, rv b_313, iv (1 : Int32), .unset] [(.ref b306)])) (fun t k => XS.aload X320.here hx rfl (hb hby at_162) rfl rfl k) ?_
      refine own_go (T' := T320) (g' := (mkF m 165 #[iv x0, iv x1, iv x2, iv x3, iv x4, iv x5, iv (3 : Int32), iv (1 : Int32), rv b306, rv b_313, iv (1 : Int32), .unset] [(.int (0 : Int32)), (.ref b306)])) (fun t k => XS.iconst X320.here hx rfl (hb hby at_164) k) ?_
      obtain ⟨cl321, Ar321, -, Sz321, Nn321, Ha321, -⟩ := id c315
      have hin321 : ¬ ((0 : Int32) < 0 ∨ cl321.slots.size ≤ ((0 : Int32)).toNatClampNeg) := inb_of Sz321 ⟨by decide, by decide⟩
      have hat321 : cl321.slots[((0 : Int32)).toNatClampNeg]? = some (.int x0) := Ha321.at hin321 rfl
      refine own_go (T' := T320) (g' := (mkF m 166 #[iv x0, iv x1, iv x2, iv x3, iv x4, iv x5, iv (3 : Int32), iv (1 : Int32), rv b306, rv b_313, iv (1 : Int32), .unset] [(.int x0)])) (fun t k => X320.iaload hx (j := (0 : Int32)) (v := (.int x0)) (by rw [E320q]; exact Ar321.1) (State.isArrayOf_alike hZ.alike Ar321.2.1) Ar321.2.2 hin321 hat321 (g := (mkF m 165 #[iv x0, iv x1, iv x2, iv x3, iv x4, iv x5, iv (3 : Int32), iv (1 : Int32), rv b306, rv b_313, iv (1 : Int32), .unset] [(.int (0 : Int32)), (.ref b306)])) rfl rfl (hb hby at_165) _ k) ?_
      refine own_go (T' := T320) (g' := (mkF m 167 #[iv x0, iv x1, iv x2, iv x3, iv x4, iv x5, iv (3 : Int32), iv (1 : Int32), rv b306, rv b_313, iv (1 : Int32), .unset] [(.int x0), (.int x0)])) (fun t k => XS.iloadN X320.here hx rfl (hb hby at_166) rfl k) ?_
      refine own_go (T' := T320) (g' := (mkF m 170 #[iv x0, iv x1, iv x2, iv x3, iv x4, iv x5, iv (3 : Int32), iv (1 : Int32), rv b306, rv b_313, iv (1 : Int32), .unset] [])) (fun t k => XS.icmpNo X320.here hx rfl (hb hby at_167) rfl (teq (rfl : x0 = x0)).2 k) ?_
      refine own_go (T' := T320) (g' := (mkF m 172 #[iv x0, iv x1, iv x2, iv x3, iv x4, iv x5, iv (3 : Int32), iv (1 : Int32), rv b306, rv b_313, iv (1 : Int32), .unset] [(.int (3 : Int32))])) (fun t k => XS.iload X320.here hx rfl (hb hby at_170) rfl k) ?_
      refine own_go (T' := T320) (g' := (mkF m 173 #[iv x0, iv x1, iv x2, iv x3, iv x4, iv x5, iv (3 : Int32), iv (1 : Int32), rv b306, rv b_313, iv (1 : Int32), .unset] [(.int (2 : Int32)), (.int (3 : Int32))])) (fun t k => XS.iconst X320.here hx rfl (hb hby at_172) k) ?_
      refine own_go (T' := T320) (g' := (mkF m 176 #[iv x0, iv x1, iv x2, iv x3, iv x4, iv x5, iv (3 : Int32), iv (1 : Int32), rv b306, rv b_313, iv (1 : Int32), .unset] [])) (fun t k => XS.icmpNo X320.here hx rfl (hb hby at_173) rfl (flt (by decide : ¬ ((3 : Int32) < (2 : Int32)))).1 k) ?_
      refine own_go (T' := T320) (g' := (mkF m 178 #[iv x0, iv x1, iv x2, iv x3, iv x4, iv x5, iv (3 : Int32), iv (1 : Int32), rv b306, rv b_313, iv (1 : Int32), .unset] [(.ref b306)])) (fun t k => XS.aload X320.here hx rfl (hb hby at_176) rfl rfl k) ?_
      refine own_go (T' := T320) (g' := (mkF m 179 #[iv x0, iv x1, iv x2, iv x3, iv x4, iv x5, iv (3 : Int32), iv (1 : Int32), rv b306, rv b_313, iv (1 : Int32), .unset] [(.int (1 : Int32)), (.ref b306)])) (fun t k => XS.iconst X320.here hx rfl (hb hby at_178) k) ?_
      obtain ⟨cl322, Ar322, -, Sz322, Nn322, Ha322, -⟩ := id c315
      have hin322 : ¬ ((1 : Int32) < 0 ∨ cl322.slots.size ≤ ((1 : Int32)).toNatClampNeg) := inb_of Sz322 ⟨by decide, by decide⟩
      have hat322 : cl322.slots[((1 : Int32)).toNatClampNeg]? = some (.int x1) := Ha322.at hin322 rfl
      refine own_go (T' := T320) (g' := (mkF m 180 #[iv x0, iv x1, iv x2, iv x3, iv x4, iv x5, iv (3 : Int32), iv (1 : Int32), rv b306, rv b_313, iv (1 : Int32), .unset] [(.int x1)])) (fun t k => X320.iaload hx (j := (1 : Int32)) (v := (.int x1)) (by rw [E320q]; exact Ar322.1) (State.isArrayOf_alike hZ.alike Ar322.2.1) Ar322.2.2 hin322 hat322 (g := (mkF m 179 #[iv x0, iv x1, iv x2, iv x3, iv x4, iv x5, iv (3 : Int32), iv (1 : Int32), rv b306, rv b_313, iv (1 : Int32), .unset] [(.int (1 : Int32)), (.ref b306)])) rfl rfl (hb hby at_179) _ k) ?_
      refine own_go (T' := T320) (g' := (mkF m 181 #[iv x0, iv x1, iv x2, iv x3, iv x4, iv x5, iv (3 : Int32), iv (1 : Int32), rv b306, rv b_313, iv (1 : Int32), .unset] [(.int x1), (.int x1)])) (fun t k => XS.iloadN X320.here hx rfl (hb hby at_180) rfl k) ?_
      refine own_go (T' := T320) (g' := (mkF m 184 #[iv x0, iv x1, iv x2, iv x3, iv x4, iv x5, iv (3 : Int32), iv (1 : Int32), rv b306, rv b_313, iv (1 : Int32), .unset] [])) (fun t k => XS.icmpNo X320.here hx rfl (hb hby at_181) rfl (teq (rfl : x1 = x1)).2 k) ?_
      refine own_go (T' := T320) (g' := (mkF m 186 #[iv x0, iv x1, iv x2, iv x3, iv x4, iv x5, iv (3 : Int32), iv (1 : Int32), rv b306, rv b_313, iv (1 : Int32), .unset] [(.int (3 : Int32))])) (fun t k => XS.iload X320.here hx rfl (hb hby at_184) rfl k) ?_
      refine own_go (T' := T320) (g' := (mkF m 187 #[iv x0, iv x1, iv x2, iv x3, iv x4, iv x5, iv (3 : Int32), iv (1 : Int32), rv b306, rv b_313, iv (1 : Int32), .unset] [(.int (3 : Int32)), (.int (3 : Int32))])) (fun t k => XS.iconst X320.here hx rfl (hb hby at_186) k) ?_
      refine own_go (T' := T320) (g' := (mkF m 190 #[iv x0, iv x1, iv x2, iv x3, iv x4, iv x5, iv (3 : Int32), iv (1 : Int32), rv b306, rv b_313, iv (1 : Int32), .unset] [])) (fun t k => XS.icmpNo X320.here hx rfl (hb hby at_187) rfl (flt (by decide : ¬ ((3 : Int32) < (3 : Int32)))).1 k) ?_
      refine own_go (T' := T320) (g' := (mkF m 192 #[iv x0, iv x1, iv x2, iv x3, iv x4, iv x5, iv (3 : Int32), iv (1 : Int32), rv b306, rv b_313, iv (1 : Int32), .unset] [(.ref b306)])) (fun t k => XS.aload X320.here hx rfl (hb hby at_190) rfl rfl k) ?_
      refine own_go (T' := T320) (g' := (mkF m 193 #[iv x0, iv x1, iv x2, iv x3, iv x4, iv x5, iv (3 : Int32), iv (1 : Int32), rv b306, rv b_313, iv (1 : Int32), .unset] [(.int (2 : Int32)), (.ref b306)])) (fun t k => XS.iconst X320.here hx rfl (hb hby at_192) k) ?_
      obtain ⟨cl323, Ar323, -, Sz323, Nn323, Ha323, -⟩ := id c315
      have hin323 : ¬ ((2 : Int32) < 0 ∨ cl323.slots.size ≤ ((2 : Int32)).toNatClampNeg) := inb_of Sz323 ⟨by decide, by decide⟩
      have hat323 : cl323.slots[((2 : Int32)).toNatClampNeg]? = some (.int x2) := Ha323.at hin323 rfl
      refine own_go (T' := T320) (g' := (mkF m 194 #[iv x0, iv x1, iv x2, iv x3, iv x4, iv x5, iv (3 : Int32), iv (1 : Int32), rv b306, rv b_313, iv (1 : Int32), .unset] [(.int x2)])) (fun t k => X320.iaload hx (j := (2 : Int32)) (v := (.int x2)) (by rw [E320q]; exact Ar323.1) (State.isArrayOf_alike hZ.alike Ar323.2.1) Ar323.2.2 hin323 hat323 (g := (mkF m 193 #[iv x0, iv x1, iv x2, iv x3, iv x4, iv x5, iv (3 : Int32), iv (1 : Int32), rv b306, rv b_313, iv (1 : Int32), .unset] [(.int (2 : Int32)), (.ref b306)])) rfl rfl (hb hby at_193) _ k) ?_
      refine own_go (T' := T320) (g' := (mkF m 195 #[iv x0, iv x1, iv x2, iv x3, iv x4, iv x5, iv (3 : Int32), iv (1 : Int32), rv b306, rv b_313, iv (1 : Int32), .unset] [(.int x2), (.int x2)])) (fun t k => XS.iloadN X320.here hx rfl (hb hby at_194) rfl k) ?_
      refine own_go (T' := T320) (g' := (mkF m 198 #[iv x0, iv x1, iv x2, iv x3, iv x4, iv x5, iv (3 : Int32), iv (1 : Int32), rv b306, rv b_313, iv (1 : Int32), .unset] [])) (fun t k => XS.icmpNo X320.here hx rfl (hb hby at_195) rfl (teq (rfl : x2 = x2)).2 k) ?_
      refine own_go (T' := T320) (g' := (mkF m 199 #[iv x0, iv x1, iv x2, iv x3, iv x4, iv x5, iv (3 : Int32), iv (1 : Int32), rv b306, rv b_313, iv (1 : Int32), .unset] [(.int (1 : Int32))])) (fun t k => XS.iconst X320.here hx rfl (hb hby at_198) k) ?_
      refine own_go (T' := T320) (g' := (mkF m 203 #[iv x0, iv x1, iv x2, iv x3, iv x4, iv x5, iv (3 : Int32), iv (1 : Int32), rv b306, rv b_313, iv (1 : Int32), .unset] [(.int (1 : Int32))])) (fun t k => XS.goto X320.here hx rfl (pc0 := 199) (pc' := 203) rfl (hb hby at_199) (by decide) (by decide) k) ?_
      refine own_go (T' := T320) (g' := (mkF m 205 #[iv x0, iv x1, iv x2, iv x3, iv x4, iv x5, iv (3 : Int32), iv (1 : Int32), rv b306, rv b_313, iv (1 : Int32), iv (1 : Int32)] [])) (fun t k => XS.istore X320.here hx rfl (hb hby at_203) rfl (l' := #[iv x0, iv x1, iv x2, iv x3, iv x4, iv x5, iv (3 : Int32), iv (1 : Int32), rv b306, rv b_313, iv (1 : Int32), iv (1 : Int32)]) rfl k) ?_
      refine own_go (T' := T320) (g' := (mkF m 207 #[iv x0, iv x1, iv x2, iv x3, iv x4, iv x5, iv (3 : Int32), iv (1 : Int32), rv b306, rv b_313, iv (1 : Int32), iv (1 : Int32)] [(.int (1 : Int32))])) (fun t k => XS.iload X320.here hx rfl (hb hby at_205) rfl k) ?_
      refine own_go (T' := T320) (g' := (mkF m 210 #[iv x0, iv x1, iv x2, iv x3, iv x4, iv x5, iv (3 : Int32), iv (1 : Int32), rv b306, rv b_313, iv (1 : Int32), iv (1 : Int32)] [])) (fun t k => XS.ifNo X320.here hx rfl (hb hby at_207) rfl ((if0 _ _).trans (feq (by decide : ¬ ((1 : Int32) = (0 : Int32)))).1) k) ?_
      refine own_go (T' := T320) (g' := (mkF m 212 #[iv x0, iv x1, iv x2, iv x3, iv x4, iv x5, iv (3 : Int32), iv (1 : Int32), rv b306, rv b_313, iv (1 : Int32), iv (1 : Int32)] [(.int (1 : Int32))])) (fun t k => XS.iload X320.here hx rfl (hb hby at_210) rfl k) ?_
      refine own_go (T' := T320) (g' := (mkF m 215 #[iv x0, iv x1, iv x2, iv x3, iv x4, iv x5, iv (3 : Int32), iv (1 : Int32), rv b306, rv b_313, iv (1 : Int32), iv (1 : Int32)] [])) (fun t k => XS.ifNo X320.here hx rfl (hb hby at_212) rfl ((if0 _ _).trans (feq (by decide : ¬ ((1 : Int32) = (0 : Int32)))).1) k) ?_
      refine own_go (T' := T320) (g' := (mkF m 216 #[iv x0, iv x1, iv x2, iv x3, iv x4, iv x5, iv (3 : Int32), iv (1 : Int32), rv b306, rv b_313, iv (1 : Int32), iv (1 : Int32)] [(.int (1 : Int32))])) (fun t k => XS.iconst X320.here hx rfl (hb hby at_215) k) ?_
      refine own_go (T' := T320) (g' := (mkF m 220 #[iv x0, iv x1, iv x2, iv x3, iv x4, iv x5, iv (3 : Int32), iv (1 : Int32), rv b306, rv b_313, iv (1 : Int32), iv (1 : Int32)] [(.int (1 : Int32))])) (fun t k => XS.goto X320.here hx rfl (pc0 := 216) (pc' := 220) rfl (hb hby at_216) (by decide) (by decide) k) ?_
      exact own_ret X320 hlk hx Bd.returns rfl (Or.inl ⟨rfl, Or.inr (Or.inl rfl), _, rfl⟩) (hb hby at_220) (by first | exact ⟨rfl, N320⟩ | (rw [Fr] at *; exact ⟨rfl, by simpa using N320⟩)) (by decide) (by decide)
    · rw [ha]
      refine own_go (T' := s₁) (g' := (mkF m 21 #[iv x0, iv x1, iv x2, iv x3, iv x4, iv x5, iv (3 : Int32), iv (2 : Int32), .unset, .unset, .unset, .unset] [])) (fun t k => XS.istore X0.here hx rfl (hb hby at_19) rfl (l' := #[iv x0, iv x1, iv x2, iv x3, iv x4, iv x5, iv (3 : Int32), iv (2 : Int32), .unset, .unset, .unset, .unset]) rfl k) ?_
      refine own_go (T' := s₁) (g' := (mkF m 23 #[iv x0, iv x1, iv x2, iv x3, iv x4, iv x5, iv (3 : Int32), iv (2 : Int32), .unset, .unset, .unset, .unset] [(.int (3 : Int32))])) (fun t k => XS.iload X0.here hx rfl (hb hby at_21) rfl k) ?_
      obtain ⟨T324, h324, k324, X324, e324, E324, A324, st324⟩ := newP X0 hx hZ (hw _ (List.mem_of_getElem? (i := 1) rfl)) e0 (g := (mkF m 23 #[iv x0, iv x1, iv x2, iv x3, iv x4, iv x5, iv (3 : Int32), iv (2 : Int32), .unset, .unset, .unset, .unset] [(.int (3 : Int32))])) rfl (hb hby at_23) rfl (by decide) (cap := 3) (by decide) (by decide) (by decide) (by decide)
      obtain ⟨b324, g324⟩ : ∃ z, z = h0.size := ⟨_, rfl⟩
      rw [← g324] at A324 st324
      have gn324 : n0 ≤ b324 := Nat.le_trans Z0 (Nat.le_of_eq g324.symm)
      have hz324 : n0 ≤ h324.size := Nat.le_trans Z0 E324.1
      have V324 : Arv Z h324 b324 k324 .int (3 : Int32) [(.int (0 : Int32)), (.int (0 : Int32)), (.int (0 : Int32))] (.int (0 : Int32)) := (Arv.new A324 (by decide)).pad (pad_rep [] (.int (0 : Int32)) 3)
      refine own_go (T' := T324) (g' := (mkF m 25 #[iv x0, iv x1, iv x2, iv x3, iv x4, iv x5, iv (3 : Int32), iv (2 : Int32), .unset, .unset, .unset, .unset] [(.ref b324)])) (st324) ?_
      refine own_go (T' := T324) (g' := (mkF m 27 #[iv x0, iv x1, iv x2, iv x3, iv x4, iv x5, iv (3 : Int32), iv (2 : Int32), rv b324, .unset, .unset, .unset] [])) (fun t k => XS.astore X324.here hx rfl (hb hby at_25) rfl rfl (l' := #[iv x0, iv x1, iv x2, iv x3, iv x4, iv x5, iv (3 : Int32), iv (2 : Int32), rv b324, .unset, .unset, .unset]) rfl k) ?_
      refine own_go (T' := T324) (g' := (mkF m 29 #[iv x0, iv x1, iv x2, iv x3, iv x4, iv x5, iv (3 : Int32), iv (2 : Int32), rv b324, .unset, .unset, .unset] [(.int (3 : Int32))])) (fun t k => XS.iload X324.here hx rfl (hb hby at_27) rfl k) ?_
      refine own_go (T' := T324) (g' := (mkF m 32 #[iv x0, iv x1, iv x2, iv x3, iv x4, iv x5, iv (3 : Int32), iv (2 : Int32), rv b324, .unset, .unset, .unset] [])) (fun t k => XS.ifNo X324.here hx rfl (hb hby at_29) rfl ((if0 _ _).trans (tlt (by decide : ((0 : Int32) < (3 : Int32)))).2.2.2) k) ?_
      refine own_go (T' := T324) (g' := (mkF m 34 #[iv x0, iv x1, iv x2, iv x3, iv x4, iv x5, iv (3 : Int32), iv (2 : Int32), rv b324, .unset, .unset, .unset] [(.ref b324)])) (fun t k => XS.aload X324.here hx rfl (hb hby at_32) rfl rfl k) ?_
      refine own_go (T' := T324) (g' := (mkF m 35 #[iv x0, iv x1, iv x2, iv x3, iv x4, iv x5, iv (3 : Int32), iv (2 : Int32), rv b324, .unset, .unset, .unset] [(.int (0 : Int32)), (.ref b324)])) (fun t k => XS.iconst X324.here hx rfl (hb hby at_34) k) ?_
      refine own_go (T' := T324) (g' := (mkF m 36 #[iv x0, iv x1, iv x2, iv x3, iv x4, iv x5, iv (3 : Int32), iv (2 : Int32), rv b324, .unset, .unset, .unset] [(.int x0), (.int (0 : Int32)), (.ref b324)])) (fun t k => XS.iloadN X324.here hx rfl (hb hby at_35) rfl k) ?_
      obtain ⟨cl325, Ar325, q325, Sz325, Nn325, Ha325, Ga325⟩ := id V324
      have hin325 : ¬ ((0 : Int32) < 0 ∨ cl325.slots.size ≤ ((0 : Int32)).toNatClampNeg) := inb_of Sz325 ⟨by decide, by decide⟩
      obtain ⟨T325, h325, X325, e325, W325, st325⟩ := stI X324 hx hZ e324 Ar325 (j := (0 : Int32)) hin325 (g := (mkF m 36 #[iv x0, iv x1, iv x2, iv x3, iv x4, iv x5, iv (3 : Int32), iv (2 : Int32), rv b324, .unset, .unset, .unset] [(.int x0), (.int (0 : Int32)), (.ref b324)])) rfl rfl (hb hby at_36)
      have hz325 : n0 ≤ h325.size := Nat.le_trans hz324 (Keep.of_wr W325).1
      have N325 := Fr.snoc X325 N0 gn324
      have V325 : Arv Z h325 b324 k324 .int (3 : Int32) [(.int x0), (.int (0 : Int32)), (.int (0 : Int32))] (.int (0 : Int32)) := Arv.set Ar325 q325 Sz325 Nn325 Ha325 Ga325 rfl W325 0 rfl (Nat.le_of_ble_eq_true rfl)
      refine own_go (T' := T325) (g' := (mkF m 37 #[iv x0, iv x1, iv x2, iv x3, iv x4, iv x5, iv (3 : Int32), iv (2 : Int32), rv b324, .unset, .unset, .unset] [])) (st325) ?_
      refine own_go (T' := T325) (g' := (mkF m 39 #[iv x0, iv x1, iv x2, iv x3, iv x4, iv x5, iv (3 : Int32), iv (2 : Int32), rv b324, .unset, .unset, .unset] [(.int (3 : Int32))])) (fun t k => XS.iload X325.here hx rfl (hb hby at_37) rfl k) ?_
      refine own_go (T' := T325) (g' := (mkF m 40 #[iv x0, iv x1, iv x2, iv x3, iv x4, iv x5, iv (3 : Int32), iv (2 : Int32), rv b324, .unset, .unset, .unset] [(.int (1 : Int32)), (.int (3 : Int32))])) (fun t k => XS.iconst X325.here hx rfl (hb hby at_39) k) ?_
      refine own_go (T' := T325) (g' := (mkF m 43 #[iv x0, iv x1, iv x2, iv x3, iv x4, iv x5, iv (3 : Int32), iv (2 : Int32), rv b324, .unset, .unset, .unset] [])) (fun t k => XS.icmpNo X325.here hx rfl (hb hby at_40) rfl (tlt (by decide : ((1 : Int32) < (3 : Int32)))).2.2.2 k) ?_
      refine own_go (T' := T325) (g' := (mkF m 45 #[iv x0, iv x1, iv x2, iv x3, iv x4, iv x5, iv (3 : Int32), iv (2 : Int32), rv b324, .unset, .unset, .unset] [(.ref b324)])) (fun t k => XS.aload X325.here hx rfl (hb hby at_43) rfl rfl k) ?_
      refine own_go (T' := T325) (g' := (mkF m 46 #[iv x0, iv x1, iv x2, iv x3, iv x4, iv x5, iv (3 : Int32), iv (2 : Int32), rv b324, .unset, .unset, .unset] [(.int (1 : Int32)), (.ref b324)])) (fun t k => XS.iconst X325.here hx rfl (hb hby at_45) k) ?_
      refine own_go (T' := T325) (g' := (mkF m 47 #[iv x0, iv x1, iv x2, iv x3, iv x4, iv x5, iv (3 : Int32), iv (2 : Int32), rv b324, .unset, .unset, .unset] [(.int x1), (.int (1 : Int32)), (.ref b324)])) (fun t k => XS.iloadN X325.here hx rfl (hb hby at_46) rfl k) ?_
      obtain ⟨cl327, Ar327, q327, Sz327, Nn327, Ha327, Ga327⟩ := id V325
      have hin327 : ¬ ((1 : Int32) < 0 ∨ cl327.slots.size ≤ ((1 : Int32)).toNatClampNeg) := inb_of Sz327 ⟨by decide, by decide⟩
      obtain ⟨T327, h327, X327, e327, W327, st327⟩ := stI X325 hx hZ e325 Ar327 (j := (1 : Int32)) hin327 (g := (mkF m 47 #[iv x0, iv x1, iv x2, iv x3, iv x4, iv x5, iv (3 : Int32), iv (2 : Int32), rv b324, .unset, .unset, .unset] [(.int x1), (.int (1 : Int32)), (.ref b324)])) rfl rfl (hb hby at_47)
      have hz327 : n0 ≤ h327.size := Nat.le_trans hz325 (Keep.of_wr W327).1
      have N327 := Fr.snoc X327 N325 gn324
      have V327 : Arv Z h327 b324 k324 .int (3 : Int32) [(.int x0), (.int x1), (.int (0 : Int32))] (.int (0 : Int32)) := Arv.set Ar327 q327 Sz327 Nn327 Ha327 Ga327 rfl W327 1 rfl (Nat.le_of_ble_eq_true rfl)
      refine own_go (T' := T327) (g' := (mkF m 48 #[iv x0, iv x1, iv x2, iv x3, iv x4, iv x5, iv (3 : Int32), iv (2 : Int32), rv b324, .unset, .unset, .unset] [])) (st327) ?_
      refine own_go (T' := T327) (g' := (mkF m 50 #[iv x0, iv x1, iv x2, iv x3, iv x4, iv x5, iv (3 : Int32), iv (2 : Int32), rv b324, .unset, .unset, .unset] [(.int (3 : Int32))])) (fun t k => XS.iload X327.here hx rfl (hb hby at_48) rfl k) ?_
      refine own_go (T' := T327) (g' := (mkF m 51 #[iv x0, iv x1, iv x2, iv x3, iv x4, iv x5, iv (3 : Int32), iv (2 : Int32), rv b324, .unset, .unset, .unset] [(.int (2 : Int32)), (.int (3 : Int32))])) (fun t k => XS.iconst X327.here hx rfl (hb hby at_50) k) ?_
      refine own_go (T' := T327) (g' := (mkF m 54 #[iv x0, iv x1, iv x2, iv x3, iv x4, iv x5, iv (3 : Int32), iv (2 : Int32), rv b324, .unset, .unset, .unset] [])) (fun t k => XS.icmpNo X327.here hx rfl (hb hby at_51) rfl (tlt (by decide : ((2 : Int32) < (3 : Int32)))).2.2.2 k) ?_
      refine own_go (T' := T327) (g' := (mkF m 56 #[iv x0, iv x1, iv x2, iv x3, iv x4, iv x5, iv (3 : Int32), iv (2 : Int32), rv b324, .unset, .unset, .unset] [(.ref b324)])) (fun t k => XS.aload X327.here hx rfl (hb hby at_54) rfl rfl k) ?_
      refine own_go (T' := T327) (g' := (mkF m 57 #[iv x0, iv x1, iv x2, iv x3, iv x4, iv x5, iv (3 : Int32), iv (2 : Int32), rv b324, .unset, .unset, .unset] [(.int (2 : Int32)), (.ref b324)])) (fun t k => XS.iconst X327.here hx rfl (hb hby at_56) k) ?_
      refine own_go (T' := T327) (g' := (mkF m 58 #[iv x0, iv x1, iv x2, iv x3, iv x4, iv x5, iv (3 : Int32), iv (2 : Int32), rv b324, .unset, .unset, .unset] [(.int x2), (.int (2 : Int32)), (.ref b324)])) (fun t k => XS.iloadN X327.here hx rfl (hb hby at_57) rfl k) ?_
      obtain ⟨cl329, Ar329, q329, Sz329, Nn329, Ha329, Ga329⟩ := id V327
      have hin329 : ¬ ((2 : Int32) < 0 ∨ cl329.slots.size ≤ ((2 : Int32)).toNatClampNeg) := inb_of Sz329 ⟨by decide, by decide⟩
      obtain ⟨T329, h329, X329, e329, W329, st329⟩ := stI X327 hx hZ e327 Ar329 (j := (2 : Int32)) hin329 (g := (mkF m 58 #[iv x0, iv x1, iv x2, iv x3, iv x4, iv x5, iv (3 : Int32), iv (2 : Int32), rv b324, .unset, .unset, .unset] [(.int x2), (.int (2 : Int32)), (.ref b324)])) rfl rfl (hb hby at_58)
      have hz329 : n0 ≤ h329.size := Nat.le_trans hz327 (Keep.of_wr W329).1
      have N329 := Fr.snoc X329 N327 gn324
      have V329 : Arv Z h329 b324 k324 .int (3 : Int32) [(.int x0), (.int x1), (.int x2)] (.int (0 : Int32)) := Arv.set Ar329 q329 Sz329 Nn329 Ha329 Ga329 rfl W329 2 rfl (Nat.le_of_ble_eq_true rfl)
      refine own_go (T' := T329) (g' := (mkF m 59 #[iv x0, iv x1, iv x2, iv x3, iv x4, iv x5, iv (3 : Int32), iv (2 : Int32), rv b324, .unset, .unset, .unset] [])) (st329) ?_
      refine own_go (T' := T329) (g' := (mkF m 61 #[iv x0, iv x1, iv x2, iv x3, iv x4, iv x5, iv (3 : Int32), iv (2 : Int32), rv b324, .unset, .unset, .unset] [(.ref b324)])) (fun t k => XS.aload X329.here hx rfl (hb hby at_59) rfl rfl k) ?_
      refine own_go (T' := T329) (g' := (mkF m 63 #[iv x0, iv x1, iv x2, iv x3, iv x4, iv x5, iv (3 : Int32), iv (2 : Int32), rv b324, .unset, .unset, .unset] [(.int (2 : Int32)), (.ref b324)])) (fun t k => XS.iload X329.here hx rfl (hb hby at_61) rfl k) ?_
      refine own_go (T' := T329) (g' := (mkF m 64 #[iv x0, iv x1, iv x2, iv x3, iv x4, iv x5, iv (3 : Int32), iv (2 : Int32), rv b324, .unset, .unset, .unset] [(.int x3), (.int (2 : Int32)), (.ref b324)])) (fun t k => XS.iloadN X329.here hx rfl (hb hby at_63) rfl k) ?_
      obtain ⟨_, _, ⟨T331, L331, k331, n331⟩, -, X331, ⟨Lc331, hQ331, l331, y331, z331⟩, st331⟩ := Jvm.LawKit.callS X329 hx (y := (⟨"com/example/tankroute/tankroute/solve/Solution$Tour", "withStop", "([III)[I"⟩ : MethodName)) hown (mvT hZ (hw _ (List.mem_of_getElem? (i := 2) rfl))) (mvT hZ (hw _ (List.mem_of_getElem? (i := 3) rfl))) (mvT hZ (hw _ (List.mem_of_getElem? (i := 4) rfl))) (mvT hZ (hw _ (List.mem_of_getElem? (i := 5) rfl))) (by decide) (backOf (W := 0) (own_ws_3_2 l Z a0 hw [] x0 x1 x2 x3 b324 k324 h329 n0 hz329 V329) hZ (hw _ (List.mem_of_getElem? (i := 5) rfl)) (hw _ (List.mem_of_getElem? (i := 4) rfl)) (by decide) (by decide)) (g := (mkF m 64 #[iv x0, iv x1, iv x2, iv x3, iv x4, iv x5, iv (3 : Int32), iv (2 : Int32), rv b324, .unset, .unset, .unset] [(.int x3), (.int (2 : Int32)), (.ref b324)])) rfl (by rw [hml]; rfl) (argsL := [(.ref b324), (.int (2 : Int32)), (.int x3)]) (rest := []) (lenOf own_pd0 rfl) rfl (by show 2 * 0 + _ ≤ _; exact Nat.le_of_eq rfl) (hb hby at_64) (fun _ _ => ⟨rfl, e329, (by decide : 1 + 1 ≤ _), (by decide : 3 + 4 ≤ _)⟩)
      dsimp only [Pt.U, Pt.locs, Pt.cells, Pt.slots] at X331 l331 y331 z331 st331 hQ331
      subst l331 y331 z331
      obtain ⟨b_331, k_331, rfl, N331q, ob_331, K_331, V_331⟩ := hQ331
      have N331 := Fr.app N329 N331q
      have nq331 : b324 ≠ b_331 := Nat.ne_of_lt (Nat.lt_of_lt_of_le V329.lt ob_331)
      have gq331 : n0 ≤ b_331 := Nat.le_trans hz329 ob_331
      have c333 := V329.keep K_331 nin0
      have hz331 : n0 ≤ T331.heap.size := Nat.le_trans hz329 K_331.1
      refine own_go (T' := T331) (g' := (mkF m 67 #[iv x0, iv x1, iv x2, iv x3, iv x4, iv x5, iv (3 : Int32), iv (2 : Int32), rv b324, .unset, .unset, .unset] [(.ref b_331)])) (st331) ?_
      refine own_go (T' := T331) (g' := (mkF m 69 #[iv x0, iv x1, iv x2, iv x3, iv x4, iv x5, iv (3 : Int32), iv (2 : Int32), rv b324, rv b_331, .unset, .unset] [])) (fun t k => XS.astore X331.here hx rfl (hb hby at_67) rfl rfl (l' := #[iv x0, iv x1, iv x2, iv x3, iv x4, iv x5, iv (3 : Int32), iv (2 : Int32), rv b324, rv b_331, .unset, .unset]) rfl k) ?_
      refine own_go (T' := T331) (g' := (mkF m 71 #[iv x0, iv x1, iv x2, iv x3, iv x4, iv x5, iv (3 : Int32), iv (2 : Int32), rv b324, rv b_331, .unset, .unset] [(.ref b_331)])) (fun t k => XS.aload X331.here hx rfl (hb hby at_69) rfl rfl k) ?_
      refine own_go (T' := T331) (g' := (mkF m 74 #[iv x0, iv x1, iv x2, iv x3, iv x4, iv x5, iv (3 : Int32), iv (2 : Int32), rv b324, rv b_331, .unset, .unset] [])) (fun t k => XS.ifnullNo X331.here hx rfl (hb hby at_71) rfl k) ?_
      refine own_go (T' := T331) (g' := (mkF m 76 #[iv x0, iv x1, iv x2, iv x3, iv x4, iv x5, iv (3 : Int32), iv (2 : Int32), rv b324, rv b_331, .unset, .unset] [(.ref b_331)])) (fun t k => XS.aload X331.here hx rfl (hb hby at_74) rfl rfl k) ?_
      refine own_go (T' := T331) (g' := (mkF m 78 #[iv x0, iv x1, iv x2, iv x3, iv x4, iv x5, iv (3 : Int32), iv (2 : Int32), rv b324, rv b_331, .unset, .unset] [(.ref b324), (.ref b_331)])) (fun t k => XS.aload X331.here hx rfl (hb hby at_76) rfl rfl k) ?_
      refine own_go (T' := T331) (g' := (mkF m 81 #[iv x0, iv x1, iv x2, iv x3, iv x4, iv x5, iv (3 : Int32), iv (2 : Int32), rv b324, rv b_331, .unset, .unset] [])) (fun t k => Jvm.RoadKit.acmp (g := (mkF m 78 #[iv x0, iv x1, iv x2, iv x3, iv x4, iv x5, iv (3 : Int32), iv (2 : Int32), rv b324, rv b_331, .unset, .unset] [(.ref b324), (.ref b_331)])) X331 hx rfl (x := (.ref b_331)) (y := (.ref b324)) rfl rfl (pc0 := 78) (pc' := 81) (same := false) rfl (hb hby at_78) rfl (decide_eq_false fun q => (Ne.symm nq331) (Value.ref.inj q)) (by decide) (by decide) k) ?_
      refine own_go (T' := T331) (g' := (mkF m 83 #[iv x0, iv x1, iv x2, iv x3, iv x4, iv x5, iv (3 : Int32), iv (2 : Int32), rv b324, rv b_331, .unset, .unset] [(.ref b_331)])) (fun t k => XS.aload X331.here hx rfl (hb hby at_81) rfl rfl k) ?_
      obtain ⟨cl334, Ar334, -, Sz334, Nn334, -, -⟩ := id V_331
      refine own_go (T' := T331) (g' := (mkF m 84 #[iv x0, iv x1, iv x2, iv x3, iv x4, iv x5, iv (3 : Int32), iv (2 : Int32), rv b324, rv b_331, .unset, .unset] [(.int (4 : Int32))])) (fun t k => X331.arraylength hx (by exact Ar334.1) (State.isArrayOf_alike hZ.alike Ar334.2.1) (g := (mkF m 83 #[iv x0, iv x1, iv x2, iv x3, iv x4, iv x5, iv (3 : Int32), iv (2 : Int32), rv b324, rv b_331, .unset, .unset] [(.ref b_331)])) rfl rfl (hb hby at_83) _ (by rw [len_of Sz334 Nn334]; exact k)) ?_
      refine own_go (T' := T331) (g' := (mkF m 86 #[iv x0, iv x1, iv x2, iv x3, iv x4, iv x5, iv (3 : Int32), iv (2 : Int32), rv b324, rv b_331, .unset, .unset] [(.int (3 : Int32)), (.int (4 : Int32))])) (fun t k => XS.iload X331.here hx rfl (hb hby at_84) rfl k) ?_
      refine own_go (T' := T331) (g' := (mkF m 87 #[iv x0, iv x1, iv x2, iv x3, iv x4, iv x5, iv (3 : Int32), iv (2 : Int32), rv b324, rv b_331, .unset, .unset] [(.int (1 : Int32)), (.int (3 : Int32)), (.int (4 : Int32))])) (fun t k => XS.iconst X331.here hx rfl (hb hby at_86) k) ?_
      refine own_go (T' := T331) (g' := (mkF m 88 #[iv x0, iv x1, iv x2, iv x3, iv x4, iv x5, iv (3 : Int32), iv (2 : Int32), rv b324, rv b_331, .unset, .unset] [(.int (4 : Int32)), (.int (4 : Int32))])) (fun t k => XS.iadd X331.here hx rfl (hb hby at_87) rfl k) ?_
      refine own_go (T' := T331) (g' := (mkF m 93 #[iv x0, iv x1, iv x2, iv x3, iv x4, iv x5, iv (3 : Int32), iv (2 : Int32), rv b324, rv b_331, .unset, .unset] [])) (fun t k => XS.icmpYes X331.here hx rfl (pc0 := 88) (pc' := 93) rfl (hb hby at_88) rfl (teq (by decide : ((4 : Int32) = (4 : Int32)))).1 (by decide) (by decide) k) ?_
      refine own_go (T' := T331) (g' := (mkF m 95 #[iv x0, iv x1, iv x2, iv x3, iv x4, iv x5, iv (3 : Int32), iv (2 : Int32), rv b324, rv b_331, .unset, .unset] [(.ref b_331)])) (fun t k => XS.aload X331.here hx rfl (hb hby at_93) rfl rfl k) ?_
      refine own_go (T' := T331) (g' := (mkF m 97 #[iv x0, iv x1, iv x2, iv x3, iv x4, iv x5, iv (3 : Int32), iv (2 : Int32), rv b324, rv b_331, .unset, .unset] [(.ref b324), (.ref b_331)])) (fun t k => XS.aload X331.here hx rfl (hb hby at_95) rfl rfl k) ?_
      refine own_go (T' := T331) (g' := (mkF m 99 #[iv x0, iv x1, iv x2, iv x3, iv x4, iv x5, iv (3 : Int32), iv (2 : Int32), rv b324, rv b_331, .unset, .unset] [(.int (2 : Int32)), (.ref b324), (.ref b_331)])) (fun t k => XS.iload X331.here hx rfl (hb hby at_97) rfl k) ?_
      refine own_go (T' := T331) (g' := (mkF m 100 #[iv x0, iv x1, iv x2, iv x3, iv x4, iv x5, iv (3 : Int32), iv (2 : Int32), rv b324, rv b_331, .unset, .unset] [(.int x3), (.int (2 : Int32)), (.ref b324), (.ref b_331)])) (fun t k => XS.iloadN X331.here hx rfl (hb hby at_99) rfl k) ?_
      refine own_go (T' := T331) (g' := (mkF m 101 #[iv x0, iv x1, iv x2, iv x3, iv x4, iv x5, iv (3 : Int32), iv (2 : Int32), rv b324, rv b_331, .unset, .unset] [(.int (0 : Int32)), (.int x3), (.int (2 : Int32)), (.ref b324), (.ref b_331)])) (fun t k => XS.iconst X331.here hx rfl (hb hby at_100) k) ?_
      obtain ⟨_, _, ⟨T335, L335, k335, n335⟩, -, X335, ⟨Lc335, hQ335, l335, y335, z335⟩, st335⟩ := Jvm.LawKit.callS X331 hx (y := (⟨"com/example/tankroute/tankroute/solve/TourWithStopPinLaw", "slot", "([I[IIII)Z"⟩ : MethodName)) hown (mvT hZ (hw _ (List.mem_of_getElem? (i := 10) rfl))) (mvT hZ (hw _ (List.mem_of_getElem? (i := 11) rfl))) (mvT hZ (hw _ (List.mem_of_getElem? (i := 12) rfl))) (mvT hZ (hw _ (List.mem_of_getElem? (i := 13) rfl))) (by decide) (backOf (W := 0) (own_slotB l Z a0 hw [] b_331 b324 k_331 k324 (4 : Int32) (3 : Int32) (2 : Int32) x3 (0 : Int32) x0 [(.int x0), (.int x1), (.int x3), (.int x2)] [(.int x0), (.int x1), (.int x2)] T331.heap n0 hz331 V_331 c333 (by decide) (by decide) (by decide) (by decide) rfl rfl) hZ (hw _ (List.mem_of_getElem? (i := 13) rfl)) (hw _ (List.mem_of_getElem? (i := 12) rfl)) (by decide) (by decide)) (g := (mkF m 101 #[iv x0, iv x1, iv x2, iv x3, iv x4, iv x5, iv (3 : Int32), iv (2 : Int32), rv b324, rv b_331, .unset, .unset] [(.int (0 : Int32)), (.int x3), (.int (2 : Int32)), (.ref b324), (.ref b_331)])) rfl (by rw [hml]; rfl) (argsL := [(.ref b_331), (.ref b324), (.int (2 : Int32)), (.int x3), (.int (0 : Int32))]) (rest := []) (lenOf own_pd1 rfl) rfl (by show 2 * 0 + _ ≤ _; exact Nat.le_of_eq rfl) (hb hby at_101) (fun _ _ => ⟨rfl, rfl, (by decide : 2 + 0 ≤ _), (by decide : 7 + 0 ≤ _)⟩)
      dsimp only [Pt.U, Pt.locs, Pt.cells, Pt.slots] at X335 l335 y335 z335 st335 hQ335
      subst l335 y335 z335
      obtain ⟨rfl, rfl, e335⟩ := hQ335
      have E335q : T335.heap = T331.heap := e335
      have N335 := Fr.app N331 (Fr.nil n0)
      refine own_go (T' := T335) (g' := (mkF m 104 #[iv x0, iv x1, iv x2, iv x3, iv x4, iv x5, iv (3 : Int32), iv (2 : Int32), rv b324, rv b_331, .unset, .unset] [(.int (1 : Int32))])) (st335) ?_
      refine own_go (T' := T335) (g' := (mkF m 107 #[iv x0, iv x1, iv x2, iv x3, iv x4, iv x5, iv (3 : Int32), iv (2 : Int32), rv b324, rv b_331, .unset, .unset] [])) (fun t k => XS.ifNo X335.here hx rfl (hb hby at_104) rfl ((if0 _ _).trans (feq (by decide : ¬ ((1 : Int32) = (0 : Int32)))).1) k) ?_
      refine own_go (T' := T335) (g' := (mkF m 109 #[iv x0, iv x1, iv x2, iv x3, iv x4, iv x5, iv (3 : Int32), iv (2 : Int32), rv b324, rv b_331, .unset, .unset] [(.ref b_331)])) (fun t k => XS.aload X335.here hx rfl (hb hby at_107) rfl rfl k) ?_
      refine own_go (T' := T335) (g' := (mkF m 111 #[iv x0, iv x1, iv x2, iv x3, iv x4, iv x5, iv (3 : Int32), iv (2 : Int32), rv b324, rv b_331, .unset, .unset] [(.ref b324), (.ref b_331)])) (fun t k => XS.aload X335.here hx rfl (hb hby at_109) rfl rfl k) ?_
      refine own_go (T' := T335) (g' := (mkF m 113 #[iv x0, iv x1, iv x2, iv x3, iv x4, iv x5, iv (3 : Int32), iv (2 : Int32), rv b324, rv b_331, .unset, .unset] [(.int (2 : Int32)), (.ref b324), (.ref b_331)])) (fun t k => XS.iload X335.here hx rfl (hb hby at_111) rfl k) ?_
      refine own_go (T' := T335) (g' := (mkF m 114 #[iv x0, iv x1, iv x2, iv x3, iv x4, iv x5, iv (3 : Int32), iv (2 : Int32), rv b324, rv b_331, .unset, .unset] [(.int x3), (.int (2 : Int32)), (.ref b324), (.ref b_331)])) (fun t k => XS.iloadN X335.here hx rfl (hb hby at_113) rfl k) ?_
      refine own_go (T' := T335) (g' := (mkF m 115 #[iv x0, iv x1, iv x2, iv x3, iv x4, iv x5, iv (3 : Int32), iv (2 : Int32), rv b324, rv b_331, .unset, .unset] [(.int (1 : Int32)), (.int x3), (.int (2 : Int32)), (.ref b324), (.ref b_331)])) (fun t k => XS.iconst X335.here hx rfl (hb hby at_114) k) ?_
      obtain ⟨_, _, ⟨T336, L336, k336, n336⟩, -, X336, ⟨Lc336, hQ336, l336, y336, z336⟩, st336⟩ := Jvm.LawKit.callS X335 hx (y := (⟨"com/example/tankroute/tankroute/solve/TourWithStopPinLaw", "slot", "([I[IIII)Z"⟩ : MethodName)) hown (mvT hZ (hw _ (List.mem_of_getElem? (i := 10) rfl))) (mvT hZ (hw _ (List.mem_of_getElem? (i := 11) rfl))) (mvT hZ (hw _ (List.mem_of_getElem? (i := 12) rfl))) (mvT hZ (hw _ (List.mem_of_getElem? (i := 13) rfl))) (by decide) (backOf (W := 0) (own_slotB l Z a0 hw [] b_331 b324 k_331 k324 (4 : Int32) (3 : Int32) (2 : Int32) x3 (1 : Int32) x1 [(.int x0), (.int x1), (.int x3), (.int x2)] [(.int x0), (.int x1), (.int x2)] T331.heap n0 hz331 V_331 c333 (by decide) (by decide) (by decide) (by decide) rfl rfl) hZ (hw _ (List.mem_of_getElem? (i := 13) rfl)) (hw _ (List.mem_of_getElem? (i := 12) rfl)) (by decide) (by decide)) (g := (mkF m 115 #[iv x0, iv x1, iv x2, iv x3, iv x4, iv x5, iv (3 : Int32), iv (2 : Int32), rv b324, rv b_331, .unset, .unset] [(.int (1 : Int32)), (.int x3), (.int (2 : Int32)), (.ref b324), (.ref b_331)])) rfl (by rw [hml]; rfl) (argsL := [(.ref b_331), (.ref b324), (.int (2 : Int32)), (.int x3), (.int (1 : Int32))]) (rest := []) (lenOf own_pd1 rfl) rfl (by show 2 * 0 + _ ≤ _; exact Nat.le_of_eq rfl) (hb hby at_115) (fun _ _ => ⟨rfl, E335q, (by decide : 2 + 0 ≤ _), (by decide : 7 + 0 ≤ _)⟩)
      dsimp only [Pt.U, Pt.locs, Pt.cells, Pt.slots] at X336 l336 y336 z336 st336 hQ336
      subst l336 y336 z336
      obtain ⟨rfl, rfl, e336⟩ := hQ336
      have E336q : T336.heap = T331.heap := e336
      have N336 := Fr.app N335 (Fr.nil n0)
      refine own_go (T' := T336) (g' := (mkF m 118 #[iv x0, iv x1, iv x2, iv x3, iv x4, iv x5, iv (3 : Int32), iv (2 : Int32), rv b324, rv b_331, .unset, .unset] [(.int (1 : Int32))])) (st336) ?_
      refine own_go (T' := T336) (g' := (mkF m 121 #[iv x0, iv x1, iv x2, iv x3, iv x4, iv x5, iv (3 : Int32), iv (2 : Int32), rv b324, rv b_331, .unset, .unset] [])) (fun t k => XS.ifNo X336.here hx rfl (hb hby at_118) rfl ((if0 _ _).trans (feq (by decide : ¬ ((1 : Int32) = (0 : Int32)))).1) k) ?_
      refine own_go (T' := T336) (g' := (mkF m 123 #[iv x0, iv x1, iv x2, iv x3, iv x4, iv x5, iv (3 : Int32), iv (2 : Int32), rv b324, rv b_331, .unset, .unset] [(.ref b_331)])) (fun t k => XS.aload X336.here hx rfl (hb hby at_121) rfl rfl k) ?_
      refine own_go (T' := T336) (g' := (mkF m 125 #[iv x0, iv x1, iv x2, iv x3, iv x4, iv x5, iv (3 : Int32), iv (2 : Int32), rv b324, rv b_331, .unset, .unset] [(.ref b324), (.ref b_331)])) (fun t k => XS.aload X336.here hx rfl (hb hby at_123) rfl rfl k) ?_
      refine own_go (T' := T336) (g' := (mkF m 127 #[iv x0, iv x1, iv x2, iv x3, iv x4, iv x5, iv (3 : Int32), iv (2 : Int32), rv b324, rv b_331, .unset, .unset] [(.int (2 : Int32)), (.ref b324), (.ref b_331)])) (fun t k => XS.iload X336.here hx rfl (hb hby at_125) rfl k) ?_
      refine own_go (T' := T336) (g' := (mkF m 128 #[iv x0, iv x1, iv x2, iv x3, iv x4, iv x5, iv (3 : Int32), iv (2 : Int32), rv b324, rv b_331, .unset, .unset] [(.int x3), (.int (2 : Int32)), (.ref b324), (.ref b_331)])) (fun t k => XS.iloadN X336.here hx rfl (hb hby at_127) rfl k) ?_
      refine own_go (T' := T336) (g' := (mkF m 129 #[iv x0, iv x1, iv x2, iv x3, iv x4, iv x5, iv (3 : Int32), iv (2 : Int32), rv b324, rv b_331, .unset, .unset] [(.int (2 : Int32)), (.int x3), (.int (2 : Int32)), (.ref b324), (.ref b_331)])) (fun t k => XS.iconst X336.here hx rfl (hb hby at_128) k) ?_
      obtain ⟨_, _, ⟨T337, L337, k337, n337⟩, -, X337, ⟨Lc337, hQ337, l337, y337, z337⟩, st337⟩ := Jvm.LawKit.callS X336 hx (y := (⟨"com/example/tankroute/tankroute/solve/TourWithStopPinLaw", "slot", "([I[IIII)Z"⟩ : MethodName)) hown (mvT hZ (hw _ (List.mem_of_getElem? (i := 10) rfl))) (mvT hZ (hw _ (List.mem_of_getElem? (i := 11) rfl))) (mvT hZ (hw _ (List.mem_of_getElem? (i := 12) rfl))) (mvT hZ (hw _ (List.mem_of_getElem? (i := 13) rfl))) (by decide) (backOf (W := 0) (own_slotC l Z a0 hw [] b_331 b324 k_331 k324 (4 : Int32) (3 : Int32) (2 : Int32)  (2 : Int32) x3 [(.int x0), (.int x1), (.int x3), (.int x2)] [(.int x0), (.int x1), (.int x2)] T331.heap n0 hz331 V_331 c333 (by decide) (by decide) rfl (by decide) rfl) hZ (hw _ (List.mem_of_getElem? (i := 13) rfl)) (hw _ (List.mem_of_getElem? (i := 12) rfl)) (by decide) (by decide)) (g := (mkF m 129 #[iv x0, iv x1, iv x2, iv x3, iv x4, iv x5, iv (3 : Int32), iv (2 : Int32), rv b324, rv b_331, .unset, .unset] [(.int (2 : Int32)), (.int x3), (.int (2 : Int32)), (.ref b324), (.ref b_331)])) rfl (by rw [hml]; rfl) (argsL := [(.ref b_331), (.ref b324), (.int (2 : Int32)), (.int x3), (.int (2 : Int32))]) (rest := []) (lenOf own_pd1 rfl) rfl (by show 2 * 0 + _ ≤ _; exact Nat.le_of_eq rfl) (hb hby at_129) (fun _ _ => ⟨rfl, E336q, (by decide : 2 + 0 ≤ _), (by decide : 7 + 0 ≤ _)⟩)
      dsimp only [Pt.U, Pt.locs, Pt.cells, Pt.slots] at X337 l337 y337 z337 st337 hQ337
      subst l337 y337 z337
      obtain ⟨rfl, rfl, e337⟩ := hQ337
      have E337q : T337.heap = T331.heap := e337
      have N337 := Fr.app N336 (Fr.nil n0)
      refine own_go (T' := T337) (g' := (mkF m 132 #[iv x0, iv x1, iv x2, iv x3, iv x4, iv x5, iv (3 : Int32), iv (2 : Int32), rv b324, rv b_331, .unset, .unset] [(.int (1 : Int32))])) (st337) ?_
      refine own_go (T' := T337) (g' := (mkF m 135 #[iv x0, iv x1, iv x2, iv x3, iv x4, iv x5, iv (3 : Int32), iv (2 : Int32), rv b324, rv b_331, .unset, .unset] [])) (fun t k => XS.ifNo X337.here hx rfl (hb hby at_132) rfl ((if0 _ _).trans (feq (by decide : ¬ ((1 : Int32) = (0 : Int32)))).1) k) ?_
      refine own_go (T' := T337) (g' := (mkF m 137 #[iv x0, iv x1, iv x2, iv x3, iv x4, iv x5, iv (3 : Int32), iv (2 : Int32), rv b324, rv b_331, .unset, .unset] [(.ref b_331)])) (fun t k => XS.aload X337.here hx rfl (hb hby at_135) rfl rfl k) ?_
      refine own_go (T' := T337) (g' := (mkF m 139 #[iv x0, iv x1, iv x2, iv x3, iv x4, iv x5, iv (3 : Int32), iv (2 : Int32), rv b324, rv b_331, .unset, .unset] [(.ref b324), (.ref b_331)])) (fun t k => XS.aload X337.here hx rfl (hb hby at_137) rfl rfl k) ?_
      refine own_go (T' := T337) (g' := (mkF m 141 #[iv x0, iv x1, iv x2, iv x3, iv x4, iv x5, iv (3 : Int32), iv (2 : Int32), rv b324, rv b_331, .unset, .unset] [(.int (2 : Int32)), (.ref b324), (.ref b_331)])) (fun t k => XS.iload X337.here hx rfl (hb hby at_139) rfl k) ?_
      refine own_go (T' := T337) (g' := (mkF m 142 #[iv x0, iv x1, iv x2, iv x3, iv x4, iv x5, iv (3 : Int32), iv (2 : Int32), rv b324, rv b_331, .unset, .unset] [(.int x3), (.int (2 : Int32)), (.ref b324), (.ref b_331)])) (fun t k => XS.iloadN X337.here hx rfl (hb hby at_141) rfl k) ?_
      refine own_go (T' := T337) (g' := (mkF m 143 #[iv x0, iv x1, iv x2, iv x3, iv x4, iv x5, iv (3 : Int32), iv (2 : Int32), rv b324, rv b_331, .unset, .unset] [(.int (3 : Int32)), (.int x3), (.int (2 : Int32)), (.ref b324), (.ref b_331)])) (fun t k => XS.iconst X337.here hx rfl (hb hby at_142) k) ?_
      obtain ⟨_, _, ⟨T338, L338, k338, n338⟩, -, X338, ⟨Lc338, hQ338, l338, y338, z338⟩, st338⟩ := Jvm.LawKit.callS X337 hx (y := (⟨"com/example/tankroute/tankroute/solve/TourWithStopPinLaw", "slot", "([I[IIII)Z"⟩ : MethodName)) hown (mvT hZ (hw _ (List.mem_of_getElem? (i := 10) rfl))) (mvT hZ (hw _ (List.mem_of_getElem? (i := 11) rfl))) (mvT hZ (hw _ (List.mem_of_getElem? (i := 12) rfl))) (mvT hZ (hw _ (List.mem_of_getElem? (i := 13) rfl))) (by decide) (backOf (W := 0) (own_slotD l Z a0 hw [] b_331 b324 k_331 k324 (4 : Int32) (3 : Int32) (2 : Int32) x3 (3 : Int32) x2 [(.int x0), (.int x1), (.int x3), (.int x2)] [(.int x0), (.int x1), (.int x2)] T331.heap n0 hz331 V_331 c333 (by decide) (by decide) (by decide) (by decide) (by decide) (by decide) rfl rfl) hZ (hw _ (List.mem_of_getElem? (i := 13) rfl)) (hw _ (List.mem_of_getElem? (i := 12) rfl)) (by decide) (by decide)) (g := (mkF m 143 #[iv x0, iv x1, iv x2, iv x3, iv x4, iv x5, iv (3 : Int32), iv (2 : Int32), rv b324, rv b_331, .unset, .unset] [(.int (3 : Int32)), (.int x3), (.int (2 : Int32)), (.ref b324), (.ref b_331)])) rfl (by rw [hml]; rfl) (argsL := [(.ref b_331), (.ref b324), (.int (2 : Int32)), (.int x3), (.int (3 : Int32))]) (rest := []) (lenOf own_pd1 rfl) rfl (by show 2 * 0 + _ ≤ _; exact Nat.le_of_eq rfl) (hb hby at_143) (fun _ _ => ⟨rfl, E337q, (by decide : 2 + 0 ≤ _), (by decide : 7 + 0 ≤ _)⟩)
      dsimp only [Pt.U, Pt.locs, Pt.cells, Pt.slots] at X338 l338 y338 z338 st338 hQ338
      subst l338 y338 z338
      obtain ⟨rfl, rfl, e338⟩ := hQ338
      have E338q : T338.heap = T331.heap := e338
      have N338 := Fr.app N337 (Fr.nil n0)
      refine own_go (T' := T338) (g' := (mkF m 146 #[iv x0, iv x1, iv x2, iv x3, iv x4, iv x5, iv (3 : Int32), iv (2 : Int32), rv b324, rv b_331, .unset, .unset] [(.int (1 : Int32))])) (st338) ?_
      refine own_go (T' := T338) (g' := (mkF m 149 #[iv x0, iv x1, iv x2, iv x3, iv x4, iv x5, iv (3 : Int32), iv (2 : Int32), rv b324, rv b_331, .unset, .unset] [])) (fun t k => XS.ifNo X338.here hx rfl (hb hby at_146) rfl ((if0 _ _).trans (feq (by decide : ¬ ((1 : Int32) = (0 : Int32)))).1) k) ?_
      refine own_go (T' := T338) (g' := (mkF m 150 #[iv x0, iv x1, iv x2, iv x3, iv x4, iv x5, iv (3 : Int32), iv (2 : Int32), rv b324, rv b_331, .unset, .unset] [(.int (1 : Int32))])) (fun t k => XS.iconst X338.here hx rfl (hb hby at_149) k) ?_
      refine own_go (T' := T338) (g' := (mkF m 154 #[iv x0, iv x1, iv x2, iv x3, iv x4, iv x5, iv (3 : Int32), iv (2 : Int32), rv b324, rv b_331, .unset, .unset] [(.int (1 : Int32))])) (fun t k => XS.goto X338.here hx rfl (pc0 := 150) (pc' := 154) rfl (hb hby at_150) (by decide) (by decide) k) ?_
      refine own_go (T' := T338) (g' := (mkF m 156 #[iv x0, iv x1, iv x2, iv x3, iv x4, iv x5, iv (3 : Int32), iv (2 : Int32), rv b324, rv b_331, iv (1 : Int32), .unset] [])) (fun t k => XS.istore X338.here hx rfl (hb hby at_154) rfl (l' := #[iv x0, iv x1, iv x2, iv x3, iv x4, iv x5, iv (3 : Int32), iv (2 : Int32), rv b324, rv b_331, iv (1 : Int32), .unset]) rfl k) ?_
      refine own_go (T' := T338) (g' := (mkF m 158 #[iv x0, iv x1, iv x2, iv x3, iv x4, iv x5, iv (3 : Int32), iv (2 : Int32), rv b324, rv b_331, iv (1 : Int32), .unset] [(.int (3 : Int32))])) (fun t k => XS.iload X338.here hx rfl (hb hby at_156) rfl k) ?_
      refine own_go (T' := T338) (g' := (mkF m 159 #[iv x0, iv x1, iv x2, iv x3, iv x4, iv x5, iv (3 : Int32), iv (2 : Int32), rv b324, rv b_331, iv (1 : Int32), .unset] [(.int (1 : Int32)), (.int (3 : Int32))])) (fun t k => XS.iconst X338.here hx rfl (hb hby at_158) k) ?_
      refine own_go (T' := T338) (g' := (mkF m 162 #[iv x0, iv x1, iv x2, iv x3, iv x4, iv x5, iv (3 : Int32), iv (2 : Int32), rv b324, rv b_331, iv (1 : Int32), .unset] [])) (fun t k => XS.icmpNo X338.here hx rfl (hb hby at_159) rfl (flt (by decide : ¬ ((3 : Int32) < (1 : Int32)))).1 k) ?_
      refine own_go (T' := T338) (g' := (mkF m 164 #[iv x0, iv x1, iv x2, iv x3, iv x4, iv x5, iv (3 : Int32), iv (2 : Int32), rv b324, rv b_331, iv (1 : Int32), .unset] [(.ref b324)])) (fun t k => XS.aload X338.here hx rfl (hb hby at_162) rfl rfl k) ?_
      refine own_go (T' := T338) (g' := (mkF m 165 #[iv x0, iv x1, iv x2, iv x3, iv x4, iv x5, iv (3 : Int32), iv (2 : Int32), rv b324, rv b_331, iv (1 : Int32), .unset] [(.int (0 : Int32)), (.ref b324)])) (fun t k => XS.iconst X338.here hx rfl (hb hby at_164) k) ?_
      obtain ⟨cl339, Ar339, -, Sz339, Nn339, Ha339, -⟩ := id c333
      have hin339 : ¬ ((0 : Int32) < 0 ∨ cl339.slots.size ≤ ((0 : Int32)).toNatClampNeg) := inb_of Sz339 ⟨by decide, by decide⟩
      have hat339 : cl339.slots[((0 : Int32)).toNatClampNeg]? = some (.int x0) := Ha339.at hin339 rfl
      refine own_go (T' := T338) (g' := (mkF m 166 #[iv x0, iv x1, iv x2, iv x3, iv x4, iv x5, iv (3 : Int32), iv (2 : Int32), rv b324, rv b_331, iv (1 : Int32), .unset] [(.int x0)])) (fun t k => X338.iaload hx (j := (0 : Int32)) (v := (.int x0)) (by rw [E338q]; exact Ar339.1) (State.isArrayOf_alike hZ.alike Ar339.2.1) Ar339.2.2 hin339 hat339 (g := (mkF m 165 #[iv x0, iv x1, iv x2, iv x3, iv x4, iv x5, iv (3 : Int32), iv (2 : Int32), rv b324, rv b_331, iv (1 : Int32), .unset] [(.int (0 : Int32)), (.ref b324)])) rfl rfl (hb hby at_165) _ k) ?_
      refine own_go (T' := T338) (g' := (mkF m 167 #[iv x0, iv x1, iv x2, iv x3, iv x4, iv x5, iv (3 : Int32), iv (2 : Int32), rv b324, rv b_331, iv (1 : Int32), .unset] [(.int x0), (.int x0)])) (fun t k => XS.iloadN X338.here hx rfl (hb hby at_166) rfl k) ?_
      refine own_go (T' := T338) (g' := (mkF m 170 #[iv x0, iv x1, iv x2, iv x3, iv x4, iv x5, iv (3 : Int32), iv (2 : Int32), rv b324, rv b_331, iv (1 : Int32), .unset] [])) (fun t k => XS.icmpNo X338.here hx rfl (hb hby at_167) rfl (teq (rfl : x0 = x0)).2 k) ?_
      refine own_go (T' := T338) (g' := (mkF m 172 #[iv x0, iv x1, iv x2, iv x3, iv x4, iv x5, iv (3 : Int32), iv (2 : Int32), rv b324, rv b_331, iv (1 : Int32), .unset] [(.int (3 : Int32))])) (fun t k => XS.iload X338.here hx rfl (hb hby at_170) rfl k) ?_
      refine own_go (T' := T338) (g' := (mkF m 173 #[iv x0, iv x1, iv x2, iv x3, iv x4, iv x5, iv (3 : Int32), iv (2 : Int32), rv b324, rv b_331, iv (1 : Int32), .unset] [(.int (2 : Int32)), (.int (3 : Int32))])) (fun t k => XS.iconst X338.here hx rfl (hb hby at_172) k) ?_
      refine own_go (T' := T338) (g' := (mkF m 176 #[iv x0, iv x1, iv x2, iv x3, iv x4, iv x5, iv (3 : Int32), iv (2 : Int32), rv b324, rv b_331, iv (1 : Int32), .unset] [])) (fun t k => XS.icmpNo X338.here hx rfl (hb hby at_173) rfl (flt (by decide : ¬ ((3 : Int32) < (2 : Int32)))).1 k) ?_
      refine own_go (T' := T338) (g' := (mkF m 178 #[iv x0, iv x1, iv x2, iv x3, iv x4, iv x5, iv (3 : Int32), iv (2 : Int32), rv b324, rv b_331, iv (1 : Int32), .unset] [(.ref b324)])) (fun t k => XS.aload X338.here hx rfl (hb hby at_176) rfl rfl k) ?_
      refine own_go (T' := T338) (g' := (mkF m 179 #[iv x0, iv x1, iv x2, iv x3, iv x4, iv x5, iv (3 : Int32), iv (2 : Int32), rv b324, rv b_331, iv (1 : Int32), .unset] [(.int (1 : Int32)), (.ref b324)])) (fun t k => XS.iconst X338.here hx rfl (hb hby at_178) k) ?_
      obtain ⟨cl340, Ar340, -, Sz340, Nn340, Ha340, -⟩ := id c333
      have hin340 : ¬ ((1 : Int32) < 0 ∨ cl340.slots.size ≤ ((1 : Int32)).toNatClampNeg) := inb_of Sz340 ⟨by decide, by decide⟩
      have hat340 : cl340.slots[((1 : Int32)).toNatClampNeg]? = some (.int x1) := Ha340.at hin340 rfl
      refine own_go (T' := T338) (g' := (mkF m 180 #[iv x0, iv x1, iv x2, iv x3, iv x4, iv x5, iv (3 : Int32), iv (2 : Int32), rv b324, rv b_331, iv (1 : Int32), .unset] [(.int x1)])) (fun t k => X338.iaload hx (j := (1 : Int32)) (v := (.int x1)) (by rw [E338q]; exact Ar340.1) (State.isArrayOf_alike hZ.alike Ar340.2.1) Ar340.2.2 hin340 hat340 (g := (mkF m 179 #[iv x0, iv x1, iv x2, iv x3, iv x4, iv x5, iv (3 : Int32), iv (2 : Int32), rv b324, rv b_331, iv (1 : Int32), .unset] [(.int (1 : Int32)), (.ref b324)])) rfl rfl (hb hby at_179) _ k) ?_
      refine own_go (T' := T338) (g' := (mkF m 181 #[iv x0, iv x1, iv x2, iv x3, iv x4, iv x5, iv (3 : Int32), iv (2 : Int32), rv b324, rv b_331, iv (1 : Int32), .unset] [(.int x1), (.int x1)])) (fun t k => XS.iloadN X338.here hx rfl (hb hby at_180) rfl k) ?_
      refine own_go (T' := T338) (g' := (mkF m 184 #[iv x0, iv x1, iv x2, iv x3, iv x4, iv x5, iv (3 : Int32), iv (2 : Int32), rv b324, rv b_331, iv (1 : Int32), .unset] [])) (fun t k => XS.icmpNo X338.here hx rfl (hb hby at_181) rfl (teq (rfl : x1 = x1)).2 k) ?_
      refine own_go (T' := T338) (g' := (mkF m 186 #[iv x0, iv x1, iv x2, iv x3, iv x4, iv x5, iv (3 : Int32), iv (2 : Int32), rv b324, rv b_331, iv (1 : Int32), .unset] [(.int (3 : Int32))])) (fun t k => XS.iload X338.here hx rfl (hb hby at_184) rfl k) ?_
      refine own_go (T' := T338) (g' := (mkF m 187 #[iv x0, iv x1, iv x2, iv x3, iv x4, iv x5, iv (3 : Int32), iv (2 : Int32), rv b324, rv b_331, iv (1 : Int32), .unset] [(.int (3 : Int32)), (.int (3 : Int32))])) (fun t k => XS.iconst X338.here hx rfl (hb hby at_186) k) ?_
      refine own_go (T' := T338) (g' := (mkF m 190 #[iv x0, iv x1, iv x2, iv x3, iv x4, iv x5, iv (3 : Int32), iv (2 : Int32), rv b324, rv b_331, iv (1 : Int32), .unset] [])) (fun t k => XS.icmpNo X338.here hx rfl (hb hby at_187) rfl (flt (by decide : ¬ ((3 : Int32) < (3 : Int32)))).1 k) ?_
      refine own_go (T' := T338) (g' := (mkF m 192 #[iv x0, iv x1, iv x2, iv x3, iv x4, iv x5, iv (3 : Int32), iv (2 : Int32), rv b324, rv b_331, iv (1 : Int32), .unset] [(.ref b324)])) (fun t k => XS.aload X338.here hx rfl (hb hby at_190) rfl rfl k) ?_
      refine own_go (T' := T338) (g' := (mkF m 193 #[iv x0, iv x1, iv x2, iv x3, iv x4, iv x5, iv (3 : Int32), iv (2 : Int32), rv b324, rv b_331, iv (1 : Int32), .unset] [(.int (2 : Int32)), (.ref b324)])) (fun t k => XS.iconst X338.here hx rfl (hb hby at_192) k) ?_
      obtain ⟨cl341, Ar341, -, Sz341, Nn341, Ha341, -⟩ := id c333
      have hin341 : ¬ ((2 : Int32) < 0 ∨ cl341.slots.size ≤ ((2 : Int32)).toNatClampNeg) := inb_of Sz341 ⟨by decide, by decide⟩
      have hat341 : cl341.slots[((2 : Int32)).toNatClampNeg]? = some (.int x2) := Ha341.at hin341 rfl
      refine own_go (T' := T338) (g' := (mkF m 194 #[iv x0, iv x1, iv x2, iv x3, iv x4, iv x5, iv (3 : Int32), iv (2 : Int32), rv b324, rv b_331, iv (1 : Int32), .unset] [(.int x2)])) (fun t k => X338.iaload hx (j := (2 : Int32)) (v := (.int x2)) (by rw [E338q]; exact Ar341.1) (State.isArrayOf_alike hZ.alike Ar341.2.1) Ar341.2.2 hin341 hat341 (g := (mkF m 193 #[iv x0, iv x1, iv x2, iv x3, iv x4, iv x5, iv (3 : Int32), iv (2 : Int32), rv b324, rv b_331, iv (1 : Int32), .unset] [(.int (2 : Int32)), (.ref b324)])) rfl rfl (hb hby at_193) _ k) ?_
      refine own_go (T' := T338) (g' := (mkF m 195 #[iv x0, iv x1, iv x2, iv x3, iv x4, iv x5, iv (3 : Int32), iv (2 : Int32), rv b324, rv b_331, iv (1 : Int32), .unset] [(.int x2), (.int x2)])) (fun t k => XS.iloadN X338.here hx rfl (hb hby at_194) rfl k) ?_
      refine own_go (T' := T338) (g' := (mkF m 198 #[iv x0, iv x1, iv x2, iv x3, iv x4, iv x5, iv (3 : Int32), iv (2 : Int32), rv b324, rv b_331, iv (1 : Int32), .unset] [])) (fun t k => XS.icmpNo X338.here hx rfl (hb hby at_195) rfl (teq (rfl : x2 = x2)).2 k) ?_
      refine own_go (T' := T338) (g' := (mkF m 199 #[iv x0, iv x1, iv x2, iv x3, iv x4, iv x5, iv (3 : Int32), iv (2 : Int32), rv b324, rv b_331, iv (1 : Int32), .unset] [(.int (1 : Int32))])) (fun t k => XS.iconst X338.here hx rfl (hb hby at_198) k) ?_
      refine own_go (T' := T338) (g' := (mkF m 203 #[iv x0, iv x1, iv x2, iv x3, iv x4, iv x5, iv (3 : Int32), iv (2 : Int32), rv b324, rv b_331, iv (1 : Int32), .unset] [(.int (1 : Int32))])) (fun t k => XS.goto X338.here hx rfl (pc0 := 199) (pc' := 203) rfl (hb hby at_199) (by decide) (by decide) k) ?_
      refine own_go (T' := T338) (g' := (mkF m 205 #[iv x0, iv x1, iv x2, iv x3, iv x4, iv x5, iv (3 : Int32), iv (2 : Int32), rv b324, rv b_331, iv (1 : Int32), iv (1 : Int32)] [])) (fun t k => XS.istore X338.here hx rfl (hb hby at_203) rfl (l' := #[iv x0, iv x1, iv x2, iv x3, iv x4, iv x5, iv (3 : Int32), iv (2 : Int32), rv b324, rv b_331, iv (1 : Int32), iv (1 : Int32)]) rfl k) ?_
      refine own_go (T' := T338) (g' := (mkF m 207 #[iv x0, iv x1, iv x2, iv x3, iv x4, iv x5, iv (3 : Int32), iv (2 : Int32), rv b324, rv b_331, iv (1 : Int32), iv (1 : Int32)] [(.int (1 : Int32))])) (fun t k => XS.iload X338.here hx rfl (hb hby at_205) rfl k) ?_
      refine own_go (T' := T338) (g' := (mkF m 210 #[iv x0, iv x1, iv x2, iv x3, iv x4, iv x5, iv (3 : Int32), iv (2 : Int32), rv b324, rv b_331, iv (1 : Int32), iv (1 : Int32)] [])) (fun t k => XS.ifNo X338.here hx rfl (hb hby at_207) rfl ((if0 _ _).trans (feq (by decide : ¬ ((1 : Int32) = (0 : Int32)))).1) k) ?_
      refine own_go (T' := T338) (g' := (mkF m 212 #[iv x0, iv x1, iv x2, iv x3, iv x4, iv x5, iv (3 : Int32), iv (2 : Int32), rv b324, rv b_331, iv (1 : Int32), iv (1 : Int32)] [(.int (1 : Int32))])) (fun t k => XS.iload X338.here hx rfl (hb hby at_210) rfl k) ?_
      refine own_go (T' := T338) (g' := (mkF m 215 #[iv x0, iv x1, iv x2, iv x3, iv x4, iv x5, iv (3 : Int32), iv (2 : Int32), rv b324, rv b_331, iv (1 : Int32), iv (1 : Int32)] [])) (fun t k => XS.ifNo X338.here hx rfl (hb hby at_212) rfl ((if0 _ _).trans (feq (by decide : ¬ ((1 : Int32) = (0 : Int32)))).1) k) ?_
      refine own_go (T' := T338) (g' := (mkF m 216 #[iv x0, iv x1, iv x2, iv x3, iv x4, iv x5, iv (3 : Int32), iv (2 : Int32), rv b324, rv b_331, iv (1 : Int32), iv (1 : Int32)] [(.int (1 : Int32))])) (fun t k => XS.iconst X338.here hx rfl (hb hby at_215) k) ?_
      refine own_go (T' := T338) (g' := (mkF m 220 #[iv x0, iv x1, iv x2, iv x3, iv x4, iv x5, iv (3 : Int32), iv (2 : Int32), rv b324, rv b_331, iv (1 : Int32), iv (1 : Int32)] [(.int (1 : Int32))])) (fun t k => XS.goto X338.here hx rfl (pc0 := 216) (pc' := 220) rfl (hb hby at_216) (by decide) (by decide) k) ?_
      exact own_ret X338 hlk hx Bd.returns rfl (Or.inl ⟨rfl, Or.inr (Or.inl rfl), _, rfl⟩) (hb hby at_220) (by first | exact ⟨rfl, N338⟩ | (rw [Fr] at *; exact ⟨rfl, by simpa using N338⟩)) (by decide) (by decide)
    · rw [ha]
      refine own_go (T' := s₁) (g' := (mkF m 21 #[iv x0, iv x1, iv x2, iv x3, iv x4, iv x5, iv (3 : Int32), iv (3 : Int32), .unset, .unset, .unset, .unset] [])) (fun t k => XS.istore X0.here hx rfl (hb hby at_19) rfl (l' := #[iv x0, iv x1, iv x2, iv x3, iv x4, iv x5, iv (3 : Int32), iv (3 : Int32), .unset, .unset, .unset, .unset]) rfl k) ?_
      refine own_go (T' := s₁) (g' := (mkF m 23 #[iv x0, iv x1, iv x2, iv x3, iv x4, iv x5, iv (3 : Int32), iv (3 : Int32), .unset, .unset, .unset, .unset] [(.int (3 : Int32))])) (fun t k => XS.iload X0.here hx rfl (hb hby at_21) rfl k) ?_
      obtain ⟨T342, h342, k342, X342, e342, E342, A342, st342⟩ := newP X0 hx hZ (hw _ (List.mem_of_getElem? (i := 1) rfl)) e0 (g := (mkF m 23 #[iv x0, iv x1, iv x2, iv x3, iv x4, iv x5, iv (3 : Int32), iv (3 : Int32), .unset, .unset, .unset, .unset] [(.int (3 : Int32))])) rfl (hb hby at_23) rfl (by decide) (cap := 3) (by decide) (by decide) (by decide) (by decide)
      obtain ⟨b342, g342⟩ : ∃ z, z = h0.size := ⟨_, rfl⟩
      rw [← g342] at A342 st342
      have gn342 : n0 ≤ b342 := Nat.le_trans Z0 (Nat.le_of_eq g342.symm)
      have hz342 : n0 ≤ h342.size := Nat.le_trans Z0 E342.1
      have V342 : Arv Z h342 b342 k342 .int (3 : Int32) [(.int (0 : Int32)), (.int (0 : Int32)), (.int (0 : Int32))] (.int (0 : Int32)) := (Arv.new A342 (by decide)).pad (pad_rep [] (.int (0 : Int32)) 3)
      refine own_go (T' := T342) (g' := (mkF m 25 #[iv x0, iv x1, iv x2, iv x3, iv x4, iv x5, iv (3 : Int32), iv (3 : Int32), .unset, .unset, .unset, .unset] [(.ref b342)])) (st342) ?_
      refine own_go (T' := T342) (g' := (mkF m 27 #[iv x0, iv x1, iv x2, iv x3, iv x4, iv x5, iv (3 : Int32), iv (3 : Int32), rv b342, .unset, .unset, .unset] [])) (fun t k => XS.astore X342.here hx rfl (hb hby at_25) rfl rfl (l' := #[iv x0, iv x1, iv x2, iv x3, iv x4, iv x5, iv (3 : Int32), iv (3 : Int32), rv b342, .unset, .unset, .unset]) rfl k) ?_
      refine own_go (T' := T342) (g' := (mkF m 29 #[iv x0, iv x1, iv x2, iv x3, iv x4, iv x5, iv (3 : Int32), iv (3 : Int32), rv b342, .unset, .unset, .unset] [(.int (3 : Int32))])) (fun t k => XS.iload X342.here hx rfl (hb hby at_27) rfl k) ?_
      refine own_go (T' := T342) (g' := (mkF m 32 #[iv x0, iv x1, iv x2, iv x3, iv x4, iv x5, iv (3 : Int32), iv (3 : Int32), rv b342, .unset, .unset, .unset] [])) (fun t k => XS.ifNo X342.here hx rfl (hb hby at_29) rfl ((if0 _ _).trans (tlt (by decide : ((0 : Int32) < (3 : Int32)))).2.2.2) k) ?_
      refine own_go (T' := T342) (g' := (mkF m 34 #[iv x0, iv x1, iv x2, iv x3, iv x4, iv x5, iv (3 : Int32), iv (3 : Int32), rv b342, .unset, .unset, .unset] [(.ref b342)])) (fun t k => XS.aload X342.here hx rfl (hb hby at_32) rfl rfl k) ?_
      refine own_go (T' := T342) (g' := (mkF m 35 #[iv x0, iv x1, iv x2, iv x3, iv x4, iv x5, iv (3 : Int32), iv (3 : Int32), rv b342, .unset, .unset, .unset] [(.int (0 : Int32)), (.ref b342)])) (fun t k => XS.iconst X342.here hx rfl (hb hby at_34) k) ?_
      refine own_go (T' := T342) (g' := (mkF m 36 #[iv x0, iv x1, iv x2, iv x3, iv x4, iv x5, iv (3 : Int32), iv (3 : Int32), rv b342, .unset, .unset, .unset] [(.int x0), (.int (0 : Int32)), (.ref b342)])) (fun t k => XS.iloadN X342.here hx rfl (hb hby at_35) rfl k) ?_
      obtain ⟨cl343, Ar343, q343, Sz343, Nn343, Ha343, Ga343⟩ := id V342
      have hin343 : ¬ ((0 : Int32) < 0 ∨ cl343.slots.size ≤ ((0 : Int32)).toNatClampNeg) := inb_of Sz343 ⟨by decide, by decide⟩
      obtain ⟨T343, h343, X343, e343, W343, st343⟩ := stI X342 hx hZ e342 Ar343 (j := (0 : Int32)) hin343 (g := (mkF m 36 #[iv x0, iv x1, iv x2, iv x3, iv x4, iv x5, iv (3 : Int32), iv (3 : Int32), rv b342, .unset, .unset, .unset] [(.int x0), (.int (0 : Int32)), (.ref b342)])) rfl rfl (hb hby at_36)
      have hz343 : n0 ≤ h343.size := Nat.le_trans hz342 (Keep.of_wr W343).1
      have N343 := Fr.snoc X343 N0 gn342
      have V343 : Arv Z h343 b342 k342 .int (3 : Int32) [(.int x0), (.int (0 : Int32)), (.int (0 : Int32))] (.int (0 : Int32)) := Arv.set Ar343 q343 Sz343 Nn343 Ha343 Ga343 rfl W343 0 rfl (Nat.le_of_ble_eq_true rfl)
      refine own_go (T' := T343) (g' := (mkF m 37 #[iv x0, iv x1, iv x2, iv x3, iv x4, iv x5, iv (3 : Int32), iv (3 : Int32), rv b342, .unset, .unset, .unset] [])) (st343) ?_
      refine own_go (T' := T343) (g' := (mkF m 39 #[iv x0, iv x1, iv x2, iv x3, iv x4, iv x5, iv (3 : Int32), iv (3 : Int32), rv b342, .unset, .unset, .unset] [(.int (3 : Int32))])) (fun t k => XS.iload X343.here hx rfl (hb hby at_37) rfl k) ?_
      refine own_go (T' := T343) (g' := (mkF m 40 #[iv x0, iv x1, iv x2, iv x3, iv x4, iv x5, iv (3 : Int32), iv (3 : Int32), rv b342, .unset, .unset, .unset] [(.int (1 : Int32)), (.int (3 : Int32))])) (fun t k => XS.iconst X343.here hx rfl (hb hby at_39) k) ?_
      refine own_go (T' := T343) (g' := (mkF m 43 #[iv x0, iv x1, iv x2, iv x3, iv x4, iv x5, iv (3 : Int32), iv (3 : Int32), rv b342, .unset, .unset, .unset] [])) (fun t k => XS.icmpNo X343.here hx rfl (hb hby at_40) rfl (tlt (by decide : ((1 : Int32) < (3 : Int32)))).2.2.2 k) ?_
      refine own_go (T' := T343) (g' := (mkF m 45 #[iv x0, iv x1, iv x2, iv x3, iv x4, iv x5, iv (3 : Int32), iv (3 : Int32), rv b342, .unset, .unset, .unset] [(.ref b342)])) (fun t k => XS.aload X343.here hx rfl (hb hby at_43) rfl rfl k) ?_
      refine own_go (T' := T343) (g' := (mkF m 46 #[iv x0, iv x1, iv x2, iv x3, iv x4, iv x5, iv (3 : Int32), iv (3 : Int32), rv b342, .unset, .unset, .unset] [(.int (1 : Int32)), (.ref b342)])) (fun t k => XS.iconst X343.here hx rfl (hb hby at_45) k) ?_
      refine own_go (T' := T343) (g' := (mkF m 47 #[iv x0, iv x1, iv x2, iv x3, iv x4, iv x5, iv (3 : Int32), iv (3 : Int32), rv b342, .unset, .unset, .unset] [(.int x1), (.int (1 : Int32)), (.ref b342)])) (fun t k => XS.iloadN X343.here hx rfl (hb hby at_46) rfl k) ?_
      obtain ⟨cl345, Ar345, q345, Sz345, Nn345, Ha345, Ga345⟩ := id V343
      have hin345 : ¬ ((1 : Int32) < 0 ∨ cl345.slots.size ≤ ((1 : Int32)).toNatClampNeg) := inb_of Sz345 ⟨by decide, by decide⟩
      obtain ⟨T345, h345, X345, e345, W345, st345⟩ := stI X343 hx hZ e343 Ar345 (j := (1 : Int32)) hin345 (g := (mkF m 47 #[iv x0, iv x1, iv x2, iv x3, iv x4, iv x5, iv (3 : Int32), iv (3 : Int32), rv b342, .unset, .unset, .unset] [(.int x1), (.int (1 : Int32)), (.ref b342)])) rfl rfl (hb hby at_47)
      have hz345 : n0 ≤ h345.size := Nat.le_trans hz343 (Keep.of_wr W345).1
      have N345 := Fr.snoc X345 N343 gn342
      have V345 : Arv Z h345 b342 k342 .int (3 : Int32) [(.int x0), (.int x1), (.int (0 : Int32))] (.int (0 : Int32)) := Arv.set Ar345 q345 Sz345 Nn345 Ha345 Ga345 rfl W345 1 rfl (Nat.le_of_ble_eq_true rfl)
      refine own_go (T' := T345) (g' := (mkF m 48 #[iv x0, iv x1, iv x2, iv x3, iv x4, iv x5, iv (3 : Int32), iv (3 : Int32), rv b342, .unset, .unset, .unset] [])) (st345) ?_
      refine own_go (T' := T345) (g' := (mkF m 50 #[iv x0, iv x1, iv x2, iv x3, iv x4, iv x5, iv (3 : Int32), iv (3 : Int32), rv b342, .unset, .unset, .unset] [(.int (3 : Int32))])) (fun t k => XS.iload X345.here hx rfl (hb hby at_48) rfl k) ?_
      refine own_go (T' := T345) (g' := (mkF m 51 #[iv x0, iv x1, iv x2, iv x3, iv x4, iv x5, iv (3 : Int32), iv (3 : Int32), rv b342, .unset, .unset, .unset] [(.int (2 : Int32)), (.int (3 : Int32))])) (fun t k => XS.iconst X345.here hx rfl (hb hby at_50) k) ?_
      refine own_go (T' := T345) (g' := (mkF m 54 #[iv x0, iv x1, iv x2, iv x3, iv x4, iv x5, iv (3 : Int32), iv (3 : Int32), rv b342, .unset, .unset, .unset] [])) (fun t k => XS.icmpNo X345.here hx rfl (hb hby at_51) rfl (tlt (by decide : ((2 : Int32) < (3 : Int32)))).2.2.2 k) ?_
      refine own_go (T' := T345) (g' := (mkF m 56 #[iv x0, iv x1, iv x2, iv x3, iv x4, iv x5, iv (3 : Int32), iv (3 : Int32), rv b342, .unset, .unset, .unset] [(.ref b342)])) (fun t k => XS.aload X345.here hx rfl (hb hby at_54) rfl rfl k) ?_
      refine own_go (T' := T345) (g' := (mkF m 57 #[iv x0, iv x1, iv x2, iv x3, iv x4, iv x5, iv (3 : Int32), iv (3 : Int32), rv b342, .unset, .unset, .unset] [(.int (2 : Int32)), (.ref b342)])) (fun t k => XS.iconst X345.here hx rfl (hb hby at_56) k) ?_
      refine own_go (T' := T345) (g' := (mkF m 58 #[iv x0, iv x1, iv x2, iv x3, iv x4, iv x5, iv (3 : Int32), iv (3 : Int32), rv b342, .unset, .unset, .unset] [(.int x2), (.int (2 : Int32)), (.ref b342)])) (fun t k => XS.iloadN X345.here hx rfl (hb hby at_57) rfl k) ?_
      obtain ⟨cl347, Ar347, q347, Sz347, Nn347, Ha347, Ga347⟩ := id V345
      have hin347 : ¬ ((2 : Int32) < 0 ∨ cl347.slots.size ≤ ((2 : Int32)).toNatClampNeg) := inb_of Sz347 ⟨by decide, by decide⟩
      obtain ⟨T347, h347, X347, e347, W347, st347⟩ := stI X345 hx hZ e345 Ar347 (j := (2 : Int32)) hin347 (g := (mkF m 58 #[iv x0, iv x1, iv x2, iv x3, iv x4, iv x5, iv (3 : Int32), iv (3 : Int32), rv b342, .unset, .unset, .unset] [(.int x2), (.int (2 : Int32)), (.ref b342)])) rfl rfl (hb hby at_58)
      have hz347 : n0 ≤ h347.size := Nat.le_trans hz345 (Keep.of_wr W347).1
      have N347 := Fr.snoc X347 N345 gn342
      have V347 : Arv Z h347 b342 k342 .int (3 : Int32) [(.int x0), (.int x1), (.int x2)] (.int (0 : Int32)) := Arv.set Ar347 q347 Sz347 Nn347 Ha347 Ga347 rfl W347 2 rfl (Nat.le_of_ble_eq_true rfl)
      refine own_go (T' := T347) (g' := (mkF m 59 #[iv x0, iv x1, iv x2, iv x3, iv x4, iv x5, iv (3 : Int32), iv (3 : Int32), rv b342, .unset, .unset, .unset] [])) (st347) ?_
      refine own_go (T' := T347) (g' := (mkF m 61 #[iv x0, iv x1, iv x2, iv x3, iv x4, iv x5, iv (3 : Int32), iv (3 : Int32), rv b342, .unset, .unset, .unset] [(.ref b342)])) (fun t k => XS.aload X347.here hx rfl (hb hby at_59) rfl rfl k) ?_
      refine own_go (T' := T347) (g' := (mkF m 63 #[iv x0, iv x1, iv x2, iv x3, iv x4, iv x5, iv (3 : Int32), iv (3 : Int32), rv b342, .unset, .unset, .unset] [(.int (3 : Int32)), (.ref b342)])) (fun t k => XS.iload X347.here hx rfl (hb hby at_61) rfl k) ?_
      refine own_go (T' := T347) (g' := (mkF m 64 #[iv x0, iv x1, iv x2, iv x3, iv x4, iv x5, iv (3 : Int32), iv (3 : Int32), rv b342, .unset, .unset, .unset] [(.int x3), (.int (3 : Int32)), (.ref b342)])) (fun t k => XS.iloadN X347.here hx rfl (hb hby at_63) rfl k) ?_
      obtain ⟨_, _, ⟨T349, L349, k349, n349⟩, -, X349, ⟨Lc349, hQ349, l349, y349, z349⟩, st349⟩ := Jvm.LawKit.callS X347 hx (y := (⟨"com/example/tankroute/tankroute/solve/Solution$Tour", "withStop", "([III)[I"⟩ : MethodName)) hown (mvT hZ (hw _ (List.mem_of_getElem? (i := 2) rfl))) (mvT hZ (hw _ (List.mem_of_getElem? (i := 3) rfl))) (mvT hZ (hw _ (List.mem_of_getElem? (i := 4) rfl))) (mvT hZ (hw _ (List.mem_of_getElem? (i := 5) rfl))) (by decide) (backOf (W := 0) (own_ws_3_3 l Z a0 hw [] x0 x1 x2 x3 b342 k342 h347 n0 hz347 V347) hZ (hw _ (List.mem_of_getElem? (i := 5) rfl)) (hw _ (List.mem_of_getElem? (i := 4) rfl)) (by decide) (by decide)) (g := (mkF m 64 #[iv x0, iv x1, iv x2, iv x3, iv x4, iv x5, iv (3 : Int32), iv (3 : Int32), rv b342, .unset, .unset, .unset] [(.int x3), (.int (3 : Int32)), (.ref b342)])) rfl (by rw [hml]; rfl) (argsL := [(.ref b342), (.int (3 : Int32)), (.int x3)]) (rest := []) (lenOf own_pd0 rfl) rfl (by show 2 * 0 + _ ≤ _; exact Nat.le_of_eq rfl) (hb hby at_64) (fun _ _ => ⟨rfl, e347, (by decide : 1 + 1 ≤ _), (by decide : 3 + 4 ≤ _)⟩)
      dsimp only [Pt.U, Pt.locs, Pt.cells, Pt.slots] at X349 l349 y349 z349 st349 hQ349
      subst l349 y349 z349
      obtain ⟨b_349, k_349, rfl, N349q, ob_349, K_349, V_349⟩ := hQ349
      have N349 := Fr.app N347 N349q
      have nq349 : b342 ≠ b_349 := Nat.ne_of_lt (Nat.lt_of_lt_of_le V347.lt ob_349)
      have gq349 : n0 ≤ b_349 := Nat.le_trans hz347 ob_349
      have c351 := V347.keep K_349 nin0
      have hz349 : n0 ≤ T349.heap.size := Nat.le_trans hz347 K_349.1
      refine own_go (T' := T349) (g' := (mkF m 67 #[iv x0, iv x1, iv x2, iv x3, iv x4, iv x5, iv (3 : Int32), iv (3 : Int32), rv b342, .unset, .unset, .unset] [(.ref b_349)])) (st349) ?_
      refine own_go (T' := T349) (g' := (mkF m 69 #[iv x0, iv x1, iv x2, iv x3, iv x4, iv x5, iv (3 : Int32), iv (3 : Int32), rv b342, rv b_349, .unset, .unset] [])) (fun t k => XS.astore X349.here hx rfl (hb hby at_67) rfl rfl (l' := #[iv x0, iv x1, iv x2, iv x3, iv x4, iv x5, iv (3 : Int32), iv (3 : Int32), rv b342, rv b_349, .unset, .unset]) rfl k) ?_
      refine own_go (T' := T349) (g' := (mkF m 71 #[iv x0, iv x1, iv x2, iv x3, iv x4, iv x5, iv (3 : Int32), iv (3 : Int32), rv b342, rv b_349, .unset, .unset] [(.ref b_349)])) (fun t k => XS.aload X349.here hx rfl (hb hby at_69) rfl rfl k) ?_
      refine own_go (T' := T349) (g' := (mkF m 74 #[iv x0, iv x1, iv x2, iv x3, iv x4, iv x5, iv (3 : Int32), iv (3 : Int32), rv b342, rv b_349, .unset, .unset] [])) (fun t k => XS.ifnullNo X349.here hx rfl (hb hby at_71) rfl k) ?_
      refine own_go (T' := T349) (g' := (mkF m 76 #[iv x0, iv x1, iv x2, iv x3, iv x4, iv x5, iv (3 : Int32), iv (3 : Int32), rv b342, rv b_349, .unset, .unset] [(.ref b_349)])) (fun t k => XS.aload X349.here hx rfl (hb hby at_74) rfl rfl k) ?_
      refine own_go (T' := T349) (g' := (mkF m 78 #[iv x0, iv x1, iv x2, iv x3, iv x4, iv x5, iv (3 : Int32), iv (3 : Int32), rv b342, rv b_349, .unset, .unset] [(.ref b342), (.ref b_349)])) (fun t k => XS.aload X349.here hx rfl (hb hby at_76) rfl rfl k) ?_
      refine own_go (T' := T349) (g' := (mkF m 81 #[iv x0, iv x1, iv x2, iv x3, iv x4, iv x5, iv (3 : Int32), iv (3 : Int32), rv b342, rv b_349, .unset, .unset] [])) (fun t k => Jvm.RoadKit.acmp (g := (mkF m 78 #[iv x0, iv x1, iv x2, iv x3, iv x4, iv x5, iv (3 : Int32), iv (3 : Int32), rv b342, rv b_349, .unset, .unset] [(.ref b342), (.ref b_349)])) X349 hx rfl (x := (.ref b_349)) (y := (.ref b342)) rfl rfl (pc0 := 78) (pc' := 81) (same := false) rfl (hb hby at_78) rfl (decide_eq_false fun q => (Ne.symm nq349) (Value.ref.inj q)) (by decide) (by decide) k) ?_
      refine own_go (T' := T349) (g' := (mkF m 83 #[iv x0, iv x1, iv x2, iv x3, iv x4, iv x5, iv (3 : Int32), iv (3 : Int32), rv b342, rv b_349, .unset, .unset] [(.ref b_349)])) (fun t k => XS.aload X349.here hx rfl (hb hby at_81) rfl rfl k) ?_
      obtain ⟨cl352, Ar352, -, Sz352, Nn352, -, -⟩ := id V_349
      refine own_go (T' := T349) (g' := (mkF m 84 #[iv x0, iv x1, iv x2, iv x3, iv x4, iv x5, iv (3 : Int32), iv (3 : Int32), rv b342, rv b_349, .unset, .unset] [(.int (4 : Int32))])) (fun t k => X349.arraylength hx (by exact Ar352.1) (State.isArrayOf_alike hZ.alike Ar352.2.1) (g := (mkF m 83 #[iv x0, iv x1, iv x2, iv x3, iv x4, iv x5, iv (3 : Int32), iv (3 : Int32), rv b342, rv b_349, .unset, .unset] [(.ref b_349)])) rfl rfl (hb hby at_83) _ (by rw [len_of Sz352 Nn352]; exact k)) ?_
      refine own_go (T' := T349) (g' := (mkF m 86 #[iv x0, iv x1, iv x2, iv x3, iv x4, iv x5, iv (3 : Int32), iv (3 : Int32), rv b342, rv b_349, .unset, .unset] [(.int (3 : Int32)), (.int (4 : Int32))])) (fun t k => XS.iload X349.here hx rfl (hb hby at_84) rfl k) ?_
      refine own_go (T' := T349) (g' := (mkF m 87 #[iv x0, iv x1, iv x2, iv x3, iv x4, iv x5, iv (3 : Int32), iv (3 : Int32), rv b342, rv b_349, .unset, .unset] [(.int (1 : Int32)), (.int (3 : Int32)), (.int (4 : Int32))])) (fun t k => XS.iconst X349.here hx rfl (hb hby at_86) k) ?_
      refine own_go (T' := T349) (g' := (mkF m 88 #[iv x0, iv x1, iv x2, iv x3, iv x4, iv x5, iv (3 : Int32), iv (3 : Int32), rv b342, rv b_349, .unset, .unset] [(.int (4 : Int32)), (.int (4 : Int32))])) (fun t k => XS.iadd X349.here hx rfl (hb hby at_87) rfl k) ?_
      refine own_go (T' := T349) (g' := (mkF m 93 #[iv x0, iv x1, iv x2, iv x3, iv x4, iv x5, iv (3 : Int32), iv (3 : Int32), rv b342, rv b_349, .unset, .unset] [])) (fun t k => XS.icmpYes X349.here hx rfl (pc0 := 88) (pc' := 93) rfl (hb hby at_88) rfl (teq (by decide : ((4 : Int32) = (4 : Int32)))).1 (by decide) (by decide) k) ?_
      refine own_go (T' := T349) (g' := (mkF m 95 #[iv x0, iv x1, iv x2, iv x3, iv x4, iv x5, iv (3 : Int32), iv (3 : Int32), rv b342, rv b_349, .unset, .unset] [(.ref b_349)])) (fun t k => XS.aload X349.here hx rfl (hb hby at_93) rfl rfl k) ?_
      refine own_go (T' := T349) (g' := (mkF m 97 #[iv x0, iv x1, iv x2, iv x3, iv x4, iv x5, iv (3 : Int32), iv (3 : Int32), rv b342, rv b_349, .unset, .unset] [(.ref b342), (.ref b_349)])) (fun t k => XS.aload X349.here hx rfl (hb hby at_95) rfl rfl k) ?_
      refine own_go (T' := T349) (g' := (mkF m 99 #[iv x0, iv x1, iv x2, iv x3, iv x4, iv x5, iv (3 : Int32), iv (3 : Int32), rv b342, rv b_349, .unset, .unset] [(.int (3 : Int32)), (.ref b342), (.ref b_349)])) (fun t k => XS.iload X349.here hx rfl (hb hby at_97) rfl k) ?_
      refine own_go (T' := T349) (g' := (mkF m 100 #[iv x0, iv x1, iv x2, iv x3, iv x4, iv x5, iv (3 : Int32), iv (3 : Int32), rv b342, rv b_349, .unset, .unset] [(.int x3), (.int (3 : Int32)), (.ref b342), (.ref b_349)])) (fun t k => XS.iloadN X349.here hx rfl (hb hby at_99) rfl k) ?_
      refine own_go (T' := T349) (g' := (mkF m 101 #[iv x0, iv x1, iv x2, iv x3, iv x4, iv x5, iv (3 : Int32), iv (3 : Int32), rv b342, rv b_349, .unset, .unset] [(.int (0 : Int32)), (.int x3), (.int (3 : Int32)), (.ref b342), (.ref b_349)])) (fun t k => XS.iconst X349.here hx rfl (hb hby at_100) k) ?_
      obtain ⟨_, _, ⟨T353, L353, k353, n353⟩, -, X353, ⟨Lc353, hQ353, l353, y353, z353⟩, st353⟩ := Jvm.LawKit.callS X349 hx (y := (⟨"com/example/tankroute/tankroute/solve/TourWithStopPinLaw", "slot", "([I[IIII)Z"⟩ : MethodName)) hown (mvT hZ (hw _ (List.mem_of_getElem? (i := 10) rfl))) (mvT hZ (hw _ (List.mem_of_getElem? (i := 11) rfl))) (mvT hZ (hw _ (List.mem_of_getElem? (i := 12) rfl))) (mvT hZ (hw _ (List.mem_of_getElem? (i := 13) rfl))) (by decide) (backOf (W := 0) (own_slotB l Z a0 hw [] b_349 b342 k_349 k342 (4 : Int32) (3 : Int32) (3 : Int32) x3 (0 : Int32) x0 [(.int x0), (.int x1), (.int x2), (.int x3)] [(.int x0), (.int x1), (.int x2)] T349.heap n0 hz349 V_349 c351 (by decide) (by decide) (by decide) (by decide) rfl rfl) hZ (hw _ (List.mem_of_getElem? (i := 13) rfl)) (hw _ (List.mem_of_getElem? (i := 12) rfl)) (by decide) (by decide)) (g := (mkF m 101 #[iv x0, iv x1, iv x2, iv x3, iv x4, iv x5, iv (3 : Int32), iv (3 : Int32), rv b342, rv b_349, .unset, .unset] [(.int (0 : Int32)), (.int x3), (.int (3 : Int32)), (.ref b342), (.ref b_349)])) rfl (by rw [hml]; rfl) (argsL := [(.ref b_349), (.ref b342), (.int (3 : Int32)), (.int x3), (.int (0 : Int32))]) (rest := []) (lenOf own_pd1 rfl) rfl (by show 2 * 0 + _ ≤ _; exact Nat.le_of_eq rfl) (hb hby at_101) (fun _ _ => ⟨rfl, rfl, (by decide : 2 + 0 ≤ _), (by decide : 7 + 0 ≤ _)⟩)
      dsimp only [Pt.U, Pt.locs, Pt.cells, Pt.slots] at X353 l353 y353 z353 st353 hQ353
      subst l353 y353 z353
      obtain ⟨rfl, rfl, e353⟩ := hQ353
      have E353q : T353.heap = T349.heap := e353
      have N353 := Fr.app N349 (Fr.nil n0)
      refine own_go (T' := T353) (g' := (mkF m 104 #[iv x0, iv x1, iv x2, iv x3, iv x4, iv x5, iv (3 : Int32), iv (3 : Int32), rv b342, rv b_349, .unset, .unset] [(.int (1 : Int32))])) (st353) ?_
      refine own_go (T' := T353) (g' := (mkF m 107 #[iv x0, iv x1, iv x2, iv x3, iv x4, iv x5, iv (3 : Int32), iv (3 : Int32), rv b342, rv b_349, .unset, .unset] [])) (fun t k => XS.ifNo X353.here hx rfl (hb hby at_104) rfl ((if0 _ _).trans (feq (by decide : ¬ ((1 : Int32) = (0 : Int32)))).1) k) ?_
      refine own_go (T' := T353) (g' := (mkF m 109 #[iv x0, iv x1, iv x2, iv x3, iv x4, iv x5, iv (3 : Int32), iv (3 : Int32), rv b342, rv b_349, .unset, .unset] [(.ref b_349)])) (fun t k => XS.aload X353.here hx rfl (hb hby at_107) rfl rfl k) ?_
      refine own_go (T' := T353) (g' := (mkF m 111 #[iv x0, iv x1, iv x2, iv x3, iv x4, iv x5, iv (3 : Int32), iv (3 : Int32), rv b342, rv b_349, .unset, .unset] [(.ref b342), (.ref b_349)])) (fun t k => XS.aload X353.here hx rfl (hb hby at_109) rfl rfl k) ?_
      refine own_go (T' := T353) (g' := (mkF m 113 #[iv x0, iv x1, iv x2, iv x3, iv x4, iv x5, iv (3 : Int32), iv (3 : Int32), rv b342, rv b_349, .unset, .unset] [(.int (3 : Int32)), (.ref b342), (.ref b_349)])) (fun t k => XS.iload X353.here hx rfl (hb hby at_111) rfl k) ?_
      refine own_go (T' := T353) (g' := (mkF m 114 #[iv x0, iv x1, iv x2, iv x3, iv x4, iv x5, iv (3 : Int32), iv (3 : Int32), rv b342, rv b_349, .unset, .unset] [(.int x3), (.int (3 : Int32)), (.ref b342), (.ref b_349)])) (fun t k => XS.iloadN X353.here hx rfl (hb hby at_113) rfl k) ?_
      refine own_go (T' := T353) (g' := (mkF m 115 #[iv x0, iv x1, iv x2, iv x3, iv x4, iv x5, iv (3 : Int32), iv (3 : Int32), rv b342, rv b_349, .unset, .unset] [(.int (1 : Int32)), (.int x3), (.int (3 : Int32)), (.ref b342), (.ref b_349)])) (fun t k => XS.iconst X353.here hx rfl (hb hby at_114) k) ?_
      obtain ⟨_, _, ⟨T354, L354, k354, n354⟩, -, X354, ⟨Lc354, hQ354, l354, y354, z354⟩, st354⟩ := Jvm.LawKit.callS X353 hx (y := (⟨"com/example/tankroute/tankroute/solve/TourWithStopPinLaw", "slot", "([I[IIII)Z"⟩ : MethodName)) hown (mvT hZ (hw _ (List.mem_of_getElem? (i := 10) rfl))) (mvT hZ (hw _ (List.mem_of_getElem? (i := 11) rfl))) (mvT hZ (hw _ (List.mem_of_getElem? (i := 12) rfl))) (mvT hZ (hw _ (List.mem_of_getElem? (i := 13) rfl))) (by decide) (backOf (W := 0) (own_slotB l Z a0 hw [] b_349 b342 k_349 k342 (4 : Int32) (3 : Int32) (3 : Int32) x3 (1 : Int32) x1 [(.int x0), (.int x1), (.int x2), (.int x3)] [(.int x0), (.int x1), (.int x2)] T349.heap n0 hz349 V_349 c351 (by decide) (by decide) (by decide) (by decide) rfl rfl) hZ (hw _ (List.mem_of_getElem? (i := 13) rfl)) (hw _ (List.mem_of_getElem? (i := 12) rfl)) (by decide) (by decide)) (g := (mkF m 115 #[iv x0, iv x1, iv x2, iv x3, iv x4, iv x5, iv (3 : Int32), iv (3 : Int32), rv b342, rv b_349, .unset, .unset] [(.int (1 : Int32)), (.int x3), (.int (3 : Int32)), (.ref b342), (.ref b_349)])) rfl (by rw [hml]; rfl) (argsL := [(.ref b_349), (.ref b342), (.int (3 : Int32)), (.int x3), (.int (1 : Int32))]) (rest := []) (lenOf own_pd1 rfl) rfl (by show 2 * 0 + _ ≤ _; exact Nat.le_of_eq rfl) (hb hby at_115) (fun _ _ => ⟨rfl, E353q, (by decide : 2 + 0 ≤ _), (by decide : 7 + 0 ≤ _)⟩)
      dsimp only [Pt.U, Pt.locs, Pt.cells, Pt.slots] at X354 l354 y354 z354 st354 hQ354
      subst l354 y354 z354
      obtain ⟨rfl, rfl, e354⟩ := hQ354
      have E354q : T354.heap = T349.heap := e354
      have N354 := Fr.app N353 (Fr.nil n0)
      refine own_go (T' := T354) (g' := (mkF m 118 #[iv x0, iv x1, iv x2, iv x3, iv x4, iv x5, iv (3 : Int32), iv (3 : Int32), rv b342, rv b_349, .unset, .unset] [(.int (1 : Int32))])) (st354) ?_
      refine own_go (T' := T354) (g' := (mkF m 121 #[iv x0, iv x1, iv x2, iv x3, iv x4, iv x5, iv (3 : Int32), iv (3 : Int32), rv b342, rv b_349, .unset, .unset] [])) (fun t k => XS.ifNo X354.here hx rfl (hb hby at_118) rfl ((if0 _ _).trans (feq (by decide : ¬ ((1 : Int32) = (0 : Int32)))).1) k) ?_
      refine own_go (T' := T354) (g' := (mkF m 123 #[iv x0, iv x1, iv x2, iv x3, iv x4, iv x5, iv (3 : Int32), iv (3 : Int32), rv b342, rv b_349, .unset, .unset] [(.ref b_349)])) (fun t k => XS.aload X354.here hx rfl (hb hby at_121) rfl rfl k) ?_
      refine own_go (T' := T354) (g' := (mkF m 125 #[iv x0, iv x1, iv x2, iv x3, iv x4, iv x5, iv (3 : Int32), iv (3 : Int32), rv b342, rv b_349, .unset, .unset] [(.ref b342), (.ref b_349)])) (fun t k => XS.aload X354.here hx rfl (hb hby at_123) rfl rfl k) ?_
      refine own_go (T' := T354) (g' := (mkF m 127 #[iv x0, iv x1, iv x2, iv x3, iv x4, iv x5, iv (3 : Int32), iv (3 : Int32), rv b342, rv b_349, .unset, .unset] [(.int (3 : Int32)), (.ref b342), (.ref b_349)])) (fun t k => XS.iload X354.here hx rfl (hb hby at_125) rfl k) ?_
      refine own_go (T' := T354) (g' := (mkF m 128 #[iv x0, iv x1, iv x2, iv x3, iv x4, iv x5, iv (3 : Int32), iv (3 : Int32), rv b342, rv b_349, .unset, .unset] [(.int x3), (.int (3 : Int32)), (.ref b342), (.ref b_349)])) (fun t k => XS.iloadN X354.here hx rfl (hb hby at_127) rfl k) ?_
      refine own_go (T' := T354) (g' := (mkF m 129 #[iv x0, iv x1, iv x2, iv x3, iv x4, iv x5, iv (3 : Int32), iv (3 : Int32), rv b342, rv b_349, .unset, .unset] [(.int (2 : Int32)), (.int x3), (.int (3 : Int32)), (.ref b342), (.ref b_349)])) (fun t k => XS.iconst X354.here hx rfl (hb hby at_128) k) ?_
      obtain ⟨_, _, ⟨T355, L355, k355, n355⟩, -, X355, ⟨Lc355, hQ355, l355, y355, z355⟩, st355⟩ := Jvm.LawKit.callS X354 hx (y := (⟨"com/example/tankroute/tankroute/solve/TourWithStopPinLaw", "slot", "([I[IIII)Z"⟩ : MethodName)) hown (mvT hZ (hw _ (List.mem_of_getElem? (i := 10) rfl))) (mvT hZ (hw _ (List.mem_of_getElem? (i := 11) rfl))) (mvT hZ (hw _ (List.mem_of_getElem? (i := 12) rfl))) (mvT hZ (hw _ (List.mem_of_getElem? (i := 13) rfl))) (by decide) (backOf (W := 0) (own_slotB l Z a0 hw [] b_349 b342 k_349 k342 (4 : Int32) (3 : Int32) (3 : Int32) x3 (2 : Int32) x2 [(.int x0), (.int x1), (.int x2), (.int x3)] [(.int x0), (.int x1), (.int x2)] T349.heap n0 hz349 V_349 c351 (by decide) (by decide) (by decide) (by decide) rfl rfl) hZ (hw _ (List.mem_of_getElem? (i := 13) rfl)) (hw _ (List.mem_of_getElem? (i := 12) rfl)) (by decide) (by decide)) (g := (mkF m 129 #[iv x0, iv x1, iv x2, iv x3, iv x4, iv x5, iv (3 : Int32), iv (3 : Int32), rv b342, rv b_349, .unset, .unset] [(.int (2 : Int32)), (.int x3), (.int (3 : Int32)), (.ref b342), (.ref b_349)])) rfl (by rw [hml]; rfl) (argsL := [(.ref b_349), (.ref b342), (.int (3 : Int32)), (.int x3), (.int (2 : Int32))]) (rest := []) (lenOf own_pd1 rfl) rfl (by show 2 * 0 + _ ≤ _; exact Nat.le_of_eq rfl) (hb hby at_129) (fun _ _ => ⟨rfl, E354q, (by decide : 2 + 0 ≤ _), (by decide : 7 + 0 ≤ _)⟩)
      dsimp only [Pt.U, Pt.locs, Pt.cells, Pt.slots] at X355 l355 y355 z355 st355 hQ355
      subst l355 y355 z355
      obtain ⟨rfl, rfl, e355⟩ := hQ355
      have E355q : T355.heap = T349.heap := e355
      have N355 := Fr.app N354 (Fr.nil n0)
      refine own_go (T' := T355) (g' := (mkF m 132 #[iv x0, iv x1, iv x2, iv x3, iv x4, iv x5, iv (3 : Int32), iv (3 : Int32), rv b342, rv b_349, .unset, .unset] [(.int (1 : Int32))])) (st355) ?_
      refine own_go (T' := T355) (g' := (mkF m 135 #[iv x0, iv x1, iv x2, iv x3, iv x4, iv x5, iv (3 : Int32), iv (3 : Int32), rv b342, rv b_349, .unset, .unset] [])) (fun t k => XS.ifNo X355.here hx rfl (hb hby at_132) rfl ((if0 _ _).trans (feq (by decide : ¬ ((1 : Int32) = (0 : Int32)))).1) k) ?_
      refine own_go (T' := T355) (g' := (mkF m 137 #[iv x0, iv x1, iv x2, iv x3, iv x4, iv x5, iv (3 : Int32), iv (3 : Int32), rv b342, rv b_349, .unset, .unset] [(.ref b_349)])) (fun t k => XS.aload X355.here hx rfl (hb hby at_135) rfl rfl k) ?_
      refine own_go (T' := T355) (g' := (mkF m 139 #[iv x0, iv x1, iv x2, iv x3, iv x4, iv x5, iv (3 : Int32), iv (3 : Int32), rv b342, rv b_349, .unset, .unset] [(.ref b342), (.ref b_349)])) (fun t k => XS.aload X355.here hx rfl (hb hby at_137) rfl rfl k) ?_
      refine own_go (T' := T355) (g' := (mkF m 141 #[iv x0, iv x1, iv x2, iv x3, iv x4, iv x5, iv (3 : Int32), iv (3 : Int32), rv b342, rv b_349, .unset, .unset] [(.int (3 : Int32)), (.ref b342), (.ref b_349)])) (fun t k => XS.iload X355.here hx rfl (hb hby at_139) rfl k) ?_
      refine own_go (T' := T355) (g' := (mkF m 142 #[iv x0, iv x1, iv x2, iv x3, iv x4, iv x5, iv (3 : Int32), iv (3 : Int32), rv b342, rv b_349, .unset, .unset] [(.int x3), (.int (3 : Int32)), (.ref b342), (.ref b_349)])) (fun t k => XS.iloadN X355.here hx rfl (hb hby at_141) rfl k) ?_
      refine own_go (T' := T355) (g' := (mkF m 143 #[iv x0, iv x1, iv x2, iv x3, iv x4, iv x5, iv (3 : Int32), iv (3 : Int32), rv b342, rv b_349, .unset, .unset] [(.int (3 : Int32)), (.int x3), (.int (3 : Int32)), (.ref b342), (.ref b_349)])) (fun t k => XS.iconst X355.here hx rfl (hb hby at_142) k) ?_
      obtain ⟨_, _, ⟨T356, L356, k356, n356⟩, -, X356, ⟨Lc356, hQ356, l356, y356, z356⟩, st356⟩ := Jvm.LawKit.callS X355 hx (y := (⟨"com/example/tankroute/tankroute/solve/TourWithStopPinLaw", "slot", "([I[IIII)Z"⟩ : MethodName)) hown (mvT hZ (hw _ (List.mem_of_getElem? (i := 10) rfl))) (mvT hZ (hw _ (List.mem_of_getElem? (i := 11) rfl))) (mvT hZ (hw _ (List.mem_of_getElem? (i := 12) rfl))) (mvT hZ (hw _ (List.mem_of_getElem? (i := 13) rfl))) (by decide) (backOf (W := 0) (own_slotC l Z a0 hw [] b_349 b342 k_349 k342 (4 : Int32) (3 : Int32) (3 : Int32)  (3 : Int32) x3 [(.int x0), (.int x1), (.int x2), (.int x3)] [(.int x0), (.int x1), (.int x2)] T349.heap n0 hz349 V_349 c351 (by decide) (by decide) rfl (by decide) rfl) hZ (hw _ (List.mem_of_getElem? (i := 13) rfl)) (hw _ (List.mem_of_getElem? (i := 12) rfl)) (by decide) (by decide)) (g := (mkF m 143 #[iv x0, iv x1, iv x2, iv x3, iv x4, iv x5, iv (3 : Int32), iv (3 : Int32), rv b342, rv b_349, .unset, .unset] [(.int (3 : Int32)), (.int x3), (.int (3 : Int32)), (.ref b342), (.ref b_349)])) rfl (by rw [hml]; rfl) (argsL := [(.ref b_349), (.ref b342), (.int (3 : Int32)), (.int x3), (.int (3 : Int32))]) (rest := []) (lenOf own_pd1 rfl) rfl (by show 2 * 0 + _ ≤ _; exact Nat.le_of_eq rfl) (hb hby at_143) (fun _ _ => ⟨rfl, E355q, (by decide : 2 + 0 ≤ _), (by decide : 7 + 0 ≤ _)⟩)
      dsimp only [Pt.U, Pt.locs, Pt.cells, Pt.slots] at X356 l356 y356 z356 st356 hQ356
      subst l356 y356 z356
      obtain ⟨rfl, rfl, e356⟩ := hQ356
      have E356q : T356.heap = T349.heap := e356
      have N356 := Fr.app N355 (Fr.nil n0)
      refine own_go (T' := T356) (g' := (mkF m 146 #[iv x0, iv x1, iv x2, iv x3, iv x4, iv x5, iv (3 : Int32), iv (3 : Int32), rv b342, rv b_349, .unset, .unset] [(.int (1 : Int32))])) (st356) ?_
      refine own_go (T' := T356) (g' := (mkF m 149 #[iv x0, iv x1, iv x2, iv x3, iv x4, iv x5, iv (3 : Int32), iv (3 : Int32), rv b342, rv b_349, .unset, .unset] [])) (fun t k => XS.ifNo X356.here hx rfl (hb hby at_146) rfl ((if0 _ _).trans (feq (by decide : ¬ ((1 : Int32) = (0 : Int32)))).1) k) ?_
      refine own_go (T' := T356) (g' := (mkF m 150 #[iv x0, iv x1, iv x2, iv x3, iv x4, iv x5, iv (3 : Int32), iv (3 : Int32), rv b342, rv b_349, .unset, .unset] [(.int (1 : Int32))])) (fun t k => XS.iconst X356.here hx rfl (hb hby at_149) k) ?_
      refine own_go (T' := T356) (g' := (mkF m 154 #[iv x0, iv x1, iv x2, iv x3, iv x4, iv x5, iv (3 : Int32), iv (3 : Int32), rv b342, rv b_349, .unset, .unset] [(.int (1 : Int32))])) (fun t k => XS.goto X356.here hx rfl (pc0 := 150) (pc' := 154) rfl (hb hby at_150) (by decide) (by decide) k) ?_
      refine own_go (T' := T356) (g' := (mkF m 156 #[iv x0, iv x1, iv x2, iv x3, iv x4, iv x5, iv (3 : Int32), iv (3 : Int32), rv b342, rv b_349, iv (1 : Int32), .unset] [])) (fun t k => XS.istore X356.here hx rfl (hb hby at_154) rfl (l' := #[iv x0, iv x1, iv x2, iv x3, iv x4, iv x5, iv (3 : Int32), iv (3 : Int32), rv b342, rv b_349, iv (1 : Int32), .unset]) rfl k) ?_
      refine own_go (T' := T356) (g' := (mkF m 158 #[iv x0, iv x1, iv x2, iv x3, iv x4, iv x5, iv (3 : Int32), iv (3 : Int32), rv b342, rv b_349, iv (1 : Int32), .unset] [(.int (3 : Int32))])) (fun t k => XS.iload X356.here hx rfl (hb hby at_156) rfl k) ?_
      refine own_go (T' := T356) (g' := (mkF m 159 #[iv x0, iv x1, iv x2, iv x3, iv x4, iv x5, iv (3 : Int32), iv (3 : Int32), rv b342, rv b_349, iv (1 : Int32), .unset] [(.int (1 : Int32)), (.int (3 : Int32))])) (fun t k => XS.iconst X356.here hx rfl (hb hby at_158) k) ?_
      refine own_go (T' := T356) (g' := (mkF m 162 #[iv x0, iv x1, iv x2, iv x3, iv x4, iv x5, iv (3 : Int32), iv (3 : Int32), rv b342, rv b_349, iv (1 : Int32), .unset] [])) (fun t k => XS.icmpNo X356.here hx rfl (hb hby at_159) rfl (flt (by decide : ¬ ((3 : Int32) < (1 : Int32)))).1 k) ?_
      refine own_go (T' := T356) (g' := (mkF m 164 #[iv x0, iv x1, iv x2, iv x3, iv x4, iv x5, iv (3 : Int32), iv (3 : Int32), rv b342, rv b_349, iv (1 : Int32), .unset] [(.ref b342)])) (fun t k => XS.aload X356.here hx rfl (hb hby at_162) rfl rfl k) ?_
      refine own_go (T' := T356) (g' := (mkF m 165 #[iv x0, iv x1, iv x2, iv x3, iv x4, iv x5, iv (3 : Int32), iv (3 : Int32), rv b342, rv b_349, iv (1 : Int32), .unset] [(.int (0 : Int32)), (.ref b342)])) (fun t k => XS.iconst X356.here hx rfl (hb hby at_164) k) ?_
      obtain ⟨cl357, Ar357, -, Sz357, Nn357, Ha357, -⟩ := id c351
      have hin357 : ¬ ((0 : Int32) < 0 ∨ cl357.slots.size ≤ ((0 : Int32)).toNatClampNeg) := inb_of Sz357 ⟨by decide, by decide⟩
      have hat357 : cl357.slots[((0 : Int32)).toNatClampNeg]? = some (.int x0) := Ha357.at hin357 rfl
      refine own_go (T' := T356) (g' := (mkF m 166 #[iv x0, iv x1, iv x2, iv x3, iv x4, iv x5, iv (3 : Int32), iv (3 : Int32), rv b342, rv b_349, iv (1 : Int32), .unset] [(.int x0)])) (fun t k => X356.iaload hx (j := (0 : Int32)) (v := (.int x0)) (by rw [E356q]; exact Ar357.1) (State.isArrayOf_alike hZ.alike Ar357.2.1) Ar357.2.2 hin357 hat357 (g := (mkF m 165 #[iv x0, iv x1, iv x2, iv x3, iv x4, iv x5, iv (3 : Int32), iv (3 : Int32), rv b342, rv b_349, iv (1 : Int32), .unset] [(.int (0 : Int32)), (.ref b342)])) rfl rfl (hb hby at_165) _ k) ?_
      refine own_go (T' := T356) (g' := (mkF m 167 #[iv x0, iv x1, iv x2, iv x3, iv x4, iv x5, iv (3 : Int32), iv (3 : Int32), rv b342, rv b_349, iv (1 : Int32), .unset] [(.int x0), (.int x0)])) (fun t k => XS.iloadN X356.here hx rfl (hb hby at_166) rfl k) ?_
      refine own_go (T' := T356) (g' := (mkF m 170 #[iv x0, iv x1, iv x2, iv x3, iv x4, iv x5, iv (3 : Int32), iv (3 : Int32), rv b342, rv b_349, iv (1 : Int32), .unset] [])) (fun t k => XS.icmpNo X356.here hx rfl (hb hby at_167) rfl (teq (rfl : x0 = x0)).2 k) ?_
      refine own_go (T' := T356) (g' := (mkF m 172 #[iv x0, iv x1, iv x2, iv x3, iv x4, iv x5, iv (3 : Int32), iv (3 : Int32), rv b342, rv b_349, iv (1 : Int32), .unset] [(.int (3 : Int32))])) (fun t k => XS.iload X356.here hx rfl (hb hby at_170) rfl k) ?_
      refine own_go (T' := T356) (g' := (mkF m 173 #[iv x0, iv x1, iv x2, iv x3, iv x4, iv x5, iv (3 : Int32), iv (3 : Int32), rv b342, rv b_349, iv (1 : Int32), .unset] [(.int (2 : Int32)), (.int (3 : Int32))])) (fun t k => XS.iconst X356.here hx rfl (hb hby at_172) k) ?_
      refine own_go (T' := T356) (g' := (mkF m 176 #[iv x0, iv x1, iv x2, iv x3, iv x4, iv x5, iv (3 : Int32), iv (3 : Int32), rv b342, rv b_349, iv (1 : Int32), .unset] [])) (fun t k => XS.icmpNo X356.here hx rfl (hb hby at_173) rfl (flt (by decide : ¬ ((3 : Int32) < (2 : Int32)))).1 k) ?_
      refine own_go (T' := T356) (g' := (mkF m 178 #[iv x0, iv x1, iv x2, iv x3, iv x4, iv x5, iv (3 : Int32), iv (3 : Int32), rv b342, rv b_349, iv (1 : Int32), .unset] [(.ref b342)])) (fun t k => XS.aload X356.here hx rfl (hb hby at_176) rfl rfl k) ?_
      refine own_go (T' := T356) (g' := (mkF m 179 #[iv x0, iv x1, iv x2, iv x3, iv x4, iv x5, iv (3 : Int32), iv (3 : Int32), rv b342, rv b_349, iv (1 : Int32), .unset] [(.int (1 : Int32)), (.ref b342)])) (fun t k => XS.iconst X356.here hx rfl (hb hby at_178) k) ?_
      obtain ⟨cl358, Ar358, -, Sz358, Nn358, Ha358, -⟩ := id c351
      have hin358 : ¬ ((1 : Int32) < 0 ∨ cl358.slots.size ≤ ((1 : Int32)).toNatClampNeg) := inb_of Sz358 ⟨by decide, by decide⟩
      have hat358 : cl358.slots[((1 : Int32)).toNatClampNeg]? = some (.int x1) := Ha358.at hin358 rfl
      refine own_go (T' := T356) (g' := (mkF m 180 #[iv x0, iv x1, iv x2, iv x3, iv x4, iv x5, iv (3 : Int32), iv (3 : Int32), rv b342, rv b_349, iv (1 : Int32), .unset] [(.int x1)])) (fun t k => X356.iaload hx (j := (1 : Int32)) (v := (.int x1)) (by rw [E356q]; exact Ar358.1) (State.isArrayOf_alike hZ.alike Ar358.2.1) Ar358.2.2 hin358 hat358 (g := (mkF m 179 #[iv x0, iv x1, iv x2, iv x3, iv x4, iv x5, iv (3 : Int32), iv (3 : Int32), rv b342, rv b_349, iv (1 : Int32), .unset] [(.int (1 : Int32)), (.ref b342)])) rfl rfl (hb hby at_179) _ k) ?_
      refine own_go (T' := T356) (g' := (mkF m 181 #[iv x0, iv x1, iv x2, iv x3, iv x4, iv x5, iv (3 : Int32), iv (3 : Int32), rv b342, rv b_349, iv (1 : Int32), .unset] [(.int x1), (.int x1)])) (fun t k => XS.iloadN X356.here hx rfl (hb hby at_180) rfl k) ?_
      refine own_go (T' := T356) (g' := (mkF m 184 #[iv x0, iv x1, iv x2, iv x3, iv x4, iv x5, iv (3 : Int32), iv (3 : Int32), rv b342, rv b_349, iv (1 : Int32), .unset] [])) (fun t k => XS.icmpNo X356.here hx rfl (hb hby at_181) rfl (teq (rfl : x1 = x1)).2 k) ?_
      refine own_go (T' := T356) (g' := (mkF m 186 #[iv x0, iv x1, iv x2, iv x3, iv x4, iv x5, iv (3 : Int32), iv (3 : Int32), rv b342, rv b_349, iv (1 : Int32), .unset] [(.int (3 : Int32))])) (fun t k => XS.iload X356.here hx rfl (hb hby at_184) rfl k) ?_
      refine own_go (T' := T356) (g' := (mkF m 187 #[iv x0, iv x1, iv x2, iv x3, iv x4, iv x5, iv (3 : Int32), iv (3 : Int32), rv b342, rv b_349, iv (1 : Int32), .unset] [(.int (3 : Int32)), (.int (3 : Int32))])) (fun t k => XS.iconst X356.here hx rfl (hb hby at_186) k) ?_
      refine own_go (T' := T356) (g' := (mkF m 190 #[iv x0, iv x1, iv x2, iv x3, iv x4, iv x5, iv (3 : Int32), iv (3 : Int32), rv b342, rv b_349, iv (1 : Int32), .unset] [])) (fun t k => XS.icmpNo X356.here hx rfl (hb hby at_187) rfl (flt (by decide : ¬ ((3 : Int32) < (3 : Int32)))).1 k) ?_
      refine own_go (T' := T356) (g' := (mkF m 192 #[iv x0, iv x1, iv x2, iv x3, iv x4, iv x5, iv (3 : Int32), iv (3 : Int32), rv b342, rv b_349, iv (1 : Int32), .unset] [(.ref b342)])) (fun t k => XS.aload X356.here hx rfl (hb hby at_190) rfl rfl k) ?_
      refine own_go (T' := T356) (g' := (mkF m 193 #[iv x0, iv x1, iv x2, iv x3, iv x4, iv x5, iv (3 : Int32), iv (3 : Int32), rv b342, rv b_349, iv (1 : Int32), .unset] [(.int (2 : Int32)), (.ref b342)])) (fun t k => XS.iconst X356.here hx rfl (hb hby at_192) k) ?_
      obtain ⟨cl359, Ar359, -, Sz359, Nn359, Ha359, -⟩ := id c351
      have hin359 : ¬ ((2 : Int32) < 0 ∨ cl359.slots.size ≤ ((2 : Int32)).toNatClampNeg) := inb_of Sz359 ⟨by decide, by decide⟩
      have hat359 : cl359.slots[((2 : Int32)).toNatClampNeg]? = some (.int x2) := Ha359.at hin359 rfl
      refine own_go (T' := T356) (g' := (mkF m 194 #[iv x0, iv x1, iv x2, iv x3, iv x4, iv x5, iv (3 : Int32), iv (3 : Int32), rv b342, rv b_349, iv (1 : Int32), .unset] [(.int x2)])) (fun t k => X356.iaload hx (j := (2 : Int32)) (v := (.int x2)) (by rw [E356q]; exact Ar359.1) (State.isArrayOf_alike hZ.alike Ar359.2.1) Ar359.2.2 hin359 hat359 (g := (mkF m 193 #[iv x0, iv x1, iv x2, iv x3, iv x4, iv x5, iv (3 : Int32), iv (3 : Int32), rv b342, rv b_349, iv (1 : Int32), .unset] [(.int (2 : Int32)), (.ref b342)])) rfl rfl (hb hby at_193) _ k) ?_
      refine own_go (T' := T356) (g' := (mkF m 195 #[iv x0, iv x1, iv x2, iv x3, iv x4, iv x5, iv (3 : Int32), iv (3 : Int32), rv b342, rv b_349, iv (1 : Int32), .unset] [(.int x2), (.int x2)])) (fun t k => XS.iloadN X356.here hx rfl (hb hby at_194) rfl k) ?_
      refine own_go (T' := T356) (g' := (mkF m 198 #[iv x0, iv x1, iv x2, iv x3, iv x4, iv x5, iv (3 : Int32), iv (3 : Int32), rv b342, rv b_349, iv (1 : Int32), .unset] [])) (fun t k => XS.icmpNo X356.here hx rfl (hb hby at_195) rfl (teq (rfl : x2 = x2)).2 k) ?_
      refine own_go (T' := T356) (g' := (mkF m 199 #[iv x0, iv x1, iv x2, iv x3, iv x4, iv x5, iv (3 : Int32), iv (3 : Int32), rv b342, rv b_349, iv (1 : Int32), .unset] [(.int (1 : Int32))])) (fun t k => XS.iconst X356.here hx rfl (hb hby at_198) k) ?_
      refine own_go (T' := T356) (g' := (mkF m 203 #[iv x0, iv x1, iv x2, iv x3, iv x4, iv x5, iv (3 : Int32), iv (3 : Int32), rv b342, rv b_349, iv (1 : Int32), .unset] [(.int (1 : Int32))])) (fun t k => XS.goto X356.here hx rfl (pc0 := 199) (pc' := 203) rfl (hb hby at_199) (by decide) (by decide) k) ?_
      refine own_go (T' := T356) (g' := (mkF m 205 #[iv x0, iv x1, iv x2, iv x3, iv x4, iv x5, iv (3 : Int32), iv (3 : Int32), rv b342, rv b_349, iv (1 : Int32), iv (1 : Int32)] [])) (fun t k => XS.istore X356.here hx rfl (hb hby at_203) rfl (l' := #[iv x0, iv x1, iv x2, iv x3, iv x4, iv x5, iv (3 : Int32), iv (3 : Int32), rv b342, rv b_349, iv (1 : Int32), iv (1 : Int32)]) rfl k) ?_
      refine own_go (T' := T356) (g' := (mkF m 207 #[iv x0, iv x1, iv x2, iv x3, iv x4, iv x5, iv (3 : Int32), iv (3 : Int32), rv b342, rv b_349, iv (1 : Int32), iv (1 : Int32)] [(.int (1 : Int32))])) (fun t k => XS.iload X356.here hx rfl (hb hby at_205) rfl k) ?_
      refine own_go (T' := T356) (g' := (mkF m 210 #[iv x0, iv x1, iv x2, iv x3, iv x4, iv x5, iv (3 : Int32), iv (3 : Int32), rv b342, rv b_349, iv (1 : Int32), iv (1 : Int32)] [])) (fun t k => XS.ifNo X356.here hx rfl (hb hby at_207) rfl ((if0 _ _).trans (feq (by decide : ¬ ((1 : Int32) = (0 : Int32)))).1) k) ?_
      refine own_go (T' := T356) (g' := (mkF m 212 #[iv x0, iv x1, iv x2, iv x3, iv x4, iv x5, iv (3 : Int32), iv (3 : Int32), rv b342, rv b_349, iv (1 : Int32), iv (1 : Int32)] [(.int (1 : Int32))])) (fun t k => XS.iload X356.here hx rfl (hb hby at_210) rfl k) ?_
      refine own_go (T' := T356) (g' := (mkF m 215 #[iv x0, iv x1, iv x2, iv x3, iv x4, iv x5, iv (3 : Int32), iv (3 : Int32), rv b342, rv b_349, iv (1 : Int32), iv (1 : Int32)] [])) (fun t k => XS.ifNo X356.here hx rfl (hb hby at_212) rfl ((if0 _ _).trans (feq (by decide : ¬ ((1 : Int32) = (0 : Int32)))).1) k) ?_
      refine own_go (T' := T356) (g' := (mkF m 216 #[iv x0, iv x1, iv x2, iv x3, iv x4, iv x5, iv (3 : Int32), iv (3 : Int32), rv b342, rv b_349, iv (1 : Int32), iv (1 : Int32)] [(.int (1 : Int32))])) (fun t k => XS.iconst X356.here hx rfl (hb hby at_215) k) ?_
      refine own_go (T' := T356) (g' := (mkF m 220 #[iv x0, iv x1, iv x2, iv x3, iv x4, iv x5, iv (3 : Int32), iv (3 : Int32), rv b342, rv b_349, iv (1 : Int32), iv (1 : Int32)] [(.int (1 : Int32))])) (fun t k => XS.goto X356.here hx rfl (pc0 := 216) (pc' := 220) rfl (hb hby at_216) (by decide) (by decide) k) ?_
      exact own_ret X356 hlk hx Bd.returns rfl (Or.inl ⟨rfl, Or.inr (Or.inl rfl), _, rfl⟩) (hb hby at_220) (by first | exact ⟨rfl, N356⟩ | (rw [Fr] at *; exact ⟨rfl, by simpa using N356⟩)) (by decide) (by decide)

set_option maxRecDepth 65536 in
set_option maxHeartbeats 40000000 in
theorem own_comes {Post : Tables → Env → Array Value → State → Outcome → State → Prop} (hpost : ∀ tb e args s v u, (limb_1_1.after args s (.returned v) u = true ∧ limb_1_2.after args s (.returned v) u = true ∧ True) → FrameEnd s (.returned v) u (Jvm.fieldLocs frame_1_writes args s ++ Jvm.arrayLocs frame_1_arrays args s ++ Jvm.staticLocs frame_1_statics s) 16 128 → Post tb e args s (.returned v) u) :
    ArmFor flags0 classFile x code maxLocals ret World_1 tables_1 room_1 Calls_1 rest_1 Pre_1 Post := by
  intro l hfl _ _ p e ha hc hk s m args below hf hA hF happ hP
  obtain ⟨hcalls, hrest, hpre⟩ := hP
  obtain ⟨-, -, -, hnamed, -, -, -, hat⟩ := (Spec.applies_iff hf).mp happ
  obtain ⟨hg, hn⟩ := and_e (Cond.before_iff.mp (show (Jvm.Cond.and given_1 narrow_1).before args s = true from hpre))
  obtain ⟨hg0, hg1⟩ := and_e hg
  obtain ⟨ha0, hr0⟩ := and_e hg1
  obtain ⟨ha1, hr1⟩ := and_e hr0
  obtain ⟨ha2, hr2⟩ := and_e hr1
  obtain ⟨ha3, hr3⟩ := and_e hr2
  obtain ⟨ha4, hr4⟩ := and_e hr3
  obtain ⟨w0, w1, w2, w3, w4, w5, rfl⟩ : ∃ w0 w1 w2 w3 w4 w5 : Value, args = #[w0, w1, w2, w3, w4, w5] := by
    have hs : args.size = 6 := by simpa [Cond.value, given_1] using hg0
    obtain ⟨L⟩ := args
    match L, hs with
    | [w0, w1, w2, w3, w4, w5], _ => exact ⟨w0, w1, w2, w3, w4, w5, rfl⟩
  have hw := fun d (hd : d ∈ tables_1) => atoms_spec (ws := Jvm.Cond.code x code maxLocals ret :: tables_1) hat d (List.mem_cons_of_mem _ hd)
  have hfit : Fit s := fun {y c} hc i hi => by
    obtain ⟨ha, rfl⟩ := Array.getElem?_eq_some_iff.mp hc
    have q := List.all_eq_true.mp ((Array.all_eq_true_iff_forall_mem.mp hF) _ (Array.getElem_mem ha)) i (List.mem_range.mpr hi)
    simpa [Array.getElem?_eq_getElem hi] using q
  obtain ⟨x0, ex0⟩ := is_v ha0
  obtain rfl : w0 = (.int x0) := Option.some.inj ex0
  obtain ⟨x1, ex1⟩ := is_v ha1
  obtain rfl : w1 = (.int x1) := Option.some.inj ex1
  obtain ⟨x2, ex2⟩ := is_v ha2
  obtain rfl : w2 = (.int x2) := Option.some.inj ex2
  obtain ⟨x3, ex3⟩ := is_v ha3
  obtain rfl : w3 = (.int x3) := Option.some.inj ex3
  obtain ⟨x4, ex4⟩ := is_v ha4
  obtain rfl : w4 = (.int x4) := Option.some.inj ex4
  obtain ⟨x5, ex5⟩ := is_v hr4
  obtain rfl : w5 = (.int x5) := Option.some.inj ex5
  obtain ⟨n, o, h1, h2, h3, _, L, rfl, ⟨rfl, N⟩, hq⟩ := own_law l s _ hw tables_1 x0 x1 x2 x3 x4 x5  s.heap s.heap.size (Nat.le_refl _)  p e ha hc hk s m _ below hf ((Spec.applies_iff_loose hf).mp happ).1 ⟨rfl, State.Warmed39.refl s, rfl⟩ trivial
  refine ⟨n, _, h1, h2, h3, hpost _ _ _ _ _ _ ⟨Cond.after_iff.mpr rfl, Cond.after_iff.mpr (eq_i res_at (Term.int_eval (1)) rfl), trivial⟩ ⟨hq.1, hq.2.1, (hq.2.2.sift fun y hy => Or.inr (N y hy)).mono (by decide) (by decide)⟩⟩
theorem main_1_1 : Claimed_1_1 := own_comes fun _ _ _ _ _ _ h hF => ⟨h.1, hF⟩
theorem main_1_2 : Claimed_1_2 := own_comes fun _ _ _ _ _ _ h hF => ⟨h.2.1, hF⟩
end Jvm.Pilot.@@N@@
namespace Jvm.Pilot.@@N@@
open Jvm Jvm.ClassFile Sem Op Lib Jvm.Free Jvm.Stand Jvm.Pilot.@@N@@.Jvm.D
/-! MADE BY PROGRAM (witnessworld.py) out of the Statement's table words and the real class files: 10 classes; the members and pool entries that the words name. The judged class is class 1, her method 2. -/
namespace start1
open Jvm.ClassFile
def u (s : String) : CpInfo := .utf8 (stringToUtf16 s)
/-- a pool by its gaps: so many unusable entries, then the entry; so many at the end -/
def gap : Nat → List CpInfo → List CpInfo
  | 0, r => r
  | n + 1, r => .unusable :: gap n r
def poolList (es : List (Nat × CpInfo)) (last : Nat) : List CpInfo := es.foldr (fun e r => gap e.1 (e.2 :: r)) (gap last [])
def pool (es : List (Nat × CpInfo)) (last : Nat) : Array CpInfo := ⟨poolList es last⟩
def fileOf (pool : Array CpInfo) (this : Nat) (attrs : Array Attribute := #[]) (ms : Array MethodInfo := #[]) (fl : Nat := 33) (sup : Nat := 0) (ifs : Array Nat := #[]) (fds : Array FieldInfo := #[]) : ClassFile where
  minorVersion := 0
  majorVersion := 65
  constantPool := pool
  accessFlags := fl
  thisClass := this
  superClass := sup
  interfaces := ifs
  fields := fds
  methods := ms
  attributes := attrs
def plain (name : String) (sup : Option ClassId) : Class where
  name := name
  kind := .ordinary
  loader := none
  accessFlags := 33
  super := sup
  interfaces := #[]
  cf := none
  fields := #[]
  methods := #[]
  instanceTypes := #[]
  staticTypes := #[]
  resolved := #[]
  callSites := []
  init := .initialized
  statics := none
  mirror := none

def pool0 : Array CpInfo := pool [(5, u "<init>"), (0, u "()V"), (1, .class_ 10), (1, u "java/lang/Object")] 113

def k0m0 : Method := { name := "<init>", desc := "()V", sig := { parameters := [], returnType := none }, accessFlags := 1, code := none }
/-- java/lang/Object -/
def k0 : Class := { plain "java/lang/Object" none with
  accessFlags := 33
  interfaces := #[]
  cf := some (fileOf pool0 8 #[] #[{ accessFlags := 1, nameIndex := 5, descriptorIndex := 6, attributes := #[] }] 33 0 #[] #[])
  fields := #[]
  methods := #[k0m0]
  instanceTypes := #[]
  staticTypes := #[]
  resolved := Array.replicate 124 none
  statics := none }

def pool1 : Array CpInfo := pool [(2, .class_ 4), (1, u "java/lang/Object"), (0, u "<init>"), (0, u "()V"), (0, .integer 2147483647), (0, .methodref 9 10), (0, .class_ 11), (0, .nameAndType 12 13), (0, u "com/example/tankroute/tankroute/solve/Solution$Tour"), (0, u "withStop"), (0, u "([III)[I"), (0, .methodref 15 16), (0, .class_ 17), (0, .nameAndType 18 19), (0, u "com/example/tankroute/tankroute/solve/TourWithStopPinLaw"), (0, u "slot"), (0, u "([I[IIII)Z"), (3, u "law"), (0, u "(IIIIII)Z")] 8

def k1m0 : Method := { name := "<init>", desc := "()V", sig := { parameters := [], returnType := none }, accessFlags := 1, code := none }
def k1c1 : Code := { maxStack := 3, maxLocals := 6, code := method_2_code, exceptionTable := #[], attributes := #[] }
def k1m1 : Method := { name := "slot", desc := "([I[IIII)Z", sig := { parameters := [(.array .int), (.array .int), .int, .int, .int], returnType := some .boolean }, accessFlags := 10, code := some k1c1 }
def k1c2 : Code := { maxStack := 5, maxLocals := 12, code := code, exceptionTable := #[], attributes := #[] }
def k1m2 : Method := { name := "law", desc := "(IIIIII)Z", sig := { parameters := [.int, .int, .int, .int, .int, .int], returnType := some .boolean }, accessFlags := 9, code := some k1c2 }
/-- com/example/tankroute/tankroute/solve/TourWithStopPinLaw -/
def k1 : Class := { plain "com/example/tankroute/tankroute/solve/TourWithStopPinLaw" (some 0) with
  accessFlags := 49
  interfaces := #[]
  cf := some (fileOf pool1 15 #[] #[{ accessFlags := 1, nameIndex := 5, descriptorIndex := 6, attributes := #[] }, { accessFlags := 10, nameIndex := 18, descriptorIndex := 19, attributes := #[] }, { accessFlags := 9, nameIndex := 23, descriptorIndex := 24, attributes := #[] }] 49 2 #[] #[])
  fields := #[]
  methods := #[k1m0, k1m1, k1m2]
  instanceTypes := #[]
  staticTypes := #[]
  resolved := Array.replicate 33 none
  statics := none }

def pool2 : Array CpInfo := pool [(2, .class_ 4), (1, u "java/lang/Object"), (3, .class_ 10), (1, u "com/example/tankroute/tankroute/solve/Solution$Tour"), (0, u "type"), (0, u "I"), (2, u "stops"), (0, u "[I"), (2, u "parts"), (0, u "[[Ljava/math/BigDecimal;"), (2, u "load"), (0, u "[Ljava/math/BigDecimal;"), (10, u "length"), (3, u "D"), (2, u "day"), (9, u "onTime"), (0, u "Z"), (45, .methodref 100 101), (0, .class_ 102), (0, .nameAndType 103 104), (0, u "java/lang/System"), (0, u "arraycopy"), (0, u "(Ljava/lang/Object;ILjava/lang/Object;II)V"), (2, u "withStop"), (0, u "([III)[I"), (43, .class_ 153), (0, u "com/example/tankroute/tankroute/solve/Solution")] 20

def k2c0 : Code := { maxStack := 6, maxLocals := 4, code := prog_67_method_6_code, exceptionTable := #[], attributes := #[] }
def k2m0 : Method := { name := "withStop", desc := "([III)[I", sig := { parameters := [(.array .int), .int, .int], returnType := some (.array .int) }, accessFlags := 8, code := some k2c0 }
/-- com/example/tankroute/tankroute/solve/Solution$Tour -/
def k2 : Class := { plain "com/example/tankroute/tankroute/solve/Solution$Tour" (some 0) with
  accessFlags := 48
  interfaces := #[]
  cf := some (fileOf pool2 8 #[.nestHost 152] #[{ accessFlags := 8, nameIndex := 107, descriptorIndex := 108, attributes := #[] }] 48 2 #[] #[{ accessFlags := 16, nameIndex := 11, descriptorIndex := 12, attributes := #[] }, { accessFlags := 16, nameIndex := 15, descriptorIndex := 16, attributes := #[] }, { accessFlags := 16, nameIndex := 19, descriptorIndex := 20, attributes := #[] }, { accessFlags := 16, nameIndex := 23, descriptorIndex := 24, attributes := #[] }, { accessFlags := 16, nameIndex := 35, descriptorIndex := 39, attributes := #[] }, { accessFlags := 16, nameIndex := 52, descriptorIndex := 53, attributes := #[] }, { accessFlags := 16, nameIndex := 42, descriptorIndex := 39, attributes := #[] }])
  fields := #[{ name := "type", type := .int, accessFlags := 16, slot := 0, constantValue := 0 }, { name := "stops", type := (.array .int), accessFlags := 16, slot := 1, constantValue := 0 }, { name := "parts", type := (.array (.array (.object "java/math/BigDecimal"))), accessFlags := 16, slot := 2, constantValue := 0 }, { name := "load", type := (.array (.object "java/math/BigDecimal")), accessFlags := 16, slot := 3, constantValue := 0 }, { name := "length", type := .double, accessFlags := 16, slot := 4, constantValue := 0 }, { name := "onTime", type := .boolean, accessFlags := 16, slot := 5, constantValue := 0 }, { name := "day", type := .double, accessFlags := 16, slot := 6, constantValue := 0 }]
  methods := #[k2m0]
  instanceTypes := #[.int, (.array .int), (.array (.array (.object "java/math/BigDecimal"))), (.array (.object "java/math/BigDecimal")), .double, .boolean, .double]
  staticTypes := #[]
  resolved := Array.replicate 174 none
  statics := none }

def pool3 : Array CpInfo := pool [(2, .class_ 4), (1, u "java/lang/Object"), (0, u "<init>"), (0, u "()V"), (1, .class_ 10), (1, u "java/lang/System"), (0, u "allowSecurityManager"), (0, u "I"), (16, u "cons"), (0, u "Ljava/io/Console;"), (77, .class_ 110), (1, u "java/lang/System$CallersHolder"), (43, u "initialErrStream"), (0, u "Ljava/io/PrintStream;"), (19, u "security"), (0, u "Ljava/lang/SecurityManager;"), (31, .class_ 209), (0, u "java/lang/System$1"), (7, u "props"), (0, u "Ljava/util/Properties;"), (2, u "lineSeparator"), (0, u "Ljava/lang/String;"), (96, .class_ 321), (1, u "java/lang/System$LoggerFinder"), (5, .class_ 328), (0, u "java/lang/System$Logger"), (67, u "err"), (2, u "out"), (91, u "notSupportedJnuEncoding"), (15, u "in"), (17, u "initialIn"), (0, u "Ljava/io/InputStream;"), (35, u "bootLayer"), (0, u "Ljava/lang/ModuleLayer;"), (99, .class_ 664), (0, u "java/lang/System$2"), (9, u "NEVER"), (2, u "MAYBE"), (49, u "arraycopy"), (0, u "(Ljava/lang/Object;ILjava/lang/Object;II)V"), (72, .class_ 802), (0, u "java/lang/System$Logger$Level")] 31

def k3m0 : Method := { name := "<init>", desc := "()V", sig := { parameters := [], returnType := none }, accessFlags := 2, code := none }
def k3m1 : Method := { name := "arraycopy", desc := "(Ljava/lang/Object;ILjava/lang/Object;II)V", sig := { parameters := [(.object "java/lang/Object"), .int, (.object "java/lang/Object"), .int, .int], returnType := none }, accessFlags := 265, code := none }
/-- java/lang/System -/
def k3 : Class := { plain "java/lang/System" (some 0) with
  accessFlags := 49
  interfaces := #[]
  cf := some (fileOf pool3 8 #[.nestMembers #[319, 327, 801, 108, 663, 208]] #[{ accessFlags := 2, nameIndex := 5, descriptorIndex := 6, attributes := #[] }, { accessFlags := 265, nameIndex := 727, descriptorIndex := 728, attributes := #[] }] 49 2 #[] #[{ accessFlags := 25, nameIndex := 507, descriptorIndex := 526, attributes := #[] }, { accessFlags := 25, nameIndex := 399, descriptorIndex := 155, attributes := #[] }, { accessFlags := 25, nameIndex := 396, descriptorIndex := 155, attributes := #[] }, { accessFlags := 10, nameIndex := 525, descriptorIndex := 526, attributes := #[] }, { accessFlags := 26, nameIndex := 674, descriptorIndex := 12, attributes := #[] }, { accessFlags := 26, nameIndex := 677, descriptorIndex := 12, attributes := #[] }, { accessFlags := 10, nameIndex := 11, descriptorIndex := 12, attributes := #[] }, { accessFlags := 74, nameIndex := 175, descriptorIndex := 176, attributes := #[] }, { accessFlags := 10, nameIndex := 491, descriptorIndex := 222, attributes := #[] }, { accessFlags := 74, nameIndex := 29, descriptorIndex := 30, attributes := #[] }, { accessFlags := 74, nameIndex := 154, descriptorIndex := 155, attributes := #[] }, { accessFlags := 10, nameIndex := 217, descriptorIndex := 218, attributes := #[] }, { accessFlags := 10, nameIndex := 221, descriptorIndex := 222, attributes := #[] }, { accessFlags := 8, nameIndex := 562, descriptorIndex := 563, attributes := #[] }])
  fields := #[{ name := "in", type := (.object "java/io/InputStream"), accessFlags := 25, slot := 0, constantValue := 0 }, { name := "out", type := (.object "java/io/PrintStream"), accessFlags := 25, slot := 1, constantValue := 0 }, { name := "err", type := (.object "java/io/PrintStream"), accessFlags := 25, slot := 2, constantValue := 0 }, { name := "initialIn", type := (.object "java/io/InputStream"), accessFlags := 10, slot := 3, constantValue := 0 }, { name := "NEVER", type := .int, accessFlags := 26, slot := 4, constantValue := 0 }, { name := "MAYBE", type := .int, accessFlags := 26, slot := 5, constantValue := 0 }, { name := "allowSecurityManager", type := .int, accessFlags := 10, slot := 6, constantValue := 0 }, { name := "security", type := (.object "java/lang/SecurityManager"), accessFlags := 74, slot := 7, constantValue := 0 }, { name := "notSupportedJnuEncoding", type := (.object "java/lang/String"), accessFlags := 10, slot := 8, constantValue := 0 }, { name := "cons", type := (.object "java/io/Console"), accessFlags := 74, slot := 9, constantValue := 0 }, { name := "initialErrStream", type := (.object "java/io/PrintStream"), accessFlags := 74, slot := 10, constantValue := 0 }, { name := "props", type := (.object "java/util/Properties"), accessFlags := 10, slot := 11, constantValue := 0 }, { name := "lineSeparator", type := (.object "java/lang/String"), accessFlags := 10, slot := 12, constantValue := 0 }, { name := "bootLayer", type := (.object "java/lang/ModuleLayer"), accessFlags := 8, slot := 13, constantValue := 0 }]
  methods := #[k3m0, k3m1]
  instanceTypes := #[]
  staticTypes := #[(.object "java/io/InputStream"), (.object "java/io/PrintStream"), (.object "java/io/PrintStream"), (.object "java/io/InputStream"), .int, .int, .int, (.object "java/lang/SecurityManager"), (.object "java/lang/String"), (.object "java/io/Console"), (.object "java/io/PrintStream"), (.object "java/util/Properties"), (.object "java/lang/String"), (.object "java/lang/ModuleLayer")]
  resolved := Array.replicate 834 none
  statics := none }

def pool4 : Array CpInfo := pool [(1, u "java/lang/Cloneable"), (0, .class_ 1), (0, u "java/lang/Object"), (0, .class_ 3)] 3

/-- java/lang/Cloneable -/
def k4 : Class := { plain "java/lang/Cloneable" (some 0) with
  accessFlags := 1537
  interfaces := #[]
  cf := some (fileOf pool4 2 #[] #[] 1537 4 #[] #[])
  fields := #[]
  methods := #[]
  instanceTypes := #[]
  staticTypes := #[]
  resolved := Array.replicate 8 none
  statics := none }

def pool5 : Array CpInfo := pool [(1, u "java/io/Serializable"), (0, .class_ 1), (0, u "java/lang/Object"), (0, .class_ 3)] 3

/-- java/io/Serializable -/
def k5 : Class := { plain "java/io/Serializable" (some 0) with
  accessFlags := 1537
  interfaces := #[]
  cf := some (fileOf pool5 2 #[] #[] 1537 4 #[] #[])
  fields := #[]
  methods := #[]
  instanceTypes := #[]
  staticTypes := #[]
  resolved := Array.replicate 8 none
  statics := none }

/-- the primitive byte -/
def k6 : Class := { plain "byte" none with kind := .primitive 'B', accessFlags := 0x411 }
/-- [B -/
def k7 : Class := { plain "[B" (some 0) with kind := .array 6 .byte, interfaces := #[4, 5], accessFlags := 1041 }

/-- the primitive int -/
def k8 : Class := { plain "int" none with kind := .primitive 'I', accessFlags := 0x411 }
/-- [I -/
def k9 : Class := { plain "[I" (some 0) with kind := .array 8 .int, interfaces := #[4, 5], accessFlags := 1041 }

def heap : Heap := #[]
def classes : Array Class := #[k0, k1, k2, k3, k4, k5, k6, k7, k8, k9]
def interned : List (Array UInt16 × Addr) := []
def slotsUsed : Nat := 0
def theMethod : MethodId := ⟨1, 2⟩
def args0 : Array Value := #[.int 3, .int 4, .int 5, .int 6, .int 7, .int 8]
def aboutOver (below : List Frame) : State where
  vm := { classes := classes, interned := interned.toArray }
  heap := heap
  slotsUsed := slotsUsed
  threads := #[{ frames := .invoking theMethod args0 :: below }]
def below0 : List Frame := [.native { method := ⟨0, 0⟩, args := #[] }]
def about1 : State := aboutOver below0
def p0 : Program := .bare "" "" ""
def e0 : Env := launch0.env 0 0 0
theorem w_frames : about1.frames = Frame.invoking theMethod args0 :: below0 := rfl
set_option maxRecDepth 65536 in
theorem w_args : argsFit about1.vm theMethod args0 = true := by decide +kernel
set_option maxRecDepth 65536 in
theorem w_heap : heapFits about1 = true := by decide +kernel
set_option maxRecDepth 65536 in
theorem w_runnable : about1.curStatus? = some .runnable := by decide +kernel
set_option maxRecDepth 65536 in
theorem w_alone : about1.alone = true := by decide +kernel
set_option maxRecDepth 65536 in
theorem w_named : about1.methodNamed? x = some theMethod := by decide +kernel
set_option maxRecDepth 65536 in
theorem w_hears : about1.hears theMethod below0 = true := by decide +kernel
set_option maxRecDepth 65536 in
theorem w_ripe : about1.ripe theMethod args0 below0 = true := by decide +kernel
theorem w_running : about1.status = .running := rfl
set_option maxRecDepth 65536 in
theorem w_room : about1.hasRoom e0.platform room_1 = true :=
  launch0.hasRoom_least _ room_1 (by decide +kernel) (by decide +kernel) (by decide +kernel) (by decide +kernel) (by decide +kernel) (by decide +kernel)
theorem allAtoms_all (ts : List Jvm.Cond) (a : Array Jvm.Value) (st : Jvm.State) : (allAtoms ts).before a st = ts.all (fun c => c.before a st) := by
  induction ts with
  | nil => rfl
  | cons c t ih =>
    show (Jvm.Cond.and c (allAtoms t)).before a st = _
    rw [Jvm.Cond.before_and, ih, List.all_cons]
def words1 : List Jvm.Cond := Jvm.Cond.code x code maxLocals ret :: tables_1
/-- a 'code' word, met by the world's own term for the bytes: nothing is compared byte by byte -/
theorem code_word {y : MethodName} {bytes : ByteArray} {mx : Nat} {rt : Option FieldType} {a : Array Value} {s : State} {m : MethodId} {meth : Method} {c : Code} (h1 : s.methodNamed? y = some m) (h2 : s.vm.method? m = some meth) (h3 : meth.code = some c) (h4 : c.code = bytes)
    (h5 : (c.maxLocals == mx && c.exceptionTable.isEmpty && decide (c.maxStack ≤ mostOperands) && decide (meth.sig.returnType = rt) && !meth.locks && decide (parseMethodDescriptor y.desc = some meth.sig)) = true) : (Jvm.Cond.code y bytes mx rt).before a s = true := by
  simp only [Bool.and_eq_true, beq_iff_eq, Bool.not_eq_true', decide_eq_true_eq] at h5
  obtain ⟨⟨⟨⟨⟨g1, g2⟩, g3⟩, g4⟩, g5⟩, g6⟩ := h5
  simp [Cond.before, Cond.holds, Cond.value, h1, h2, h3, h4, g1, g2, g3, g4, g5, g6]
def isCode : Jvm.Cond → Bool
  | .code _ _ _ _ => true
  | _ => false
theorem all_split {L : List Jvm.Cond} {P : Jvm.Cond → Bool} (h1 : L.all (fun c => isCode c || P c) = true) (h2 : ∀ c ∈ L.filter isCode, P c = true) : L.all P = true := by
  refine List.all_eq_true.mpr fun c hc => ?_
  have h := List.all_eq_true.mp h1 c hc
  rcases Bool.eq_false_or_eq_true (isCode c) with hi | hi
  · exact h2 c (List.mem_filter.mpr ⟨hc, hi⟩)
  · simpa [hi] using h
set_option maxRecDepth 65536 in
theorem w_c0 : (Jvm.Cond.code x code maxLocals ret).before args0 about1 = true := code_word (m := ⟨1, 2⟩) (meth := k1m2) (c := k1c2) (by decide +kernel) rfl rfl rfl (by decide +kernel)
set_option maxRecDepth 65536 in
theorem w_c1 : (Jvm.Cond.code ({ cls := "com/example/tankroute/tankroute/solve/Solution$Tour", name := "withStop", desc := "([III)[I" } : Jvm.MethodName) prog_67_method_6_code (4 : Nat) (Option.some (Jvm.ClassFile.FieldType.array Jvm.ClassFile.FieldType.int))).before args0 about1 = true := code_word (m := ⟨2, 0⟩) (meth := k2m0) (c := k2c0) (by decide +kernel) rfl rfl rfl (by decide +kernel)
set_option maxRecDepth 65536 in
theorem w_c2 : (Jvm.Cond.code ({ cls := "com/example/tankroute/tankroute/solve/TourWithStopPinLaw", name := "slot", desc := "([I[IIII)Z" } : Jvm.MethodName) method_2_code (6 : Nat) (Option.some Jvm.ClassFile.FieldType.boolean)).before args0 about1 = true := code_word (m := ⟨1, 1⟩) (meth := k1m1) (c := k1c1) (by decide +kernel) rfl rfl rfl (by decide +kernel)
def codes1 : List Jvm.Cond := [Jvm.Cond.code x code maxLocals ret, Jvm.Cond.code ({ cls := "com/example/tankroute/tankroute/solve/Solution$Tour", name := "withStop", desc := "([III)[I" } : Jvm.MethodName) prog_67_method_6_code (4 : Nat) (Option.some (Jvm.ClassFile.FieldType.array Jvm.ClassFile.FieldType.int)), Jvm.Cond.code ({ cls := "com/example/tankroute/tankroute/solve/TourWithStopPinLaw", name := "slot", desc := "([I[IIII)Z" } : Jvm.MethodName) method_2_code (6 : Nat) (Option.some Jvm.ClassFile.FieldType.boolean)]
set_option maxRecDepth 65536 in
theorem codes_eq : words1.filter isCode = codes1 := rfl
theorem w_codes : ∀ c ∈ words1.filter isCode, c.before args0 about1 = true := by
  rw [codes_eq]
  intro c hc
  simp only [codes1, List.mem_cons, List.not_mem_nil, or_false] at hc
  rcases hc with rfl | rfl | rfl
  · exact w_c0
  · exact w_c1
  · exact w_c2
set_option maxRecDepth 65536 in
theorem w_t1 : words1.all (fun c => isCode c || c.before args0 about1) = true := by decide +kernel
theorem w_tables : (allAtoms (Jvm.Cond.code x code maxLocals ret :: tables_1)).before args0 about1 = true := by
  rw [allAtoms_all]
  show words1.all (fun c => c.before args0 about1) = true
  refine all_split ?_ w_codes
  rw [w_t1]
set_option maxRecDepth 65536 in
theorem w_case : (Jvm.Cond.and given_1 narrow_1).before args0 about1 = true := by decide +kernel
theorem w_applies : (headSpec (Jvm.Cond.code x code maxLocals ret :: tables_1) room_1).applies x e0.platform about1 = true :=
  (Spec.applies_iff w_frames).mpr ⟨w_running, w_runnable, w_alone, w_named, w_hears, w_ripe, w_room, w_tables⟩
theorem atStart : AtStart classFile x code maxLocals ret World_1 tables_1 room_1 Calls_1 rest_1 Pre_1 launch0 p0 e0 about1 theMethod args0 below0 :=
  ⟨lists_1, trivial, launch0.admits_env _ _ _, launch0.least_env, fairChoices_fair.cas, fairChoices_fair.clock, w_frames, w_args, w_heap, w_applies, trivial, trivial, w_case⟩
end start1
theorem witness_1 : WitnessClaimed_1 := ⟨start1.p0, start1.e0, start1.about1, start1.theMethod, start1.args0, start1.below0, start1.atStart⟩
end Jvm.Pilot.@@N@@
