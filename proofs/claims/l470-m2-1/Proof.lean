import JvmDerived
import JvmDerived.Pilot.@@N@@Statement
import JvmDerived.Pilot.@@N@@Code
set_option linter.unusedVariables false
set_option linter.unusedSimpArgs false
namespace Jvm.Pilot.@@N@@
open Jvm Jvm.ClassFile Sem Op Lib Jvm.Free Jvm.Stand Jvm.LawKit Jvm.RoadKit Bundle Jvm.Pilot.@@N@@.Jvm.D
abbrev own_Ends (p : Program) (e : Env) (below : List Frame) (T : State) (g : JFrame) (Q : Outcome → State → Prop) : Prop :=
  ∃ s₂ o, Steps p.tables e below (T.setTop g) s₂ ∧ s₂.status = .running ∧ Ended s₂ below o ∧ Q o s₂
section Own
variable {p : Program} {l : Launch} {e : Env} {R : Room} {s : State} {m : MethodId} {args : Array Value} {below : List Frame} {meth : Method} {c : Code} {T T' : State} {locs : List Loc} {cells slots : Nat}
theorem own_go {g g' : JFrame} {Q : Outcome → State → Prop} (h : ∀ t, Steps p.tables e below (T'.setTop g') t → Steps p.tables e below (T.setTop g) t) (k : own_Ends p e below T' g' Q) : own_Ends p e below T g Q := by
  obtain ⟨s₂, o, h1, h2⟩ := k
  exact ⟨s₂, o, h _ h1, h2⟩
theorem own_start {g g' : JFrame} {Q : Outcome → State → Prop} (h : g = g') (k : own_Ends p e below T g' Q) : own_Ends p e below T g Q := h ▸ k
theorem own_ret (X : Stand p l e R s m args below meth c T locs cells slots) (hlk : meth.locks = false) (hx : p.tables.exec = Jvm.exec) {pc : Nat} {Ls : Array Slot} {w : Value} {t : FieldType} {i : Instr} {rest : List Value} (hret : meth.sig.returnType = some t) (hn : narrow t w = w)
    (hi : (i = .ireturn ∧ (t = .int ∨ t = .boolean ∨ t = .byte ∨ t = .char ∨ t = .short) ∧ ∃ z, w = .int z) ∨ (i = .lreturn ∧ t = .long ∧ ∃ z, w = .long z) ∨ (i = .dreturn ∧ t = .double ∧ ∃ z, w = .double z) ∨ (i = .freturn ∧ t = .float ∧ ∃ z, w = .float z) ∨ (i = .areturn ∧ t.isReference = true ∧ w.isRef = true))
    (hd : decode c.code pc = .ok (i, 1)) {Qv : Option Value → Heap → List Loc → Prop} {C S : Nat} (hq : Qv (some w) T.heap locs) (hc : cells ≤ C) (hs : slots ≤ S) :
    own_Ends p e below T (mkF m pc Ls (w :: rest)) (fun o U' => ∃ v L, o = .returned v ∧ Qv v U'.heap L ∧ FrameEnd s o U' L C S) := by
  obtain ⟨fs, hr, hrun, hended, hW, hsame⟩ := X.leave (v := some w) (fun h => by rw [hret] at h; cases h) hlk
  exact ⟨_, _, retOut X hx hret hn hi hd hr, hrun, hended, _, _, rfl, hq, ⟨_, rfl⟩, hW, hsame.mono hc hs⟩
theorem own_ret0 (X : Stand p l e R s m args below meth c T locs cells slots) (hlk : meth.locks = false) (hx : p.tables.exec = Jvm.exec) {pc : Nat} {Ls : Array Slot} (hret : meth.sig.returnType = none)
    (hd : decode c.code pc = .ok (.return_, 1)) {Qv : Option Value → Heap → List Loc → Prop} {C S : Nat} (hq : Qv none T.heap locs) (hc : cells ≤ C) (hs : slots ≤ S) :
    own_Ends p e below T (mkF m pc Ls []) (fun o U' => ∃ v L, o = .returned v ∧ Qv v U'.heap L ∧ FrameEnd s o U' L C S) := by
  obtain ⟨fs, hr, hrun, hended, hW, hsame⟩ := X.leave (v := none) (fun _ => rfl) hlk
  exact ⟨_, _, X.returnOut hx hret hd hr, hrun, hended, _, _, rfl, hq, ⟨_, rfl⟩, hW, hsame.mono hc hs⟩
theorem own_nr {t : FieldType} {v : Value} (h : v.isRef = true) : narrow t v = v := by cases v <;> first | (cases h; done) | (cases t <;> rfl)
end Own
theorem own_fld {args : Array Value} {s : State} {t : Term} {a : Addr} {C n d : String} {k : Int32} (ht : t.eval args s none [] s = some (.ref a)) (h : (Jvm.Cond.eq (.field t C n d) (.int k)).value args s none s [] = some true) : Fld s s.heap a C n d (.int k) := by
  obtain ⟨x, y, e1, e2, h3, h4⟩ := cmp_v (Or.inl h)
  obtain rfl : Value.int k = y := Option.some.inj ((Term.int_eval k).symm.trans e2)
  obtain ⟨z, rfl⟩ : ∃ z, x = .int z := h4
  have q : z = k := gotT (Cond.eq_ints e1 e2) h
  subst q
  exact Fld.start ((fld_at ht).symm.trans e1)
def own_acc (od x : Int32) : Int32 := if od = 0 then (if 0 < x then 0 else 1) else if od = 1 then (if x < 0 then 0 else 1) else if od = 2 then (if x = 0 then 0 else 1) else if od = 3 then (if x < 0 then 1 else 0) else if od = 4 then (if 0 < x then 1 else 0) else (if x = 0 then 1 else 0)
theorem own_t1 {x : Int32} (h : x < 0) : ¬ 0 < x ∧ ¬ x = 0 := by
  rw [Int32.lt_iff_toInt_lt] at *; rw [← Int32.toInt_inj]; have : (0 : Int32).toInt = 0 := rfl; omega
theorem own_t2 {x : Int32} (h : x = 0) : ¬ 0 < x ∧ ¬ x < 0 := by subst h; decide
theorem own_t3 {x : Int32} (h1 : ¬ x < 0) (h2 : ¬ x = 0) : 0 < x := by
  rw [Int32.lt_iff_toInt_lt] at *; rw [← Int32.toInt_inj] at h2; have : (0 : Int32).toInt = 0 := rfl; omega

theorem own_d_jdk_37_method_2_code_0 : decode jdk_37_method_2_code 0 = .ok (.aload_n 0, 1) := by decide +kernel
theorem own_d_jdk_37_method_2_code_1 : decode jdk_37_method_2_code 1 = .ok (.getfield 7, 3) := by decide +kernel
theorem own_d_jdk_37_method_2_code_4 : decode jdk_37_method_2_code 4 = .ok (.ireturn, 1) := by decide +kernel
def Q_own_rord (o : Addr) (od : Int32) (h0 : Heap) (n0 : Nat) (v : Option Value) (h : Heap) (L : List Loc) : Prop := v = some (.int od) ∧ L = [] ∧ h = h0
set_option maxRecDepth 65536 in
set_option maxHeartbeats 40000000 in
theorem own_rord (l : Launch) (Z : State) (a0 : Array Value) (hw : ∀ d ∈ tables_1, d.before a0 Z = true) (ws : List Jvm.Cond) (o : Addr) (od : Int32) (h0 : Heap) (n0 : Nat) (Z0 : n0 ≤ h0.size) (F_ord : Fld Z h0 o "java/lang/Enum" "ordinal" "I" (.int od)) :
    MetFree l (⟨"java/lang/Enum", "ordinal", "()I"⟩ : MethodName) (head1 (Jvm.Cond.code (⟨"java/lang/Enum", "ordinal", "()I"⟩ : MethodName) jdk_37_method_2_code 1 (some .int) :: ws) ({ frames := 0, cells := 0, slots := 0, locals := 0 } : Room)) (fun au Uu => au = #[(.ref o)] ∧ Z.Warmed39 Uu.vm ∧ Uu.heap = h0) (fun _ _ _ _ _ => True) (fun _ Uu ou Uw => ∃ vu Lu, ou = .returned vu ∧ Q_own_rord o od h0 n0 vu Uw.heap Lu ∧ FrameEnd Uu ou Uw Lu ({ frames := 0, cells := 0, slots := 0, locals := 0 } : Room).cells ({ frames := 0, cells := 0, slots := 0, locals := 0 } : Room).slots) := by
  refine MetFree.of_bodySF (plainFor_of_name (by first | (simp [plainName, overriddenIn]; done) | decide +kernel)) hisR ?_
  intro p e s m args below meth c s₁ Bd hml0 hP hK
  obtain ⟨rfl, hZ, hh⟩ := hP
  have hx := Bd.exec
  have hby := Bd.bytes
  have hlk := Bd.notSynchronized
  have hml : c.maxLocals = 1 := hml0
  have hown : s.vm.findClass "java/lang/Enum" = some m.cls := findClass_of_methodNamed Bd.named
  have hnm := (name_of_methodNamed Bd.named Bd.method).1
  have X0 : Stand p l e ({ frames := 0, cells := 0, slots := 0, locals := 0 } : Room) s m #[(.ref o)] below meth c s₁ [] 0 0 := Stand.of_body Bd
  have e0 : s₁.heap = h0 := by rw [← hh, Bd.state]; rfl
  have N0 := Fr.nil n0
  show own_Ends p e below s₁ (entryFrame m #[(.ref o)] 1) (fun ou Uw => ∃ vu Lu, ou = .returned vu ∧ Q_own_rord o od h0 n0 vu Uw.heap Lu ∧ FrameEnd s ou Uw Lu ({ frames := 0, cells := 0, slots := 0, locals := 0 } : Room).cells ({ frames := 0, cells := 0, slots := 0, locals := 0 } : Room).slots)
  refine own_start (g' := (mkF m 0 #[rv o] [])) (by first | (simp [entryFrame, mkF, argsToLocals, Value.category, iv, rv]; done) | rfl) ?_
  refine own_go (T' := s₁) (g' := (mkF m 1 #[rv o] [(.ref o)])) (fun t k => XS.aloadN X0.here hx rfl (hb hby own_d_jdk_37_method_2_code_0) rfl rfl k) ?_
  obtain ⟨T1, X1, e1, st1⟩ := getF X0 hx hZ hown (host := "") (Or.inl (hw _ (List.mem_of_getElem? (i := 16) rfl))) Via.refl e0 F_ord (g := (mkF m 1 #[rv o] [(.ref o)])) rfl rfl (hb hby own_d_jdk_37_method_2_code_1)
  refine own_go (T' := T1) (g' := (mkF m 4 #[rv o] [(.int od)])) (st1) ?_
  exact own_ret X1 hlk hx Bd.returns rfl (Or.inl ⟨rfl, Or.inl rfl, _, rfl⟩) (hb hby own_d_jdk_37_method_2_code_4) ⟨rfl, rfl, e1⟩ (by decide) (by decide)

theorem own_pd0 : parseMethodDescriptor "()I" = some ⟨[], some .int⟩ := by decide +kernel
theorem own_d_prog_24_method_5_code_0 : decode prog_24_method_5_code 0 = .ok (.aload_n 0, 1) := by decide +kernel
theorem own_d_prog_24_method_5_code_1 : decode prog_24_method_5_code 1 = .ok (.invokevirtual 45, 3) := by decide +kernel
theorem own_d_prog_24_method_5_code_4 : decode prog_24_method_5_code 4 = .ok (.tableswitch 86 0 4 #[36, 46, 56, 66, 76], 36) := by decide +kernel
theorem own_d_prog_24_method_5_code_40 : decode prog_24_method_5_code 40 = .ok (.iload_n 1, 1) := by decide +kernel
theorem own_d_prog_24_method_5_code_41 : decode prog_24_method_5_code 41 = .ok (.ifCond .gt 7, 3) := by decide +kernel
theorem own_d_prog_24_method_5_code_44 : decode prog_24_method_5_code 44 = .ok (.iconst 1, 1) := by decide +kernel
theorem own_d_prog_24_method_5_code_45 : decode prog_24_method_5_code 45 = .ok (.goto 4, 3) := by decide +kernel
theorem own_d_prog_24_method_5_code_48 : decode prog_24_method_5_code 48 = .ok (.iconst 0, 1) := by decide +kernel
theorem own_d_prog_24_method_5_code_49 : decode prog_24_method_5_code 49 = .ok (.ireturn, 1) := by decide +kernel
theorem own_d_prog_24_method_5_code_50 : decode prog_24_method_5_code 50 = .ok (.iload_n 1, 1) := by decide +kernel
theorem own_d_prog_24_method_5_code_51 : decode prog_24_method_5_code 51 = .ok (.ifCond .lt 7, 3) := by decide +kernel
theorem own_d_prog_24_method_5_code_54 : decode prog_24_method_5_code 54 = .ok (.iconst 1, 1) := by decide +kernel
theorem own_d_prog_24_method_5_code_55 : decode prog_24_method_5_code 55 = .ok (.goto 4, 3) := by decide +kernel
theorem own_d_prog_24_method_5_code_58 : decode prog_24_method_5_code 58 = .ok (.iconst 0, 1) := by decide +kernel
theorem own_d_prog_24_method_5_code_59 : decode prog_24_method_5_code 59 = .ok (.ireturn, 1) := by decide +kernel
theorem own_d_prog_24_method_5_code_60 : decode prog_24_method_5_code 60 = .ok (.iload_n 1, 1) := by decide +kernel
theorem own_d_prog_24_method_5_code_61 : decode prog_24_method_5_code 61 = .ok (.ifCond .eq 7, 3) := by decide +kernel
theorem own_d_prog_24_method_5_code_64 : decode prog_24_method_5_code 64 = .ok (.iconst 1, 1) := by decide +kernel
theorem own_d_prog_24_method_5_code_65 : decode prog_24_method_5_code 65 = .ok (.goto 4, 3) := by decide +kernel
theorem own_d_prog_24_method_5_code_68 : decode prog_24_method_5_code 68 = .ok (.iconst 0, 1) := by decide +kernel
theorem own_d_prog_24_method_5_code_69 : decode prog_24_method_5_code 69 = .ok (.ireturn, 1) := by decide +kernel
theorem own_d_prog_24_method_5_code_70 : decode prog_24_method_5_code 70 = .ok (.iload_n 1, 1) := by decide +kernel
theorem own_d_prog_24_method_5_code_71 : decode prog_24_method_5_code 71 = .ok (.ifCond .ge 7, 3) := by decide +kernel
theorem own_d_prog_24_method_5_code_74 : decode prog_24_method_5_code 74 = .ok (.iconst 1, 1) := by decide +kernel
theorem own_d_prog_24_method_5_code_75 : decode prog_24_method_5_code 75 = .ok (.goto 4, 3) := by decide +kernel
theorem own_d_prog_24_method_5_code_78 : decode prog_24_method_5_code 78 = .ok (.iconst 0, 1) := by decide +kernel
theorem own_d_prog_24_method_5_code_79 : decode prog_24_method_5_code 79 = .ok (.ireturn, 1) := by decide +kernel
theorem own_d_prog_24_method_5_code_80 : decode prog_24_method_5_code 80 = .ok (.iload_n 1, 1) := by decide +kernel
theorem own_d_prog_24_method_5_code_81 : decode prog_24_method_5_code 81 = .ok (.ifCond .le 7, 3) := by decide +kernel
theorem own_d_prog_24_method_5_code_84 : decode prog_24_method_5_code 84 = .ok (.iconst 1, 1) := by decide +kernel
theorem own_d_prog_24_method_5_code_85 : decode prog_24_method_5_code 85 = .ok (.goto 4, 3) := by decide +kernel
theorem own_d_prog_24_method_5_code_88 : decode prog_24_method_5_code 88 = .ok (.iconst 0, 1) := by decide +kernel
theorem own_d_prog_24_method_5_code_89 : decode prog_24_method_5_code 89 = .ok (.ireturn, 1) := by decide +kernel
theorem own_d_prog_24_method_5_code_90 : decode prog_24_method_5_code 90 = .ok (.iload_n 1, 1) := by decide +kernel
theorem own_d_prog_24_method_5_code_91 : decode prog_24_method_5_code 91 = .ok (.ifCond .ne 7, 3) := by decide +kernel
theorem own_d_prog_24_method_5_code_94 : decode prog_24_method_5_code 94 = .ok (.iconst 1, 1) := by decide +kernel
theorem own_d_prog_24_method_5_code_95 : decode prog_24_method_5_code 95 = .ok (.goto 4, 3) := by decide +kernel
theorem own_d_prog_24_method_5_code_98 : decode prog_24_method_5_code 98 = .ok (.iconst 0, 1) := by decide +kernel
theorem own_d_prog_24_method_5_code_99 : decode prog_24_method_5_code 99 = .ok (.ireturn, 1) := by decide +kernel
def Q_own_racc (o : Addr) (p1 od : Int32) (h0 : Heap) (n0 : Nat) (v : Option Value) (h : Heap) (L : List Loc) : Prop := v = some (.int (own_acc od p1)) ∧ L = [] ∧ h = h0
set_option maxRecDepth 65536 in
set_option maxHeartbeats 40000000 in
theorem own_racc (l : Launch) (Z : State) (a0 : Array Value) (hw : ∀ d ∈ tables_1, d.before a0 Z = true) (ws : List Jvm.Cond) (o : Addr) (p1 od : Int32) (h0 : Heap) (n0 : Nat) (Z0 : n0 ≤ h0.size) (F_ord : Fld Z h0 o "java/lang/Enum" "ordinal" "I" (.int od)) (E_o : Exa Z h0 o "com/example/events_in_order/eventsinorder/model/Comparison$Operator") (hod : od = 0 ∨ od = 1 ∨ od = 2 ∨ od = 3 ∨ od = 4 ∨ od = 5) :
    MetFree l (⟨"com/example/events_in_order/eventsinorder/model/Comparison$Operator", "accepts", "(I)Z"⟩ : MethodName) (head1 (Jvm.Cond.code (⟨"com/example/events_in_order/eventsinorder/model/Comparison$Operator", "accepts", "(I)Z"⟩ : MethodName) prog_24_method_5_code 2 (some .boolean) :: ws) ({ frames := 1, cells := 0, slots := 0, locals := 12 } : Room)) (fun au Uu => au = #[(.ref o), (.int p1)] ∧ Z.Warmed39 Uu.vm ∧ Uu.heap = h0) (fun _ _ _ _ _ => True) (fun _ Uu ou Uw => ∃ vu Lu, ou = .returned vu ∧ Q_own_racc o p1 od h0 n0 vu Uw.heap Lu ∧ FrameEnd Uu ou Uw Lu ({ frames := 1, cells := 0, slots := 0, locals := 12 } : Room).cells ({ frames := 1, cells := 0, slots := 0, locals := 12 } : Room).slots) := by
  refine MetFree.of_bodySF (plainFor_of_name (by first | (simp [plainName, overriddenIn]; done) | decide +kernel)) hisR ?_
  intro p e s m args below meth c s₁ Bd hml0 hP hK
  obtain ⟨rfl, hZ, hh⟩ := hP
  have hx := Bd.exec
  have hby := Bd.bytes
  have hlk := Bd.notSynchronized
  have hml : c.maxLocals = 2 := hml0
  have hown : s.vm.findClass "com/example/events_in_order/eventsinorder/model/Comparison$Operator" = some m.cls := findClass_of_methodNamed Bd.named
  have hnm := (name_of_methodNamed Bd.named Bd.method).1
  have X0 : Stand p l e ({ frames := 1, cells := 0, slots := 0, locals := 12 } : Room) s m #[(.ref o), (.int p1)] below meth c s₁ [] 0 0 := Stand.of_body Bd
  have e0 : s₁.heap = h0 := by rw [← hh, Bd.state]; rfl
  have N0 := Fr.nil n0
  show own_Ends p e below s₁ (entryFrame m #[(.ref o), (.int p1)] 2) (fun ou Uw => ∃ vu Lu, ou = .returned vu ∧ Q_own_racc o p1 od h0 n0 vu Uw.heap Lu ∧ FrameEnd s ou Uw Lu ({ frames := 1, cells := 0, slots := 0, locals := 12 } : Room).cells ({ frames := 1, cells := 0, slots := 0, locals := 12 } : Room).slots)
  refine own_start (g' := (mkF m 0 #[rv o, iv p1] [])) (by first | (simp [entryFrame, mkF, argsToLocals, Value.category, iv, rv]; done) | rfl) ?_
  refine own_go (T' := s₁) (g' := (mkF m 1 #[rv o, iv p1] [(.ref o)])) (fun t k => XS.aloadN X0.here hx rfl (hb hby own_d_prog_24_method_5_code_0) rfl rfl k) ?_
  obtain ⟨cq2, kq2, q2a, q2b, q2c⟩ := isOf hZ e0 E_o
  obtain ⟨_, _, ⟨T2, L2, k2, n2⟩, -, X2, ⟨Lc2, hQ2, l2, y2, z2⟩, st2⟩ := X0.virtualBackUp hx (x := (⟨"com/example/events_in_order/eventsinorder/model/Comparison$Operator", "ordinal", "()I"⟩ : MethodName)) (y := (⟨"java/lang/Enum", "ordinal", "()I"⟩ : MethodName)) hown (mvT hZ (hw _ (List.mem_of_getElem? (i := 9) rfl))) (mvT hZ (hw _ (List.mem_of_getElem? (i := 10) rfl))) (mvT hZ (hw _ (List.mem_of_getElem? (i := 11) rfl))) (by decide) (mvT hZ (hw _ (List.mem_of_getElem? (i := 13) rfl))) (mvT hZ (hw _ (List.mem_of_getElem? (i := 12) rfl))) (backOf (W := 0) (own_rord l Z a0 hw [] o od h0 n0 Z0 F_ord) hZ (hw _ (List.mem_of_getElem? (i := 15) rfl)) (hw _ (List.mem_of_getElem? (i := 14) rfl)) (by decide) (by decide)) q2a q2c (g := (mkF m 1 #[rv o, iv p1] [(.ref o)])) rfl (by rw [hml]; rfl) (Steps.refl _) (argsL := []) (rest := []) (lenOf own_pd0 rfl) rfl (by show 2 * 0 + _ ≤ _; exact Nat.le_of_eq rfl) (hb hby own_d_prog_24_method_5_code_1) (fun _ _ => ⟨rfl, e0, (by decide : 0 + 0 ≤ _), (by decide : 0 + 0 ≤ _)⟩)
  dsimp only [Pt.U, Pt.locs, Pt.cells, Pt.slots] at X2 l2 y2 z2 st2 hQ2
  subst l2 y2 z2
  obtain ⟨rfl, rfl, e2⟩ := hQ2
  have E2q : T2.heap = h0 := e2
  have N2 := Fr.app N0 (Fr.nil n0)
  refine own_go (T' := T2) (g' := (mkF m 4 #[rv o, iv p1] [(.int od)])) (fun t k => st2.trans k) ?_
  rcases hod with rfl | rfl | rfl | rfl | rfl | rfl
  · refine own_go (T' := T2) (g' := (mkF m 40 #[rv o, iv p1] [])) (fun t k => XS.tswIn X2.here hx rfl (pc0 := 4) (pc' := 40) (o := 36) rfl (hb hby own_d_prog_24_method_5_code_4) rfl (by decide) (by decide) (by decide) (by decide) k) ?_
    refine own_go (T' := T2) (g' := (mkF m 41 #[rv o, iv p1] [(.int p1)])) (fun t k => XS.iloadN X2.here hx rfl (hb hby own_d_prog_24_method_5_code_40) rfl k) ?_
    by_cases hc3 : (0 : Int32) < p1
    · refine own_go (T' := T2) (g' := (mkF m 48 #[rv o, iv p1] [])) (fun t k => XS.ifYes X2.here hx rfl (pc0 := 41) (pc' := 48) rfl (hb hby own_d_prog_24_method_5_code_41) rfl ((if0 _ _).trans (tlt hc3).2.2.1) (by decide) (by decide) k) ?_
      refine own_go (T' := T2) (g' := (mkF m 49 #[rv o, iv p1] [(.int (0 : Int32))])) (fun t k => XS.iconst X2.here hx rfl (hb hby own_d_prog_24_method_5_code_48) k) ?_
      exact own_ret X2 hlk hx Bd.returns rfl (Or.inl ⟨rfl, Or.inr (Or.inl rfl), _, rfl⟩) (hb hby own_d_prog_24_method_5_code_49) ⟨by simp +decide [own_acc, hc3], rfl, E2q⟩ (by decide) (by decide)
    · refine own_go (T' := T2) (g' := (mkF m 44 #[rv o, iv p1] [])) (fun t k => XS.ifNo X2.here hx rfl (hb hby own_d_prog_24_method_5_code_41) rfl ((if0 _ _).trans (flt hc3).2.2.1) k) ?_
      refine own_go (T' := T2) (g' := (mkF m 45 #[rv o, iv p1] [(.int (1 : Int32))])) (fun t k => XS.iconst X2.here hx rfl (hb hby own_d_prog_24_method_5_code_44) k) ?_
      refine own_go (T' := T2) (g' := (mkF m 49 #[rv o, iv p1] [(.int (1 : Int32))])) (fun t k => XS.goto X2.here hx rfl (pc0 := 45) (pc' := 49) rfl (hb hby own_d_prog_24_method_5_code_45) (by decide) (by decide) k) ?_
      exact own_ret X2 hlk hx Bd.returns rfl (Or.inl ⟨rfl, Or.inr (Or.inl rfl), _, rfl⟩) (hb hby own_d_prog_24_method_5_code_49) ⟨by simp +decide [own_acc, hc3], rfl, E2q⟩ (by decide) (by decide)
  · refine own_go (T' := T2) (g' := (mkF m 50 #[rv o, iv p1] [])) (fun t k => XS.tswIn X2.here hx rfl (pc0 := 4) (pc' := 50) (o := 46) rfl (hb hby own_d_prog_24_method_5_code_4) rfl (by decide) (by decide) (by decide) (by decide) k) ?_
    refine own_go (T' := T2) (g' := (mkF m 51 #[rv o, iv p1] [(.int p1)])) (fun t k => XS.iloadN X2.here hx rfl (hb hby own_d_prog_24_method_5_code_50) rfl k) ?_
    by_cases hc4 : p1 < (0 : Int32)
    · refine own_go (T' := T2) (g' := (mkF m 58 #[rv o, iv p1] [])) (fun t k => XS.ifYes X2.here hx rfl (pc0 := 51) (pc' := 58) rfl (hb hby own_d_prog_24_method_5_code_51) rfl ((if0 _ _).trans (tlt hc4).1) (by decide) (by decide) k) ?_
      refine own_go (T' := T2) (g' := (mkF m 59 #[rv o, iv p1] [(.int (0 : Int32))])) (fun t k => XS.iconst X2.here hx rfl (hb hby own_d_prog_24_method_5_code_58) k) ?_
      exact own_ret X2 hlk hx Bd.returns rfl (Or.inl ⟨rfl, Or.inr (Or.inl rfl), _, rfl⟩) (hb hby own_d_prog_24_method_5_code_59) ⟨by simp +decide [own_acc, hc4], rfl, E2q⟩ (by decide) (by decide)
    · refine own_go (T' := T2) (g' := (mkF m 54 #[rv o, iv p1] [])) (fun t k => XS.ifNo X2.here hx rfl (hb hby own_d_prog_24_method_5_code_51) rfl ((if0 _ _).trans (flt hc4).1) k) ?_
      refine own_go (T' := T2) (g' := (mkF m 55 #[rv o, iv p1] [(.int (1 : Int32))])) (fun t k => XS.iconst X2.here hx rfl (hb hby own_d_prog_24_method_5_code_54) k) ?_
      refine own_go (T' := T2) (g' := (mkF m 59 #[rv o, iv p1] [(.int (1 : Int32))])) (fun t k => XS.goto X2.here hx rfl (pc0 := 55) (pc' := 59) rfl (hb hby own_d_prog_24_method_5_code_55) (by decide) (by decide) k) ?_
      exact own_ret X2 hlk hx Bd.returns rfl (Or.inl ⟨rfl, Or.inr (Or.inl rfl), _, rfl⟩) (hb hby own_d_prog_24_method_5_code_59) ⟨by simp +decide [own_acc, hc4], rfl, E2q⟩ (by decide) (by decide)
  · refine own_go (T' := T2) (g' := (mkF m 60 #[rv o, iv p1] [])) (fun t k => XS.tswIn X2.here hx rfl (pc0 := 4) (pc' := 60) (o := 56) rfl (hb hby own_d_prog_24_method_5_code_4) rfl (by decide) (by decide) (by decide) (by decide) k) ?_
    refine own_go (T' := T2) (g' := (mkF m 61 #[rv o, iv p1] [(.int p1)])) (fun t k => XS.iloadN X2.here hx rfl (hb hby own_d_prog_24_method_5_code_60) rfl k) ?_
    by_cases hc5 : p1 = (0 : Int32)
    · refine own_go (T' := T2) (g' := (mkF m 68 #[rv o, iv p1] [])) (fun t k => XS.ifYes X2.here hx rfl (pc0 := 61) (pc' := 68) rfl (hb hby own_d_prog_24_method_5_code_61) rfl ((if0 _ _).trans (teq hc5).1) (by decide) (by decide) k) ?_
      refine own_go (T' := T2) (g' := (mkF m 69 #[rv o, iv p1] [(.int (0 : Int32))])) (fun t k => XS.iconst X2.here hx rfl (hb hby own_d_prog_24_method_5_code_68) k) ?_
      exact own_ret X2 hlk hx Bd.returns rfl (Or.inl ⟨rfl, Or.inr (Or.inl rfl), _, rfl⟩) (hb hby own_d_prog_24_method_5_code_69) ⟨by simp +decide [own_acc, hc5], rfl, E2q⟩ (by decide) (by decide)
    · refine own_go (T' := T2) (g' := (mkF m 64 #[rv o, iv p1] [])) (fun t k => XS.ifNo X2.here hx rfl (hb hby own_d_prog_24_method_5_code_61) rfl ((if0 _ _).trans (feq hc5).1) k) ?_
      refine own_go (T' := T2) (g' := (mkF m 65 #[rv o, iv p1] [(.int (1 : Int32))])) (fun t k => XS.iconst X2.here hx rfl (hb hby own_d_prog_24_method_5_code_64) k) ?_
      refine own_go (T' := T2) (g' := (mkF m 69 #[rv o, iv p1] [(.int (1 : Int32))])) (fun t k => XS.goto X2.here hx rfl (pc0 := 65) (pc' := 69) rfl (hb hby own_d_prog_24_method_5_code_65) (by decide) (by decide) k) ?_
      exact own_ret X2 hlk hx Bd.returns rfl (Or.inl ⟨rfl, Or.inr (Or.inl rfl), _, rfl⟩) (hb hby own_d_prog_24_method_5_code_69) ⟨by simp +decide [own_acc, hc5], rfl, E2q⟩ (by decide) (by decide)
  · refine own_go (T' := T2) (g' := (mkF m 70 #[rv o, iv p1] [])) (fun t k => XS.tswIn X2.here hx rfl (pc0 := 4) (pc' := 70) (o := 66) rfl (hb hby own_d_prog_24_method_5_code_4) rfl (by decide) (by decide) (by decide) (by decide) k) ?_
    refine own_go (T' := T2) (g' := (mkF m 71 #[rv o, iv p1] [(.int p1)])) (fun t k => XS.iloadN X2.here hx rfl (hb hby own_d_prog_24_method_5_code_70) rfl k) ?_
    by_cases hc6 : p1 < (0 : Int32)
    · refine own_go (T' := T2) (g' := (mkF m 74 #[rv o, iv p1] [])) (fun t k => XS.ifNo X2.here hx rfl (hb hby own_d_prog_24_method_5_code_71) rfl ((if0 _ _).trans (tlt hc6).2.1) k) ?_
      refine own_go (T' := T2) (g' := (mkF m 75 #[rv o, iv p1] [(.int (1 : Int32))])) (fun t k => XS.iconst X2.here hx rfl (hb hby own_d_prog_24_method_5_code_74) k) ?_
      refine own_go (T' := T2) (g' := (mkF m 79 #[rv o, iv p1] [(.int (1 : Int32))])) (fun t k => XS.goto X2.here hx rfl (pc0 := 75) (pc' := 79) rfl (hb hby own_d_prog_24_method_5_code_75) (by decide) (by decide) k) ?_
      exact own_ret X2 hlk hx Bd.returns rfl (Or.inl ⟨rfl, Or.inr (Or.inl rfl), _, rfl⟩) (hb hby own_d_prog_24_method_5_code_79) ⟨by simp +decide [own_acc, hc6], rfl, E2q⟩ (by decide) (by decide)
    · refine own_go (T' := T2) (g' := (mkF m 78 #[rv o, iv p1] [])) (fun t k => XS.ifYes X2.here hx rfl (pc0 := 71) (pc' := 78) rfl (hb hby own_d_prog_24_method_5_code_71) rfl ((if0 _ _).trans (flt hc6).2.1) (by decide) (by decide) k) ?_
      refine own_go (T' := T2) (g' := (mkF m 79 #[rv o, iv p1] [(.int (0 : Int32))])) (fun t k => XS.iconst X2.here hx rfl (hb hby own_d_prog_24_method_5_code_78) k) ?_
      exact own_ret X2 hlk hx Bd.returns rfl (Or.inl ⟨rfl, Or.inr (Or.inl rfl), _, rfl⟩) (hb hby own_d_prog_24_method_5_code_79) ⟨by simp +decide [own_acc, hc6], rfl, E2q⟩ (by decide) (by decide)
  · refine own_go (T' := T2) (g' := (mkF m 80 #[rv o, iv p1] [])) (fun t k => XS.tswIn X2.here hx rfl (pc0 := 4) (pc' := 80) (o := 76) rfl (hb hby own_d_prog_24_method_5_code_4) rfl (by decide) (by decide) (by decide) (by decide) k) ?_
    refine own_go (T' := T2) (g' := (mkF m 81 #[rv o, iv p1] [(.int p1)])) (fun t k => XS.iloadN X2.here hx rfl (hb hby own_d_prog_24_method_5_code_80) rfl k) ?_
    by_cases hc7 : (0 : Int32) < p1
    · refine own_go (T' := T2) (g' := (mkF m 84 #[rv o, iv p1] [])) (fun t k => XS.ifNo X2.here hx rfl (hb hby own_d_prog_24_method_5_code_81) rfl ((if0 _ _).trans (tlt hc7).2.2.2) k) ?_
      refine own_go (T' := T2) (g' := (mkF m 85 #[rv o, iv p1] [(.int (1 : Int32))])) (fun t k => XS.iconst X2.here hx rfl (hb hby own_d_prog_24_method_5_code_84) k) ?_
      refine own_go (T' := T2) (g' := (mkF m 89 #[rv o, iv p1] [(.int (1 : Int32))])) (fun t k => XS.goto X2.here hx rfl (pc0 := 85) (pc' := 89) rfl (hb hby own_d_prog_24_method_5_code_85) (by decide) (by decide) k) ?_
      exact own_ret X2 hlk hx Bd.returns rfl (Or.inl ⟨rfl, Or.inr (Or.inl rfl), _, rfl⟩) (hb hby own_d_prog_24_method_5_code_89) ⟨by simp +decide [own_acc, hc7], rfl, E2q⟩ (by decide) (by decide)
    · refine own_go (T' := T2) (g' := (mkF m 88 #[rv o, iv p1] [])) (fun t k => XS.ifYes X2.here hx rfl (pc0 := 81) (pc' := 88) rfl (hb hby own_d_prog_24_method_5_code_81) rfl ((if0 _ _).trans (flt hc7).2.2.2) (by decide) (by decide) k) ?_
      refine own_go (T' := T2) (g' := (mkF m 89 #[rv o, iv p1] [(.int (0 : Int32))])) (fun t k => XS.iconst X2.here hx rfl (hb hby own_d_prog_24_method_5_code_88) k) ?_
      exact own_ret X2 hlk hx Bd.returns rfl (Or.inl ⟨rfl, Or.inr (Or.inl rfl), _, rfl⟩) (hb hby own_d_prog_24_method_5_code_89) ⟨by simp +decide [own_acc, hc7], rfl, E2q⟩ (by decide) (by decide)
  · refine own_go (T' := T2) (g' := (mkF m 90 #[rv o, iv p1] [])) (fun t k => XS.tswOut X2.here hx rfl (pc0 := 4) (pc' := 90) rfl (hb hby own_d_prog_24_method_5_code_4) rfl (by decide) (by decide) (by decide) k) ?_
    refine own_go (T' := T2) (g' := (mkF m 91 #[rv o, iv p1] [(.int p1)])) (fun t k => XS.iloadN X2.here hx rfl (hb hby own_d_prog_24_method_5_code_90) rfl k) ?_
    by_cases hc8 : p1 = (0 : Int32)
    · refine own_go (T' := T2) (g' := (mkF m 94 #[rv o, iv p1] [])) (fun t k => XS.ifNo X2.here hx rfl (hb hby own_d_prog_24_method_5_code_91) rfl ((if0 _ _).trans (teq hc8).2) k) ?_
      refine own_go (T' := T2) (g' := (mkF m 95 #[rv o, iv p1] [(.int (1 : Int32))])) (fun t k => XS.iconst X2.here hx rfl (hb hby own_d_prog_24_method_5_code_94) k) ?_
      refine own_go (T' := T2) (g' := (mkF m 99 #[rv o, iv p1] [(.int (1 : Int32))])) (fun t k => XS.goto X2.here hx rfl (pc0 := 95) (pc' := 99) rfl (hb hby own_d_prog_24_method_5_code_95) (by decide) (by decide) k) ?_
      exact own_ret X2 hlk hx Bd.returns rfl (Or.inl ⟨rfl, Or.inr (Or.inl rfl), _, rfl⟩) (hb hby own_d_prog_24_method_5_code_99) ⟨by simp +decide [own_acc, hc8], rfl, E2q⟩ (by decide) (by decide)
    · refine own_go (T' := T2) (g' := (mkF m 98 #[rv o, iv p1] [])) (fun t k => XS.ifYes X2.here hx rfl (pc0 := 91) (pc' := 98) rfl (hb hby own_d_prog_24_method_5_code_91) rfl ((if0 _ _).trans (feq hc8).2) (by decide) (by decide) k) ?_
      refine own_go (T' := T2) (g' := (mkF m 99 #[rv o, iv p1] [(.int (0 : Int32))])) (fun t k => XS.iconst X2.here hx rfl (hb hby own_d_prog_24_method_5_code_98) k) ?_
      exact own_ret X2 hlk hx Bd.returns rfl (Or.inl ⟨rfl, Or.inr (Or.inl rfl), _, rfl⟩) (hb hby own_d_prog_24_method_5_code_99) ⟨by simp +decide [own_acc, hc8], rfl, E2q⟩ (by decide) (by decide)

theorem own_pd1 : parseMethodDescriptor "(I)Z" = some ⟨[.int], some .boolean⟩ := by decide +kernel
def Q_own_law (h0 : Heap) (n0 : Nat) (v : Option Value) (h : Heap) (L : List Loc) : Prop := v = some (.int 1) ∧ Fr n0 L
set_option maxRecDepth 65536 in
set_option maxHeartbeats 40000000 in
theorem own_law (l : Launch) (Z : State) (a0 : Array Value) (hw : ∀ d ∈ tables_1, d.before a0 Z = true) (ws : List Jvm.Cond) (x0 x1 : Int32) (s0 s1 s2 s3 s4 s5 : Addr) (h0 : Heap) (n0 : Nat) (Z0 : n0 ≤ h0.size) (S_LESS_OR_EQUAL : Sta Z h0 "com/example/events_in_order/eventsinorder/model/Comparison$Operator" "LESS_OR_EQUAL" "Lcom/example/events_in_order/eventsinorder/model/Comparison$Operator;" (.ref s0)) (E_LESS_OR_EQUAL : Exa Z h0 s0 "com/example/events_in_order/eventsinorder/model/Comparison$Operator") (O_LESS_OR_EQUAL : Fld Z h0 s0 "java/lang/Enum" "ordinal" "I" (.int (0 : Int32))) (S_GREATER_OR_EQUAL : Sta Z h0 "com/example/events_in_order/eventsinorder/model/Comparison$Operator" "GREATER_OR_EQUAL" "Lcom/example/events_in_order/eventsinorder/model/Comparison$Operator;" (.ref s1)) (E_GREATER_OR_EQUAL : Exa Z h0 s1 "com/example/events_in_order/eventsinorder/model/Comparison$Operator") (O_GREATER_OR_EQUAL : Fld Z h0 s1 "java/lang/Enum" "ordinal" "I" (.int (1 : Int32))) (S_NOT_EQUAL : Sta Z h0 "com/example/events_in_order/eventsinorder/model/Comparison$Operator" "NOT_EQUAL" "Lcom/example/events_in_order/eventsinorder/model/Comparison$Operator;" (.ref s2)) (E_NOT_EQUAL : Exa Z h0 s2 "com/example/events_in_order/eventsinorder/model/Comparison$Operator") (O_NOT_EQUAL : Fld Z h0 s2 "java/lang/Enum" "ordinal" "I" (.int (2 : Int32))) (S_LESS : Sta Z h0 "com/example/events_in_order/eventsinorder/model/Comparison$Operator" "LESS" "Lcom/example/events_in_order/eventsinorder/model/Comparison$Operator;" (.ref s3)) (E_LESS : Exa Z h0 s3 "com/example/events_in_order/eventsinorder/model/Comparison$Operator") (O_LESS : Fld Z h0 s3 "java/lang/Enum" "ordinal" "I" (.int (3 : Int32))) (S_GREATER : Sta Z h0 "com/example/events_in_order/eventsinorder/model/Comparison$Operator" "GREATER" "Lcom/example/events_in_order/eventsinorder/model/Comparison$Operator;" (.ref s4)) (E_GREATER : Exa Z h0 s4 "com/example/events_in_order/eventsinorder/model/Comparison$Operator") (O_GREATER : Fld Z h0 s4 "java/lang/Enum" "ordinal" "I" (.int (4 : Int32))) (S_EQUAL : Sta Z h0 "com/example/events_in_order/eventsinorder/model/Comparison$Operator" "EQUAL" "Lcom/example/events_in_order/eventsinorder/model/Comparison$Operator;" (.ref s5)) (E_EQUAL : Exa Z h0 s5 "com/example/events_in_order/eventsinorder/model/Comparison$Operator") (O_EQUAL : Fld Z h0 s5 "java/lang/Enum" "ordinal" "I" (.int (5 : Int32))) :
    MetFree l x (head1 (Jvm.Cond.code x code maxLocals ret :: ws) room_1) (fun au Uu => au = #[(.int x0), (.int x1)] ∧ Z.Warmed39 Uu.vm ∧ Uu.heap = h0) (fun _ _ _ _ _ => True) (fun _ Uu ou Uw => ∃ vu Lu, ou = .returned vu ∧ Q_own_law h0 n0 vu Uw.heap Lu ∧ FrameEnd Uu ou Uw Lu 0 0) := by
  refine MetFree.of_bodySF (plainFor_of_name (by first | (simp [plainName, overriddenIn]; done) | decide +kernel)) hisR ?_
  intro p e s m args below meth c s₁ Bd hml0 hP hK
  obtain ⟨rfl, hZ, hh⟩ := hP
  have hx := Bd.exec
  have hby := Bd.bytes
  have hlk := Bd.notSynchronized
  have hml : c.maxLocals = 7 := hml0
  have hown : s.vm.findClass "com/example/events_in_order/eventsinorder/model/OperatorAcceptsPinLaw" = some m.cls := findClass_of_methodNamed Bd.named
  have hnm := (name_of_methodNamed Bd.named Bd.method).1
  have X0 : Stand p l e room_1 s m #[(.int x0), (.int x1)] below meth c s₁ [] 0 0 := Stand.of_body Bd
  have e0 : s₁.heap = h0 := by rw [← hh, Bd.state]; rfl
  have N0 := Fr.nil n0
  show own_Ends p e below s₁ (entryFrame m #[(.int x0), (.int x1)] maxLocals) (fun ou Uw => ∃ vu Lu, ou = .returned vu ∧ Q_own_law h0 n0 vu Uw.heap Lu ∧ FrameEnd s ou Uw Lu 0 0)
  refine own_start (g' := (mkF m 0 #[iv x0, iv x1, .unset, .unset, .unset, .unset, .unset] [])) (by first | (simp [entryFrame, mkF, argsToLocals, Value.category, iv, rv, maxLocals]; done) | rfl) ?_
  refine own_go (T' := s₁) (g' := (mkF m 1 #[iv x0, iv x1, .unset, .unset, .unset, .unset, .unset] [(.int x0)])) (fun t k => XS.iloadN X0.here hx rfl (hb hby at_0) rfl k) ?_
  refine own_go (T' := s₁) (g' := (mkF m 3 #[iv x0, iv x1, .unset, .unset, .unset, .unset, .unset] [(.int (2147483647 : Int32)), (.int x0)])) (fun t k => X0.ldcInt hx hown (mvT hZ (hw _ (List.mem_of_getElem? (i := 0) rfl))) (g := (mkF m 1 #[iv x0, iv x1, .unset, .unset, .unset, .unset, .unset] [(.int x0)])) rfl (hb hby at_1) _ k) ?_
  refine own_go (T' := s₁) (g' := (mkF m 4 #[iv x0, iv x1, .unset, .unset, .unset, .unset, .unset] [(.int (x0 &&& (2147483647 : Int32)))])) (fun t k => XS.iand X0.here hx rfl (hb hby at_3) rfl k) ?_
  refine own_go (T' := s₁) (g' := (mkF m 6 #[iv x0, iv x1, .unset, .unset, .unset, .unset, .unset] [(.int (6 : Int32)), (.int (x0 &&& (2147483647 : Int32)))])) (fun t k => XS.bipush X0.here hx rfl (hb hby at_4) k) ?_
  refine own_go (T' := s₁) (g' := (mkF m 7 #[iv x0, iv x1, .unset, .unset, .unset, .unset, .unset] [(.int ((x0 &&& (2147483647 : Int32)) % (6 : Int32)))])) (fun t k => Jvm.RoadKit.iremM X0 hx rfl (hb hby at_6) rfl (by decide) k) ?_
  refine own_go (T' := s₁) (g' := (mkF m 8 #[iv x0, iv x1, iv ((x0 &&& (2147483647 : Int32)) % (6 : Int32)), .unset, .unset, .unset, .unset] [])) (fun t k => XS.istoreN X0.here hx rfl (hb hby at_7) rfl (l' := #[iv x0, iv x1, iv ((x0 &&& (2147483647 : Int32)) % (6 : Int32)), .unset, .unset, .unset, .unset]) rfl k) ?_
  refine own_go (T' := s₁) (g' := (mkF m 9 #[iv x0, iv x1, iv ((x0 &&& (2147483647 : Int32)) % (6 : Int32)), .unset, .unset, .unset, .unset] [(.int ((x0 &&& (2147483647 : Int32)) % (6 : Int32)))])) (fun t k => XS.iloadN X0.here hx rfl (hb hby at_8) rfl k) ?_
  by_cases hc9 : ((x0 &&& (2147483647 : Int32)) % (6 : Int32)) = (0 : Int32)
  · refine own_go (T' := s₁) (g' := (mkF m 12 #[iv x0, iv x1, iv ((x0 &&& (2147483647 : Int32)) % (6 : Int32)), .unset, .unset, .unset, .unset] [])) (fun t k => XS.ifNo X0.here hx rfl (hb hby at_9) rfl ((if0 _ _).trans (teq hc9).2) k) ?_
    obtain ⟨T10, X10, e10, st10⟩ := getS2 X0 hx hZ hown (host := "") (Or.inl (hw _ (List.mem_of_getElem? (i := 1) rfl))) Via.refl e0 S_LESS_OR_EQUAL (g := (mkF m 12 #[iv x0, iv x1, iv ((x0 &&& (2147483647 : Int32)) % (6 : Int32)), .unset, .unset, .unset, .unset] [])) rfl (hb hby at_12)
    refine own_go (T' := T10) (g' := (mkF m 15 #[iv x0, iv x1, iv ((x0 &&& (2147483647 : Int32)) % (6 : Int32)), .unset, .unset, .unset, .unset] [(.ref s0)])) (st10) ?_
    refine own_go (T' := T10) (g' := (mkF m 16 #[iv x0, iv x1, iv ((x0 &&& (2147483647 : Int32)) % (6 : Int32)), rv s0, .unset, .unset, .unset] [])) (fun t k => XS.astoreN X10.here hx rfl (hb hby at_15) rfl rfl (l' := #[iv x0, iv x1, iv ((x0 &&& (2147483647 : Int32)) % (6 : Int32)), rv s0, .unset, .unset, .unset]) rfl k) ?_
    refine own_go (T' := T10) (g' := (mkF m 17 #[iv x0, iv x1, iv ((x0 &&& (2147483647 : Int32)) % (6 : Int32)), rv s0, .unset, .unset, .unset] [(.int (3 : Int32))])) (fun t k => XS.iconst X10.here hx rfl (hb hby at_16) k) ?_
    refine own_go (T' := T10) (g' := (mkF m 19 #[iv x0, iv x1, iv ((x0 &&& (2147483647 : Int32)) % (6 : Int32)), rv s0, iv (3 : Int32), .unset, .unset] [])) (fun t k => XS.istore X10.here hx rfl (hb hby at_17) rfl (l' := #[iv x0, iv x1, iv ((x0 &&& (2147483647 : Int32)) % (6 : Int32)), rv s0, iv (3 : Int32), .unset, .unset]) rfl k) ?_
    refine own_go (T' := T10) (g' := (mkF m 90 #[iv x0, iv x1, iv ((x0 &&& (2147483647 : Int32)) % (6 : Int32)), rv s0, iv (3 : Int32), .unset, .unset] [])) (fun t k => XS.goto X10.here hx rfl (pc0 := 19) (pc' := 90) rfl (hb hby at_19) (by decide) (by decide) k) ?_
    refine own_go (T' := T10) (g' := (mkF m 91 #[iv x0, iv x1, iv ((x0 &&& (2147483647 : Int32)) % (6 : Int32)), rv s0, iv (3 : Int32), .unset, .unset] [(.int x1)])) (fun t k => XS.iloadN X10.here hx rfl (hb hby at_90) rfl k) ?_
    by_cases hc11 : x1 < (0 : Int32)
    · refine own_go (T' := T10) (g' := (mkF m 94 #[iv x0, iv x1, iv ((x0 &&& (2147483647 : Int32)) % (6 : Int32)), rv s0, iv (3 : Int32), .unset, .unset] [])) (fun t k => XS.ifNo X10.here hx rfl (hb hby at_91) rfl ((if0 _ _).trans (tlt hc11).2.1) k) ?_
      refine own_go (T' := T10) (g' := (mkF m 95 #[iv x0, iv x1, iv ((x0 &&& (2147483647 : Int32)) % (6 : Int32)), rv s0, iv (3 : Int32), .unset, .unset] [(.int (1 : Int32))])) (fun t k => XS.iconst X10.here hx rfl (hb hby at_94) k) ?_
      refine own_go (T' := T10) (g' := (mkF m 107 #[iv x0, iv x1, iv ((x0 &&& (2147483647 : Int32)) % (6 : Int32)), rv s0, iv (3 : Int32), .unset, .unset] [(.int (1 : Int32))])) (fun t k => XS.goto X10.here hx rfl (pc0 := 95) (pc' := 107) rfl (hb hby at_95) (by decide) (by decide) k) ?_
      refine own_go (T' := T10) (g' := (mkF m 109 #[iv x0, iv x1, iv ((x0 &&& (2147483647 : Int32)) % (6 : Int32)), rv s0, iv (3 : Int32), iv (1 : Int32), .unset] [])) (fun t k => XS.istore X10.here hx rfl (hb hby at_107) rfl (l' := #[iv x0, iv x1, iv ((x0 &&& (2147483647 : Int32)) % (6 : Int32)), rv s0, iv (3 : Int32), iv (1 : Int32), .unset]) rfl k) ?_
      refine own_go (T' := T10) (g' := (mkF m 111 #[iv x0, iv x1, iv ((x0 &&& (2147483647 : Int32)) % (6 : Int32)), rv s0, iv (3 : Int32), iv (1 : Int32), .unset] [(.int (3 : Int32))])) (fun t k => XS.iload X10.here hx rfl (hb hby at_109) rfl k) ?_
      refine own_go (T' := T10) (g' := (mkF m 113 #[iv x0, iv x1, iv ((x0 &&& (2147483647 : Int32)) % (6 : Int32)), rv s0, iv (3 : Int32), iv (1 : Int32), .unset] [(.int (1 : Int32)), (.int (3 : Int32))])) (fun t k => XS.iload X10.here hx rfl (hb hby at_111) rfl k) ?_
      refine own_go (T' := T10) (g' := (mkF m 114 #[iv x0, iv x1, iv ((x0 &&& (2147483647 : Int32)) % (6 : Int32)), rv s0, iv (3 : Int32), iv (1 : Int32), .unset] [(.int ((3 : Int32) &&& (1 : Int32)))])) (fun t k => XS.iand X10.here hx rfl (hb hby at_113) rfl k) ?_
      refine own_go (T' := T10) (g' := (mkF m 117 #[iv x0, iv x1, iv ((x0 &&& (2147483647 : Int32)) % (6 : Int32)), rv s0, iv (3 : Int32), iv (1 : Int32), .unset] [])) (fun t k => XS.ifNo X10.here hx rfl (hb hby at_114) rfl ((if0 _ _).trans (feq (by decide : ¬ (((3 : Int32) &&& (1 : Int32)) = (0 : Int32)))).1) k) ?_
      refine own_go (T' := T10) (g' := (mkF m 118 #[iv x0, iv x1, iv ((x0 &&& (2147483647 : Int32)) % (6 : Int32)), rv s0, iv (3 : Int32), iv (1 : Int32), .unset] [(.int (1 : Int32))])) (fun t k => XS.iconst X10.here hx rfl (hb hby at_117) k) ?_
      refine own_go (T' := T10) (g' := (mkF m 122 #[iv x0, iv x1, iv ((x0 &&& (2147483647 : Int32)) % (6 : Int32)), rv s0, iv (3 : Int32), iv (1 : Int32), .unset] [(.int (1 : Int32))])) (fun t k => XS.goto X10.here hx rfl (pc0 := 118) (pc' := 122) rfl (hb hby at_118) (by decide) (by decide) k) ?_
      refine own_go (T' := T10) (g' := (mkF m 124 #[iv x0, iv x1, iv ((x0 &&& (2147483647 : Int32)) % (6 : Int32)), rv s0, iv (3 : Int32), iv (1 : Int32), iv (1 : Int32)] [])) (fun t k => XS.istore X10.here hx rfl (hb hby at_122) rfl (l' := #[iv x0, iv x1, iv ((x0 &&& (2147483647 : Int32)) % (6 : Int32)), rv s0, iv (3 : Int32), iv (1 : Int32), iv (1 : Int32)]) rfl k) ?_
      refine own_go (T' := T10) (g' := (mkF m 125 #[iv x0, iv x1, iv ((x0 &&& (2147483647 : Int32)) % (6 : Int32)), rv s0, iv (3 : Int32), iv (1 : Int32), iv (1 : Int32)] [(.ref s0)])) (fun t k => XS.aloadN X10.here hx rfl (hb hby at_124) rfl rfl k) ?_
      refine own_go (T' := T10) (g' := (mkF m 126 #[iv x0, iv x1, iv ((x0 &&& (2147483647 : Int32)) % (6 : Int32)), rv s0, iv (3 : Int32), iv (1 : Int32), iv (1 : Int32)] [(.int x1), (.ref s0)])) (fun t k => XS.iloadN X10.here hx rfl (hb hby at_125) rfl k) ?_
      obtain ⟨cq12, kq12, q12a, q12b, q12c⟩ := isOf hZ e10 E_LESS_OR_EQUAL
      obtain ⟨_, _, ⟨T12, L12, k12, n12⟩, -, X12, ⟨Lc12, hQ12, l12, y12, z12⟩, st12⟩ := X10.virtualBack hx (y := (⟨"com/example/events_in_order/eventsinorder/model/Comparison$Operator", "accepts", "(I)Z"⟩ : MethodName)) (z := (⟨"com/example/events_in_order/eventsinorder/model/Comparison$Operator", "accepts", "(I)Z"⟩ : MethodName)) hown (mvT hZ (hw _ (List.mem_of_getElem? (i := 4) rfl))) (mvT hZ (hw _ (List.mem_of_getElem? (i := 5) rfl))) (notFace_of_selects (args := #[]) (mvT hZ (hw _ (List.mem_of_getElem? (i := 7) rfl)))) (mvT hZ (hw _ (List.mem_of_getElem? (i := 7) rfl))) (mvT hZ (hw _ (List.mem_of_getElem? (i := 6) rfl))) (by decide) (backOf (W := 0) (own_racc l Z a0 hw [] s0 x1 (0 : Int32) h0 n0 Z0 O_LESS_OR_EQUAL E_LESS_OR_EQUAL (by decide)) hZ (hw _ (List.mem_of_getElem? (i := 8) rfl)) (hw _ (List.mem_of_getElem? (i := 2) rfl)) (by decide) (by decide)) q12a q12c (g := (mkF m 126 #[iv x0, iv x1, iv ((x0 &&& (2147483647 : Int32)) % (6 : Int32)), rv s0, iv (3 : Int32), iv (1 : Int32), iv (1 : Int32)] [(.int x1), (.ref s0)])) rfl (by rw [hml]; rfl) (Steps.refl _) (argsL := [(.int x1)]) (rest := []) (lenOf own_pd1 rfl) rfl (by show 2 * 0 + _ ≤ _; exact Nat.le_of_eq rfl) (hb hby at_126) (fun _ _ => ⟨rfl, e10, (by decide : 0 + 0 ≤ _), (by decide : 0 + 0 ≤ _)⟩)
      dsimp only [Pt.U, Pt.locs, Pt.cells, Pt.slots] at X12 l12 y12 z12 st12 hQ12
      subst l12 y12 z12
      obtain ⟨rfl, rfl, e12⟩ := hQ12
      have E12q : T12.heap = h0 := e12
      have N12 := Fr.app N0 (Fr.nil n0)
      refine own_go (T' := T12) (g' := (mkF m 129 #[iv x0, iv x1, iv ((x0 &&& (2147483647 : Int32)) % (6 : Int32)), rv s0, iv (3 : Int32), iv (1 : Int32), iv (1 : Int32)] [(.int (own_acc (0 : Int32) x1))])) (fun t k => st12.trans k) ?_
      refine own_go (T' := T12) (g' := (mkF m 131 #[iv x0, iv x1, iv ((x0 &&& (2147483647 : Int32)) % (6 : Int32)), rv s0, iv (3 : Int32), iv (1 : Int32), iv (1 : Int32)] [(.int (1 : Int32)), (.int (own_acc (0 : Int32) x1))])) (fun t k => XS.iload X12.here hx rfl (hb hby at_129) rfl k) ?_
      refine own_go (T' := T12) (g' := (mkF m 134 #[iv x0, iv x1, iv ((x0 &&& (2147483647 : Int32)) % (6 : Int32)), rv s0, iv (3 : Int32), iv (1 : Int32), iv (1 : Int32)] [])) (fun t k => XS.icmpNo X12.here hx rfl (hb hby at_131) rfl (teq (by have q := own_t1 hc11; simp +decide [own_acc, q, hc11] : ((own_acc (0 : Int32) x1) = (1 : Int32)))).2 k) ?_
      refine own_go (T' := T12) (g' := (mkF m 135 #[iv x0, iv x1, iv ((x0 &&& (2147483647 : Int32)) % (6 : Int32)), rv s0, iv (3 : Int32), iv (1 : Int32), iv (1 : Int32)] [(.int (1 : Int32))])) (fun t k => XS.iconst X12.here hx rfl (hb hby at_134) k) ?_
      refine own_go (T' := T12) (g' := (mkF m 139 #[iv x0, iv x1, iv ((x0 &&& (2147483647 : Int32)) % (6 : Int32)), rv s0, iv (3 : Int32), iv (1 : Int32), iv (1 : Int32)] [(.int (1 : Int32))])) (fun t k => XS.goto X12.here hx rfl (pc0 := 135) (pc' := 139) rfl (hb hby at_135) (by decide) (by decide) k) ?_
      exact own_ret X12 hlk hx Bd.returns rfl (Or.inl ⟨rfl, Or.inr (Or.inl rfl), _, rfl⟩) (hb hby at_139) (by first | exact ⟨rfl, N12⟩ | (rw [Fr] at *; exact ⟨rfl, by simpa using N12⟩)) (by decide) (by decide)
    · refine own_go (T' := T10) (g' := (mkF m 98 #[iv x0, iv x1, iv ((x0 &&& (2147483647 : Int32)) % (6 : Int32)), rv s0, iv (3 : Int32), .unset, .unset] [])) (fun t k => XS.ifYes X10.here hx rfl (pc0 := 91) (pc' := 98) rfl (hb hby at_91) rfl ((if0 _ _).trans (flt hc11).2.1) (by decide) (by decide) k) ?_
      refine own_go (T' := T10) (g' := (mkF m 99 #[iv x0, iv x1, iv ((x0 &&& (2147483647 : Int32)) % (6 : Int32)), rv s0, iv (3 : Int32), .unset, .unset] [(.int x1)])) (fun t k => XS.iloadN X10.here hx rfl (hb hby at_98) rfl k) ?_
      by_cases hc13 : x1 = (0 : Int32)
      · refine own_go (T' := T10) (g' := (mkF m 102 #[iv x0, iv x1, iv ((x0 &&& (2147483647 : Int32)) % (6 : Int32)), rv s0, iv (3 : Int32), .unset, .unset] [])) (fun t k => XS.ifNo X10.here hx rfl (hb hby at_99) rfl ((if0 _ _).trans (teq hc13).2) k) ?_
        refine own_go (T' := T10) (g' := (mkF m 103 #[iv x0, iv x1, iv ((x0 &&& (2147483647 : Int32)) % (6 : Int32)), rv s0, iv (3 : Int32), .unset, .unset] [(.int (2 : Int32))])) (fun t k => XS.iconst X10.here hx rfl (hb hby at_102) k) ?_
        refine own_go (T' := T10) (g' := (mkF m 107 #[iv x0, iv x1, iv ((x0 &&& (2147483647 : Int32)) % (6 : Int32)), rv s0, iv (3 : Int32), .unset, .unset] [(.int (2 : Int32))])) (fun t k => XS.goto X10.here hx rfl (pc0 := 103) (pc' := 107) rfl (hb hby at_103) (by decide) (by decide) k) ?_
        refine own_go (T' := T10) (g' := (mkF m 109 #[iv x0, iv x1, iv ((x0 &&& (2147483647 : Int32)) % (6 : Int32)), rv s0, iv (3 : Int32), iv (2 : Int32), .unset] [])) (fun t k => XS.istore X10.here hx rfl (hb hby at_107) rfl (l' := #[iv x0, iv x1, iv ((x0 &&& (2147483647 : Int32)) % (6 : Int32)), rv s0, iv (3 : Int32), iv (2 : Int32), .unset]) rfl k) ?_
        refine own_go (T' := T10) (g' := (mkF m 111 #[iv x0, iv x1, iv ((x0 &&& (2147483647 : Int32)) % (6 : Int32)), rv s0, iv (3 : Int32), iv (2 : Int32), .unset] [(.int (3 : Int32))])) (fun t k => XS.iload X10.here hx rfl (hb hby at_109) rfl k) ?_
        refine own_go (T' := T10) (g' := (mkF m 113 #[iv x0, iv x1, iv ((x0 &&& (2147483647 : Int32)) % (6 : Int32)), rv s0, iv (3 : Int32), iv (2 : Int32), .unset] [(.int (2 : Int32)), (.int (3 : Int32))])) (fun t k => XS.iload X10.here hx rfl (hb hby at_111) rfl k) ?_
        refine own_go (T' := T10) (g' := (mkF m 114 #[iv x0, iv x1, iv ((x0 &&& (2147483647 : Int32)) % (6 : Int32)), rv s0, iv (3 : Int32), iv (2 : Int32), .unset] [(.int ((3 : Int32) &&& (2 : Int32)))])) (fun t k => XS.iand X10.here hx rfl (hb hby at_113) rfl k) ?_
        refine own_go (T' := T10) (g' := (mkF m 117 #[iv x0, iv x1, iv ((x0 &&& (2147483647 : Int32)) % (6 : Int32)), rv s0, iv (3 : Int32), iv (2 : Int32), .unset] [])) (fun t k => XS.ifNo X10.here hx rfl (hb hby at_114) rfl ((if0 _ _).trans (feq (by decide : ¬ (((3 : Int32) &&& (2 : Int32)) = (0 : Int32)))).1) k) ?_
        refine own_go (T' := T10) (g' := (mkF m 118 #[iv x0, iv x1, iv ((x0 &&& (2147483647 : Int32)) % (6 : Int32)), rv s0, iv (3 : Int32), iv (2 : Int32), .unset] [(.int (1 : Int32))])) (fun t k => XS.iconst X10.here hx rfl (hb hby at_117) k) ?_
        refine own_go (T' := T10) (g' := (mkF m 122 #[iv x0, iv x1, iv ((x0 &&& (2147483647 : Int32)) % (6 : Int32)), rv s0, iv (3 : Int32), iv (2 : Int32), .unset] [(.int (1 : Int32))])) (fun t k => XS.goto X10.here hx rfl (pc0 := 118) (pc' := 122) rfl (hb hby at_118) (by decide) (by decide) k) ?_
        refine own_go (T' := T10) (g' := (mkF m 124 #[iv x0, iv x1, iv ((x0 &&& (2147483647 : Int32)) % (6 : Int32)), rv s0, iv (3 : Int32), iv (2 : Int32), iv (1 : Int32)] [])) (fun t k => XS.istore X10.here hx rfl (hb hby at_122) rfl (l' := #[iv x0, iv x1, iv ((x0 &&& (2147483647 : Int32)) % (6 : Int32)), rv s0, iv (3 : Int32), iv (2 : Int32), iv (1 : Int32)]) rfl k) ?_
        refine own_go (T' := T10) (g' := (mkF m 125 #[iv x0, iv x1, iv ((x0 &&& (2147483647 : Int32)) % (6 : Int32)), rv s0, iv (3 : Int32), iv (2 : Int32), iv (1 : Int32)] [(.ref s0)])) (fun t k => XS.aloadN X10.here hx rfl (hb hby at_124) rfl rfl k) ?_
        refine own_go (T' := T10) (g' := (mkF m 126 #[iv x0, iv x1, iv ((x0 &&& (2147483647 : Int32)) % (6 : Int32)), rv s0, iv (3 : Int32), iv (2 : Int32), iv (1 : Int32)] [(.int x1), (.ref s0)])) (fun t k => XS.iloadN X10.here hx rfl (hb hby at_125) rfl k) ?_
        obtain ⟨cq14, kq14, q14a, q14b, q14c⟩ := isOf hZ e10 E_LESS_OR_EQUAL
        obtain ⟨_, _, ⟨T14, L14, k14, n14⟩, -, X14, ⟨Lc14, hQ14, l14, y14, z14⟩, st14⟩ := X10.virtualBack hx (y := (⟨"com/example/events_in_order/eventsinorder/model/Comparison$Operator", "accepts", "(I)Z"⟩ : MethodName)) (z := (⟨"com/example/events_in_order/eventsinorder/model/Comparison$Operator", "accepts", "(I)Z"⟩ : MethodName)) hown (mvT hZ (hw _ (List.mem_of_getElem? (i := 4) rfl))) (mvT hZ (hw _ (List.mem_of_getElem? (i := 5) rfl))) (notFace_of_selects (args := #[]) (mvT hZ (hw _ (List.mem_of_getElem? (i := 7) rfl)))) (mvT hZ (hw _ (List.mem_of_getElem? (i := 7) rfl))) (mvT hZ (hw _ (List.mem_of_getElem? (i := 6) rfl))) (by decide) (backOf (W := 0) (own_racc l Z a0 hw [] s0 x1 (0 : Int32) h0 n0 Z0 O_LESS_OR_EQUAL E_LESS_OR_EQUAL (by decide)) hZ (hw _ (List.mem_of_getElem? (i := 8) rfl)) (hw _ (List.mem_of_getElem? (i := 2) rfl)) (by decide) (by decide)) q14a q14c (g := (mkF m 126 #[iv x0, iv x1, iv ((x0 &&& (2147483647 : Int32)) % (6 : Int32)), rv s0, iv (3 : Int32), iv (2 : Int32), iv (1 : Int32)] [(.int x1), (.ref s0)])) rfl (by rw [hml]; rfl) (Steps.refl _) (argsL := [(.int x1)]) (rest := []) (lenOf own_pd1 rfl) rfl (by show 2 * 0 + _ ≤ _; exact Nat.le_of_eq rfl) (hb hby at_126) (fun _ _ => ⟨rfl, e10, (by decide : 0 + 0 ≤ _), (by decide : 0 + 0 ≤ _)⟩)
        dsimp only [Pt.U, Pt.locs, Pt.cells, Pt.slots] at X14 l14 y14 z14 st14 hQ14
        subst l14 y14 z14
        obtain ⟨rfl, rfl, e14⟩ := hQ14
        have E14q : T14.heap = h0 := e14
        have N14 := Fr.app N0 (Fr.nil n0)
        refine own_go (T' := T14) (g' := (mkF m 129 #[iv x0, iv x1, iv ((x0 &&& (2147483647 : Int32)) % (6 : Int32)), rv s0, iv (3 : Int32), iv (2 : Int32), iv (1 : Int32)] [(.int (own_acc (0 : Int32) x1))])) (fun t k => st14.trans k) ?_
        refine own_go (T' := T14) (g' := (mkF m 131 #[iv x0, iv x1, iv ((x0 &&& (2147483647 : Int32)) % (6 : Int32)), rv s0, iv (3 : Int32), iv (2 : Int32), iv (1 : Int32)] [(.int (1 : Int32)), (.int (own_acc (0 : Int32) x1))])) (fun t k => XS.iload X14.here hx rfl (hb hby at_129) rfl k) ?_
        refine own_go (T' := T14) (g' := (mkF m 134 #[iv x0, iv x1, iv ((x0 &&& (2147483647 : Int32)) % (6 : Int32)), rv s0, iv (3 : Int32), iv (2 : Int32), iv (1 : Int32)] [])) (fun t k => XS.icmpNo X14.here hx rfl (hb hby at_131) rfl (teq (by have q := own_t2 hc13; simp +decide [own_acc, q, hc11, hc13] : ((own_acc (0 : Int32) x1) = (1 : Int32)))).2 k) ?_
        refine own_go (T' := T14) (g' := (mkF m 135 #[iv x0, iv x1, iv ((x0 &&& (2147483647 : Int32)) % (6 : Int32)), rv s0, iv (3 : Int32), iv (2 : Int32), iv (1 : Int32)] [(.int (1 : Int32))])) (fun t k => XS.iconst X14.here hx rfl (hb hby at_134) k) ?_
        refine own_go (T' := T14) (g' := (mkF m 139 #[iv x0, iv x1, iv ((x0 &&& (2147483647 : Int32)) % (6 : Int32)), rv s0, iv (3 : Int32), iv (2 : Int32), iv (1 : Int32)] [(.int (1 : Int32))])) (fun t k => XS.goto X14.here hx rfl (pc0 := 135) (pc' := 139) rfl (hb hby at_135) (by decide) (by decide) k) ?_
        exact own_ret X14 hlk hx Bd.returns rfl (Or.inl ⟨rfl, Or.inr (Or.inl rfl), _, rfl⟩) (hb hby at_139) (by first | exact ⟨rfl, N14⟩ | (rw [Fr] at *; exact ⟨rfl, by simpa using N14⟩)) (by decide) (by decide)
      · refine own_go (T' := T10) (g' := (mkF m 106 #[iv x0, iv x1, iv ((x0 &&& (2147483647 : Int32)) % (6 : Int32)), rv s0, iv (3 : Int32), .unset, .unset] [])) (fun t k => XS.ifYes X10.here hx rfl (pc0 := 99) (pc' := 106) rfl (hb hby at_99) rfl ((if0 _ _).trans (feq hc13).2) (by decide) (by decide) k) ?_
        refine own_go (T' := T10) (g' := (mkF m 107 #[iv x0, iv x1, iv ((x0 &&& (2147483647 : Int32)) % (6 : Int32)), rv s0, iv (3 : Int32), .unset, .unset] [(.int (4 : Int32))])) (fun t k => XS.iconst X10.here hx rfl (hb hby at_106) k) ?_
        refine own_go (T' := T10) (g' := (mkF m 109 #[iv x0, iv x1, iv ((x0 &&& (2147483647 : Int32)) % (6 : Int32)), rv s0, iv (3 : Int32), iv (4 : Int32), .unset] [])) (fun t k => XS.istore X10.here hx rfl (hb hby at_107) rfl (l' := #[iv x0, iv x1, iv ((x0 &&& (2147483647 : Int32)) % (6 : Int32)), rv s0, iv (3 : Int32), iv (4 : Int32), .unset]) rfl k) ?_
        refine own_go (T' := T10) (g' := (mkF m 111 #[iv x0, iv x1, iv ((x0 &&& (2147483647 : Int32)) % (6 : Int32)), rv s0, iv (3 : Int32), iv (4 : Int32), .unset] [(.int (3 : Int32))])) (fun t k => XS.iload X10.here hx rfl (hb hby at_109) rfl k) ?_
        refine own_go (T' := T10) (g' := (mkF m 113 #[iv x0, iv x1, iv ((x0 &&& (2147483647 : Int32)) % (6 : Int32)), rv s0, iv (3 : Int32), iv (4 : Int32), .unset] [(.int (4 : Int32)), (.int (3 : Int32))])) (fun t k => XS.iload X10.here hx rfl (hb hby at_111) rfl k) ?_
        refine own_go (T' := T10) (g' := (mkF m 114 #[iv x0, iv x1, iv ((x0 &&& (2147483647 : Int32)) % (6 : Int32)), rv s0, iv (3 : Int32), iv (4 : Int32), .unset] [(.int ((3 : Int32) &&& (4 : Int32)))])) (fun t k => XS.iand X10.here hx rfl (hb hby at_113) rfl k) ?_
        refine own_go (T' := T10) (g' := (mkF m 121 #[iv x0, iv x1, iv ((x0 &&& (2147483647 : Int32)) % (6 : Int32)), rv s0, iv (3 : Int32), iv (4 : Int32), .unset] [])) (fun t k => XS.ifYes X10.here hx rfl (pc0 := 114) (pc' := 121) rfl (hb hby at_114) rfl ((if0 _ _).trans (teq (by decide : (((3 : Int32) &&& (4 : Int32)) = (0 : Int32)))).1) (by decide) (by decide) k) ?_
        refine own_go (T' := T10) (g' := (mkF m 122 #[iv x0, iv x1, iv ((x0 &&& (2147483647 : Int32)) % (6 : Int32)), rv s0, iv (3 : Int32), iv (4 : Int32), .unset] [(.int (0 : Int32))])) (fun t k => XS.iconst X10.here hx rfl (hb hby at_121) k) ?_
        refine own_go (T' := T10) (g' := (mkF m 124 #[iv x0, iv x1, iv ((x0 &&& (2147483647 : Int32)) % (6 : Int32)), rv s0, iv (3 : Int32), iv (4 : Int32), iv (0 : Int32)] [])) (fun t k => XS.istore X10.here hx rfl (hb hby at_122) rfl (l' := #[iv x0, iv x1, iv ((x0 &&& (2147483647 : Int32)) % (6 : Int32)), rv s0, iv (3 : Int32), iv (4 : Int32), iv (0 : Int32)]) rfl k) ?_
        refine own_go (T' := T10) (g' := (mkF m 125 #[iv x0, iv x1, iv ((x0 &&& (2147483647 : Int32)) % (6 : Int32)), rv s0, iv (3 : Int32), iv (4 : Int32), iv (0 : Int32)] [(.ref s0)])) (fun t k => XS.aloadN X10.here hx rfl (hb hby at_124) rfl rfl k) ?_
        refine own_go (T' := T10) (g' := (mkF m 126 #[iv x0, iv x1, iv ((x0 &&& (2147483647 : Int32)) % (6 : Int32)), rv s0, iv (3 : Int32), iv (4 : Int32), iv (0 : Int32)] [(.int x1), (.ref s0)])) (fun t k => XS.iloadN X10.here hx rfl (hb hby at_125) rfl k) ?_
        obtain ⟨cq15, kq15, q15a, q15b, q15c⟩ := isOf hZ e10 E_LESS_OR_EQUAL
        obtain ⟨_, _, ⟨T15, L15, k15, n15⟩, -, X15, ⟨Lc15, hQ15, l15, y15, z15⟩, st15⟩ := X10.virtualBack hx (y := (⟨"com/example/events_in_order/eventsinorder/model/Comparison$Operator", "accepts", "(I)Z"⟩ : MethodName)) (z := (⟨"com/example/events_in_order/eventsinorder/model/Comparison$Operator", "accepts", "(I)Z"⟩ : MethodName)) hown (mvT hZ (hw _ (List.mem_of_getElem? (i := 4) rfl))) (mvT hZ (hw _ (List.mem_of_getElem? (i := 5) rfl))) (notFace_of_selects (args := #[]) (mvT hZ (hw _ (List.mem_of_getElem? (i := 7) rfl)))) (mvT hZ (hw _ (List.mem_of_getElem? (i := 7) rfl))) (mvT hZ (hw _ (List.mem_of_getElem? (i := 6) rfl))) (by decide) (backOf (W := 0) (own_racc l Z a0 hw [] s0 x1 (0 : Int32) h0 n0 Z0 O_LESS_OR_EQUAL E_LESS_OR_EQUAL (by decide)) hZ (hw _ (List.mem_of_getElem? (i := 8) rfl)) (hw _ (List.mem_of_getElem? (i := 2) rfl)) (by decide) (by decide)) q15a q15c (g := (mkF m 126 #[iv x0, iv x1, iv ((x0 &&& (2147483647 : Int32)) % (6 : Int32)), rv s0, iv (3 : Int32), iv (4 : Int32), iv (0 : Int32)] [(.int x1), (.ref s0)])) rfl (by rw [hml]; rfl) (Steps.refl _) (argsL := [(.int x1)]) (rest := []) (lenOf own_pd1 rfl) rfl (by show 2 * 0 + _ ≤ _; exact Nat.le_of_eq rfl) (hb hby at_126) (fun _ _ => ⟨rfl, e10, (by decide : 0 + 0 ≤ _), (by decide : 0 + 0 ≤ _)⟩)
        dsimp only [Pt.U, Pt.locs, Pt.cells, Pt.slots] at X15 l15 y15 z15 st15 hQ15
        subst l15 y15 z15
        obtain ⟨rfl, rfl, e15⟩ := hQ15
        have E15q : T15.heap = h0 := e15
        have N15 := Fr.app N0 (Fr.nil n0)
        refine own_go (T' := T15) (g' := (mkF m 129 #[iv x0, iv x1, iv ((x0 &&& (2147483647 : Int32)) % (6 : Int32)), rv s0, iv (3 : Int32), iv (4 : Int32), iv (0 : Int32)] [(.int (own_acc (0 : Int32) x1))])) (fun t k => st15.trans k) ?_
        refine own_go (T' := T15) (g' := (mkF m 131 #[iv x0, iv x1, iv ((x0 &&& (2147483647 : Int32)) % (6 : Int32)), rv s0, iv (3 : Int32), iv (4 : Int32), iv (0 : Int32)] [(.int (0 : Int32)), (.int (own_acc (0 : Int32) x1))])) (fun t k => XS.iload X15.here hx rfl (hb hby at_129) rfl k) ?_
        refine own_go (T' := T15) (g' := (mkF m 134 #[iv x0, iv x1, iv ((x0 &&& (2147483647 : Int32)) % (6 : Int32)), rv s0, iv (3 : Int32), iv (4 : Int32), iv (0 : Int32)] [])) (fun t k => XS.icmpNo X15.here hx rfl (hb hby at_131) rfl (teq (by have q := own_t3 hc11 hc13; simp +decide [own_acc, q, hc11, hc13] : ((own_acc (0 : Int32) x1) = (0 : Int32)))).2 k) ?_
        refine own_go (T' := T15) (g' := (mkF m 135 #[iv x0, iv x1, iv ((x0 &&& (2147483647 : Int32)) % (6 : Int32)), rv s0, iv (3 : Int32), iv (4 : Int32), iv (0 : Int32)] [(.int (1 : Int32))])) (fun t k => XS.iconst X15.here hx rfl (hb hby at_134) k) ?_
        refine own_go (T' := T15) (g' := (mkF m 139 #[iv x0, iv x1, iv ((x0 &&& (2147483647 : Int32)) % (6 : Int32)), rv s0, iv (3 : Int32), iv (4 : Int32), iv (0 : Int32)] [(.int (1 : Int32))])) (fun t k => XS.goto X15.here hx rfl (pc0 := 135) (pc' := 139) rfl (hb hby at_135) (by decide) (by decide) k) ?_
        exact own_ret X15 hlk hx Bd.returns rfl (Or.inl ⟨rfl, Or.inr (Or.inl rfl), _, rfl⟩) (hb hby at_139) (by first | exact ⟨rfl, N15⟩ | (rw [Fr] at *; exact ⟨rfl, by simpa using N15⟩)) (by decide) (by decide)
  · refine own_go (T' := s₁) (g' := (mkF m 22 #[iv x0, iv x1, iv ((x0 &&& (2147483647 : Int32)) % (6 : Int32)), .unset, .unset, .unset, .unset] [])) (fun t k => XS.ifYes X0.here hx rfl (pc0 := 9) (pc' := 22) rfl (hb hby at_9) rfl ((if0 _ _).trans (feq hc9).2) (by decide) (by decide) k) ?_
    refine own_go (T' := s₁) (g' := (mkF m 23 #[iv x0, iv x1, iv ((x0 &&& (2147483647 : Int32)) % (6 : Int32)), .unset, .unset, .unset, .unset] [(.int ((x0 &&& (2147483647 : Int32)) % (6 : Int32)))])) (fun t k => XS.iloadN X0.here hx rfl (hb hby at_22) rfl k) ?_
    refine own_go (T' := s₁) (g' := (mkF m 24 #[iv x0, iv x1, iv ((x0 &&& (2147483647 : Int32)) % (6 : Int32)), .unset, .unset, .unset, .unset] [(.int (1 : Int32)), (.int ((x0 &&& (2147483647 : Int32)) % (6 : Int32)))])) (fun t k => XS.iconst X0.here hx rfl (hb hby at_23) k) ?_
    by_cases hc16 : ((x0 &&& (2147483647 : Int32)) % (6 : Int32)) = (1 : Int32)
    · refine own_go (T' := s₁) (g' := (mkF m 27 #[iv x0, iv x1, iv ((x0 &&& (2147483647 : Int32)) % (6 : Int32)), .unset, .unset, .unset, .unset] [])) (fun t k => XS.icmpNo X0.here hx rfl (hb hby at_24) rfl (teq hc16).2 k) ?_
      obtain ⟨T17, X17, e17, st17⟩ := getS2 X0 hx hZ hown (host := "") (Or.inl (hw _ (List.mem_of_getElem? (i := 22) rfl))) Via.refl e0 S_GREATER_OR_EQUAL (g := (mkF m 27 #[iv x0, iv x1, iv ((x0 &&& (2147483647 : Int32)) % (6 : Int32)), .unset, .unset, .unset, .unset] [])) rfl (hb hby at_27)
      refine own_go (T' := T17) (g' := (mkF m 30 #[iv x0, iv x1, iv ((x0 &&& (2147483647 : Int32)) % (6 : Int32)), .unset, .unset, .unset, .unset] [(.ref s1)])) (st17) ?_
      refine own_go (T' := T17) (g' := (mkF m 31 #[iv x0, iv x1, iv ((x0 &&& (2147483647 : Int32)) % (6 : Int32)), rv s1, .unset, .unset, .unset] [])) (fun t k => XS.astoreN X17.here hx rfl (hb hby at_30) rfl rfl (l' := #[iv x0, iv x1, iv ((x0 &&& (2147483647 : Int32)) % (6 : Int32)), rv s1, .unset, .unset, .unset]) rfl k) ?_
      refine own_go (T' := T17) (g' := (mkF m 33 #[iv x0, iv x1, iv ((x0 &&& (2147483647 : Int32)) % (6 : Int32)), rv s1, .unset, .unset, .unset] [(.int (6 : Int32))])) (fun t k => XS.bipush X17.here hx rfl (hb hby at_31) k) ?_
      refine own_go (T' := T17) (g' := (mkF m 35 #[iv x0, iv x1, iv ((x0 &&& (2147483647 : Int32)) % (6 : Int32)), rv s1, iv (6 : Int32), .unset, .unset] [])) (fun t k => XS.istore X17.here hx rfl (hb hby at_33) rfl (l' := #[iv x0, iv x1, iv ((x0 &&& (2147483647 : Int32)) % (6 : Int32)), rv s1, iv (6 : Int32), .unset, .unset]) rfl k) ?_
      refine own_go (T' := T17) (g' := (mkF m 90 #[iv x0, iv x1, iv ((x0 &&& (2147483647 : Int32)) % (6 : Int32)), rv s1, iv (6 : Int32), .unset, .unset] [])) (fun t k => XS.goto X17.here hx rfl (pc0 := 35) (pc' := 90) rfl (hb hby at_35) (by decide) (by decide) k) ?_
      refine own_go (T' := T17) (g' := (mkF m 91 #[iv x0, iv x1, iv ((x0 &&& (2147483647 : Int32)) % (6 : Int32)), rv s1, iv (6 : Int32), .unset, .unset] [(.int x1)])) (fun t k => XS.iloadN X17.here hx rfl (hb hby at_90) rfl k) ?_
      by_cases hc18 : x1 < (0 : Int32)
      · refine own_go (T' := T17) (g' := (mkF m 94 #[iv x0, iv x1, iv ((x0 &&& (2147483647 : Int32)) % (6 : Int32)), rv s1, iv (6 : Int32), .unset, .unset] [])) (fun t k => XS.ifNo X17.here hx rfl (hb hby at_91) rfl ((if0 _ _).trans (tlt hc18).2.1) k) ?_
        refine own_go (T' := T17) (g' := (mkF m 95 #[iv x0, iv x1, iv ((x0 &&& (2147483647 : Int32)) % (6 : Int32)), rv s1, iv (6 : Int32), .unset, .unset] [(.int (1 : Int32))])) (fun t k => XS.iconst X17.here hx rfl (hb hby at_94) k) ?_
        refine own_go (T' := T17) (g' := (mkF m 107 #[iv x0, iv x1, iv ((x0 &&& (2147483647 : Int32)) % (6 : Int32)), rv s1, iv (6 : Int32), .unset, .unset] [(.int (1 : Int32))])) (fun t k => XS.goto X17.here hx rfl (pc0 := 95) (pc' := 107) rfl (hb hby at_95) (by decide) (by decide) k) ?_
        refine own_go (T' := T17) (g' := (mkF m 109 #[iv x0, iv x1, iv ((x0 &&& (2147483647 : Int32)) % (6 : Int32)), rv s1, iv (6 : Int32), iv (1 : Int32), .unset] [])) (fun t k => XS.istore X17.here hx rfl (hb hby at_107) rfl (l' := #[iv x0, iv x1, iv ((x0 &&& (2147483647 : Int32)) % (6 : Int32)), rv s1, iv (6 : Int32), iv (1 : Int32), .unset]) rfl k) ?_
        refine own_go (T' := T17) (g' := (mkF m 111 #[iv x0, iv x1, iv ((x0 &&& (2147483647 : Int32)) % (6 : Int32)), rv s1, iv (6 : Int32), iv (1 : Int32), .unset] [(.int (6 : Int32))])) (fun t k => XS.iload X17.here hx rfl (hb hby at_109) rfl k) ?_
        refine own_go (T' := T17) (g' := (mkF m 113 #[iv x0, iv x1, iv ((x0 &&& (2147483647 : Int32)) % (6 : Int32)), rv s1, iv (6 : Int32), iv (1 : Int32), .unset] [(.int (1 : Int32)), (.int (6 : Int32))])) (fun t k => XS.iload X17.here hx rfl (hb hby at_111) rfl k) ?_
        refine own_go (T' := T17) (g' := (mkF m 114 #[iv x0, iv x1, iv ((x0 &&& (2147483647 : Int32)) % (6 : Int32)), rv s1, iv (6 : Int32), iv (1 : Int32), .unset] [(.int ((6 : Int32) &&& (1 : Int32)))])) (fun t k => XS.iand X17.here hx rfl (hb hby at_113) rfl k) ?_
        refine own_go (T' := T17) (g' := (mkF m 121 #[iv x0, iv x1, iv ((x0 &&& (2147483647 : Int32)) % (6 : Int32)), rv s1, iv (6 : Int32), iv (1 : Int32), .unset] [])) (fun t k => XS.ifYes X17.here hx rfl (pc0 := 114) (pc' := 121) rfl (hb hby at_114) rfl ((if0 _ _).trans (teq (by decide : (((6 : Int32) &&& (1 : Int32)) = (0 : Int32)))).1) (by decide) (by decide) k) ?_
        refine own_go (T' := T17) (g' := (mkF m 122 #[iv x0, iv x1, iv ((x0 &&& (2147483647 : Int32)) % (6 : Int32)), rv s1, iv (6 : Int32), iv (1 : Int32), .unset] [(.int (0 : Int32))])) (fun t k => XS.iconst X17.here hx rfl (hb hby at_121) k) ?_
        refine own_go (T' := T17) (g' := (mkF m 124 #[iv x0, iv x1, iv ((x0 &&& (2147483647 : Int32)) % (6 : Int32)), rv s1, iv (6 : Int32), iv (1 : Int32), iv (0 : Int32)] [])) (fun t k => XS.istore X17.here hx rfl (hb hby at_122) rfl (l' := #[iv x0, iv x1, iv ((x0 &&& (2147483647 : Int32)) % (6 : Int32)), rv s1, iv (6 : Int32), iv (1 : Int32), iv (0 : Int32)]) rfl k) ?_
        refine own_go (T' := T17) (g' := (mkF m 125 #[iv x0, iv x1, iv ((x0 &&& (2147483647 : Int32)) % (6 : Int32)), rv s1, iv (6 : Int32), iv (1 : Int32), iv (0 : Int32)] [(.ref s1)])) (fun t k => XS.aloadN X17.here hx rfl (hb hby at_124) rfl rfl k) ?_
        refine own_go (T' := T17) (g' := (mkF m 126 #[iv x0, iv x1, iv ((x0 &&& (2147483647 : Int32)) % (6 : Int32)), rv s1, iv (6 : Int32), iv (1 : Int32), iv (0 : Int32)] [(.int x1), (.ref s1)])) (fun t k => XS.iloadN X17.here hx rfl (hb hby at_125) rfl k) ?_
        obtain ⟨cq19, kq19, q19a, q19b, q19c⟩ := isOf hZ e17 E_GREATER_OR_EQUAL
        obtain ⟨_, _, ⟨T19, L19, k19, n19⟩, -, X19, ⟨Lc19, hQ19, l19, y19, z19⟩, st19⟩ := X17.virtualBack hx (y := (⟨"com/example/events_in_order/eventsinorder/model/Comparison$Operator", "accepts", "(I)Z"⟩ : MethodName)) (z := (⟨"com/example/events_in_order/eventsinorder/model/Comparison$Operator", "accepts", "(I)Z"⟩ : MethodName)) hown (mvT hZ (hw _ (List.mem_of_getElem? (i := 4) rfl))) (mvT hZ (hw _ (List.mem_of_getElem? (i := 5) rfl))) (notFace_of_selects (args := #[]) (mvT hZ (hw _ (List.mem_of_getElem? (i := 7) rfl)))) (mvT hZ (hw _ (List.mem_of_getElem? (i := 7) rfl))) (mvT hZ (hw _ (List.mem_of_getElem? (i := 6) rfl))) (by decide) (backOf (W := 0) (own_racc l Z a0 hw [] s1 x1 (1 : Int32) h0 n0 Z0 O_GREATER_OR_EQUAL E_GREATER_OR_EQUAL (by decide)) hZ (hw _ (List.mem_of_getElem? (i := 8) rfl)) (hw _ (List.mem_of_getElem? (i := 2) rfl)) (by decide) (by decide)) q19a q19c (g := (mkF m 126 #[iv x0, iv x1, iv ((x0 &&& (2147483647 : Int32)) % (6 : Int32)), rv s1, iv (6 : Int32), iv (1 : Int32), iv (0 : Int32)] [(.int x1), (.ref s1)])) rfl (by rw [hml]; rfl) (Steps.refl _) (argsL := [(.int x1)]) (rest := []) (lenOf own_pd1 rfl) rfl (by show 2 * 0 + _ ≤ _; exact Nat.le_of_eq rfl) (hb hby at_126) (fun _ _ => ⟨rfl, e17, (by decide : 0 + 0 ≤ _), (by decide : 0 + 0 ≤ _)⟩)
        dsimp only [Pt.U, Pt.locs, Pt.cells, Pt.slots] at X19 l19 y19 z19 st19 hQ19
        subst l19 y19 z19
        obtain ⟨rfl, rfl, e19⟩ := hQ19
        have E19q : T19.heap = h0 := e19
        have N19 := Fr.app N0 (Fr.nil n0)
        refine own_go (T' := T19) (g' := (mkF m 129 #[iv x0, iv x1, iv ((x0 &&& (2147483647 : Int32)) % (6 : Int32)), rv s1, iv (6 : Int32), iv (1 : Int32), iv (0 : Int32)] [(.int (own_acc (1 : Int32) x1))])) (fun t k => st19.trans k) ?_
        refine own_go (T' := T19) (g' := (mkF m 131 #[iv x0, iv x1, iv ((x0 &&& (2147483647 : Int32)) % (6 : Int32)), rv s1, iv (6 : Int32), iv (1 : Int32), iv (0 : Int32)] [(.int (0 : Int32)), (.int (own_acc (1 : Int32) x1))])) (fun t k => XS.iload X19.here hx rfl (hb hby at_129) rfl k) ?_
        refine own_go (T' := T19) (g' := (mkF m 134 #[iv x0, iv x1, iv ((x0 &&& (2147483647 : Int32)) % (6 : Int32)), rv s1, iv (6 : Int32), iv (1 : Int32), iv (0 : Int32)] [])) (fun t k => XS.icmpNo X19.here hx rfl (hb hby at_131) rfl (teq (by have q := own_t1 hc18; simp +decide [own_acc, q, hc18] : ((own_acc (1 : Int32) x1) = (0 : Int32)))).2 k) ?_
        refine own_go (T' := T19) (g' := (mkF m 135 #[iv x0, iv x1, iv ((x0 &&& (2147483647 : Int32)) % (6 : Int32)), rv s1, iv (6 : Int32), iv (1 : Int32), iv (0 : Int32)] [(.int (1 : Int32))])) (fun t k => XS.iconst X19.here hx rfl (hb hby at_134) k) ?_
        refine own_go (T' := T19) (g' := (mkF m 139 #[iv x0, iv x1, iv ((x0 &&& (2147483647 : Int32)) % (6 : Int32)), rv s1, iv (6 : Int32), iv (1 : Int32), iv (0 : Int32)] [(.int (1 : Int32))])) (fun t k => XS.goto X19.here hx rfl (pc0 := 135) (pc' := 139) rfl (hb hby at_135) (by decide) (by decide) k) ?_
        exact own_ret X19 hlk hx Bd.returns rfl (Or.inl ⟨rfl, Or.inr (Or.inl rfl), _, rfl⟩) (hb hby at_139) (by first | exact ⟨rfl, N19⟩ | (rw [Fr] at *; exact ⟨rfl, by simpa using N19⟩)) (by decide) (by decide)
      · refine own_go (T' := T17) (g' := (mkF m 98 #[iv x0, iv x1, iv ((x0 &&& (2147483647 : Int32)) % (6 : Int32)), rv s1, iv (6 : Int32), .unset, .unset] [])) (fun t k => XS.ifYes X17.here hx rfl (pc0 := 91) (pc' := 98) rfl (hb hby at_91) rfl ((if0 _ _).trans (flt hc18).2.1) (by decide) (by decide) k) ?_
        refine own_go (T' := T17) (g' := (mkF m 99 #[iv x0, iv x1, iv ((x0 &&& (2147483647 : Int32)) % (6 : Int32)), rv s1, iv (6 : Int32), .unset, .unset] [(.int x1)])) (fun t k => XS.iloadN X17.here hx rfl (hb hby at_98) rfl k) ?_
        by_cases hc20 : x1 = (0 : Int32)
        · refine own_go (T' := T17) (g' := (mkF m 102 #[iv x0, iv x1, iv ((x0 &&& (2147483647 : Int32)) % (6 : Int32)), rv s1, iv (6 : Int32), .unset, .unset] [])) (fun t k => XS.ifNo X17.here hx rfl (hb hby at_99) rfl ((if0 _ _).trans (teq hc20).2) k) ?_
          refine own_go (T' := T17) (g' := (mkF m 103 #[iv x0, iv x1, iv ((x0 &&& (2147483647 : Int32)) % (6 : Int32)), rv s1, iv (6 : Int32), .unset, .unset] [(.int (2 : Int32))])) (fun t k => XS.iconst X17.here hx rfl (hb hby at_102) k) ?_
          refine own_go (T' := T17) (g' := (mkF m 107 #[iv x0, iv x1, iv ((x0 &&& (2147483647 : Int32)) % (6 : Int32)), rv s1, iv (6 : Int32), .unset, .unset] [(.int (2 : Int32))])) (fun t k => XS.goto X17.here hx rfl (pc0 := 103) (pc' := 107) rfl (hb hby at_103) (by decide) (by decide) k) ?_
          refine own_go (T' := T17) (g' := (mkF m 109 #[iv x0, iv x1, iv ((x0 &&& (2147483647 : Int32)) % (6 : Int32)), rv s1, iv (6 : Int32), iv (2 : Int32), .unset] [])) (fun t k => XS.istore X17.here hx rfl (hb hby at_107) rfl (l' := #[iv x0, iv x1, iv ((x0 &&& (2147483647 : Int32)) % (6 : Int32)), rv s1, iv (6 : Int32), iv (2 : Int32), .unset]) rfl k) ?_
          refine own_go (T' := T17) (g' := (mkF m 111 #[iv x0, iv x1, iv ((x0 &&& (2147483647 : Int32)) % (6 : Int32)), rv s1, iv (6 : Int32), iv (2 : Int32), .unset] [(.int (6 : Int32))])) (fun t k => XS.iload X17.here hx rfl (hb hby at_109) rfl k) ?_
          refine own_go (T' := T17) (g' := (mkF m 113 #[iv x0, iv x1, iv ((x0 &&& (2147483647 : Int32)) % (6 : Int32)), rv s1, iv (6 : Int32), iv (2 : Int32), .unset] [(.int (2 : Int32)), (.int (6 : Int32))])) (fun t k => XS.iload X17.here hx rfl (hb hby at_111) rfl k) ?_
          refine own_go (T' := T17) (g' := (mkF m 114 #[iv x0, iv x1, iv ((x0 &&& (2147483647 : Int32)) % (6 : Int32)), rv s1, iv (6 : Int32), iv (2 : Int32), .unset] [(.int ((6 : Int32) &&& (2 : Int32)))])) (fun t k => XS.iand X17.here hx rfl (hb hby at_113) rfl k) ?_
          refine own_go (T' := T17) (g' := (mkF m 117 #[iv x0, iv x1, iv ((x0 &&& (2147483647 : Int32)) % (6 : Int32)), rv s1, iv (6 : Int32), iv (2 : Int32), .unset] [])) (fun t k => XS.ifNo X17.here hx rfl (hb hby at_114) rfl ((if0 _ _).trans (feq (by decide : ¬ (((6 : Int32) &&& (2 : Int32)) = (0 : Int32)))).1) k) ?_
          refine own_go (T' := T17) (g' := (mkF m 118 #[iv x0, iv x1, iv ((x0 &&& (2147483647 : Int32)) % (6 : Int32)), rv s1, iv (6 : Int32), iv (2 : Int32), .unset] [(.int (1 : Int32))])) (fun t k => XS.iconst X17.here hx rfl (hb hby at_117) k) ?_
          refine own_go (T' := T17) (g' := (mkF m 122 #[iv x0, iv x1, iv ((x0 &&& (2147483647 : Int32)) % (6 : Int32)), rv s1, iv (6 : Int32), iv (2 : Int32), .unset] [(.int (1 : Int32))])) (fun t k => XS.goto X17.here hx rfl (pc0 := 118) (pc' := 122) rfl (hb hby at_118) (by decide) (by decide) k) ?_
          refine own_go (T' := T17) (g' := (mkF m 124 #[iv x0, iv x1, iv ((x0 &&& (2147483647 : Int32)) % (6 : Int32)), rv s1, iv (6 : Int32), iv (2 : Int32), iv (1 : Int32)] [])) (fun t k => XS.istore X17.here hx rfl (hb hby at_122) rfl (l' := #[iv x0, iv x1, iv ((x0 &&& (2147483647 : Int32)) % (6 : Int32)), rv s1, iv (6 : Int32), iv (2 : Int32), iv (1 : Int32)]) rfl k) ?_
          refine own_go (T' := T17) (g' := (mkF m 125 #[iv x0, iv x1, iv ((x0 &&& (2147483647 : Int32)) % (6 : Int32)), rv s1, iv (6 : Int32), iv (2 : Int32), iv (1 : Int32)] [(.ref s1)])) (fun t k => XS.aloadN X17.here hx rfl (hb hby at_124) rfl rfl k) ?_
          refine own_go (T' := T17) (g' := (mkF m 126 #[iv x0, iv x1, iv ((x0 &&& (2147483647 : Int32)) % (6 : Int32)), rv s1, iv (6 : Int32), iv (2 : Int32), iv (1 : Int32)] [(.int x1), (.ref s1)])) (fun t k => XS.iloadN X17.here hx rfl (hb hby at_125) rfl k) ?_
          obtain ⟨cq21, kq21, q21a, q21b, q21c⟩ := isOf hZ e17 E_GREATER_OR_EQUAL
          obtain ⟨_, _, ⟨T21, L21, k21, n21⟩, -, X21, ⟨Lc21, hQ21, l21, y21, z21⟩, st21⟩ := X17.virtualBack hx (y := (⟨"com/example/events_in_order/eventsinorder/model/Comparison$Operator", "accepts", "(I)Z"⟩ : MethodName)) (z := (⟨"com/example/events_in_order/eventsinorder/model/Comparison$Operator", "accepts", "(I)Z"⟩ : MethodName)) hown (mvT hZ (hw _ (List.mem_of_getElem? (i := 4) rfl))) (mvT hZ (hw _ (List.mem_of_getElem? (i := 5) rfl))) (notFace_of_selects (args := #[]) (mvT hZ (hw _ (List.mem_of_getElem? (i := 7) rfl)))) (mvT hZ (hw _ (List.mem_of_getElem? (i := 7) rfl))) (mvT hZ (hw _ (List.mem_of_getElem? (i := 6) rfl))) (by decide) (backOf (W := 0) (own_racc l Z a0 hw [] s1 x1 (1 : Int32) h0 n0 Z0 O_GREATER_OR_EQUAL E_GREATER_OR_EQUAL (by decide)) hZ (hw _ (List.mem_of_getElem? (i := 8) rfl)) (hw _ (List.mem_of_getElem? (i := 2) rfl)) (by decide) (by decide)) q21a q21c (g := (mkF m 126 #[iv x0, iv x1, iv ((x0 &&& (2147483647 : Int32)) % (6 : Int32)), rv s1, iv (6 : Int32), iv (2 : Int32), iv (1 : Int32)] [(.int x1), (.ref s1)])) rfl (by rw [hml]; rfl) (Steps.refl _) (argsL := [(.int x1)]) (rest := []) (lenOf own_pd1 rfl) rfl (by show 2 * 0 + _ ≤ _; exact Nat.le_of_eq rfl) (hb hby at_126) (fun _ _ => ⟨rfl, e17, (by decide : 0 + 0 ≤ _), (by decide : 0 + 0 ≤ _)⟩)
          dsimp only [Pt.U, Pt.locs, Pt.cells, Pt.slots] at X21 l21 y21 z21 st21 hQ21
          subst l21 y21 z21
          obtain ⟨rfl, rfl, e21⟩ := hQ21
          have E21q : T21.heap = h0 := e21
          have N21 := Fr.app N0 (Fr.nil n0)
          refine own_go (T' := T21) (g' := (mkF m 129 #[iv x0, iv x1, iv ((x0 &&& (2147483647 : Int32)) % (6 : Int32)), rv s1, iv (6 : Int32), iv (2 : Int32), iv (1 : Int32)] [(.int (own_acc (1 : Int32) x1))])) (fun t k => st21.trans k) ?_
          refine own_go (T' := T21) (g' := (mkF m 131 #[iv x0, iv x1, iv ((x0 &&& (2147483647 : Int32)) % (6 : Int32)), rv s1, iv (6 : Int32), iv (2 : Int32), iv (1 : Int32)] [(.int (1 : Int32)), (.int (own_acc (1 : Int32) x1))])) (fun t k => XS.iload X21.here hx rfl (hb hby at_129) rfl k) ?_
          refine own_go (T' := T21) (g' := (mkF m 134 #[iv x0, iv x1, iv ((x0 &&& (2147483647 : Int32)) % (6 : Int32)), rv s1, iv (6 : Int32), iv (2 : Int32), iv (1 : Int32)] [])) (fun t k => XS.icmpNo X21.here hx rfl (hb hby at_131) rfl (teq (by have q := own_t2 hc20; simp +decide [own_acc, q, hc18, hc20] : ((own_acc (1 : Int32) x1) = (1 : Int32)))).2 k) ?_
          refine own_go (T' := T21) (g' := (mkF m 135 #[iv x0, iv x1, iv ((x0 &&& (2147483647 : Int32)) % (6 : Int32)), rv s1, iv (6 : Int32), iv (2 : Int32), iv (1 : Int32)] [(.int (1 : Int32))])) (fun t k => XS.iconst X21.here hx rfl (hb hby at_134) k) ?_
          refine own_go (T' := T21) (g' := (mkF m 139 #[iv x0, iv x1, iv ((x0 &&& (2147483647 : Int32)) % (6 : Int32)), rv s1, iv (6 : Int32), iv (2 : Int32), iv (1 : Int32)] [(.int (1 : Int32))])) (fun t k => XS.goto X21.here hx rfl (pc0 := 135) (pc' := 139) rfl (hb hby at_135) (by decide) (by decide) k) ?_
          exact own_ret X21 hlk hx Bd.returns rfl (Or.inl ⟨rfl, Or.inr (Or.inl rfl), _, rfl⟩) (hb hby at_139) (by first | exact ⟨rfl, N21⟩ | (rw [Fr] at *; exact ⟨rfl, by simpa using N21⟩)) (by decide) (by decide)
        · refine own_go (T' := T17) (g' := (mkF m 106 #[iv x0, iv x1, iv ((x0 &&& (2147483647 : Int32)) % (6 : Int32)), rv s1, iv (6 : Int32), .unset, .unset] [])) (fun t k => XS.ifYes X17.here hx rfl (pc0 := 99) (pc' := 106) rfl (hb hby at_99) rfl ((if0 _ _).trans (feq hc20).2) (by decide) (by decide) k) ?_
          refine own_go (T' := T17) (g' := (mkF m 107 #[iv x0, iv x1, iv ((x0 &&& (2147483647 : Int32)) % (6 : Int32)), rv s1, iv (6 : Int32), .unset, .unset] [(.int (4 : Int32))])) (fun t k => XS.iconst X17.here hx rfl (hb hby at_106) k) ?_
          refine own_go (T' := T17) (g' := (mkF m 109 #[iv x0, iv x1, iv ((x0 &&& (2147483647 : Int32)) % (6 : Int32)), rv s1, iv (6 : Int32), iv (4 : Int32), .unset] [])) (fun t k => XS.istore X17.here hx rfl (hb hby at_107) rfl (l' := #[iv x0, iv x1, iv ((x0 &&& (2147483647 : Int32)) % (6 : Int32)), rv s1, iv (6 : Int32), iv (4 : Int32), .unset]) rfl k) ?_
          refine own_go (T' := T17) (g' := (mkF m 111 #[iv x0, iv x1, iv ((x0 &&& (2147483647 : Int32)) % (6 : Int32)), rv s1, iv (6 : Int32), iv (4 : Int32), .unset] [(.int (6 : Int32))])) (fun t k => XS.iload X17.here hx rfl (hb hby at_109) rfl k) ?_
          refine own_go (T' := T17) (g' := (mkF m 113 #[iv x0, iv x1, iv ((x0 &&& (2147483647 : Int32)) % (6 : Int32)), rv s1, iv (6 : Int32), iv (4 : Int32), .unset] [(.int (4 : Int32)), (.int (6 : Int32))])) (fun t k => XS.iload X17.here hx rfl (hb hby at_111) rfl k) ?_
          refine own_go (T' := T17) (g' := (mkF m 114 #[iv x0, iv x1, iv ((x0 &&& (2147483647 : Int32)) % (6 : Int32)), rv s1, iv (6 : Int32), iv (4 : Int32), .unset] [(.int ((6 : Int32) &&& (4 : Int32)))])) (fun t k => XS.iand X17.here hx rfl (hb hby at_113) rfl k) ?_
          refine own_go (T' := T17) (g' := (mkF m 117 #[iv x0, iv x1, iv ((x0 &&& (2147483647 : Int32)) % (6 : Int32)), rv s1, iv (6 : Int32), iv (4 : Int32), .unset] [])) (fun t k => XS.ifNo X17.here hx rfl (hb hby at_114) rfl ((if0 _ _).trans (feq (by decide : ¬ (((6 : Int32) &&& (4 : Int32)) = (0 : Int32)))).1) k) ?_
          refine own_go (T' := T17) (g' := (mkF m 118 #[iv x0, iv x1, iv ((x0 &&& (2147483647 : Int32)) % (6 : Int32)), rv s1, iv (6 : Int32), iv (4 : Int32), .unset] [(.int (1 : Int32))])) (fun t k => XS.iconst X17.here hx rfl (hb hby at_117) k) ?_
          refine own_go (T' := T17) (g' := (mkF m 122 #[iv x0, iv x1, iv ((x0 &&& (2147483647 : Int32)) % (6 : Int32)), rv s1, iv (6 : Int32), iv (4 : Int32), .unset] [(.int (1 : Int32))])) (fun t k => XS.goto X17.here hx rfl (pc0 := 118) (pc' := 122) rfl (hb hby at_118) (by decide) (by decide) k) ?_
          refine own_go (T' := T17) (g' := (mkF m 124 #[iv x0, iv x1, iv ((x0 &&& (2147483647 : Int32)) % (6 : Int32)), rv s1, iv (6 : Int32), iv (4 : Int32), iv (1 : Int32)] [])) (fun t k => XS.istore X17.here hx rfl (hb hby at_122) rfl (l' := #[iv x0, iv x1, iv ((x0 &&& (2147483647 : Int32)) % (6 : Int32)), rv s1, iv (6 : Int32), iv (4 : Int32), iv (1 : Int32)]) rfl k) ?_
          refine own_go (T' := T17) (g' := (mkF m 125 #[iv x0, iv x1, iv ((x0 &&& (2147483647 : Int32)) % (6 : Int32)), rv s1, iv (6 : Int32), iv (4 : Int32), iv (1 : Int32)] [(.ref s1)])) (fun t k => XS.aloadN X17.here hx rfl (hb hby at_124) rfl rfl k) ?_
          refine own_go (T' := T17) (g' := (mkF m 126 #[iv x0, iv x1, iv ((x0 &&& (2147483647 : Int32)) % (6 : Int32)), rv s1, iv (6 : Int32), iv (4 : Int32), iv (1 : Int32)] [(.int x1), (.ref s1)])) (fun t k => XS.iloadN X17.here hx rfl (hb hby at_125) rfl k) ?_
          obtain ⟨cq22, kq22, q22a, q22b, q22c⟩ := isOf hZ e17 E_GREATER_OR_EQUAL
          obtain ⟨_, _, ⟨T22, L22, k22, n22⟩, -, X22, ⟨Lc22, hQ22, l22, y22, z22⟩, st22⟩ := X17.virtualBack hx (y := (⟨"com/example/events_in_order/eventsinorder/model/Comparison$Operator", "accepts", "(I)Z"⟩ : MethodName)) (z := (⟨"com/example/events_in_order/eventsinorder/model/Comparison$Operator", "accepts", "(I)Z"⟩ : MethodName)) hown (mvT hZ (hw _ (List.mem_of_getElem? (i := 4) rfl))) (mvT hZ (hw _ (List.mem_of_getElem? (i := 5) rfl))) (notFace_of_selects (args := #[]) (mvT hZ (hw _ (List.mem_of_getElem? (i := 7) rfl)))) (mvT hZ (hw _ (List.mem_of_getElem? (i := 7) rfl))) (mvT hZ (hw _ (List.mem_of_getElem? (i := 6) rfl))) (by decide) (backOf (W := 0) (own_racc l Z a0 hw [] s1 x1 (1 : Int32) h0 n0 Z0 O_GREATER_OR_EQUAL E_GREATER_OR_EQUAL (by decide)) hZ (hw _ (List.mem_of_getElem? (i := 8) rfl)) (hw _ (List.mem_of_getElem? (i := 2) rfl)) (by decide) (by decide)) q22a q22c (g := (mkF m 126 #[iv x0, iv x1, iv ((x0 &&& (2147483647 : Int32)) % (6 : Int32)), rv s1, iv (6 : Int32), iv (4 : Int32), iv (1 : Int32)] [(.int x1), (.ref s1)])) rfl (by rw [hml]; rfl) (Steps.refl _) (argsL := [(.int x1)]) (rest := []) (lenOf own_pd1 rfl) rfl (by show 2 * 0 + _ ≤ _; exact Nat.le_of_eq rfl) (hb hby at_126) (fun _ _ => ⟨rfl, e17, (by decide : 0 + 0 ≤ _), (by decide : 0 + 0 ≤ _)⟩)
          dsimp only [Pt.U, Pt.locs, Pt.cells, Pt.slots] at X22 l22 y22 z22 st22 hQ22
          subst l22 y22 z22
          obtain ⟨rfl, rfl, e22⟩ := hQ22
          have E22q : T22.heap = h0 := e22
          have N22 := Fr.app N0 (Fr.nil n0)
          refine own_go (T' := T22) (g' := (mkF m 129 #[iv x0, iv x1, iv ((x0 &&& (2147483647 : Int32)) % (6 : Int32)), rv s1, iv (6 : Int32), iv (4 : Int32), iv (1 : Int32)] [(.int (own_acc (1 : Int32) x1))])) (fun t k => st22.trans k) ?_
          refine own_go (T' := T22) (g' := (mkF m 131 #[iv x0, iv x1, iv ((x0 &&& (2147483647 : Int32)) % (6 : Int32)), rv s1, iv (6 : Int32), iv (4 : Int32), iv (1 : Int32)] [(.int (1 : Int32)), (.int (own_acc (1 : Int32) x1))])) (fun t k => XS.iload X22.here hx rfl (hb hby at_129) rfl k) ?_
          refine own_go (T' := T22) (g' := (mkF m 134 #[iv x0, iv x1, iv ((x0 &&& (2147483647 : Int32)) % (6 : Int32)), rv s1, iv (6 : Int32), iv (4 : Int32), iv (1 : Int32)] [])) (fun t k => XS.icmpNo X22.here hx rfl (hb hby at_131) rfl (teq (by have q := own_t3 hc18 hc20; simp +decide [own_acc, q, hc18, hc20] : ((own_acc (1 : Int32) x1) = (1 : Int32)))).2 k) ?_
          refine own_go (T' := T22) (g' := (mkF m 135 #[iv x0, iv x1, iv ((x0 &&& (2147483647 : Int32)) % (6 : Int32)), rv s1, iv (6 : Int32), iv (4 : Int32), iv (1 : Int32)] [(.int (1 : Int32))])) (fun t k => XS.iconst X22.here hx rfl (hb hby at_134) k) ?_
          refine own_go (T' := T22) (g' := (mkF m 139 #[iv x0, iv x1, iv ((x0 &&& (2147483647 : Int32)) % (6 : Int32)), rv s1, iv (6 : Int32), iv (4 : Int32), iv (1 : Int32)] [(.int (1 : Int32))])) (fun t k => XS.goto X22.here hx rfl (pc0 := 135) (pc' := 139) rfl (hb hby at_135) (by decide) (by decide) k) ?_
          exact own_ret X22 hlk hx Bd.returns rfl (Or.inl ⟨rfl, Or.inr (Or.inl rfl), _, rfl⟩) (hb hby at_139) (by first | exact ⟨rfl, N22⟩ | (rw [Fr] at *; exact ⟨rfl, by simpa using N22⟩)) (by decide) (by decide)
    · refine own_go (T' := s₁) (g' := (mkF m 38 #[iv x0, iv x1, iv ((x0 &&& (2147483647 : Int32)) % (6 : Int32)), .unset, .unset, .unset, .unset] [])) (fun t k => XS.icmpYes X0.here hx rfl (pc0 := 24) (pc' := 38) rfl (hb hby at_24) rfl (feq hc16).2 (by decide) (by decide) k) ?_
      refine own_go (T' := s₁) (g' := (mkF m 39 #[iv x0, iv x1, iv ((x0 &&& (2147483647 : Int32)) % (6 : Int32)), .unset, .unset, .unset, .unset] [(.int ((x0 &&& (2147483647 : Int32)) % (6 : Int32)))])) (fun t k => XS.iloadN X0.here hx rfl (hb hby at_38) rfl k) ?_
      refine own_go (T' := s₁) (g' := (mkF m 40 #[iv x0, iv x1, iv ((x0 &&& (2147483647 : Int32)) % (6 : Int32)), .unset, .unset, .unset, .unset] [(.int (2 : Int32)), (.int ((x0 &&& (2147483647 : Int32)) % (6 : Int32)))])) (fun t k => XS.iconst X0.here hx rfl (hb hby at_39) k) ?_
      by_cases hc23 : ((x0 &&& (2147483647 : Int32)) % (6 : Int32)) = (2 : Int32)
      · refine own_go (T' := s₁) (g' := (mkF m 43 #[iv x0, iv x1, iv ((x0 &&& (2147483647 : Int32)) % (6 : Int32)), .unset, .unset, .unset, .unset] [])) (fun t k => XS.icmpNo X0.here hx rfl (hb hby at_40) rfl (teq hc23).2 k) ?_
        obtain ⟨T24, X24, e24, st24⟩ := getS2 X0 hx hZ hown (host := "") (Or.inl (hw _ (List.mem_of_getElem? (i := 18) rfl))) Via.refl e0 S_NOT_EQUAL (g := (mkF m 43 #[iv x0, iv x1, iv ((x0 &&& (2147483647 : Int32)) % (6 : Int32)), .unset, .unset, .unset, .unset] [])) rfl (hb hby at_43)
        refine own_go (T' := T24) (g' := (mkF m 46 #[iv x0, iv x1, iv ((x0 &&& (2147483647 : Int32)) % (6 : Int32)), .unset, .unset, .unset, .unset] [(.ref s2)])) (st24) ?_
        refine own_go (T' := T24) (g' := (mkF m 47 #[iv x0, iv x1, iv ((x0 &&& (2147483647 : Int32)) % (6 : Int32)), rv s2, .unset, .unset, .unset] [])) (fun t k => XS.astoreN X24.here hx rfl (hb hby at_46) rfl rfl (l' := #[iv x0, iv x1, iv ((x0 &&& (2147483647 : Int32)) % (6 : Int32)), rv s2, .unset, .unset, .unset]) rfl k) ?_
        refine own_go (T' := T24) (g' := (mkF m 48 #[iv x0, iv x1, iv ((x0 &&& (2147483647 : Int32)) % (6 : Int32)), rv s2, .unset, .unset, .unset] [(.int (5 : Int32))])) (fun t k => XS.iconst X24.here hx rfl (hb hby at_47) k) ?_
        refine own_go (T' := T24) (g' := (mkF m 50 #[iv x0, iv x1, iv ((x0 &&& (2147483647 : Int32)) % (6 : Int32)), rv s2, iv (5 : Int32), .unset, .unset] [])) (fun t k => XS.istore X24.here hx rfl (hb hby at_48) rfl (l' := #[iv x0, iv x1, iv ((x0 &&& (2147483647 : Int32)) % (6 : Int32)), rv s2, iv (5 : Int32), .unset, .unset]) rfl k) ?_
        refine own_go (T' := T24) (g' := (mkF m 90 #[iv x0, iv x1, iv ((x0 &&& (2147483647 : Int32)) % (6 : Int32)), rv s2, iv (5 : Int32), .unset, .unset] [])) (fun t k => XS.goto X24.here hx rfl (pc0 := 50) (pc' := 90) rfl (hb hby at_50) (by decide) (by decide) k) ?_
        refine own_go (T' := T24) (g' := (mkF m 91 #[iv x0, iv x1, iv ((x0 &&& (2147483647 : Int32)) % (6 : Int32)), rv s2, iv (5 : Int32), .unset, .unset] [(.int x1)])) (fun t k => XS.iloadN X24.here hx rfl (hb hby at_90) rfl k) ?_
        by_cases hc25 : x1 < (0 : Int32)
        · refine own_go (T' := T24) (g' := (mkF m 94 #[iv x0, iv x1, iv ((x0 &&& (2147483647 : Int32)) % (6 : Int32)), rv s2, iv (5 : Int32), .unset, .unset] [])) (fun t k => XS.ifNo X24.here hx rfl (hb hby at_91) rfl ((if0 _ _).trans (tlt hc25).2.1) k) ?_
          refine own_go (T' := T24) (g' := (mkF m 95 #[iv x0, iv x1, iv ((x0 &&& (2147483647 : Int32)) % (6 : Int32)), rv s2, iv (5 : Int32), .unset, .unset] [(.int (1 : Int32))])) (fun t k => XS.iconst X24.here hx rfl (hb hby at_94) k) ?_
          refine own_go (T' := T24) (g' := (mkF m 107 #[iv x0, iv x1, iv ((x0 &&& (2147483647 : Int32)) % (6 : Int32)), rv s2, iv (5 : Int32), .unset, .unset] [(.int (1 : Int32))])) (fun t k => XS.goto X24.here hx rfl (pc0 := 95) (pc' := 107) rfl (hb hby at_95) (by decide) (by decide) k) ?_
          refine own_go (T' := T24) (g' := (mkF m 109 #[iv x0, iv x1, iv ((x0 &&& (2147483647 : Int32)) % (6 : Int32)), rv s2, iv (5 : Int32), iv (1 : Int32), .unset] [])) (fun t k => XS.istore X24.here hx rfl (hb hby at_107) rfl (l' := #[iv x0, iv x1, iv ((x0 &&& (2147483647 : Int32)) % (6 : Int32)), rv s2, iv (5 : Int32), iv (1 : Int32), .unset]) rfl k) ?_
          refine own_go (T' := T24) (g' := (mkF m 111 #[iv x0, iv x1, iv ((x0 &&& (2147483647 : Int32)) % (6 : Int32)), rv s2, iv (5 : Int32), iv (1 : Int32), .unset] [(.int (5 : Int32))])) (fun t k => XS.iload X24.here hx rfl (hb hby at_109) rfl k) ?_
          refine own_go (T' := T24) (g' := (mkF m 113 #[iv x0, iv x1, iv ((x0 &&& (2147483647 : Int32)) % (6 : Int32)), rv s2, iv (5 : Int32), iv (1 : Int32), .unset] [(.int (1 : Int32)), (.int (5 : Int32))])) (fun t k => XS.iload X24.here hx rfl (hb hby at_111) rfl k) ?_
          refine own_go (T' := T24) (g' := (mkF m 114 #[iv x0, iv x1, iv ((x0 &&& (2147483647 : Int32)) % (6 : Int32)), rv s2, iv (5 : Int32), iv (1 : Int32), .unset] [(.int ((5 : Int32) &&& (1 : Int32)))])) (fun t k => XS.iand X24.here hx rfl (hb hby at_113) rfl k) ?_
          refine own_go (T' := T24) (g' := (mkF m 117 #[iv x0, iv x1, iv ((x0 &&& (2147483647 : Int32)) % (6 : Int32)), rv s2, iv (5 : Int32), iv (1 : Int32), .unset] [])) (fun t k => XS.ifNo X24.here hx rfl (hb hby at_114) rfl ((if0 _ _).trans (feq (by decide : ¬ (((5 : Int32) &&& (1 : Int32)) = (0 : Int32)))).1) k) ?_
          refine own_go (T' := T24) (g' := (mkF m 118 #[iv x0, iv x1, iv ((x0 &&& (2147483647 : Int32)) % (6 : Int32)), rv s2, iv (5 : Int32), iv (1 : Int32), .unset] [(.int (1 : Int32))])) (fun t k => XS.iconst X24.here hx rfl (hb hby at_117) k) ?_
          refine own_go (T' := T24) (g' := (mkF m 122 #[iv x0, iv x1, iv ((x0 &&& (2147483647 : Int32)) % (6 : Int32)), rv s2, iv (5 : Int32), iv (1 : Int32), .unset] [(.int (1 : Int32))])) (fun t k => XS.goto X24.here hx rfl (pc0 := 118) (pc' := 122) rfl (hb hby at_118) (by decide) (by decide) k) ?_
          refine own_go (T' := T24) (g' := (mkF m 124 #[iv x0, iv x1, iv ((x0 &&& (2147483647 : Int32)) % (6 : Int32)), rv s2, iv (5 : Int32), iv (1 : Int32), iv (1 : Int32)] [])) (fun t k => XS.istore X24.here hx rfl (hb hby at_122) rfl (l' := #[iv x0, iv x1, iv ((x0 &&& (2147483647 : Int32)) % (6 : Int32)), rv s2, iv (5 : Int32), iv (1 : Int32), iv (1 : Int32)]) rfl k) ?_
          refine own_go (T' := T24) (g' := (mkF m 125 #[iv x0, iv x1, iv ((x0 &&& (2147483647 : Int32)) % (6 : Int32)), rv s2, iv (5 : Int32), iv (1 : Int32), iv (1 : Int32)] [(.ref s2)])) (fun t k => XS.aloadN X24.here hx rfl (hb hby at_124) rfl rfl k) ?_
          refine own_go (T' := T24) (g' := (mkF m 126 #[iv x0, iv x1, iv ((x0 &&& (2147483647 : Int32)) % (6 : Int32)), rv s2, iv (5 : Int32), iv (1 : Int32), iv (1 : Int32)] [(.int x1), (.ref s2)])) (fun t k => XS.iloadN X24.here hx rfl (hb hby at_125) rfl k) ?_
          obtain ⟨cq26, kq26, q26a, q26b, q26c⟩ := isOf hZ e24 E_NOT_EQUAL
          obtain ⟨_, _, ⟨T26, L26, k26, n26⟩, -, X26, ⟨Lc26, hQ26, l26, y26, z26⟩, st26⟩ := X24.virtualBack hx (y := (⟨"com/example/events_in_order/eventsinorder/model/Comparison$Operator", "accepts", "(I)Z"⟩ : MethodName)) (z := (⟨"com/example/events_in_order/eventsinorder/model/Comparison$Operator", "accepts", "(I)Z"⟩ : MethodName)) hown (mvT hZ (hw _ (List.mem_of_getElem? (i := 4) rfl))) (mvT hZ (hw _ (List.mem_of_getElem? (i := 5) rfl))) (notFace_of_selects (args := #[]) (mvT hZ (hw _ (List.mem_of_getElem? (i := 7) rfl)))) (mvT hZ (hw _ (List.mem_of_getElem? (i := 7) rfl))) (mvT hZ (hw _ (List.mem_of_getElem? (i := 6) rfl))) (by decide) (backOf (W := 0) (own_racc l Z a0 hw [] s2 x1 (2 : Int32) h0 n0 Z0 O_NOT_EQUAL E_NOT_EQUAL (by decide)) hZ (hw _ (List.mem_of_getElem? (i := 8) rfl)) (hw _ (List.mem_of_getElem? (i := 2) rfl)) (by decide) (by decide)) q26a q26c (g := (mkF m 126 #[iv x0, iv x1, iv ((x0 &&& (2147483647 : Int32)) % (6 : Int32)), rv s2, iv (5 : Int32), iv (1 : Int32), iv (1 : Int32)] [(.int x1), (.ref s2)])) rfl (by rw [hml]; rfl) (Steps.refl _) (argsL := [(.int x1)]) (rest := []) (lenOf own_pd1 rfl) rfl (by show 2 * 0 + _ ≤ _; exact Nat.le_of_eq rfl) (hb hby at_126) (fun _ _ => ⟨rfl, e24, (by decide : 0 + 0 ≤ _), (by decide : 0 + 0 ≤ _)⟩)
          dsimp only [Pt.U, Pt.locs, Pt.cells, Pt.slots] at X26 l26 y26 z26 st26 hQ26
          subst l26 y26 z26
          obtain ⟨rfl, rfl, e26⟩ := hQ26
          have E26q : T26.heap = h0 := e26
          have N26 := Fr.app N0 (Fr.nil n0)
          refine own_go (T' := T26) (g' := (mkF m 129 #[iv x0, iv x1, iv ((x0 &&& (2147483647 : Int32)) % (6 : Int32)), rv s2, iv (5 : Int32), iv (1 : Int32), iv (1 : Int32)] [(.int (own_acc (2 : Int32) x1))])) (fun t k => st26.trans k) ?_
          refine own_go (T' := T26) (g' := (mkF m 131 #[iv x0, iv x1, iv ((x0 &&& (2147483647 : Int32)) % (6 : Int32)), rv s2, iv (5 : Int32), iv (1 : Int32), iv (1 : Int32)] [(.int (1 : Int32)), (.int (own_acc (2 : Int32) x1))])) (fun t k => XS.iload X26.here hx rfl (hb hby at_129) rfl k) ?_
          refine own_go (T' := T26) (g' := (mkF m 134 #[iv x0, iv x1, iv ((x0 &&& (2147483647 : Int32)) % (6 : Int32)), rv s2, iv (5 : Int32), iv (1 : Int32), iv (1 : Int32)] [])) (fun t k => XS.icmpNo X26.here hx rfl (hb hby at_131) rfl (teq (by have q := own_t1 hc25; simp +decide [own_acc, q, hc25] : ((own_acc (2 : Int32) x1) = (1 : Int32)))).2 k) ?_
          refine own_go (T' := T26) (g' := (mkF m 135 #[iv x0, iv x1, iv ((x0 &&& (2147483647 : Int32)) % (6 : Int32)), rv s2, iv (5 : Int32), iv (1 : Int32), iv (1 : Int32)] [(.int (1 : Int32))])) (fun t k => XS.iconst X26.here hx rfl (hb hby at_134) k) ?_
          refine own_go (T' := T26) (g' := (mkF m 139 #[iv x0, iv x1, iv ((x0 &&& (2147483647 : Int32)) % (6 : Int32)), rv s2, iv (5 : Int32), iv (1 : Int32), iv (1 : Int32)] [(.int (1 : Int32))])) (fun t k => XS.goto X26.here hx rfl (pc0 := 135) (pc' := 139) rfl (hb hby at_135) (by decide) (by decide) k) ?_
          exact own_ret X26 hlk hx Bd.returns rfl (Or.inl ⟨rfl, Or.inr (Or.inl rfl), _, rfl⟩) (hb hby at_139) (by first | exact ⟨rfl, N26⟩ | (rw [Fr] at *; exact ⟨rfl, by simpa using N26⟩)) (by decide) (by decide)
        · refine own_go (T' := T24) (g' := (mkF m 98 #[iv x0, iv x1, iv ((x0 &&& (2147483647 : Int32)) % (6 : Int32)), rv s2, iv (5 : Int32), .unset, .unset] [])) (fun t k => XS.ifYes X24.here hx rfl (pc0 := 91) (pc' := 98) rfl (hb hby at_91) rfl ((if0 _ _).trans (flt hc25).2.1) (by decide) (by decide) k) ?_
          refine own_go (T' := T24) (g' := (mkF m 99 #[iv x0, iv x1, iv ((x0 &&& (2147483647 : Int32)) % (6 : Int32)), rv s2, iv (5 : Int32), .unset, .unset] [(.int x1)])) (fun t k => XS.iloadN X24.here hx rfl (hb hby at_98) rfl k) ?_
          by_cases hc27 : x1 = (0 : Int32)
          · refine own_go (T' := T24) (g' := (mkF m 102 #[iv x0, iv x1, iv ((x0 &&& (2147483647 : Int32)) % (6 : Int32)), rv s2, iv (5 : Int32), .unset, .unset] [])) (fun t k => XS.ifNo X24.here hx rfl (hb hby at_99) rfl ((if0 _ _).trans (teq hc27).2) k) ?_
            refine own_go (T' := T24) (g' := (mkF m 103 #[iv x0, iv x1, iv ((x0 &&& (2147483647 : Int32)) % (6 : Int32)), rv s2, iv (5 : Int32), .unset, .unset] [(.int (2 : Int32))])) (fun t k => XS.iconst X24.here hx rfl (hb hby at_102) k) ?_
            refine own_go (T' := T24) (g' := (mkF m 107 #[iv x0, iv x1, iv ((x0 &&& (2147483647 : Int32)) % (6 : Int32)), rv s2, iv (5 : Int32), .unset, .unset] [(.int (2 : Int32))])) (fun t k => XS.goto X24.here hx rfl (pc0 := 103) (pc' := 107) rfl (hb hby at_103) (by decide) (by decide) k) ?_
            refine own_go (T' := T24) (g' := (mkF m 109 #[iv x0, iv x1, iv ((x0 &&& (2147483647 : Int32)) % (6 : Int32)), rv s2, iv (5 : Int32), iv (2 : Int32), .unset] [])) (fun t k => XS.istore X24.here hx rfl (hb hby at_107) rfl (l' := #[iv x0, iv x1, iv ((x0 &&& (2147483647 : Int32)) % (6 : Int32)), rv s2, iv (5 : Int32), iv (2 : Int32), .unset]) rfl k) ?_
            refine own_go (T' := T24) (g' := (mkF m 111 #[iv x0, iv x1, iv ((x0 &&& (2147483647 : Int32)) % (6 : Int32)), rv s2, iv (5 : Int32), iv (2 : Int32), .unset] [(.int (5 : Int32))])) (fun t k => XS.iload X24.here hx rfl (hb hby at_109) rfl k) ?_
            refine own_go (T' := T24) (g' := (mkF m 113 #[iv x0, iv x1, iv ((x0 &&& (2147483647 : Int32)) % (6 : Int32)), rv s2, iv (5 : Int32), iv (2 : Int32), .unset] [(.int (2 : Int32)), (.int (5 : Int32))])) (fun t k => XS.iload X24.here hx rfl (hb hby at_111) rfl k) ?_
            refine own_go (T' := T24) (g' := (mkF m 114 #[iv x0, iv x1, iv ((x0 &&& (2147483647 : Int32)) % (6 : Int32)), rv s2, iv (5 : Int32), iv (2 : Int32), .unset] [(.int ((5 : Int32) &&& (2 : Int32)))])) (fun t k => XS.iand X24.here hx rfl (hb hby at_113) rfl k) ?_
            refine own_go (T' := T24) (g' := (mkF m 121 #[iv x0, iv x1, iv ((x0 &&& (2147483647 : Int32)) % (6 : Int32)), rv s2, iv (5 : Int32), iv (2 : Int32), .unset] [])) (fun t k => XS.ifYes X24.here hx rfl (pc0 := 114) (pc' := 121) rfl (hb hby at_114) rfl ((if0 _ _).trans (teq (by decide : (((5 : Int32) &&& (2 : Int32)) = (0 : Int32)))).1) (by decide) (by decide) k) ?_
            refine own_go (T' := T24) (g' := (mkF m 122 #[iv x0, iv x1, iv ((x0 &&& (2147483647 : Int32)) % (6 : Int32)), rv s2, iv (5 : Int32), iv (2 : Int32), .unset] [(.int (0 : Int32))])) (fun t k => XS.iconst X24.here hx rfl (hb hby at_121) k) ?_
            refine own_go (T' := T24) (g' := (mkF m 124 #[iv x0, iv x1, iv ((x0 &&& (2147483647 : Int32)) % (6 : Int32)), rv s2, iv (5 : Int32), iv (2 : Int32), iv (0 : Int32)] [])) (fun t k => XS.istore X24.here hx rfl (hb hby at_122) rfl (l' := #[iv x0, iv x1, iv ((x0 &&& (2147483647 : Int32)) % (6 : Int32)), rv s2, iv (5 : Int32), iv (2 : Int32), iv (0 : Int32)]) rfl k) ?_
            refine own_go (T' := T24) (g' := (mkF m 125 #[iv x0, iv x1, iv ((x0 &&& (2147483647 : Int32)) % (6 : Int32)), rv s2, iv (5 : Int32), iv (2 : Int32), iv (0 : Int32)] [(.ref s2)])) (fun t k => XS.aloadN X24.here hx rfl (hb hby at_124) rfl rfl k) ?_
            refine own_go (T' := T24) (g' := (mkF m 126 #[iv x0, iv x1, iv ((x0 &&& (2147483647 : Int32)) % (6 : Int32)), rv s2, iv (5 : Int32), iv (2 : Int32), iv (0 : Int32)] [(.int x1), (.ref s2)])) (fun t k => XS.iloadN X24.here hx rfl (hb hby at_125) rfl k) ?_
            obtain ⟨cq28, kq28, q28a, q28b, q28c⟩ := isOf hZ e24 E_NOT_EQUAL
            obtain ⟨_, _, ⟨T28, L28, k28, n28⟩, -, X28, ⟨Lc28, hQ28, l28, y28, z28⟩, st28⟩ := X24.virtualBack hx (y := (⟨"com/example/events_in_order/eventsinorder/model/Comparison$Operator", "accepts", "(I)Z"⟩ : MethodName)) (z := (⟨"com/example/events_in_order/eventsinorder/model/Comparison$Operator", "accepts", "(I)Z"⟩ : MethodName)) hown (mvT hZ (hw _ (List.mem_of_getElem? (i := 4) rfl))) (mvT hZ (hw _ (List.mem_of_getElem? (i := 5) rfl))) (notFace_of_selects (args := #[]) (mvT hZ (hw _ (List.mem_of_getElem? (i := 7) rfl)))) (mvT hZ (hw _ (List.mem_of_getElem? (i := 7) rfl))) (mvT hZ (hw _ (List.mem_of_getElem? (i := 6) rfl))) (by decide) (backOf (W := 0) (own_racc l Z a0 hw [] s2 x1 (2 : Int32) h0 n0 Z0 O_NOT_EQUAL E_NOT_EQUAL (by decide)) hZ (hw _ (List.mem_of_getElem? (i := 8) rfl)) (hw _ (List.mem_of_getElem? (i := 2) rfl)) (by decide) (by decide)) q28a q28c (g := (mkF m 126 #[iv x0, iv x1, iv ((x0 &&& (2147483647 : Int32)) % (6 : Int32)), rv s2, iv (5 : Int32), iv (2 : Int32), iv (0 : Int32)] [(.int x1), (.ref s2)])) rfl (by rw [hml]; rfl) (Steps.refl _) (argsL := [(.int x1)]) (rest := []) (lenOf own_pd1 rfl) rfl (by show 2 * 0 + _ ≤ _; exact Nat.le_of_eq rfl) (hb hby at_126) (fun _ _ => ⟨rfl, e24, (by decide : 0 + 0 ≤ _), (by decide : 0 + 0 ≤ _)⟩)
            dsimp only [Pt.U, Pt.locs, Pt.cells, Pt.slots] at X28 l28 y28 z28 st28 hQ28
            subst l28 y28 z28
            obtain ⟨rfl, rfl, e28⟩ := hQ28
            have E28q : T28.heap = h0 := e28
            have N28 := Fr.app N0 (Fr.nil n0)
            refine own_go (T' := T28) (g' := (mkF m 129 #[iv x0, iv x1, iv ((x0 &&& (2147483647 : Int32)) % (6 : Int32)), rv s2, iv (5 : Int32), iv (2 : Int32), iv (0 : Int32)] [(.int (own_acc (2 : Int32) x1))])) (fun t k => st28.trans k) ?_
            refine own_go (T' := T28) (g' := (mkF m 131 #[iv x0, iv x1, iv ((x0 &&& (2147483647 : Int32)) % (6 : Int32)), rv s2, iv (5 : Int32), iv (2 : Int32), iv (0 : Int32)] [(.int (0 : Int32)), (.int (own_acc (2 : Int32) x1))])) (fun t k => XS.iload X28.here hx rfl (hb hby at_129) rfl k) ?_
            refine own_go (T' := T28) (g' := (mkF m 134 #[iv x0, iv x1, iv ((x0 &&& (2147483647 : Int32)) % (6 : Int32)), rv s2, iv (5 : Int32), iv (2 : Int32), iv (0 : Int32)] [])) (fun t k => XS.icmpNo X28.here hx rfl (hb hby at_131) rfl (teq (by have q := own_t2 hc27; simp +decide [own_acc, q, hc25, hc27] : ((own_acc (2 : Int32) x1) = (0 : Int32)))).2 k) ?_
            refine own_go (T' := T28) (g' := (mkF m 135 #[iv x0, iv x1, iv ((x0 &&& (2147483647 : Int32)) % (6 : Int32)), rv s2, iv (5 : Int32), iv (2 : Int32), iv (0 : Int32)] [(.int (1 : Int32))])) (fun t k => XS.iconst X28.here hx rfl (hb hby at_134) k) ?_
            refine own_go (T' := T28) (g' := (mkF m 139 #[iv x0, iv x1, iv ((x0 &&& (2147483647 : Int32)) % (6 : Int32)), rv s2, iv (5 : Int32), iv (2 : Int32), iv (0 : Int32)] [(.int (1 : Int32))])) (fun t k => XS.goto X28.here hx rfl (pc0 := 135) (pc' := 139) rfl (hb hby at_135) (by decide) (by decide) k) ?_
            exact own_ret X28 hlk hx Bd.returns rfl (Or.inl ⟨rfl, Or.inr (Or.inl rfl), _, rfl⟩) (hb hby at_139) (by first | exact ⟨rfl, N28⟩ | (rw [Fr] at *; exact ⟨rfl, by simpa using N28⟩)) (by decide) (by decide)
          · refine own_go (T' := T24) (g' := (mkF m 106 #[iv x0, iv x1, iv ((x0 &&& (2147483647 : Int32)) % (6 : Int32)), rv s2, iv (5 : Int32), .unset, .unset] [])) (fun t k => XS.ifYes X24.here hx rfl (pc0 := 99) (pc' := 106) rfl (hb hby at_99) rfl ((if0 _ _).trans (feq hc27).2) (by decide) (by decide) k) ?_
            refine own_go (T' := T24) (g' := (mkF m 107 #[iv x0, iv x1, iv ((x0 &&& (2147483647 : Int32)) % (6 : Int32)), rv s2, iv (5 : Int32), .unset, .unset] [(.int (4 : Int32))])) (fun t k => XS.iconst X24.here hx rfl (hb hby at_106) k) ?_
            refine own_go (T' := T24) (g' := (mkF m 109 #[iv x0, iv x1, iv ((x0 &&& (2147483647 : Int32)) % (6 : Int32)), rv s2, iv (5 : Int32), iv (4 : Int32), .unset] [])) (fun t k => XS.istore X24.here hx rfl (hb hby at_107) rfl (l' := #[iv x0, iv x1, iv ((x0 &&& (2147483647 : Int32)) % (6 : Int32)), rv s2, iv (5 : Int32), iv (4 : Int32), .unset]) rfl k) ?_
            refine own_go (T' := T24) (g' := (mkF m 111 #[iv x0, iv x1, iv ((x0 &&& (2147483647 : Int32)) % (6 : Int32)), rv s2, iv (5 : Int32), iv (4 : Int32), .unset] [(.int (5 : Int32))])) (fun t k => XS.iload X24.here hx rfl (hb hby at_109) rfl k) ?_
            refine own_go (T' := T24) (g' := (mkF m 113 #[iv x0, iv x1, iv ((x0 &&& (2147483647 : Int32)) % (6 : Int32)), rv s2, iv (5 : Int32), iv (4 : Int32), .unset] [(.int (4 : Int32)), (.int (5 : Int32))])) (fun t k => XS.iload X24.here hx rfl (hb hby at_111) rfl k) ?_
            refine own_go (T' := T24) (g' := (mkF m 114 #[iv x0, iv x1, iv ((x0 &&& (2147483647 : Int32)) % (6 : Int32)), rv s2, iv (5 : Int32), iv (4 : Int32), .unset] [(.int ((5 : Int32) &&& (4 : Int32)))])) (fun t k => XS.iand X24.here hx rfl (hb hby at_113) rfl k) ?_
            refine own_go (T' := T24) (g' := (mkF m 117 #[iv x0, iv x1, iv ((x0 &&& (2147483647 : Int32)) % (6 : Int32)), rv s2, iv (5 : Int32), iv (4 : Int32), .unset] [])) (fun t k => XS.ifNo X24.here hx rfl (hb hby at_114) rfl ((if0 _ _).trans (feq (by decide : ¬ (((5 : Int32) &&& (4 : Int32)) = (0 : Int32)))).1) k) ?_
            refine own_go (T' := T24) (g' := (mkF m 118 #[iv x0, iv x1, iv ((x0 &&& (2147483647 : Int32)) % (6 : Int32)), rv s2, iv (5 : Int32), iv (4 : Int32), .unset] [(.int (1 : Int32))])) (fun t k => XS.iconst X24.here hx rfl (hb hby at_117) k) ?_
            refine own_go (T' := T24) (g' := (mkF m 122 #[iv x0, iv x1, iv ((x0 &&& (2147483647 : Int32)) % (6 : Int32)), rv s2, iv (5 : Int32), iv (4 : Int32), .unset] [(.int (1 : Int32))])) (fun t k => XS.goto X24.here hx rfl (pc0 := 118) (pc' := 122) rfl (hb hby at_118) (by decide) (by decide) k) ?_
            refine own_go (T' := T24) (g' := (mkF m 124 #[iv x0, iv x1, iv ((x0 &&& (2147483647 : Int32)) % (6 : Int32)), rv s2, iv (5 : Int32), iv (4 : Int32), iv (1 : Int32)] [])) (fun t k => XS.istore X24.here hx rfl (hb hby at_122) rfl (l' := #[iv x0, iv x1, iv ((x0 &&& (2147483647 : Int32)) % (6 : Int32)), rv s2, iv (5 : Int32), iv (4 : Int32), iv (1 : Int32)]) rfl k) ?_
            refine own_go (T' := T24) (g' := (mkF m 125 #[iv x0, iv x1, iv ((x0 &&& (2147483647 : Int32)) % (6 : Int32)), rv s2, iv (5 : Int32), iv (4 : Int32), iv (1 : Int32)] [(.ref s2)])) (fun t k => XS.aloadN X24.here hx rfl (hb hby at_124) rfl rfl k) ?_
            refine own_go (T' := T24) (g' := (mkF m 126 #[iv x0, iv x1, iv ((x0 &&& (2147483647 : Int32)) % (6 : Int32)), rv s2, iv (5 : Int32), iv (4 : Int32), iv (1 : Int32)] [(.int x1), (.ref s2)])) (fun t k => XS.iloadN X24.here hx rfl (hb hby at_125) rfl k) ?_
            obtain ⟨cq29, kq29, q29a, q29b, q29c⟩ := isOf hZ e24 E_NOT_EQUAL
            obtain ⟨_, _, ⟨T29, L29, k29, n29⟩, -, X29, ⟨Lc29, hQ29, l29, y29, z29⟩, st29⟩ := X24.virtualBack hx (y := (⟨"com/example/events_in_order/eventsinorder/model/Comparison$Operator", "accepts", "(I)Z"⟩ : MethodName)) (z := (⟨"com/example/events_in_order/eventsinorder/model/Comparison$Operator", "accepts", "(I)Z"⟩ : MethodName)) hown (mvT hZ (hw _ (List.mem_of_getElem? (i := 4) rfl))) (mvT hZ (hw _ (List.mem_of_getElem? (i := 5) rfl))) (notFace_of_selects (args := #[]) (mvT hZ (hw _ (List.mem_of_getElem? (i := 7) rfl)))) (mvT hZ (hw _ (List.mem_of_getElem? (i := 7) rfl))) (mvT hZ (hw _ (List.mem_of_getElem? (i := 6) rfl))) (by decide) (backOf (W := 0) (own_racc l Z a0 hw [] s2 x1 (2 : Int32) h0 n0 Z0 O_NOT_EQUAL E_NOT_EQUAL (by decide)) hZ (hw _ (List.mem_of_getElem? (i := 8) rfl)) (hw _ (List.mem_of_getElem? (i := 2) rfl)) (by decide) (by decide)) q29a q29c (g := (mkF m 126 #[iv x0, iv x1, iv ((x0 &&& (2147483647 : Int32)) % (6 : Int32)), rv s2, iv (5 : Int32), iv (4 : Int32), iv (1 : Int32)] [(.int x1), (.ref s2)])) rfl (by rw [hml]; rfl) (Steps.refl _) (argsL := [(.int x1)]) (rest := []) (lenOf own_pd1 rfl) rfl (by show 2 * 0 + _ ≤ _; exact Nat.le_of_eq rfl) (hb hby at_126) (fun _ _ => ⟨rfl, e24, (by decide : 0 + 0 ≤ _), (by decide : 0 + 0 ≤ _)⟩)
            dsimp only [Pt.U, Pt.locs, Pt.cells, Pt.slots] at X29 l29 y29 z29 st29 hQ29
            subst l29 y29 z29
            obtain ⟨rfl, rfl, e29⟩ := hQ29
            have E29q : T29.heap = h0 := e29
            have N29 := Fr.app N0 (Fr.nil n0)
            refine own_go (T' := T29) (g' := (mkF m 129 #[iv x0, iv x1, iv ((x0 &&& (2147483647 : Int32)) % (6 : Int32)), rv s2, iv (5 : Int32), iv (4 : Int32), iv (1 : Int32)] [(.int (own_acc (2 : Int32) x1))])) (fun t k => st29.trans k) ?_
            refine own_go (T' := T29) (g' := (mkF m 131 #[iv x0, iv x1, iv ((x0 &&& (2147483647 : Int32)) % (6 : Int32)), rv s2, iv (5 : Int32), iv (4 : Int32), iv (1 : Int32)] [(.int (1 : Int32)), (.int (own_acc (2 : Int32) x1))])) (fun t k => XS.iload X29.here hx rfl (hb hby at_129) rfl k) ?_
            refine own_go (T' := T29) (g' := (mkF m 134 #[iv x0, iv x1, iv ((x0 &&& (2147483647 : Int32)) % (6 : Int32)), rv s2, iv (5 : Int32), iv (4 : Int32), iv (1 : Int32)] [])) (fun t k => XS.icmpNo X29.here hx rfl (hb hby at_131) rfl (teq (by have q := own_t3 hc25 hc27; simp +decide [own_acc, q, hc25, hc27] : ((own_acc (2 : Int32) x1) = (1 : Int32)))).2 k) ?_
            refine own_go (T' := T29) (g' := (mkF m 135 #[iv x0, iv x1, iv ((x0 &&& (2147483647 : Int32)) % (6 : Int32)), rv s2, iv (5 : Int32), iv (4 : Int32), iv (1 : Int32)] [(.int (1 : Int32))])) (fun t k => XS.iconst X29.here hx rfl (hb hby at_134) k) ?_
            refine own_go (T' := T29) (g' := (mkF m 139 #[iv x0, iv x1, iv ((x0 &&& (2147483647 : Int32)) % (6 : Int32)), rv s2, iv (5 : Int32), iv (4 : Int32), iv (1 : Int32)] [(.int (1 : Int32))])) (fun t k => XS.goto X29.here hx rfl (pc0 := 135) (pc' := 139) rfl (hb hby at_135) (by decide) (by decide) k) ?_
            exact own_ret X29 hlk hx Bd.returns rfl (Or.inl ⟨rfl, Or.inr (Or.inl rfl), _, rfl⟩) (hb hby at_139) (by first | exact ⟨rfl, N29⟩ | (rw [Fr] at *; exact ⟨rfl, by simpa using N29⟩)) (by decide) (by decide)
      · refine own_go (T' := s₁) (g' := (mkF m 53 #[iv x0, iv x1, iv ((x0 &&& (2147483647 : Int32)) % (6 : Int32)), .unset, .unset, .unset, .unset] [])) (fun t k => XS.icmpYes X0.here hx rfl (pc0 := 40) (pc' := 53) rfl (hb hby at_40) rfl (feq hc23).2 (by decide) (by decide) k) ?_
        refine own_go (T' := s₁) (g' := (mkF m 54 #[iv x0, iv x1, iv ((x0 &&& (2147483647 : Int32)) % (6 : Int32)), .unset, .unset, .unset, .unset] [(.int ((x0 &&& (2147483647 : Int32)) % (6 : Int32)))])) (fun t k => XS.iloadN X0.here hx rfl (hb hby at_53) rfl k) ?_
        refine own_go (T' := s₁) (g' := (mkF m 55 #[iv x0, iv x1, iv ((x0 &&& (2147483647 : Int32)) % (6 : Int32)), .unset, .unset, .unset, .unset] [(.int (3 : Int32)), (.int ((x0 &&& (2147483647 : Int32)) % (6 : Int32)))])) (fun t k => XS.iconst X0.here hx rfl (hb hby at_54) k) ?_
        by_cases hc30 : ((x0 &&& (2147483647 : Int32)) % (6 : Int32)) = (3 : Int32)
        · refine own_go (T' := s₁) (g' := (mkF m 58 #[iv x0, iv x1, iv ((x0 &&& (2147483647 : Int32)) % (6 : Int32)), .unset, .unset, .unset, .unset] [])) (fun t k => XS.icmpNo X0.here hx rfl (hb hby at_55) rfl (teq hc30).2 k) ?_
          obtain ⟨T31, X31, e31, st31⟩ := getS2 X0 hx hZ hown (host := "") (Or.inl (hw _ (List.mem_of_getElem? (i := 26) rfl))) Via.refl e0 S_LESS (g := (mkF m 58 #[iv x0, iv x1, iv ((x0 &&& (2147483647 : Int32)) % (6 : Int32)), .unset, .unset, .unset, .unset] [])) rfl (hb hby at_58)
          refine own_go (T' := T31) (g' := (mkF m 61 #[iv x0, iv x1, iv ((x0 &&& (2147483647 : Int32)) % (6 : Int32)), .unset, .unset, .unset, .unset] [(.ref s3)])) (st31) ?_
          refine own_go (T' := T31) (g' := (mkF m 62 #[iv x0, iv x1, iv ((x0 &&& (2147483647 : Int32)) % (6 : Int32)), rv s3, .unset, .unset, .unset] [])) (fun t k => XS.astoreN X31.here hx rfl (hb hby at_61) rfl rfl (l' := #[iv x0, iv x1, iv ((x0 &&& (2147483647 : Int32)) % (6 : Int32)), rv s3, .unset, .unset, .unset]) rfl k) ?_
          refine own_go (T' := T31) (g' := (mkF m 63 #[iv x0, iv x1, iv ((x0 &&& (2147483647 : Int32)) % (6 : Int32)), rv s3, .unset, .unset, .unset] [(.int (1 : Int32))])) (fun t k => XS.iconst X31.here hx rfl (hb hby at_62) k) ?_
          refine own_go (T' := T31) (g' := (mkF m 65 #[iv x0, iv x1, iv ((x0 &&& (2147483647 : Int32)) % (6 : Int32)), rv s3, iv (1 : Int32), .unset, .unset] [])) (fun t k => XS.istore X31.here hx rfl (hb hby at_63) rfl (l' := #[iv x0, iv x1, iv ((x0 &&& (2147483647 : Int32)) % (6 : Int32)), rv s3, iv (1 : Int32), .unset, .unset]) rfl k) ?_
          refine own_go (T' := T31) (g' := (mkF m 90 #[iv x0, iv x1, iv ((x0 &&& (2147483647 : Int32)) % (6 : Int32)), rv s3, iv (1 : Int32), .unset, .unset] [])) (fun t k => XS.goto X31.here hx rfl (pc0 := 65) (pc' := 90) rfl (hb hby at_65) (by decide) (by decide) k) ?_
          refine own_go (T' := T31) (g' := (mkF m 91 #[iv x0, iv x1, iv ((x0 &&& (2147483647 : Int32)) % (6 : Int32)), rv s3, iv (1 : Int32), .unset, .unset] [(.int x1)])) (fun t k => XS.iloadN X31.here hx rfl (hb hby at_90) rfl k) ?_
          by_cases hc32 : x1 < (0 : Int32)
          · refine own_go (T' := T31) (g' := (mkF m 94 #[iv x0, iv x1, iv ((x0 &&& (2147483647 : Int32)) % (6 : Int32)), rv s3, iv (1 : Int32), .unset, .unset] [])) (fun t k => XS.ifNo X31.here hx rfl (hb hby at_91) rfl ((if0 _ _).trans (tlt hc32).2.1) k) ?_
            refine own_go (T' := T31) (g' := (mkF m 95 #[iv x0, iv x1, iv ((x0 &&& (2147483647 : Int32)) % (6 : Int32)), rv s3, iv (1 : Int32), .unset, .unset] [(.int (1 : Int32))])) (fun t k => XS.iconst X31.here hx rfl (hb hby at_94) k) ?_
            refine own_go (T' := T31) (g' := (mkF m 107 #[iv x0, iv x1, iv ((x0 &&& (2147483647 : Int32)) % (6 : Int32)), rv s3, iv (1 : Int32), .unset, .unset] [(.int (1 : Int32))])) (fun t k => XS.goto X31.here hx rfl (pc0 := 95) (pc' := 107) rfl (hb hby at_95) (by decide) (by decide) k) ?_
            refine own_go (T' := T31) (g' := (mkF m 109 #[iv x0, iv x1, iv ((x0 &&& (2147483647 : Int32)) % (6 : Int32)), rv s3, iv (1 : Int32), iv (1 : Int32), .unset] [])) (fun t k => XS.istore X31.here hx rfl (hb hby at_107) rfl (l' := #[iv x0, iv x1, iv ((x0 &&& (2147483647 : Int32)) % (6 : Int32)), rv s3, iv (1 : Int32), iv (1 : Int32), .unset]) rfl k) ?_
            refine own_go (T' := T31) (g' := (mkF m 111 #[iv x0, iv x1, iv ((x0 &&& (2147483647 : Int32)) % (6 : Int32)), rv s3, iv (1 : Int32), iv (1 : Int32), .unset] [(.int (1 : Int32))])) (fun t k => XS.iload X31.here hx rfl (hb hby at_109) rfl k) ?_
            refine own_go (T' := T31) (g' := (mkF m 113 #[iv x0, iv x1, iv ((x0 &&& (2147483647 : Int32)) % (6 : Int32)), rv s3, iv (1 : Int32), iv (1 : Int32), .unset] [(.int (1 : Int32)), (.int (1 : Int32))])) (fun t k => XS.iload X31.here hx rfl (hb hby at_111) rfl k) ?_
            refine own_go (T' := T31) (g' := (mkF m 114 #[iv x0, iv x1, iv ((x0 &&& (2147483647 : Int32)) % (6 : Int32)), rv s3, iv (1 : Int32), iv (1 : Int32), .unset] [(.int ((1 : Int32) &&& (1 : Int32)))])) (fun t k => XS.iand X31.here hx rfl (hb hby at_113) rfl k) ?_
            refine own_go (T' := T31) (g' := (mkF m 117 #[iv x0, iv x1, iv ((x0 &&& (2147483647 : Int32)) % (6 : Int32)), rv s3, iv (1 : Int32), iv (1 : Int32), .unset] [])) (fun t k => XS.ifNo X31.here hx rfl (hb hby at_114) rfl ((if0 _ _).trans (feq (by decide : ¬ (((1 : Int32) &&& (1 : Int32)) = (0 : Int32)))).1) k) ?_
            refine own_go (T' := T31) (g' := (mkF m 118 #[iv x0, iv x1, iv ((x0 &&& (2147483647 : Int32)) % (6 : Int32)), rv s3, iv (1 : Int32), iv (1 : Int32), .unset] [(.int (1 : Int32))])) (fun t k => XS.iconst X31.here hx rfl (hb hby at_117) k) ?_
            refine own_go (T' := T31) (g' := (mkF m 122 #[iv x0, iv x1, iv ((x0 &&& (2147483647 : Int32)) % (6 : Int32)), rv s3, iv (1 : Int32), iv (1 : Int32), .unset] [(.int (1 : Int32))])) (fun t k => XS.goto X31.here hx rfl (pc0 := 118) (pc' := 122) rfl (hb hby at_118) (by decide) (by decide) k) ?_
            refine own_go (T' := T31) (g' := (mkF m 124 #[iv x0, iv x1, iv ((x0 &&& (2147483647 : Int32)) % (6 : Int32)), rv s3, iv (1 : Int32), iv (1 : Int32), iv (1 : Int32)] [])) (fun t k => XS.istore X31.here hx rfl (hb hby at_122) rfl (l' := #[iv x0, iv x1, iv ((x0 &&& (2147483647 : Int32)) % (6 : Int32)), rv s3, iv (1 : Int32), iv (1 : Int32), iv (1 : Int32)]) rfl k) ?_
            refine own_go (T' := T31) (g' := (mkF m 125 #[iv x0, iv x1, iv ((x0 &&& (2147483647 : Int32)) % (6 : Int32)), rv s3, iv (1 : Int32), iv (1 : Int32), iv (1 : Int32)] [(.ref s3)])) (fun t k => XS.aloadN X31.here hx rfl (hb hby at_124) rfl rfl k) ?_
            refine own_go (T' := T31) (g' := (mkF m 126 #[iv x0, iv x1, iv ((x0 &&& (2147483647 : Int32)) % (6 : Int32)), rv s3, iv (1 : Int32), iv (1 : Int32), iv (1 : Int32)] [(.int x1), (.ref s3)])) (fun t k => XS.iloadN X31.here hx rfl (hb hby at_125) rfl k) ?_
            obtain ⟨cq33, kq33, q33a, q33b, q33c⟩ := isOf hZ e31 E_LESS
            obtain ⟨_, _, ⟨T33, L33, k33, n33⟩, -, X33, ⟨Lc33, hQ33, l33, y33, z33⟩, st33⟩ := X31.virtualBack hx (y := (⟨"com/example/events_in_order/eventsinorder/model/Comparison$Operator", "accepts", "(I)Z"⟩ : MethodName)) (z := (⟨"com/example/events_in_order/eventsinorder/model/Comparison$Operator", "accepts", "(I)Z"⟩ : MethodName)) hown (mvT hZ (hw _ (List.mem_of_getElem? (i := 4) rfl))) (mvT hZ (hw _ (List.mem_of_getElem? (i := 5) rfl))) (notFace_of_selects (args := #[]) (mvT hZ (hw _ (List.mem_of_getElem? (i := 7) rfl)))) (mvT hZ (hw _ (List.mem_of_getElem? (i := 7) rfl))) (mvT hZ (hw _ (List.mem_of_getElem? (i := 6) rfl))) (by decide) (backOf (W := 0) (own_racc l Z a0 hw [] s3 x1 (3 : Int32) h0 n0 Z0 O_LESS E_LESS (by decide)) hZ (hw _ (List.mem_of_getElem? (i := 8) rfl)) (hw _ (List.mem_of_getElem? (i := 2) rfl)) (by decide) (by decide)) q33a q33c (g := (mkF m 126 #[iv x0, iv x1, iv ((x0 &&& (2147483647 : Int32)) % (6 : Int32)), rv s3, iv (1 : Int32), iv (1 : Int32), iv (1 : Int32)] [(.int x1), (.ref s3)])) rfl (by rw [hml]; rfl) (Steps.refl _) (argsL := [(.int x1)]) (rest := []) (lenOf own_pd1 rfl) rfl (by show 2 * 0 + _ ≤ _; exact Nat.le_of_eq rfl) (hb hby at_126) (fun _ _ => ⟨rfl, e31, (by decide : 0 + 0 ≤ _), (by decide : 0 + 0 ≤ _)⟩)
            dsimp only [Pt.U, Pt.locs, Pt.cells, Pt.slots] at X33 l33 y33 z33 st33 hQ33
            subst l33 y33 z33
            obtain ⟨rfl, rfl, e33⟩ := hQ33
            have E33q : T33.heap = h0 := e33
            have N33 := Fr.app N0 (Fr.nil n0)
            refine own_go (T' := T33) (g' := (mkF m 129 #[iv x0, iv x1, iv ((x0 &&& (2147483647 : Int32)) % (6 : Int32)), rv s3, iv (1 : Int32), iv (1 : Int32), iv (1 : Int32)] [(.int (own_acc (3 : Int32) x1))])) (fun t k => st33.trans k) ?_
            refine own_go (T' := T33) (g' := (mkF m 131 #[iv x0, iv x1, iv ((x0 &&& (2147483647 : Int32)) % (6 : Int32)), rv s3, iv (1 : Int32), iv (1 : Int32), iv (1 : Int32)] [(.int (1 : Int32)), (.int (own_acc (3 : Int32) x1))])) (fun t k => XS.iload X33.here hx rfl (hb hby at_129) rfl k) ?_
            refine own_go (T' := T33) (g' := (mkF m 134 #[iv x0, iv x1, iv ((x0 &&& (2147483647 : Int32)) % (6 : Int32)), rv s3, iv (1 : Int32), iv (1 : Int32), iv (1 : Int32)] [])) (fun t k => XS.icmpNo X33.here hx rfl (hb hby at_131) rfl (teq (by have q := own_t1 hc32; simp +decide [own_acc, q, hc32] : ((own_acc (3 : Int32) x1) = (1 : Int32)))).2 k) ?_
            refine own_go (T' := T33) (g' := (mkF m 135 #[iv x0, iv x1, iv ((x0 &&& (2147483647 : Int32)) % (6 : Int32)), rv s3, iv (1 : Int32), iv (1 : Int32), iv (1 : Int32)] [(.int (1 : Int32))])) (fun t k => XS.iconst X33.here hx rfl (hb hby at_134) k) ?_
            refine own_go (T' := T33) (g' := (mkF m 139 #[iv x0, iv x1, iv ((x0 &&& (2147483647 : Int32)) % (6 : Int32)), rv s3, iv (1 : Int32), iv (1 : Int32), iv (1 : Int32)] [(.int (1 : Int32))])) (fun t k => XS.goto X33.here hx rfl (pc0 := 135) (pc' := 139) rfl (hb hby at_135) (by decide) (by decide) k) ?_
            exact own_ret X33 hlk hx Bd.returns rfl (Or.inl ⟨rfl, Or.inr (Or.inl rfl), _, rfl⟩) (hb hby at_139) (by first | exact ⟨rfl, N33⟩ | (rw [Fr] at *; exact ⟨rfl, by simpa using N33⟩)) (by decide) (by decide)
          · refine own_go (T' := T31) (g' := (mkF m 98 #[iv x0, iv x1, iv ((x0 &&& (2147483647 : Int32)) % (6 : Int32)), rv s3, iv (1 : Int32), .unset, .unset] [])) (fun t k => XS.ifYes X31.here hx rfl (pc0 := 91) (pc' := 98) rfl (hb hby at_91) rfl ((if0 _ _).trans (flt hc32).2.1) (by decide) (by decide) k) ?_
            refine own_go (T' := T31) (g' := (mkF m 99 #[iv x0, iv x1, iv ((x0 &&& (2147483647 : Int32)) % (6 : Int32)), rv s3, iv (1 : Int32), .unset, .unset] [(.int x1)])) (fun t k => XS.iloadN X31.here hx rfl (hb hby at_98) rfl k) ?_
            by_cases hc34 : x1 = (0 : Int32)
            · refine own_go (T' := T31) (g' := (mkF m 102 #[iv x0, iv x1, iv ((x0 &&& (2147483647 : Int32)) % (6 : Int32)), rv s3, iv (1 : Int32), .unset, .unset] [])) (fun t k => XS.ifNo X31.here hx rfl (hb hby at_99) rfl ((if0 _ _).trans (teq hc34).2) k) ?_
              refine own_go (T' := T31) (g' := (mkF m 103 #[iv x0, iv x1, iv ((x0 &&& (2147483647 : Int32)) % (6 : Int32)), rv s3, iv (1 : Int32), .unset, .unset] [(.int (2 : Int32))])) (fun t k => XS.iconst X31.here hx rfl (hb hby at_102) k) ?_
              refine own_go (T' := T31) (g' := (mkF m 107 #[iv x0, iv x1, iv ((x0 &&& (2147483647 : Int32)) % (6 : Int32)), rv s3, iv (1 : Int32), .unset, .unset] [(.int (2 : Int32))])) (fun t k => XS.goto X31.here hx rfl (pc0 := 103) (pc' := 107) rfl (hb hby at_103) (by decide) (by decide) k) ?_
              refine own_go (T' := T31) (g' := (mkF m 109 #[iv x0, iv x1, iv ((x0 &&& (2147483647 : Int32)) % (6 : Int32)), rv s3, iv (1 : Int32), iv (2 : Int32), .unset] [])) (fun t k => XS.istore X31.here hx rfl (hb hby at_107) rfl (l' := #[iv x0, iv x1, iv ((x0 &&& (2147483647 : Int32)) % (6 : Int32)), rv s3, iv (1 : Int32), iv (2 : Int32), .unset]) rfl k) ?_
              refine own_go (T' := T31) (g' := (mkF m 111 #[iv x0, iv x1, iv ((x0 &&& (2147483647 : Int32)) % (6 : Int32)), rv s3, iv (1 : Int32), iv (2 : Int32), .unset] [(.int (1 : Int32))])) (fun t k => XS.iload X31.here hx rfl (hb hby at_109) rfl k) ?_
              refine own_go (T' := T31) (g' := (mkF m 113 #[iv x0, iv x1, iv ((x0 &&& (2147483647 : Int32)) % (6 : Int32)), rv s3, iv (1 : Int32), iv (2 : Int32), .unset] [(.int (2 : Int32)), (.int (1 : Int32))])) (fun t k => XS.iload X31.here hx rfl (hb hby at_111) rfl k) ?_
              refine own_go (T' := T31) (g' := (mkF m 114 #[iv x0, iv x1, iv ((x0 &&& (2147483647 : Int32)) % (6 : Int32)), rv s3, iv (1 : Int32), iv (2 : Int32), .unset] [(.int ((1 : Int32) &&& (2 : Int32)))])) (fun t k => XS.iand X31.here hx rfl (hb hby at_113) rfl k) ?_
              refine own_go (T' := T31) (g' := (mkF m 121 #[iv x0, iv x1, iv ((x0 &&& (2147483647 : Int32)) % (6 : Int32)), rv s3, iv (1 : Int32), iv (2 : Int32), .unset] [])) (fun t k => XS.ifYes X31.here hx rfl (pc0 := 114) (pc' := 121) rfl (hb hby at_114) rfl ((if0 _ _).trans (teq (by decide : (((1 : Int32) &&& (2 : Int32)) = (0 : Int32)))).1) (by decide) (by decide) k) ?_
              refine own_go (T' := T31) (g' := (mkF m 122 #[iv x0, iv x1, iv ((x0 &&& (2147483647 : Int32)) % (6 : Int32)), rv s3, iv (1 : Int32), iv (2 : Int32), .unset] [(.int (0 : Int32))])) (fun t k => XS.iconst X31.here hx rfl (hb hby at_121) k) ?_
              refine own_go (T' := T31) (g' := (mkF m 124 #[iv x0, iv x1, iv ((x0 &&& (2147483647 : Int32)) % (6 : Int32)), rv s3, iv (1 : Int32), iv (2 : Int32), iv (0 : Int32)] [])) (fun t k => XS.istore X31.here hx rfl (hb hby at_122) rfl (l' := #[iv x0, iv x1, iv ((x0 &&& (2147483647 : Int32)) % (6 : Int32)), rv s3, iv (1 : Int32), iv (2 : Int32), iv (0 : Int32)]) rfl k) ?_
              refine own_go (T' := T31) (g' := (mkF m 125 #[iv x0, iv x1, iv ((x0 &&& (2147483647 : Int32)) % (6 : Int32)), rv s3, iv (1 : Int32), iv (2 : Int32), iv (0 : Int32)] [(.ref s3)])) (fun t k => XS.aloadN X31.here hx rfl (hb hby at_124) rfl rfl k) ?_
              refine own_go (T' := T31) (g' := (mkF m 126 #[iv x0, iv x1, iv ((x0 &&& (2147483647 : Int32)) % (6 : Int32)), rv s3, iv (1 : Int32), iv (2 : Int32), iv (0 : Int32)] [(.int x1), (.ref s3)])) (fun t k => XS.iloadN X31.here hx rfl (hb hby at_125) rfl k) ?_
              obtain ⟨cq35, kq35, q35a, q35b, q35c⟩ := isOf hZ e31 E_LESS
              obtain ⟨_, _, ⟨T35, L35, k35, n35⟩, -, X35, ⟨Lc35, hQ35, l35, y35, z35⟩, st35⟩ := X31.virtualBack hx (y := (⟨"com/example/events_in_order/eventsinorder/model/Comparison$Operator", "accepts", "(I)Z"⟩ : MethodName)) (z := (⟨"com/example/events_in_order/eventsinorder/model/Comparison$Operator", "accepts", "(I)Z"⟩ : MethodName)) hown (mvT hZ (hw _ (List.mem_of_getElem? (i := 4) rfl))) (mvT hZ (hw _ (List.mem_of_getElem? (i := 5) rfl))) (notFace_of_selects (args := #[]) (mvT hZ (hw _ (List.mem_of_getElem? (i := 7) rfl)))) (mvT hZ (hw _ (List.mem_of_getElem? (i := 7) rfl))) (mvT hZ (hw _ (List.mem_of_getElem? (i := 6) rfl))) (by decide) (backOf (W := 0) (own_racc l Z a0 hw [] s3 x1 (3 : Int32) h0 n0 Z0 O_LESS E_LESS (by decide)) hZ (hw _ (List.mem_of_getElem? (i := 8) rfl)) (hw _ (List.mem_of_getElem? (i := 2) rfl)) (by decide) (by decide)) q35a q35c (g := (mkF m 126 #[iv x0, iv x1, iv ((x0 &&& (2147483647 : Int32)) % (6 : Int32)), rv s3, iv (1 : Int32), iv (2 : Int32), iv (0 : Int32)] [(.int x1), (.ref s3)])) rfl (by rw [hml]; rfl) (Steps.refl _) (argsL := [(.int x1)]) (rest := []) (lenOf own_pd1 rfl) rfl (by show 2 * 0 + _ ≤ _; exact Nat.le_of_eq rfl) (hb hby at_126) (fun _ _ => ⟨rfl, e31, (by decide : 0 + 0 ≤ _), (by decide : 0 + 0 ≤ _)⟩)
              dsimp only [Pt.U, Pt.locs, Pt.cells, Pt.slots] at X35 l35 y35 z35 st35 hQ35
              subst l35 y35 z35
              obtain ⟨rfl, rfl, e35⟩ := hQ35
              have E35q : T35.heap = h0 := e35
              have N35 := Fr.app N0 (Fr.nil n0)
              refine own_go (T' := T35) (g' := (mkF m 129 #[iv x0, iv x1, iv ((x0 &&& (2147483647 : Int32)) % (6 : Int32)), rv s3, iv (1 : Int32), iv (2 : Int32), iv (0 : Int32)] [(.int (own_acc (3 : Int32) x1))])) (fun t k => st35.trans k) ?_
              refine own_go (T' := T35) (g' := (mkF m 131 #[iv x0, iv x1, iv ((x0 &&& (2147483647 : Int32)) % (6 : Int32)), rv s3, iv (1 : Int32), iv (2 : Int32), iv (0 : Int32)] [(.int (0 : Int32)), (.int (own_acc (3 : Int32) x1))])) (fun t k => XS.iload X35.here hx rfl (hb hby at_129) rfl k) ?_
              refine own_go (T' := T35) (g' := (mkF m 134 #[iv x0, iv x1, iv ((x0 &&& (2147483647 : Int32)) % (6 : Int32)), rv s3, iv (1 : Int32), iv (2 : Int32), iv (0 : Int32)] [])) (fun t k => XS.icmpNo X35.here hx rfl (hb hby at_131) rfl (teq (by have q := own_t2 hc34; simp +decide [own_acc, q, hc32, hc34] : ((own_acc (3 : Int32) x1) = (0 : Int32)))).2 k) ?_
              refine own_go (T' := T35) (g' := (mkF m 135 #[iv x0, iv x1, iv ((x0 &&& (2147483647 : Int32)) % (6 : Int32)), rv s3, iv (1 : Int32), iv (2 : Int32), iv (0 : Int32)] [(.int (1 : Int32))])) (fun t k => XS.iconst X35.here hx rfl (hb hby at_134) k) ?_
              refine own_go (T' := T35) (g' := (mkF m 139 #[iv x0, iv x1, iv ((x0 &&& (2147483647 : Int32)) % (6 : Int32)), rv s3, iv (1 : Int32), iv (2 : Int32), iv (0 : Int32)] [(.int (1 : Int32))])) (fun t k => XS.goto X35.here hx rfl (pc0 := 135) (pc' := 139) rfl (hb hby at_135) (by decide) (by decide) k) ?_
              exact own_ret X35 hlk hx Bd.returns rfl (Or.inl ⟨rfl, Or.inr (Or.inl rfl), _, rfl⟩) (hb hby at_139) (by first | exact ⟨rfl, N35⟩ | (rw [Fr] at *; exact ⟨rfl, by simpa using N35⟩)) (by decide) (by decide)
            · refine own_go (T' := T31) (g' := (mkF m 106 #[iv x0, iv x1, iv ((x0 &&& (2147483647 : Int32)) % (6 : Int32)), rv s3, iv (1 : Int32), .unset, .unset] [])) (fun t k => XS.ifYes X31.here hx rfl (pc0 := 99) (pc' := 106) rfl (hb hby at_99) rfl ((if0 _ _).trans (feq hc34).2) (by decide) (by decide) k) ?_
              refine own_go (T' := T31) (g' := (mkF m 107 #[iv x0, iv x1, iv ((x0 &&& (2147483647 : Int32)) % (6 : Int32)), rv s3, iv (1 : Int32), .unset, .unset] [(.int (4 : Int32))])) (fun t k => XS.iconst X31.here hx rfl (hb hby at_106) k) ?_
              refine own_go (T' := T31) (g' := (mkF m 109 #[iv x0, iv x1, iv ((x0 &&& (2147483647 : Int32)) % (6 : Int32)), rv s3, iv (1 : Int32), iv (4 : Int32), .unset] [])) (fun t k => XS.istore X31.here hx rfl (hb hby at_107) rfl (l' := #[iv x0, iv x1, iv ((x0 &&& (2147483647 : Int32)) % (6 : Int32)), rv s3, iv (1 : Int32), iv (4 : Int32), .unset]) rfl k) ?_
              refine own_go (T' := T31) (g' := (mkF m 111 #[iv x0, iv x1, iv ((x0 &&& (2147483647 : Int32)) % (6 : Int32)), rv s3, iv (1 : Int32), iv (4 : Int32), .unset] [(.int (1 : Int32))])) (fun t k => XS.iload X31.here hx rfl (hb hby at_109) rfl k) ?_
              refine own_go (T' := T31) (g' := (mkF m 113 #[iv x0, iv x1, iv ((x0 &&& (2147483647 : Int32)) % (6 : Int32)), rv s3, iv (1 : Int32), iv (4 : Int32), .unset] [(.int (4 : Int32)), (.int (1 : Int32))])) (fun t k => XS.iload X31.here hx rfl (hb hby at_111) rfl k) ?_
              refine own_go (T' := T31) (g' := (mkF m 114 #[iv x0, iv x1, iv ((x0 &&& (2147483647 : Int32)) % (6 : Int32)), rv s3, iv (1 : Int32), iv (4 : Int32), .unset] [(.int ((1 : Int32) &&& (4 : Int32)))])) (fun t k => XS.iand X31.here hx rfl (hb hby at_113) rfl k) ?_
              refine own_go (T' := T31) (g' := (mkF m 121 #[iv x0, iv x1, iv ((x0 &&& (2147483647 : Int32)) % (6 : Int32)), rv s3, iv (1 : Int32), iv (4 : Int32), .unset] [])) (fun t k => XS.ifYes X31.here hx rfl (pc0 := 114) (pc' := 121) rfl (hb hby at_114) rfl ((if0 _ _).trans (teq (by decide : (((1 : Int32) &&& (4 : Int32)) = (0 : Int32)))).1) (by decide) (by decide) k) ?_
              refine own_go (T' := T31) (g' := (mkF m 122 #[iv x0, iv x1, iv ((x0 &&& (2147483647 : Int32)) % (6 : Int32)), rv s3, iv (1 : Int32), iv (4 : Int32), .unset] [(.int (0 : Int32))])) (fun t k => XS.iconst X31.here hx rfl (hb hby at_121) k) ?_
              refine own_go (T' := T31) (g' := (mkF m 124 #[iv x0, iv x1, iv ((x0 &&& (2147483647 : Int32)) % (6 : Int32)), rv s3, iv (1 : Int32), iv (4 : Int32), iv (0 : Int32)] [])) (fun t k => XS.istore X31.here hx rfl (hb hby at_122) rfl (l' := #[iv x0, iv x1, iv ((x0 &&& (2147483647 : Int32)) % (6 : Int32)), rv s3, iv (1 : Int32), iv (4 : Int32), iv (0 : Int32)]) rfl k) ?_
              refine own_go (T' := T31) (g' := (mkF m 125 #[iv x0, iv x1, iv ((x0 &&& (2147483647 : Int32)) % (6 : Int32)), rv s3, iv (1 : Int32), iv (4 : Int32), iv (0 : Int32)] [(.ref s3)])) (fun t k => XS.aloadN X31.here hx rfl (hb hby at_124) rfl rfl k) ?_
              refine own_go (T' := T31) (g' := (mkF m 126 #[iv x0, iv x1, iv ((x0 &&& (2147483647 : Int32)) % (6 : Int32)), rv s3, iv (1 : Int32), iv (4 : Int32), iv (0 : Int32)] [(.int x1), (.ref s3)])) (fun t k => XS.iloadN X31.here hx rfl (hb hby at_125) rfl k) ?_
              obtain ⟨cq36, kq36, q36a, q36b, q36c⟩ := isOf hZ e31 E_LESS
              obtain ⟨_, _, ⟨T36, L36, k36, n36⟩, -, X36, ⟨Lc36, hQ36, l36, y36, z36⟩, st36⟩ := X31.virtualBack hx (y := (⟨"com/example/events_in_order/eventsinorder/model/Comparison$Operator", "accepts", "(I)Z"⟩ : MethodName)) (z := (⟨"com/example/events_in_order/eventsinorder/model/Comparison$Operator", "accepts", "(I)Z"⟩ : MethodName)) hown (mvT hZ (hw _ (List.mem_of_getElem? (i := 4) rfl))) (mvT hZ (hw _ (List.mem_of_getElem? (i := 5) rfl))) (notFace_of_selects (args := #[]) (mvT hZ (hw _ (List.mem_of_getElem? (i := 7) rfl)))) (mvT hZ (hw _ (List.mem_of_getElem? (i := 7) rfl))) (mvT hZ (hw _ (List.mem_of_getElem? (i := 6) rfl))) (by decide) (backOf (W := 0) (own_racc l Z a0 hw [] s3 x1 (3 : Int32) h0 n0 Z0 O_LESS E_LESS (by decide)) hZ (hw _ (List.mem_of_getElem? (i := 8) rfl)) (hw _ (List.mem_of_getElem? (i := 2) rfl)) (by decide) (by decide)) q36a q36c (g := (mkF m 126 #[iv x0, iv x1, iv ((x0 &&& (2147483647 : Int32)) % (6 : Int32)), rv s3, iv (1 : Int32), iv (4 : Int32), iv (0 : Int32)] [(.int x1), (.ref s3)])) rfl (by rw [hml]; rfl) (Steps.refl _) (argsL := [(.int x1)]) (rest := []) (lenOf own_pd1 rfl) rfl (by show 2 * 0 + _ ≤ _; exact Nat.le_of_eq rfl) (hb hby at_126) (fun _ _ => ⟨rfl, e31, (by decide : 0 + 0 ≤ _), (by decide : 0 + 0 ≤ _)⟩)
              dsimp only [Pt.U, Pt.locs, Pt.cells, Pt.slots] at X36 l36 y36 z36 st36 hQ36
              subst l36 y36 z36
              obtain ⟨rfl, rfl, e36⟩ := hQ36
              have E36q : T36.heap = h0 := e36
              have N36 := Fr.app N0 (Fr.nil n0)
              refine own_go (T' := T36) (g' := (mkF m 129 #[iv x0, iv x1, iv ((x0 &&& (2147483647 : Int32)) % (6 : Int32)), rv s3, iv (1 : Int32), iv (4 : Int32), iv (0 : Int32)] [(.int (own_acc (3 : Int32) x1))])) (fun t k => st36.trans k) ?_
              refine own_go (T' := T36) (g' := (mkF m 131 #[iv x0, iv x1, iv ((x0 &&& (2147483647 : Int32)) % (6 : Int32)), rv s3, iv (1 : Int32), iv (4 : Int32), iv (0 : Int32)] [(.int (0 : Int32)), (.int (own_acc (3 : Int32) x1))])) (fun t k => XS.iload X36.here hx rfl (hb hby at_129) rfl k) ?_
              refine own_go (T' := T36) (g' := (mkF m 134 #[iv x0, iv x1, iv ((x0 &&& (2147483647 : Int32)) % (6 : Int32)), rv s3, iv (1 : Int32), iv (4 : Int32), iv (0 : Int32)] [])) (fun t k => XS.icmpNo X36.here hx rfl (hb hby at_131) rfl (teq (by have q := own_t3 hc32 hc34; simp +decide [own_acc, q, hc32, hc34] : ((own_acc (3 : Int32) x1) = (0 : Int32)))).2 k) ?_
              refine own_go (T' := T36) (g' := (mkF m 135 #[iv x0, iv x1, iv ((x0 &&& (2147483647 : Int32)) % (6 : Int32)), rv s3, iv (1 : Int32), iv (4 : Int32), iv (0 : Int32)] [(.int (1 : Int32))])) (fun t k => XS.iconst X36.here hx rfl (hb hby at_134) k) ?_
              refine own_go (T' := T36) (g' := (mkF m 139 #[iv x0, iv x1, iv ((x0 &&& (2147483647 : Int32)) % (6 : Int32)), rv s3, iv (1 : Int32), iv (4 : Int32), iv (0 : Int32)] [(.int (1 : Int32))])) (fun t k => XS.goto X36.here hx rfl (pc0 := 135) (pc' := 139) rfl (hb hby at_135) (by decide) (by decide) k) ?_
              exact own_ret X36 hlk hx Bd.returns rfl (Or.inl ⟨rfl, Or.inr (Or.inl rfl), _, rfl⟩) (hb hby at_139) (by first | exact ⟨rfl, N36⟩ | (rw [Fr] at *; exact ⟨rfl, by simpa using N36⟩)) (by decide) (by decide)
        · refine own_go (T' := s₁) (g' := (mkF m 68 #[iv x0, iv x1, iv ((x0 &&& (2147483647 : Int32)) % (6 : Int32)), .unset, .unset, .unset, .unset] [])) (fun t k => XS.icmpYes X0.here hx rfl (pc0 := 55) (pc' := 68) rfl (hb hby at_55) rfl (feq hc30).2 (by decide) (by decide) k) ?_
          refine own_go (T' := s₁) (g' := (mkF m 69 #[iv x0, iv x1, iv ((x0 &&& (2147483647 : Int32)) % (6 : Int32)), .unset, .unset, .unset, .unset] [(.int ((x0 &&& (2147483647 : Int32)) % (6 : Int32)))])) (fun t k => XS.iloadN X0.here hx rfl (hb hby at_68) rfl k) ?_
          refine own_go (T' := s₁) (g' := (mkF m 70 #[iv x0, iv x1, iv ((x0 &&& (2147483647 : Int32)) % (6 : Int32)), .unset, .unset, .unset, .unset] [(.int (4 : Int32)), (.int ((x0 &&& (2147483647 : Int32)) % (6 : Int32)))])) (fun t k => XS.iconst X0.here hx rfl (hb hby at_69) k) ?_
          by_cases hc37 : ((x0 &&& (2147483647 : Int32)) % (6 : Int32)) = (4 : Int32)
          · refine own_go (T' := s₁) (g' := (mkF m 73 #[iv x0, iv x1, iv ((x0 &&& (2147483647 : Int32)) % (6 : Int32)), .unset, .unset, .unset, .unset] [])) (fun t k => XS.icmpNo X0.here hx rfl (hb hby at_70) rfl (teq hc37).2 k) ?_
            obtain ⟨T38, X38, e38, st38⟩ := getS2 X0 hx hZ hown (host := "") (Or.inl (hw _ (List.mem_of_getElem? (i := 20) rfl))) Via.refl e0 S_GREATER (g := (mkF m 73 #[iv x0, iv x1, iv ((x0 &&& (2147483647 : Int32)) % (6 : Int32)), .unset, .unset, .unset, .unset] [])) rfl (hb hby at_73)
            refine own_go (T' := T38) (g' := (mkF m 76 #[iv x0, iv x1, iv ((x0 &&& (2147483647 : Int32)) % (6 : Int32)), .unset, .unset, .unset, .unset] [(.ref s4)])) (st38) ?_
            refine own_go (T' := T38) (g' := (mkF m 77 #[iv x0, iv x1, iv ((x0 &&& (2147483647 : Int32)) % (6 : Int32)), rv s4, .unset, .unset, .unset] [])) (fun t k => XS.astoreN X38.here hx rfl (hb hby at_76) rfl rfl (l' := #[iv x0, iv x1, iv ((x0 &&& (2147483647 : Int32)) % (6 : Int32)), rv s4, .unset, .unset, .unset]) rfl k) ?_
            refine own_go (T' := T38) (g' := (mkF m 78 #[iv x0, iv x1, iv ((x0 &&& (2147483647 : Int32)) % (6 : Int32)), rv s4, .unset, .unset, .unset] [(.int (4 : Int32))])) (fun t k => XS.iconst X38.here hx rfl (hb hby at_77) k) ?_
            refine own_go (T' := T38) (g' := (mkF m 80 #[iv x0, iv x1, iv ((x0 &&& (2147483647 : Int32)) % (6 : Int32)), rv s4, iv (4 : Int32), .unset, .unset] [])) (fun t k => XS.istore X38.here hx rfl (hb hby at_78) rfl (l' := #[iv x0, iv x1, iv ((x0 &&& (2147483647 : Int32)) % (6 : Int32)), rv s4, iv (4 : Int32), .unset, .unset]) rfl k) ?_
            refine own_go (T' := T38) (g' := (mkF m 90 #[iv x0, iv x1, iv ((x0 &&& (2147483647 : Int32)) % (6 : Int32)), rv s4, iv (4 : Int32), .unset, .unset] [])) (fun t k => XS.goto X38.here hx rfl (pc0 := 80) (pc' := 90) rfl (hb hby at_80) (by decide) (by decide) k) ?_
            refine own_go (T' := T38) (g' := (mkF m 91 #[iv x0, iv x1, iv ((x0 &&& (2147483647 : Int32)) % (6 : Int32)), rv s4, iv (4 : Int32), .unset, .unset] [(.int x1)])) (fun t k => XS.iloadN X38.here hx rfl (hb hby at_90) rfl k) ?_
            by_cases hc39 : x1 < (0 : Int32)
            · refine own_go (T' := T38) (g' := (mkF m 94 #[iv x0, iv x1, iv ((x0 &&& (2147483647 : Int32)) % (6 : Int32)), rv s4, iv (4 : Int32), .unset, .unset] [])) (fun t k => XS.ifNo X38.here hx rfl (hb hby at_91) rfl ((if0 _ _).trans (tlt hc39).2.1) k) ?_
              refine own_go (T' := T38) (g' := (mkF m 95 #[iv x0, iv x1, iv ((x0 &&& (2147483647 : Int32)) % (6 : Int32)), rv s4, iv (4 : Int32), .unset, .unset] [(.int (1 : Int32))])) (fun t k => XS.iconst X38.here hx rfl (hb hby at_94) k) ?_
              refine own_go (T' := T38) (g' := (mkF m 107 #[iv x0, iv x1, iv ((x0 &&& (2147483647 : Int32)) % (6 : Int32)), rv s4, iv (4 : Int32), .unset, .unset] [(.int (1 : Int32))])) (fun t k => XS.goto X38.here hx rfl (pc0 := 95) (pc' := 107) rfl (hb hby at_95) (by decide) (by decide) k) ?_
              refine own_go (T' := T38) (g' := (mkF m 109 #[iv x0, iv x1, iv ((x0 &&& (2147483647 : Int32)) % (6 : Int32)), rv s4, iv (4 : Int32), iv (1 : Int32), .unset] [])) (fun t k => XS.istore X38.here hx rfl (hb hby at_107) rfl (l' := #[iv x0, iv x1, iv ((x0 &&& (2147483647 : Int32)) % (6 : Int32)), rv s4, iv (4 : Int32), iv (1 : Int32), .unset]) rfl k) ?_
              refine own_go (T' := T38) (g' := (mkF m 111 #[iv x0, iv x1, iv ((x0 &&& (2147483647 : Int32)) % (6 : Int32)), rv s4, iv (4 : Int32), iv (1 : Int32), .unset] [(.int (4 : Int32))])) (fun t k => XS.iload X38.here hx rfl (hb hby at_109) rfl k) ?_
              refine own_go (T' := T38) (g' := (mkF m 113 #[iv x0, iv x1, iv ((x0 &&& (2147483647 : Int32)) % (6 : Int32)), rv s4, iv (4 : Int32), iv (1 : Int32), .unset] [(.int (1 : Int32)), (.int (4 : Int32))])) (fun t k => XS.iload X38.here hx rfl (hb hby at_111) rfl k) ?_
              refine own_go (T' := T38) (g' := (mkF m 114 #[iv x0, iv x1, iv ((x0 &&& (2147483647 : Int32)) % (6 : Int32)), rv s4, iv (4 : Int32), iv (1 : Int32), .unset] [(.int ((4 : Int32) &&& (1 : Int32)))])) (fun t k => XS.iand X38.here hx rfl (hb hby at_113) rfl k) ?_
              refine own_go (T' := T38) (g' := (mkF m 121 #[iv x0, iv x1, iv ((x0 &&& (2147483647 : Int32)) % (6 : Int32)), rv s4, iv (4 : Int32), iv (1 : Int32), .unset] [])) (fun t k => XS.ifYes X38.here hx rfl (pc0 := 114) (pc' := 121) rfl (hb hby at_114) rfl ((if0 _ _).trans (teq (by decide : (((4 : Int32) &&& (1 : Int32)) = (0 : Int32)))).1) (by decide) (by decide) k) ?_
              refine own_go (T' := T38) (g' := (mkF m 122 #[iv x0, iv x1, iv ((x0 &&& (2147483647 : Int32)) % (6 : Int32)), rv s4, iv (4 : Int32), iv (1 : Int32), .unset] [(.int (0 : Int32))])) (fun t k => XS.iconst X38.here hx rfl (hb hby at_121) k) ?_
              refine own_go (T' := T38) (g' := (mkF m 124 #[iv x0, iv x1, iv ((x0 &&& (2147483647 : Int32)) % (6 : Int32)), rv s4, iv (4 : Int32), iv (1 : Int32), iv (0 : Int32)] [])) (fun t k => XS.istore X38.here hx rfl (hb hby at_122) rfl (l' := #[iv x0, iv x1, iv ((x0 &&& (2147483647 : Int32)) % (6 : Int32)), rv s4, iv (4 : Int32), iv (1 : Int32), iv (0 : Int32)]) rfl k) ?_
              refine own_go (T' := T38) (g' := (mkF m 125 #[iv x0, iv x1, iv ((x0 &&& (2147483647 : Int32)) % (6 : Int32)), rv s4, iv (4 : Int32), iv (1 : Int32), iv (0 : Int32)] [(.ref s4)])) (fun t k => XS.aloadN X38.here hx rfl (hb hby at_124) rfl rfl k) ?_
              refine own_go (T' := T38) (g' := (mkF m 126 #[iv x0, iv x1, iv ((x0 &&& (2147483647 : Int32)) % (6 : Int32)), rv s4, iv (4 : Int32), iv (1 : Int32), iv (0 : Int32)] [(.int x1), (.ref s4)])) (fun t k => XS.iloadN X38.here hx rfl (hb hby at_125) rfl k) ?_
              obtain ⟨cq40, kq40, q40a, q40b, q40c⟩ := isOf hZ e38 E_GREATER
              obtain ⟨_, _, ⟨T40, L40, k40, n40⟩, -, X40, ⟨Lc40, hQ40, l40, y40, z40⟩, st40⟩ := X38.virtualBack hx (y := (⟨"com/example/events_in_order/eventsinorder/model/Comparison$Operator", "accepts", "(I)Z"⟩ : MethodName)) (z := (⟨"com/example/events_in_order/eventsinorder/model/Comparison$Operator", "accepts", "(I)Z"⟩ : MethodName)) hown (mvT hZ (hw _ (List.mem_of_getElem? (i := 4) rfl))) (mvT hZ (hw _ (List.mem_of_getElem? (i := 5) rfl))) (notFace_of_selects (args := #[]) (mvT hZ (hw _ (List.mem_of_getElem? (i := 7) rfl)))) (mvT hZ (hw _ (List.mem_of_getElem? (i := 7) rfl))) (mvT hZ (hw _ (List.mem_of_getElem? (i := 6) rfl))) (by decide) (backOf (W := 0) (own_racc l Z a0 hw [] s4 x1 (4 : Int32) h0 n0 Z0 O_GREATER E_GREATER (by decide)) hZ (hw _ (List.mem_of_getElem? (i := 8) rfl)) (hw _ (List.mem_of_getElem? (i := 2) rfl)) (by decide) (by decide)) q40a q40c (g := (mkF m 126 #[iv x0, iv x1, iv ((x0 &&& (2147483647 : Int32)) % (6 : Int32)), rv s4, iv (4 : Int32), iv (1 : Int32), iv (0 : Int32)] [(.int x1), (.ref s4)])) rfl (by rw [hml]; rfl) (Steps.refl _) (argsL := [(.int x1)]) (rest := []) (lenOf own_pd1 rfl) rfl (by show 2 * 0 + _ ≤ _; exact Nat.le_of_eq rfl) (hb hby at_126) (fun _ _ => ⟨rfl, e38, (by decide : 0 + 0 ≤ _), (by decide : 0 + 0 ≤ _)⟩)
              dsimp only [Pt.U, Pt.locs, Pt.cells, Pt.slots] at X40 l40 y40 z40 st40 hQ40
              subst l40 y40 z40
              obtain ⟨rfl, rfl, e40⟩ := hQ40
              have E40q : T40.heap = h0 := e40
              have N40 := Fr.app N0 (Fr.nil n0)
              refine own_go (T' := T40) (g' := (mkF m 129 #[iv x0, iv x1, iv ((x0 &&& (2147483647 : Int32)) % (6 : Int32)), rv s4, iv (4 : Int32), iv (1 : Int32), iv (0 : Int32)] [(.int (own_acc (4 : Int32) x1))])) (fun t k => st40.trans k) ?_
              refine own_go (T' := T40) (g' := (mkF m 131 #[iv x0, iv x1, iv ((x0 &&& (2147483647 : Int32)) % (6 : Int32)), rv s4, iv (4 : Int32), iv (1 : Int32), iv (0 : Int32)] [(.int (0 : Int32)), (.int (own_acc (4 : Int32) x1))])) (fun t k => XS.iload X40.here hx rfl (hb hby at_129) rfl k) ?_
              refine own_go (T' := T40) (g' := (mkF m 134 #[iv x0, iv x1, iv ((x0 &&& (2147483647 : Int32)) % (6 : Int32)), rv s4, iv (4 : Int32), iv (1 : Int32), iv (0 : Int32)] [])) (fun t k => XS.icmpNo X40.here hx rfl (hb hby at_131) rfl (teq (by have q := own_t1 hc39; simp +decide [own_acc, q, hc39] : ((own_acc (4 : Int32) x1) = (0 : Int32)))).2 k) ?_
              refine own_go (T' := T40) (g' := (mkF m 135 #[iv x0, iv x1, iv ((x0 &&& (2147483647 : Int32)) % (6 : Int32)), rv s4, iv (4 : Int32), iv (1 : Int32), iv (0 : Int32)] [(.int (1 : Int32))])) (fun t k => XS.iconst X40.here hx rfl (hb hby at_134) k) ?_
              refine own_go (T' := T40) (g' := (mkF m 139 #[iv x0, iv x1, iv ((x0 &&& (2147483647 : Int32)) % (6 : Int32)), rv s4, iv (4 : Int32), iv (1 : Int32), iv (0 : Int32)] [(.int (1 : Int32))])) (fun t k => XS.goto X40.here hx rfl (pc0 := 135) (pc' := 139) rfl (hb hby at_135) (by decide) (by decide) k) ?_
              exact own_ret X40 hlk hx Bd.returns rfl (Or.inl ⟨rfl, Or.inr (Or.inl rfl), _, rfl⟩) (hb hby at_139) (by first | exact ⟨rfl, N40⟩ | (rw [Fr] at *; exact ⟨rfl, by simpa using N40⟩)) (by decide) (by decide)
            · refine own_go (T' := T38) (g' := (mkF m 98 #[iv x0, iv x1, iv ((x0 &&& (2147483647 : Int32)) % (6 : Int32)), rv s4, iv (4 : Int32), .unset, .unset] [])) (fun t k => XS.ifYes X38.here hx rfl (pc0 := 91) (pc' := 98) rfl (hb hby at_91) rfl ((if0 _ _).trans (flt hc39).2.1) (by decide) (by decide) k) ?_
              refine own_go (T' := T38) (g' := (mkF m 99 #[iv x0, iv x1, iv ((x0 &&& (2147483647 : Int32)) % (6 : Int32)), rv s4, iv (4 : Int32), .unset, .unset] [(.int x1)])) (fun t k => XS.iloadN X38.here hx rfl (hb hby at_98) rfl k) ?_
              by_cases hc41 : x1 = (0 : Int32)
              · refine own_go (T' := T38) (g' := (mkF m 102 #[iv x0, iv x1, iv ((x0 &&& (2147483647 : Int32)) % (6 : Int32)), rv s4, iv (4 : Int32), .unset, .unset] [])) (fun t k => XS.ifNo X38.here hx rfl (hb hby at_99) rfl ((if0 _ _).trans (teq hc41).2) k) ?_
                refine own_go (T' := T38) (g' := (mkF m 103 #[iv x0, iv x1, iv ((x0 &&& (2147483647 : Int32)) % (6 : Int32)), rv s4, iv (4 : Int32), .unset, .unset] [(.int (2 : Int32))])) (fun t k => XS.iconst X38.here hx rfl (hb hby at_102) k) ?_
                refine own_go (T' := T38) (g' := (mkF m 107 #[iv x0, iv x1, iv ((x0 &&& (2147483647 : Int32)) % (6 : Int32)), rv s4, iv (4 : Int32), .unset, .unset] [(.int (2 : Int32))])) (fun t k => XS.goto X38.here hx rfl (pc0 := 103) (pc' := 107) rfl (hb hby at_103) (by decide) (by decide) k) ?_
                refine own_go (T' := T38) (g' := (mkF m 109 #[iv x0, iv x1, iv ((x0 &&& (2147483647 : Int32)) % (6 : Int32)), rv s4, iv (4 : Int32), iv (2 : Int32), .unset] [])) (fun t k => XS.istore X38.here hx rfl (hb hby at_107) rfl (l' := #[iv x0, iv x1, iv ((x0 &&& (2147483647 : Int32)) % (6 : Int32)), rv s4, iv (4 : Int32), iv (2 : Int32), .unset]) rfl k) ?_
                refine own_go (T' := T38) (g' := (mkF m 111 #[iv x0, iv x1, iv ((x0 &&& (2147483647 : Int32)) % (6 : Int32)), rv s4, iv (4 : Int32), iv (2 : Int32), .unset] [(.int (4 : Int32))])) (fun t k => XS.iload X38.here hx rfl (hb hby at_109) rfl k) ?_
                refine own_go (T' := T38) (g' := (mkF m 113 #[iv x0, iv x1, iv ((x0 &&& (2147483647 : Int32)) % (6 : Int32)), rv s4, iv (4 : Int32), iv (2 : Int32), .unset] [(.int (2 : Int32)), (.int (4 : Int32))])) (fun t k => XS.iload X38.here hx rfl (hb hby at_111) rfl k) ?_
                refine own_go (T' := T38) (g' := (mkF m 114 #[iv x0, iv x1, iv ((x0 &&& (2147483647 : Int32)) % (6 : Int32)), rv s4, iv (4 : Int32), iv (2 : Int32), .unset] [(.int ((4 : Int32) &&& (2 : Int32)))])) (fun t k => XS.iand X38.here hx rfl (hb hby at_113) rfl k) ?_
                refine own_go (T' := T38) (g' := (mkF m 121 #[iv x0, iv x1, iv ((x0 &&& (2147483647 : Int32)) % (6 : Int32)), rv s4, iv (4 : Int32), iv (2 : Int32), .unset] [])) (fun t k => XS.ifYes X38.here hx rfl (pc0 := 114) (pc' := 121) rfl (hb hby at_114) rfl ((if0 _ _).trans (teq (by decide : (((4 : Int32) &&& (2 : Int32)) = (0 : Int32)))).1) (by decide) (by decide) k) ?_
                refine own_go (T' := T38) (g' := (mkF m 122 #[iv x0, iv x1, iv ((x0 &&& (2147483647 : Int32)) % (6 : Int32)), rv s4, iv (4 : Int32), iv (2 : Int32), .unset] [(.int (0 : Int32))])) (fun t k => XS.iconst X38.here hx rfl (hb hby at_121) k) ?_
                refine own_go (T' := T38) (g' := (mkF m 124 #[iv x0, iv x1, iv ((x0 &&& (2147483647 : Int32)) % (6 : Int32)), rv s4, iv (4 : Int32), iv (2 : Int32), iv (0 : Int32)] [])) (fun t k => XS.istore X38.here hx rfl (hb hby at_122) rfl (l' := #[iv x0, iv x1, iv ((x0 &&& (2147483647 : Int32)) % (6 : Int32)), rv s4, iv (4 : Int32), iv (2 : Int32), iv (0 : Int32)]) rfl k) ?_
                refine own_go (T' := T38) (g' := (mkF m 125 #[iv x0, iv x1, iv ((x0 &&& (2147483647 : Int32)) % (6 : Int32)), rv s4, iv (4 : Int32), iv (2 : Int32), iv (0 : Int32)] [(.ref s4)])) (fun t k => XS.aloadN X38.here hx rfl (hb hby at_124) rfl rfl k) ?_
                refine own_go (T' := T38) (g' := (mkF m 126 #[iv x0, iv x1, iv ((x0 &&& (2147483647 : Int32)) % (6 : Int32)), rv s4, iv (4 : Int32), iv (2 : Int32), iv (0 : Int32)] [(.int x1), (.ref s4)])) (fun t k => XS.iloadN X38.here hx rfl (hb hby at_125) rfl k) ?_
                obtain ⟨cq42, kq42, q42a, q42b, q42c⟩ := isOf hZ e38 E_GREATER
                obtain ⟨_, _, ⟨T42, L42, k42, n42⟩, -, X42, ⟨Lc42, hQ42, l42, y42, z42⟩, st42⟩ := X38.virtualBack hx (y := (⟨"com/example/events_in_order/eventsinorder/model/Comparison$Operator", "accepts", "(I)Z"⟩ : MethodName)) (z := (⟨"com/example/events_in_order/eventsinorder/model/Comparison$Operator", "accepts", "(I)Z"⟩ : MethodName)) hown (mvT hZ (hw _ (List.mem_of_getElem? (i := 4) rfl))) (mvT hZ (hw _ (List.mem_of_getElem? (i := 5) rfl))) (notFace_of_selects (args := #[]) (mvT hZ (hw _ (List.mem_of_getElem? (i := 7) rfl)))) (mvT hZ (hw _ (List.mem_of_getElem? (i := 7) rfl))) (mvT hZ (hw _ (List.mem_of_getElem? (i := 6) rfl))) (by decide) (backOf (W := 0) (own_racc l Z a0 hw [] s4 x1 (4 : Int32) h0 n0 Z0 O_GREATER E_GREATER (by decide)) hZ (hw _ (List.mem_of_getElem? (i := 8) rfl)) (hw _ (List.mem_of_getElem? (i := 2) rfl)) (by decide) (by decide)) q42a q42c (g := (mkF m 126 #[iv x0, iv x1, iv ((x0 &&& (2147483647 : Int32)) % (6 : Int32)), rv s4, iv (4 : Int32), iv (2 : Int32), iv (0 : Int32)] [(.int x1), (.ref s4)])) rfl (by rw [hml]; rfl) (Steps.refl _) (argsL := [(.int x1)]) (rest := []) (lenOf own_pd1 rfl) rfl (by show 2 * 0 + _ ≤ _; exact Nat.le_of_eq rfl) (hb hby at_126) (fun _ _ => ⟨rfl, e38, (by decide : 0 + 0 ≤ _), (by decide : 0 + 0 ≤ _)⟩)
                dsimp only [Pt.U, Pt.locs, Pt.cells, Pt.slots] at X42 l42 y42 z42 st42 hQ42
                subst l42 y42 z42
                obtain ⟨rfl, rfl, e42⟩ := hQ42
                have E42q : T42.heap = h0 := e42
                have N42 := Fr.app N0 (Fr.nil n0)
                refine own_go (T' := T42) (g' := (mkF m 129 #[iv x0, iv x1, iv ((x0 &&& (2147483647 : Int32)) % (6 : Int32)), rv s4, iv (4 : Int32), iv (2 : Int32), iv (0 : Int32)] [(.int (own_acc (4 : Int32) x1))])) (fun t k => st42.trans k) ?_
                refine own_go (T' := T42) (g' := (mkF m 131 #[iv x0, iv x1, iv ((x0 &&& (2147483647 : Int32)) % (6 : Int32)), rv s4, iv (4 : Int32), iv (2 : Int32), iv (0 : Int32)] [(.int (0 : Int32)), (.int (own_acc (4 : Int32) x1))])) (fun t k => XS.iload X42.here hx rfl (hb hby at_129) rfl k) ?_
                refine own_go (T' := T42) (g' := (mkF m 134 #[iv x0, iv x1, iv ((x0 &&& (2147483647 : Int32)) % (6 : Int32)), rv s4, iv (4 : Int32), iv (2 : Int32), iv (0 : Int32)] [])) (fun t k => XS.icmpNo X42.here hx rfl (hb hby at_131) rfl (teq (by have q := own_t2 hc41; simp +decide [own_acc, q, hc39, hc41] : ((own_acc (4 : Int32) x1) = (0 : Int32)))).2 k) ?_
                refine own_go (T' := T42) (g' := (mkF m 135 #[iv x0, iv x1, iv ((x0 &&& (2147483647 : Int32)) % (6 : Int32)), rv s4, iv (4 : Int32), iv (2 : Int32), iv (0 : Int32)] [(.int (1 : Int32))])) (fun t k => XS.iconst X42.here hx rfl (hb hby at_134) k) ?_
                refine own_go (T' := T42) (g' := (mkF m 139 #[iv x0, iv x1, iv ((x0 &&& (2147483647 : Int32)) % (6 : Int32)), rv s4, iv (4 : Int32), iv (2 : Int32), iv (0 : Int32)] [(.int (1 : Int32))])) (fun t k => XS.goto X42.here hx rfl (pc0 := 135) (pc' := 139) rfl (hb hby at_135) (by decide) (by decide) k) ?_
                exact own_ret X42 hlk hx Bd.returns rfl (Or.inl ⟨rfl, Or.inr (Or.inl rfl), _, rfl⟩) (hb hby at_139) (by first | exact ⟨rfl, N42⟩ | (rw [Fr] at *; exact ⟨rfl, by simpa using N42⟩)) (by decide) (by decide)
              · refine own_go (T' := T38) (g' := (mkF m 106 #[iv x0, iv x1, iv ((x0 &&& (2147483647 : Int32)) % (6 : Int32)), rv s4, iv (4 : Int32), .unset, .unset] [])) (fun t k => XS.ifYes X38.here hx rfl (pc0 := 99) (pc' := 106) rfl (hb hby at_99) rfl ((if0 _ _).trans (feq hc41).2) (by decide) (by decide) k) ?_
                refine own_go (T' := T38) (g' := (mkF m 107 #[iv x0, iv x1, iv ((x0 &&& (2147483647 : Int32)) % (6 : Int32)), rv s4, iv (4 : Int32), .unset, .unset] [(.int (4 : Int32))])) (fun t k => XS.iconst X38.here hx rfl (hb hby at_106) k) ?_
                refine own_go (T' := T38) (g' := (mkF m 109 #[iv x0, iv x1, iv ((x0 &&& (2147483647 : Int32)) % (6 : Int32)), rv s4, iv (4 : Int32), iv (4 : Int32), .unset] [])) (fun t k => XS.istore X38.here hx rfl (hb hby at_107) rfl (l' := #[iv x0, iv x1, iv ((x0 &&& (2147483647 : Int32)) % (6 : Int32)), rv s4, iv (4 : Int32), iv (4 : Int32), .unset]) rfl k) ?_
                refine own_go (T' := T38) (g' := (mkF m 111 #[iv x0, iv x1, iv ((x0 &&& (2147483647 : Int32)) % (6 : Int32)), rv s4, iv (4 : Int32), iv (4 : Int32), .unset] [(.int (4 : Int32))])) (fun t k => XS.iload X38.here hx rfl (hb hby at_109) rfl k) ?_
                refine own_go (T' := T38) (g' := (mkF m 113 #[iv x0, iv x1, iv ((x0 &&& (2147483647 : Int32)) % (6 : Int32)), rv s4, iv (4 : Int32), iv (4 : Int32), .unset] [(.int (4 : Int32)), (.int (4 : Int32))])) (fun t k => XS.iload X38.here hx rfl (hb hby at_111) rfl k) ?_
                refine own_go (T' := T38) (g' := (mkF m 114 #[iv x0, iv x1, iv ((x0 &&& (2147483647 : Int32)) % (6 : Int32)), rv s4, iv (4 : Int32), iv (4 : Int32), .unset] [(.int ((4 : Int32) &&& (4 : Int32)))])) (fun t k => XS.iand X38.here hx rfl (hb hby at_113) rfl k) ?_
                refine own_go (T' := T38) (g' := (mkF m 117 #[iv x0, iv x1, iv ((x0 &&& (2147483647 : Int32)) % (6 : Int32)), rv s4, iv (4 : Int32), iv (4 : Int32), .unset] [])) (fun t k => XS.ifNo X38.here hx rfl (hb hby at_114) rfl ((if0 _ _).trans (feq (by decide : ¬ (((4 : Int32) &&& (4 : Int32)) = (0 : Int32)))).1) k) ?_
                refine own_go (T' := T38) (g' := (mkF m 118 #[iv x0, iv x1, iv ((x0 &&& (2147483647 : Int32)) % (6 : Int32)), rv s4, iv (4 : Int32), iv (4 : Int32), .unset] [(.int (1 : Int32))])) (fun t k => XS.iconst X38.here hx rfl (hb hby at_117) k) ?_
                refine own_go (T' := T38) (g' := (mkF m 122 #[iv x0, iv x1, iv ((x0 &&& (2147483647 : Int32)) % (6 : Int32)), rv s4, iv (4 : Int32), iv (4 : Int32), .unset] [(.int (1 : Int32))])) (fun t k => XS.goto X38.here hx rfl (pc0 := 118) (pc' := 122) rfl (hb hby at_118) (by decide) (by decide) k) ?_
                refine own_go (T' := T38) (g' := (mkF m 124 #[iv x0, iv x1, iv ((x0 &&& (2147483647 : Int32)) % (6 : Int32)), rv s4, iv (4 : Int32), iv (4 : Int32), iv (1 : Int32)] [])) (fun t k => XS.istore X38.here hx rfl (hb hby at_122) rfl (l' := #[iv x0, iv x1, iv ((x0 &&& (2147483647 : Int32)) % (6 : Int32)), rv s4, iv (4 : Int32), iv (4 : Int32), iv (1 : Int32)]) rfl k) ?_
                refine own_go (T' := T38) (g' := (mkF m 125 #[iv x0, iv x1, iv ((x0 &&& (2147483647 : Int32)) % (6 : Int32)), rv s4, iv (4 : Int32), iv (4 : Int32), iv (1 : Int32)] [(.ref s4)])) (fun t k => XS.aloadN X38.here hx rfl (hb hby at_124) rfl rfl k) ?_
                refine own_go (T' := T38) (g' := (mkF m 126 #[iv x0, iv x1, iv ((x0 &&& (2147483647 : Int32)) % (6 : Int32)), rv s4, iv (4 : Int32), iv (4 : Int32), iv (1 : Int32)] [(.int x1), (.ref s4)])) (fun t k => XS.iloadN X38.here hx rfl (hb hby at_125) rfl k) ?_
                obtain ⟨cq43, kq43, q43a, q43b, q43c⟩ := isOf hZ e38 E_GREATER
                obtain ⟨_, _, ⟨T43, L43, k43, n43⟩, -, X43, ⟨Lc43, hQ43, l43, y43, z43⟩, st43⟩ := X38.virtualBack hx (y := (⟨"com/example/events_in_order/eventsinorder/model/Comparison$Operator", "accepts", "(I)Z"⟩ : MethodName)) (z := (⟨"com/example/events_in_order/eventsinorder/model/Comparison$Operator", "accepts", "(I)Z"⟩ : MethodName)) hown (mvT hZ (hw _ (List.mem_of_getElem? (i := 4) rfl))) (mvT hZ (hw _ (List.mem_of_getElem? (i := 5) rfl))) (notFace_of_selects (args := #[]) (mvT hZ (hw _ (List.mem_of_getElem? (i := 7) rfl)))) (mvT hZ (hw _ (List.mem_of_getElem? (i := 7) rfl))) (mvT hZ (hw _ (List.mem_of_getElem? (i := 6) rfl))) (by decide) (backOf (W := 0) (own_racc l Z a0 hw [] s4 x1 (4 : Int32) h0 n0 Z0 O_GREATER E_GREATER (by decide)) hZ (hw _ (List.mem_of_getElem? (i := 8) rfl)) (hw _ (List.mem_of_getElem? (i := 2) rfl)) (by decide) (by decide)) q43a q43c (g := (mkF m 126 #[iv x0, iv x1, iv ((x0 &&& (2147483647 : Int32)) % (6 : Int32)), rv s4, iv (4 : Int32), iv (4 : Int32), iv (1 : Int32)] [(.int x1), (.ref s4)])) rfl (by rw [hml]; rfl) (Steps.refl _) (argsL := [(.int x1)]) (rest := []) (lenOf own_pd1 rfl) rfl (by show 2 * 0 + _ ≤ _; exact Nat.le_of_eq rfl) (hb hby at_126) (fun _ _ => ⟨rfl, e38, (by decide : 0 + 0 ≤ _), (by decide : 0 + 0 ≤ _)⟩)
                dsimp only [Pt.U, Pt.locs, Pt.cells, Pt.slots] at X43 l43 y43 z43 st43 hQ43
                subst l43 y43 z43
                obtain ⟨rfl, rfl, e43⟩ := hQ43
                have E43q : T43.heap = h0 := e43
                have N43 := Fr.app N0 (Fr.nil n0)
                refine own_go (T' := T43) (g' := (mkF m 129 #[iv x0, iv x1, iv ((x0 &&& (2147483647 : Int32)) % (6 : Int32)), rv s4, iv (4 : Int32), iv (4 : Int32), iv (1 : Int32)] [(.int (own_acc (4 : Int32) x1))])) (fun t k => st43.trans k) ?_
                refine own_go (T' := T43) (g' := (mkF m 131 #[iv x0, iv x1, iv ((x0 &&& (2147483647 : Int32)) % (6 : Int32)), rv s4, iv (4 : Int32), iv (4 : Int32), iv (1 : Int32)] [(.int (1 : Int32)), (.int (own_acc (4 : Int32) x1))])) (fun t k => XS.iload X43.here hx rfl (hb hby at_129) rfl k) ?_
                refine own_go (T' := T43) (g' := (mkF m 134 #[iv x0, iv x1, iv ((x0 &&& (2147483647 : Int32)) % (6 : Int32)), rv s4, iv (4 : Int32), iv (4 : Int32), iv (1 : Int32)] [])) (fun t k => XS.icmpNo X43.here hx rfl (hb hby at_131) rfl (teq (by have q := own_t3 hc39 hc41; simp +decide [own_acc, q, hc39, hc41] : ((own_acc (4 : Int32) x1) = (1 : Int32)))).2 k) ?_
                refine own_go (T' := T43) (g' := (mkF m 135 #[iv x0, iv x1, iv ((x0 &&& (2147483647 : Int32)) % (6 : Int32)), rv s4, iv (4 : Int32), iv (4 : Int32), iv (1 : Int32)] [(.int (1 : Int32))])) (fun t k => XS.iconst X43.here hx rfl (hb hby at_134) k) ?_
                refine own_go (T' := T43) (g' := (mkF m 139 #[iv x0, iv x1, iv ((x0 &&& (2147483647 : Int32)) % (6 : Int32)), rv s4, iv (4 : Int32), iv (4 : Int32), iv (1 : Int32)] [(.int (1 : Int32))])) (fun t k => XS.goto X43.here hx rfl (pc0 := 135) (pc' := 139) rfl (hb hby at_135) (by decide) (by decide) k) ?_
                exact own_ret X43 hlk hx Bd.returns rfl (Or.inl ⟨rfl, Or.inr (Or.inl rfl), _, rfl⟩) (hb hby at_139) (by first | exact ⟨rfl, N43⟩ | (rw [Fr] at *; exact ⟨rfl, by simpa using N43⟩)) (by decide) (by decide)
          · refine own_go (T' := s₁) (g' := (mkF m 83 #[iv x0, iv x1, iv ((x0 &&& (2147483647 : Int32)) % (6 : Int32)), .unset, .unset, .unset, .unset] [])) (fun t k => XS.icmpYes X0.here hx rfl (pc0 := 70) (pc' := 83) rfl (hb hby at_70) rfl (feq hc37).2 (by decide) (by decide) k) ?_
            obtain ⟨T44, X44, e44, st44⟩ := getS2 X0 hx hZ hown (host := "") (Or.inl (hw _ (List.mem_of_getElem? (i := 24) rfl))) Via.refl e0 S_EQUAL (g := (mkF m 83 #[iv x0, iv x1, iv ((x0 &&& (2147483647 : Int32)) % (6 : Int32)), .unset, .unset, .unset, .unset] [])) rfl (hb hby at_83)
            refine own_go (T' := T44) (g' := (mkF m 86 #[iv x0, iv x1, iv ((x0 &&& (2147483647 : Int32)) % (6 : Int32)), .unset, .unset, .unset, .unset] [(.ref s5)])) (st44) ?_
            refine own_go (T' := T44) (g' := (mkF m 87 #[iv x0, iv x1, iv ((x0 &&& (2147483647 : Int32)) % (6 : Int32)), rv s5, .unset, .unset, .unset] [])) (fun t k => XS.astoreN X44.here hx rfl (hb hby at_86) rfl rfl (l' := #[iv x0, iv x1, iv ((x0 &&& (2147483647 : Int32)) % (6 : Int32)), rv s5, .unset, .unset, .unset]) rfl k) ?_
            refine own_go (T' := T44) (g' := (mkF m 88 #[iv x0, iv x1, iv ((x0 &&& (2147483647 : Int32)) % (6 : Int32)), rv s5, .unset, .unset, .unset] [(.int (2 : Int32))])) (fun t k => XS.iconst X44.here hx rfl (hb hby at_87) k) ?_
            refine own_go (T' := T44) (g' := (mkF m 90 #[iv x0, iv x1, iv ((x0 &&& (2147483647 : Int32)) % (6 : Int32)), rv s5, iv (2 : Int32), .unset, .unset] [])) (fun t k => XS.istore X44.here hx rfl (hb hby at_88) rfl (l' := #[iv x0, iv x1, iv ((x0 &&& (2147483647 : Int32)) % (6 : Int32)), rv s5, iv (2 : Int32), .unset, .unset]) rfl k) ?_
            refine own_go (T' := T44) (g' := (mkF m 91 #[iv x0, iv x1, iv ((x0 &&& (2147483647 : Int32)) % (6 : Int32)), rv s5, iv (2 : Int32), .unset, .unset] [(.int x1)])) (fun t k => XS.iloadN X44.here hx rfl (hb hby at_90) rfl k) ?_
            by_cases hc45 : x1 < (0 : Int32)
            · refine own_go (T' := T44) (g' := (mkF m 94 #[iv x0, iv x1, iv ((x0 &&& (2147483647 : Int32)) % (6 : Int32)), rv s5, iv (2 : Int32), .unset, .unset] [])) (fun t k => XS.ifNo X44.here hx rfl (hb hby at_91) rfl ((if0 _ _).trans (tlt hc45).2.1) k) ?_
              refine own_go (T' := T44) (g' := (mkF m 95 #[iv x0, iv x1, iv ((x0 &&& (2147483647 : Int32)) % (6 : Int32)), rv s5, iv (2 : Int32), .unset, .unset] [(.int (1 : Int32))])) (fun t k => XS.iconst X44.here hx rfl (hb hby at_94) k) ?_
              refine own_go (T' := T44) (g' := (mkF m 107 #[iv x0, iv x1, iv ((x0 &&& (2147483647 : Int32)) % (6 : Int32)), rv s5, iv (2 : Int32), .unset, .unset] [(.int (1 : Int32))])) (fun t k => XS.goto X44.here hx rfl (pc0 := 95) (pc' := 107) rfl (hb hby at_95) (by decide) (by decide) k) ?_
              refine own_go (T' := T44) (g' := (mkF m 109 #[iv x0, iv x1, iv ((x0 &&& (2147483647 : Int32)) % (6 : Int32)), rv s5, iv (2 : Int32), iv (1 : Int32), .unset] [])) (fun t k => XS.istore X44.here hx rfl (hb hby at_107) rfl (l' := #[iv x0, iv x1, iv ((x0 &&& (2147483647 : Int32)) % (6 : Int32)), rv s5, iv (2 : Int32), iv (1 : Int32), .unset]) rfl k) ?_
              refine own_go (T' := T44) (g' := (mkF m 111 #[iv x0, iv x1, iv ((x0 &&& (2147483647 : Int32)) % (6 : Int32)), rv s5, iv (2 : Int32), iv (1 : Int32), .unset] [(.int (2 : Int32))])) (fun t k => XS.iload X44.here hx rfl (hb hby at_109) rfl k) ?_
              refine own_go (T' := T44) (g' := (mkF m 113 #[iv x0, iv x1, iv ((x0 &&& (2147483647 : Int32)) % (6 : Int32)), rv s5, iv (2 : Int32), iv (1 : Int32), .unset] [(.int (1 : Int32)), (.int (2 : Int32))])) (fun t k => XS.iload X44.here hx rfl (hb hby at_111) rfl k) ?_
              refine own_go (T' := T44) (g' := (mkF m 114 #[iv x0, iv x1, iv ((x0 &&& (2147483647 : Int32)) % (6 : Int32)), rv s5, iv (2 : Int32), iv (1 : Int32), .unset] [(.int ((2 : Int32) &&& (1 : Int32)))])) (fun t k => XS.iand X44.here hx rfl (hb hby at_113) rfl k) ?_
              refine own_go (T' := T44) (g' := (mkF m 121 #[iv x0, iv x1, iv ((x0 &&& (2147483647 : Int32)) % (6 : Int32)), rv s5, iv (2 : Int32), iv (1 : Int32), .unset] [])) (fun t k => XS.ifYes X44.here hx rfl (pc0 := 114) (pc' := 121) rfl (hb hby at_114) rfl ((if0 _ _).trans (teq (by decide : (((2 : Int32) &&& (1 : Int32)) = (0 : Int32)))).1) (by decide) (by decide) k) ?_
              refine own_go (T' := T44) (g' := (mkF m 122 #[iv x0, iv x1, iv ((x0 &&& (2147483647 : Int32)) % (6 : Int32)), rv s5, iv (2 : Int32), iv (1 : Int32), .unset] [(.int (0 : Int32))])) (fun t k => XS.iconst X44.here hx rfl (hb hby at_121) k) ?_
              refine own_go (T' := T44) (g' := (mkF m 124 #[iv x0, iv x1, iv ((x0 &&& (2147483647 : Int32)) % (6 : Int32)), rv s5, iv (2 : Int32), iv (1 : Int32), iv (0 : Int32)] [])) (fun t k => XS.istore X44.here hx rfl (hb hby at_122) rfl (l' := #[iv x0, iv x1, iv ((x0 &&& (2147483647 : Int32)) % (6 : Int32)), rv s5, iv (2 : Int32), iv (1 : Int32), iv (0 : Int32)]) rfl k) ?_
              refine own_go (T' := T44) (g' := (mkF m 125 #[iv x0, iv x1, iv ((x0 &&& (2147483647 : Int32)) % (6 : Int32)), rv s5, iv (2 : Int32), iv (1 : Int32), iv (0 : Int32)] [(.ref s5)])) (fun t k => XS.aloadN X44.here hx rfl (hb hby at_124) rfl rfl k) ?_
              refine own_go (T' := T44) (g' := (mkF m 126 #[iv x0, iv x1, iv ((x0 &&& (2147483647 : Int32)) % (6 : Int32)), rv s5, iv (2 : Int32), iv (1 : Int32), iv (0 : Int32)] [(.int x1), (.ref s5)])) (fun t k => XS.iloadN X44.here hx rfl (hb hby at_125) rfl k) ?_
              obtain ⟨cq46, kq46, q46a, q46b, q46c⟩ := isOf hZ e44 E_EQUAL
              obtain ⟨_, _, ⟨T46, L46, k46, n46⟩, -, X46, ⟨Lc46, hQ46, l46, y46, z46⟩, st46⟩ := X44.virtualBack hx (y := (⟨"com/example/events_in_order/eventsinorder/model/Comparison$Operator", "accepts", "(I)Z"⟩ : MethodName)) (z := (⟨"com/example/events_in_order/eventsinorder/model/Comparison$Operator", "accepts", "(I)Z"⟩ : MethodName)) hown (mvT hZ (hw _ (List.mem_of_getElem? (i := 4) rfl))) (mvT hZ (hw _ (List.mem_of_getElem? (i := 5) rfl))) (notFace_of_selects (args := #[]) (mvT hZ (hw _ (List.mem_of_getElem? (i := 7) rfl)))) (mvT hZ (hw _ (List.mem_of_getElem? (i := 7) rfl))) (mvT hZ (hw _ (List.mem_of_getElem? (i := 6) rfl))) (by decide) (backOf (W := 0) (own_racc l Z a0 hw [] s5 x1 (5 : Int32) h0 n0 Z0 O_EQUAL E_EQUAL (by decide)) hZ (hw _ (List.mem_of_getElem? (i := 8) rfl)) (hw _ (List.mem_of_getElem? (i := 2) rfl)) (by decide) (by decide)) q46a q46c (g := (mkF m 126 #[iv x0, iv x1, iv ((x0 &&& (2147483647 : Int32)) % (6 : Int32)), rv s5, iv (2 : Int32), iv (1 : Int32), iv (0 : Int32)] [(.int x1), (.ref s5)])) rfl (by rw [hml]; rfl) (Steps.refl _) (argsL := [(.int x1)]) (rest := []) (lenOf own_pd1 rfl) rfl (by show 2 * 0 + _ ≤ _; exact Nat.le_of_eq rfl) (hb hby at_126) (fun _ _ => ⟨rfl, e44, (by decide : 0 + 0 ≤ _), (by decide : 0 + 0 ≤ _)⟩)
              dsimp only [Pt.U, Pt.locs, Pt.cells, Pt.slots] at X46 l46 y46 z46 st46 hQ46
              subst l46 y46 z46
              obtain ⟨rfl, rfl, e46⟩ := hQ46
              have E46q : T46.heap = h0 := e46
              have N46 := Fr.app N0 (Fr.nil n0)
              refine own_go (T' := T46) (g' := (mkF m 129 #[iv x0, iv x1, iv ((x0 &&& (2147483647 : Int32)) % (6 : Int32)), rv s5, iv (2 : Int32), iv (1 : Int32), iv (0 : Int32)] [(.int (own_acc (5 : Int32) x1))])) (fun t k => st46.trans k) ?_
              refine own_go (T' := T46) (g' := (mkF m 131 #[iv x0, iv x1, iv ((x0 &&& (2147483647 : Int32)) % (6 : Int32)), rv s5, iv (2 : Int32), iv (1 : Int32), iv (0 : Int32)] [(.int (0 : Int32)), (.int (own_acc (5 : Int32) x1))])) (fun t k => XS.iload X46.here hx rfl (hb hby at_129) rfl k) ?_
              refine own_go (T' := T46) (g' := (mkF m 134 #[iv x0, iv x1, iv ((x0 &&& (2147483647 : Int32)) % (6 : Int32)), rv s5, iv (2 : Int32), iv (1 : Int32), iv (0 : Int32)] [])) (fun t k => XS.icmpNo X46.here hx rfl (hb hby at_131) rfl (teq (by have q := own_t1 hc45; simp +decide [own_acc, q, hc45] : ((own_acc (5 : Int32) x1) = (0 : Int32)))).2 k) ?_
              refine own_go (T' := T46) (g' := (mkF m 135 #[iv x0, iv x1, iv ((x0 &&& (2147483647 : Int32)) % (6 : Int32)), rv s5, iv (2 : Int32), iv (1 : Int32), iv (0 : Int32)] [(.int (1 : Int32))])) (fun t k => XS.iconst X46.here hx rfl (hb hby at_134) k) ?_
              refine own_go (T' := T46) (g' := (mkF m 139 #[iv x0, iv x1, iv ((x0 &&& (2147483647 : Int32)) % (6 : Int32)), rv s5, iv (2 : Int32), iv (1 : Int32), iv (0 : Int32)] [(.int (1 : Int32))])) (fun t k => XS.goto X46.here hx rfl (pc0 := 135) (pc' := 139) rfl (hb hby at_135) (by decide) (by decide) k) ?_
              exact own_ret X46 hlk hx Bd.returns rfl (Or.inl ⟨rfl, Or.inr (Or.inl rfl), _, rfl⟩) (hb hby at_139) (by first | exact ⟨rfl, N46⟩ | (rw [Fr] at *; exact ⟨rfl, by simpa using N46⟩)) (by decide) (by decide)
            · refine own_go (T' := T44) (g' := (mkF m 98 #[iv x0, iv x1, iv ((x0 &&& (2147483647 : Int32)) % (6 : Int32)), rv s5, iv (2 : Int32), .unset, .unset] [])) (fun t k => XS.ifYes X44.here hx rfl (pc0 := 91) (pc' := 98) rfl (hb hby at_91) rfl ((if0 _ _).trans (flt hc45).2.1) (by decide) (by decide) k) ?_
              refine own_go (T' := T44) (g' := (mkF m 99 #[iv x0, iv x1, iv ((x0 &&& (2147483647 : Int32)) % (6 : Int32)), rv s5, iv (2 : Int32), .unset, .unset] [(.int x1)])) (fun t k => XS.iloadN X44.here hx rfl (hb hby at_98) rfl k) ?_
              by_cases hc47 : x1 = (0 : Int32)
              · refine own_go (T' := T44) (g' := (mkF m 102 #[iv x0, iv x1, iv ((x0 &&& (2147483647 : Int32)) % (6 : Int32)), rv s5, iv (2 : Int32), .unset, .unset] [])) (fun t k => XS.ifNo X44.here hx rfl (hb hby at_99) rfl ((if0 _ _).trans (teq hc47).2) k) ?_
                refine own_go (T' := T44) (g' := (mkF m 103 #[iv x0, iv x1, iv ((x0 &&& (2147483647 : Int32)) % (6 : Int32)), rv s5, iv (2 : Int32), .unset, .unset] [(.int (2 : Int32))])) (fun t k => XS.iconst X44.here hx rfl (hb hby at_102) k) ?_
                refine own_go (T' := T44) (g' := (mkF m 107 #[iv x0, iv x1, iv ((x0 &&& (2147483647 : Int32)) % (6 : Int32)), rv s5, iv (2 : Int32), .unset, .unset] [(.int (2 : Int32))])) (fun t k => XS.goto X44.here hx rfl (pc0 := 103) (pc' := 107) rfl (hb hby at_103) (by decide) (by decide) k) ?_
                refine own_go (T' := T44) (g' := (mkF m 109 #[iv x0, iv x1, iv ((x0 &&& (2147483647 : Int32)) % (6 : Int32)), rv s5, iv (2 : Int32), iv (2 : Int32), .unset] [])) (fun t k => XS.istore X44.here hx rfl (hb hby at_107) rfl (l' := #[iv x0, iv x1, iv ((x0 &&& (2147483647 : Int32)) % (6 : Int32)), rv s5, iv (2 : Int32), iv (2 : Int32), .unset]) rfl k) ?_
                refine own_go (T' := T44) (g' := (mkF m 111 #[iv x0, iv x1, iv ((x0 &&& (2147483647 : Int32)) % (6 : Int32)), rv s5, iv (2 : Int32), iv (2 : Int32), .unset] [(.int (2 : Int32))])) (fun t k => XS.iload X44.here hx rfl (hb hby at_109) rfl k) ?_
                refine own_go (T' := T44) (g' := (mkF m 113 #[iv x0, iv x1, iv ((x0 &&& (2147483647 : Int32)) % (6 : Int32)), rv s5, iv (2 : Int32), iv (2 : Int32), .unset] [(.int (2 : Int32)), (.int (2 : Int32))])) (fun t k => XS.iload X44.here hx rfl (hb hby at_111) rfl k) ?_
                refine own_go (T' := T44) (g' := (mkF m 114 #[iv x0, iv x1, iv ((x0 &&& (2147483647 : Int32)) % (6 : Int32)), rv s5, iv (2 : Int32), iv (2 : Int32), .unset] [(.int ((2 : Int32) &&& (2 : Int32)))])) (fun t k => XS.iand X44.here hx rfl (hb hby at_113) rfl k) ?_
                refine own_go (T' := T44) (g' := (mkF m 117 #[iv x0, iv x1, iv ((x0 &&& (2147483647 : Int32)) % (6 : Int32)), rv s5, iv (2 : Int32), iv (2 : Int32), .unset] [])) (fun t k => XS.ifNo X44.here hx rfl (hb hby at_114) rfl ((if0 _ _).trans (feq (by decide : ¬ (((2 : Int32) &&& (2 : Int32)) = (0 : Int32)))).1) k) ?_
                refine own_go (T' := T44) (g' := (mkF m 118 #[iv x0, iv x1, iv ((x0 &&& (2147483647 : Int32)) % (6 : Int32)), rv s5, iv (2 : Int32), iv (2 : Int32), .unset] [(.int (1 : Int32))])) (fun t k => XS.iconst X44.here hx rfl (hb hby at_117) k) ?_
                refine own_go (T' := T44) (g' := (mkF m 122 #[iv x0, iv x1, iv ((x0 &&& (2147483647 : Int32)) % (6 : Int32)), rv s5, iv (2 : Int32), iv (2 : Int32), .unset] [(.int (1 : Int32))])) (fun t k => XS.goto X44.here hx rfl (pc0 := 118) (pc' := 122) rfl (hb hby at_118) (by decide) (by decide) k) ?_
                refine own_go (T' := T44) (g' := (mkF m 124 #[iv x0, iv x1, iv ((x0 &&& (2147483647 : Int32)) % (6 : Int32)), rv s5, iv (2 : Int32), iv (2 : Int32), iv (1 : Int32)] [])) (fun t k => XS.istore X44.here hx rfl (hb hby at_122) rfl (l' := #[iv x0, iv x1, iv ((x0 &&& (2147483647 : Int32)) % (6 : Int32)), rv s5, iv (2 : Int32), iv (2 : Int32), iv (1 : Int32)]) rfl k) ?_
                refine own_go (T' := T44) (g' := (mkF m 125 #[iv x0, iv x1, iv ((x0 &&& (2147483647 : Int32)) % (6 : Int32)), rv s5, iv (2 : Int32), iv (2 : Int32), iv (1 : Int32)] [(.ref s5)])) (fun t k => XS.aloadN X44.here hx rfl (hb hby at_124) rfl rfl k) ?_
                refine own_go (T' := T44) (g' := (mkF m 126 #[iv x0, iv x1, iv ((x0 &&& (2147483647 : Int32)) % (6 : Int32)), rv s5, iv (2 : Int32), iv (2 : Int32), iv (1 : Int32)] [(.int x1), (.ref s5)])) (fun t k => XS.iloadN X44.here hx rfl (hb hby at_125) rfl k) ?_
                obtain ⟨cq48, kq48, q48a, q48b, q48c⟩ := isOf hZ e44 E_EQUAL
                obtain ⟨_, _, ⟨T48, L48, k48, n48⟩, -, X48, ⟨Lc48, hQ48, l48, y48, z48⟩, st48⟩ := X44.virtualBack hx (y := (⟨"com/example/events_in_order/eventsinorder/model/Comparison$Operator", "accepts", "(I)Z"⟩ : MethodName)) (z := (⟨"com/example/events_in_order/eventsinorder/model/Comparison$Operator", "accepts", "(I)Z"⟩ : MethodName)) hown (mvT hZ (hw _ (List.mem_of_getElem? (i := 4) rfl))) (mvT hZ (hw _ (List.mem_of_getElem? (i := 5) rfl))) (notFace_of_selects (args := #[]) (mvT hZ (hw _ (List.mem_of_getElem? (i := 7) rfl)))) (mvT hZ (hw _ (List.mem_of_getElem? (i := 7) rfl))) (mvT hZ (hw _ (List.mem_of_getElem? (i := 6) rfl))) (by decide) (backOf (W := 0) (own_racc l Z a0 hw [] s5 x1 (5 : Int32) h0 n0 Z0 O_EQUAL E_EQUAL (by decide)) hZ (hw _ (List.mem_of_getElem? (i := 8) rfl)) (hw _ (List.mem_of_getElem? (i := 2) rfl)) (by decide) (by decide)) q48a q48c (g := (mkF m 126 #[iv x0, iv x1, iv ((x0 &&& (2147483647 : Int32)) % (6 : Int32)), rv s5, iv (2 : Int32), iv (2 : Int32), iv (1 : Int32)] [(.int x1), (.ref s5)])) rfl (by rw [hml]; rfl) (Steps.refl _) (argsL := [(.int x1)]) (rest := []) (lenOf own_pd1 rfl) rfl (by show 2 * 0 + _ ≤ _; exact Nat.le_of_eq rfl) (hb hby at_126) (fun _ _ => ⟨rfl, e44, (by decide : 0 + 0 ≤ _), (by decide : 0 + 0 ≤ _)⟩)
                dsimp only [Pt.U, Pt.locs, Pt.cells, Pt.slots] at X48 l48 y48 z48 st48 hQ48
                subst l48 y48 z48
                obtain ⟨rfl, rfl, e48⟩ := hQ48
                have E48q : T48.heap = h0 := e48
                have N48 := Fr.app N0 (Fr.nil n0)
                refine own_go (T' := T48) (g' := (mkF m 129 #[iv x0, iv x1, iv ((x0 &&& (2147483647 : Int32)) % (6 : Int32)), rv s5, iv (2 : Int32), iv (2 : Int32), iv (1 : Int32)] [(.int (own_acc (5 : Int32) x1))])) (fun t k => st48.trans k) ?_
                refine own_go (T' := T48) (g' := (mkF m 131 #[iv x0, iv x1, iv ((x0 &&& (2147483647 : Int32)) % (6 : Int32)), rv s5, iv (2 : Int32), iv (2 : Int32), iv (1 : Int32)] [(.int (1 : Int32)), (.int (own_acc (5 : Int32) x1))])) (fun t k => XS.iload X48.here hx rfl (hb hby at_129) rfl k) ?_
                refine own_go (T' := T48) (g' := (mkF m 134 #[iv x0, iv x1, iv ((x0 &&& (2147483647 : Int32)) % (6 : Int32)), rv s5, iv (2 : Int32), iv (2 : Int32), iv (1 : Int32)] [])) (fun t k => XS.icmpNo X48.here hx rfl (hb hby at_131) rfl (teq (by have q := own_t2 hc47; simp +decide [own_acc, q, hc45, hc47] : ((own_acc (5 : Int32) x1) = (1 : Int32)))).2 k) ?_
                refine own_go (T' := T48) (g' := (mkF m 135 #[iv x0, iv x1, iv ((x0 &&& (2147483647 : Int32)) % (6 : Int32)), rv s5, iv (2 : Int32), iv (2 : Int32), iv (1 : Int32)] [(.int (1 : Int32))])) (fun t k => XS.iconst X48.here hx rfl (hb hby at_134) k) ?_
                refine own_go (T' := T48) (g' := (mkF m 139 #[iv x0, iv x1, iv ((x0 &&& (2147483647 : Int32)) % (6 : Int32)), rv s5, iv (2 : Int32), iv (2 : Int32), iv (1 : Int32)] [(.int (1 : Int32))])) (fun t k => XS.goto X48.here hx rfl (pc0 := 135) (pc' := 139) rfl (hb hby at_135) (by decide) (by decide) k) ?_
                exact own_ret X48 hlk hx Bd.returns rfl (Or.inl ⟨rfl, Or.inr (Or.inl rfl), _, rfl⟩) (hb hby at_139) (by first | exact ⟨rfl, N48⟩ | (rw [Fr] at *; exact ⟨rfl, by simpa using N48⟩)) (by decide) (by decide)
              · refine own_go (T' := T44) (g' := (mkF m 106 #[iv x0, iv x1, iv ((x0 &&& (2147483647 : Int32)) % (6 : Int32)), rv s5, iv (2 : Int32), .unset, .unset] [])) (fun t k => XS.ifYes X44.here hx rfl (pc0 := 99) (pc' := 106) rfl (hb hby at_99) rfl ((if0 _ _).trans (feq hc47).2) (by decide) (by decide) k) ?_
                refine own_go (T' := T44) (g' := (mkF m 107 #[iv x0, iv x1, iv ((x0 &&& (2147483647 : Int32)) % (6 : Int32)), rv s5, iv (2 : Int32), .unset, .unset] [(.int (4 : Int32))])) (fun t k => XS.iconst X44.here hx rfl (hb hby at_106) k) ?_
                refine own_go (T' := T44) (g' := (mkF m 109 #[iv x0, iv x1, iv ((x0 &&& (2147483647 : Int32)) % (6 : Int32)), rv s5, iv (2 : Int32), iv (4 : Int32), .unset] [])) (fun t k => XS.istore X44.here hx rfl (hb hby at_107) rfl (l' := #[iv x0, iv x1, iv ((x0 &&& (2147483647 : Int32)) % (6 : Int32)), rv s5, iv (2 : Int32), iv (4 : Int32), .unset]) rfl k) ?_
                refine own_go (T' := T44) (g' := (mkF m 111 #[iv x0, iv x1, iv ((x0 &&& (2147483647 : Int32)) % (6 : Int32)), rv s5, iv (2 : Int32), iv (4 : Int32), .unset] [(.int (2 : Int32))])) (fun t k => XS.iload X44.here hx rfl (hb hby at_109) rfl k) ?_
                refine own_go (T' := T44) (g' := (mkF m 113 #[iv x0, iv x1, iv ((x0 &&& (2147483647 : Int32)) % (6 : Int32)), rv s5, iv (2 : Int32), iv (4 : Int32), .unset] [(.int (4 : Int32)), (.int (2 : Int32))])) (fun t k => XS.iload X44.here hx rfl (hb hby at_111) rfl k) ?_
                refine own_go (T' := T44) (g' := (mkF m 114 #[iv x0, iv x1, iv ((x0 &&& (2147483647 : Int32)) % (6 : Int32)), rv s5, iv (2 : Int32), iv (4 : Int32), .unset] [(.int ((2 : Int32) &&& (4 : Int32)))])) (fun t k => XS.iand X44.here hx rfl (hb hby at_113) rfl k) ?_
                refine own_go (T' := T44) (g' := (mkF m 121 #[iv x0, iv x1, iv ((x0 &&& (2147483647 : Int32)) % (6 : Int32)), rv s5, iv (2 : Int32), iv (4 : Int32), .unset] [])) (fun t k => XS.ifYes X44.here hx rfl (pc0 := 114) (pc' := 121) rfl (hb hby at_114) rfl ((if0 _ _).trans (teq (by decide : (((2 : Int32) &&& (4 : Int32)) = (0 : Int32)))).1) (by decide) (by decide) k) ?_
                refine own_go (T' := T44) (g' := (mkF m 122 #[iv x0, iv x1, iv ((x0 &&& (2147483647 : Int32)) % (6 : Int32)), rv s5, iv (2 : Int32), iv (4 : Int32), .unset] [(.int (0 : Int32))])) (fun t k => XS.iconst X44.here hx rfl (hb hby at_121) k) ?_
                refine own_go (T' := T44) (g' := (mkF m 124 #[iv x0, iv x1, iv ((x0 &&& (2147483647 : Int32)) % (6 : Int32)), rv s5, iv (2 : Int32), iv (4 : Int32), iv (0 : Int32)] [])) (fun t k => XS.istore X44.here hx rfl (hb hby at_122) rfl (l' := #[iv x0, iv x1, iv ((x0 &&& (2147483647 : Int32)) % (6 : Int32)), rv s5, iv (2 : Int32), iv (4 : Int32), iv (0 : Int32)]) rfl k) ?_
                refine own_go (T' := T44) (g' := (mkF m 125 #[iv x0, iv x1, iv ((x0 &&& (2147483647 : Int32)) % (6 : Int32)), rv s5, iv (2 : Int32), iv (4 : Int32), iv (0 : Int32)] [(.ref s5)])) (fun t k => XS.aloadN X44.here hx rfl (hb hby at_124) rfl rfl k) ?_
                refine own_go (T' := T44) (g' := (mkF m 126 #[iv x0, iv x1, iv ((x0 &&& (2147483647 : Int32)) % (6 : Int32)), rv s5, iv (2 : Int32), iv (4 : Int32), iv (0 : Int32)] [(.int x1), (.ref s5)])) (fun t k => XS.iloadN X44.here hx rfl (hb hby at_125) rfl k) ?_
                obtain ⟨cq49, kq49, q49a, q49b, q49c⟩ := isOf hZ e44 E_EQUAL
                obtain ⟨_, _, ⟨T49, L49, k49, n49⟩, -, X49, ⟨Lc49, hQ49, l49, y49, z49⟩, st49⟩ := X44.virtualBack hx (y := (⟨"com/example/events_in_order/eventsinorder/model/Comparison$Operator", "accepts", "(I)Z"⟩ : MethodName)) (z := (⟨"com/example/events_in_order/eventsinorder/model/Comparison$Operator", "accepts", "(I)Z"⟩ : MethodName)) hown (mvT hZ (hw _ (List.mem_of_getElem? (i := 4) rfl))) (mvT hZ (hw _ (List.mem_of_getElem? (i := 5) rfl))) (notFace_of_selects (args := #[]) (mvT hZ (hw _ (List.mem_of_getElem? (i := 7) rfl)))) (mvT hZ (hw _ (List.mem_of_getElem? (i := 7) rfl))) (mvT hZ (hw _ (List.mem_of_getElem? (i := 6) rfl))) (by decide) (backOf (W := 0) (own_racc l Z a0 hw [] s5 x1 (5 : Int32) h0 n0 Z0 O_EQUAL E_EQUAL (by decide)) hZ (hw _ (List.mem_of_getElem? (i := 8) rfl)) (hw _ (List.mem_of_getElem? (i := 2) rfl)) (by decide) (by decide)) q49a q49c (g := (mkF m 126 #[iv x0, iv x1, iv ((x0 &&& (2147483647 : Int32)) % (6 : Int32)), rv s5, iv (2 : Int32), iv (4 : Int32), iv (0 : Int32)] [(.int x1), (.ref s5)])) rfl (by rw [hml]; rfl) (Steps.refl _) (argsL := [(.int x1)]) (rest := []) (lenOf own_pd1 rfl) rfl (by show 2 * 0 + _ ≤ _; exact Nat.le_of_eq rfl) (hb hby at_126) (fun _ _ => ⟨rfl, e44, (by decide : 0 + 0 ≤ _), (by decide : 0 + 0 ≤ _)⟩)
                dsimp only [Pt.U, Pt.locs, Pt.cells, Pt.slots] at X49 l49 y49 z49 st49 hQ49
                subst l49 y49 z49
                obtain ⟨rfl, rfl, e49⟩ := hQ49
                have E49q : T49.heap = h0 := e49
                have N49 := Fr.app N0 (Fr.nil n0)
                refine own_go (T' := T49) (g' := (mkF m 129 #[iv x0, iv x1, iv ((x0 &&& (2147483647 : Int32)) % (6 : Int32)), rv s5, iv (2 : Int32), iv (4 : Int32), iv (0 : Int32)] [(.int (own_acc (5 : Int32) x1))])) (fun t k => st49.trans k) ?_
                refine own_go (T' := T49) (g' := (mkF m 131 #[iv x0, iv x1, iv ((x0 &&& (2147483647 : Int32)) % (6 : Int32)), rv s5, iv (2 : Int32), iv (4 : Int32), iv (0 : Int32)] [(.int (0 : Int32)), (.int (own_acc (5 : Int32) x1))])) (fun t k => XS.iload X49.here hx rfl (hb hby at_129) rfl k) ?_
                refine own_go (T' := T49) (g' := (mkF m 134 #[iv x0, iv x1, iv ((x0 &&& (2147483647 : Int32)) % (6 : Int32)), rv s5, iv (2 : Int32), iv (4 : Int32), iv (0 : Int32)] [])) (fun t k => XS.icmpNo X49.here hx rfl (hb hby at_131) rfl (teq (by have q := own_t3 hc45 hc47; simp +decide [own_acc, q, hc45, hc47] : ((own_acc (5 : Int32) x1) = (0 : Int32)))).2 k) ?_
                refine own_go (T' := T49) (g' := (mkF m 135 #[iv x0, iv x1, iv ((x0 &&& (2147483647 : Int32)) % (6 : Int32)), rv s5, iv (2 : Int32), iv (4 : Int32), iv (0 : Int32)] [(.int (1 : Int32))])) (fun t k => XS.iconst X49.here hx rfl (hb hby at_134) k) ?_
                refine own_go (T' := T49) (g' := (mkF m 139 #[iv x0, iv x1, iv ((x0 &&& (2147483647 : Int32)) % (6 : Int32)), rv s5, iv (2 : Int32), iv (4 : Int32), iv (0 : Int32)] [(.int (1 : Int32))])) (fun t k => XS.goto X49.here hx rfl (pc0 := 135) (pc' := 139) rfl (hb hby at_135) (by decide) (by decide) k) ?_
                exact own_ret X49 hlk hx Bd.returns rfl (Or.inl ⟨rfl, Or.inr (Or.inl rfl), _, rfl⟩) (hb hby at_139) (by first | exact ⟨rfl, N49⟩ | (rw [Fr] at *; exact ⟨rfl, by simpa using N49⟩)) (by decide) (by decide)

set_option maxRecDepth 65536 in
set_option maxHeartbeats 40000000 in
theorem own_comes {Post : Tables → Env → Array Value → State → Outcome → State → Prop} (hpost : ∀ tb e args s v u, (limb_1_1.after args s (.returned v) u = true ∧ limb_1_2.after args s (.returned v) u = true ∧ True) → FrameEnd s (.returned v) u (Jvm.fieldLocs frame_1_writes args s ++ Jvm.arrayLocs frame_1_arrays args s ++ Jvm.staticLocs frame_1_statics s) 0 0 → Post tb e args s (.returned v) u) :
    ArmFor flags0 classFile x code maxLocals ret World_1 tables_1 room_1 Calls_1 rest_1 Pre_1 Post := by
  intro l hfl _ _ p e ha hc hk s m args below hf hA hF happ hP
  obtain ⟨hcalls, hrest, hpre⟩ := hP
  obtain ⟨-, -, -, hnamed, -, -, -, hat⟩ := (Spec.applies_iff hf).mp happ
  obtain ⟨hg, hn⟩ := and_e (Cond.before_iff.mp (show (Jvm.Cond.and given_1 narrow_1).before args s = true from hpre))
  obtain ⟨hg0, hg1⟩ := and_e hg
  obtain ⟨ha0, hr0⟩ := and_e hg1
  obtain ⟨w0, w1, rfl⟩ : ∃ w0 w1 : Value, args = #[w0, w1] := by
    have hs : args.size = 2 := by simpa [Cond.value, given_1] using hg0
    obtain ⟨L⟩ := args
    match L, hs with
    | [w0, w1], _ => exact ⟨w0, w1, rfl⟩
  have hw := fun d (hd : d ∈ tables_1) => atoms_spec (ws := Jvm.Cond.code x code maxLocals ret :: tables_1) hat d (List.mem_cons_of_mem _ hd)
  have hfit : Fit s := fun {y c} hc i hi => by
    obtain ⟨ha, rfl⟩ := Array.getElem?_eq_some_iff.mp hc
    have q := List.all_eq_true.mp ((Array.all_eq_true_iff_forall_mem.mp hF) _ (Array.getElem_mem ha)) i (List.mem_range.mpr hi)
    simpa [Array.getElem?_eq_getElem hi] using q
  obtain ⟨x0, ex0⟩ := is_v ha0
  obtain rfl : w0 = (.int x0) := Option.some.inj ex0
  obtain ⟨x1, ex1⟩ := is_v hr0
  obtain rfl : w1 = (.int x1) := Option.some.inj ex1
  obtain ⟨hn0, hq0⟩ := and_e hn
  obtain ⟨hn1, hq1⟩ := and_e hq0
  obtain ⟨hn2, hq2⟩ := and_e hq1
  obtain ⟨hn3, hq3⟩ := and_e hq2
  obtain ⟨hn4, hq4⟩ := and_e hq3
  obtain ⟨hn5, hq5⟩ := and_e hq4
  obtain ⟨hn6, hq6⟩ := and_e hq5
  obtain ⟨hn7, hq7⟩ := and_e hq6
  obtain ⟨hn8, hq8⟩ := and_e hq7
  obtain ⟨hn9, hq9⟩ := and_e hq8
  obtain ⟨hn10, hq10⟩ := and_e hq9
  obtain ⟨a_LESS_OR_EQUAL, v_LESS_OR_EQUAL⟩ := exa_v hn0
  have E_LESS_OR_EQUAL : Exa s s.heap a_LESS_OR_EQUAL "com/example/events_in_order/eventsinorder/model/Comparison$Operator" := Exa.start v_LESS_OR_EQUAL hn0
  have S_LESS_OR_EQUAL : Sta s s.heap "com/example/events_in_order/eventsinorder/model/Comparison$Operator" "LESS_OR_EQUAL" "Lcom/example/events_in_order/eventsinorder/model/Comparison$Operator;" (.ref a_LESS_OR_EQUAL) := Sta.start v_LESS_OR_EQUAL (Or.inr ⟨(hw _ (List.mem_of_getElem? (i := 2) rfl)), (hw _ (List.mem_of_getElem? (i := 3) rfl))⟩)
  obtain ⟨a_NOT_EQUAL, v_NOT_EQUAL⟩ := exa_v hn2
  have E_NOT_EQUAL : Exa s s.heap a_NOT_EQUAL "com/example/events_in_order/eventsinorder/model/Comparison$Operator" := Exa.start v_NOT_EQUAL hn2
  have S_NOT_EQUAL : Sta s s.heap "com/example/events_in_order/eventsinorder/model/Comparison$Operator" "NOT_EQUAL" "Lcom/example/events_in_order/eventsinorder/model/Comparison$Operator;" (.ref a_NOT_EQUAL) := Sta.start v_NOT_EQUAL (Or.inr ⟨(hw _ (List.mem_of_getElem? (i := 2) rfl)), (hw _ (List.mem_of_getElem? (i := 19) rfl))⟩)
  obtain ⟨a_GREATER, v_GREATER⟩ := exa_v hn4
  have E_GREATER : Exa s s.heap a_GREATER "com/example/events_in_order/eventsinorder/model/Comparison$Operator" := Exa.start v_GREATER hn4
  have S_GREATER : Sta s s.heap "com/example/events_in_order/eventsinorder/model/Comparison$Operator" "GREATER" "Lcom/example/events_in_order/eventsinorder/model/Comparison$Operator;" (.ref a_GREATER) := Sta.start v_GREATER (Or.inr ⟨(hw _ (List.mem_of_getElem? (i := 2) rfl)), (hw _ (List.mem_of_getElem? (i := 21) rfl))⟩)
  obtain ⟨a_GREATER_OR_EQUAL, v_GREATER_OR_EQUAL⟩ := exa_v hn6
  have E_GREATER_OR_EQUAL : Exa s s.heap a_GREATER_OR_EQUAL "com/example/events_in_order/eventsinorder/model/Comparison$Operator" := Exa.start v_GREATER_OR_EQUAL hn6
  have S_GREATER_OR_EQUAL : Sta s s.heap "com/example/events_in_order/eventsinorder/model/Comparison$Operator" "GREATER_OR_EQUAL" "Lcom/example/events_in_order/eventsinorder/model/Comparison$Operator;" (.ref a_GREATER_OR_EQUAL) := Sta.start v_GREATER_OR_EQUAL (Or.inr ⟨(hw _ (List.mem_of_getElem? (i := 2) rfl)), (hw _ (List.mem_of_getElem? (i := 23) rfl))⟩)
  obtain ⟨a_EQUAL, v_EQUAL⟩ := exa_v hn8
  have E_EQUAL : Exa s s.heap a_EQUAL "com/example/events_in_order/eventsinorder/model/Comparison$Operator" := Exa.start v_EQUAL hn8
  have S_EQUAL : Sta s s.heap "com/example/events_in_order/eventsinorder/model/Comparison$Operator" "EQUAL" "Lcom/example/events_in_order/eventsinorder/model/Comparison$Operator;" (.ref a_EQUAL) := Sta.start v_EQUAL (Or.inr ⟨(hw _ (List.mem_of_getElem? (i := 2) rfl)), (hw _ (List.mem_of_getElem? (i := 25) rfl))⟩)
  obtain ⟨a_LESS, v_LESS⟩ := exa_v hn10
  have E_LESS : Exa s s.heap a_LESS "com/example/events_in_order/eventsinorder/model/Comparison$Operator" := Exa.start v_LESS hn10
  have S_LESS : Sta s s.heap "com/example/events_in_order/eventsinorder/model/Comparison$Operator" "LESS" "Lcom/example/events_in_order/eventsinorder/model/Comparison$Operator;" (.ref a_LESS) := Sta.start v_LESS (Or.inr ⟨(hw _ (List.mem_of_getElem? (i := 2) rfl)), (hw _ (List.mem_of_getElem? (i := 27) rfl))⟩)
  have O_LESS_OR_EQUAL := own_fld v_LESS_OR_EQUAL hn1
  have O_NOT_EQUAL := own_fld v_NOT_EQUAL hn3
  have O_GREATER := own_fld v_GREATER hn5
  have O_GREATER_OR_EQUAL := own_fld v_GREATER_OR_EQUAL hn7
  have O_EQUAL := own_fld v_EQUAL hn9
  have O_LESS := own_fld v_LESS hq10
  obtain ⟨n, o, h1, h2, h3, _, L, rfl, ⟨rfl, N⟩, hq⟩ := own_law l s _ hw tables_1 x0 x1 a_LESS_OR_EQUAL a_GREATER_OR_EQUAL a_NOT_EQUAL a_LESS a_GREATER a_EQUAL s.heap s.heap.size (Nat.le_refl _) S_LESS_OR_EQUAL E_LESS_OR_EQUAL O_LESS_OR_EQUAL S_GREATER_OR_EQUAL E_GREATER_OR_EQUAL O_GREATER_OR_EQUAL S_NOT_EQUAL E_NOT_EQUAL O_NOT_EQUAL S_LESS E_LESS O_LESS S_GREATER E_GREATER O_GREATER S_EQUAL E_EQUAL O_EQUAL p e ha hc hk s m _ below hf ((Spec.applies_iff_loose hf).mp happ).1 ⟨rfl, State.Warmed39.refl s, rfl⟩ trivial
  refine ⟨n, _, h1, h2, h3, hpost _ _ _ _ _ _ ⟨Cond.after_iff.mpr rfl, Cond.after_iff.mpr (eq_i res_at (Term.int_eval (1)) rfl), trivial⟩ ⟨hq.1, hq.2.1, (hq.2.2.sift fun y hy => Or.inr (N y hy)).mono (by decide) (by decide)⟩⟩
theorem main_1_1 : Claimed_1_1 := own_comes fun _ _ _ _ _ _ h hF => ⟨h.1, hF⟩
theorem main_1_2 : Claimed_1_2 := own_comes fun _ _ _ _ _ _ h hF => ⟨h.2.1, hF⟩
end Jvm.Pilot.@@N@@
namespace Jvm.Pilot.@@N@@
open Jvm Jvm.ClassFile Sem Op Lib Jvm.Free Jvm.Stand Jvm.Pilot.@@N@@.Jvm.D
/-! MADE BY PROGRAM (witnessworld.py) out of the Statement's table words and the real class files: 12 classes; the members and pool entries that the words name. The judged class is class 1, her method 1. -/
namespace start1
open Jvm.ClassFile
def u (s : String) : CpInfo := .utf8 (stringToUtf16 s)
/-- a pool by its gaps: so many unusable entries, then the entry; so many at the end -/
def gap : Nat → List CpInfo → List CpInfo
  | 0, r => r
  | n + 1, r => .unusable :: gap n r
def poolList (es : List (Nat × CpInfo)) (last : Nat) : List CpInfo := es.foldr (fun e r => gap e.1 (e.2 :: r)) (gap last [])
def pool (es : List (Nat × CpInfo)) (last : Nat) : Array CpInfo := ⟨poolList es last⟩
def fileOf (pool : Array CpInfo) (this : Nat) (attrs : Array Attribute := #[]) (ms : Array MethodInfo := #[]) (fl : Nat := 33) (sup : Nat := 0) (ifs : Array Nat := #[]) (fds : Array FieldInfo := #[]) : ClassFile where
  minorVersion := 0
  majorVersion := 65
  constantPool := pool
  accessFlags := fl
  thisClass := this
  superClass := sup
  interfaces := ifs
  fields := fds
  methods := ms
  attributes := attrs
def plain (name : String) (sup : Option ClassId) : Class where
  name := name
  kind := .ordinary
  loader := none
  accessFlags := 33
  super := sup
  interfaces := #[]
  cf := none
  fields := #[]
  methods := #[]
  instanceTypes := #[]
  staticTypes := #[]
  resolved := #[]
  callSites := []
  init := .initialized
  statics := none
  mirror := none

def pool0 : Array CpInfo := pool [(5, u "<init>"), (0, u "()V"), (1, .class_ 10), (1, u "java/lang/Object")] 113

def k0m0 : Method := { name := "<init>", desc := "()V", sig := { parameters := [], returnType := none }, accessFlags := 1, code := none }
/-- java/lang/Object -/
def k0 : Class := { plain "java/lang/Object" none with
  accessFlags := 33
  interfaces := #[]
  cf := some (fileOf pool0 8 #[] #[{ accessFlags := 1, nameIndex := 5, descriptorIndex := 6, attributes := #[] }] 33 0 #[] #[])
  fields := #[]
  methods := #[k0m0]
  instanceTypes := #[]
  staticTypes := #[]
  resolved := Array.replicate 124 none
  statics := none }

def pool1 : Array CpInfo := pool [(2, .class_ 4), (1, u "java/lang/Object"), (0, u "<init>"), (0, u "()V"), (0, .integer 2147483647), (0, .fieldref 9 10), (0, .class_ 11), (0, .nameAndType 12 13), (0, u "com/example/events_in_order/eventsinorder/model/Comparison$Operator"), (0, u "LESS_OR_EQUAL"), (0, u "Lcom/example/events_in_order/eventsinorder/model/Comparison$Operator;"), (0, .fieldref 9 15), (0, .nameAndType 16 13), (0, u "GREATER_OR_EQUAL"), (0, .fieldref 9 18), (0, .nameAndType 19 13), (0, u "NOT_EQUAL"), (0, .fieldref 9 21), (0, .nameAndType 22 13), (0, u "LESS"), (0, .fieldref 9 24), (0, .nameAndType 25 13), (0, u "GREATER"), (0, .fieldref 9 27), (0, .nameAndType 28 13), (0, u "EQUAL"), (0, .methodref 9 30), (0, .nameAndType 31 32), (0, u "accepts"), (0, u "(I)Z"), (0, .class_ 34), (0, u "com/example/events_in_order/eventsinorder/model/OperatorAcceptsPinLaw"), (2, u "law"), (0, u "(II)Z")] 7

def k1m0 : Method := { name := "<init>", desc := "()V", sig := { parameters := [], returnType := none }, accessFlags := 1, code := none }
def k1c1 : Code := { maxStack := 2, maxLocals := 7, code := code, exceptionTable := #[], attributes := #[] }
def k1m1 : Method := { name := "law", desc := "(II)Z", sig := { parameters := [.int, .int], returnType := some .boolean }, accessFlags := 9, code := some k1c1 }
/-- com/example/events_in_order/eventsinorder/model/OperatorAcceptsPinLaw -/
def k1 : Class := { plain "com/example/events_in_order/eventsinorder/model/OperatorAcceptsPinLaw" (some 0) with
  accessFlags := 49
  interfaces := #[]
  cf := some (fileOf pool1 33 #[] #[{ accessFlags := 1, nameIndex := 5, descriptorIndex := 6, attributes := #[] }, { accessFlags := 9, nameIndex := 37, descriptorIndex := 38, attributes := #[] }] 49 2 #[] #[])
  fields := #[]
  methods := #[k1m0, k1m1]
  instanceTypes := #[]
  staticTypes := #[]
  resolved := Array.replicate 46 none
  statics := none }

def pool2 : Array CpInfo := pool [(1, .class_ 2), (0, u "java/lang/constant/Constable"), (0, .class_ 4), (0, u "java/lang/Object")] 6

/-- java/lang/constant/Constable -/
def k2 : Class := { plain "java/lang/constant/Constable" (some 0) with
  accessFlags := 1537
  interfaces := #[]
  cf := some (fileOf pool2 1 #[] #[] 1537 3 #[] #[])
  fields := #[]
  methods := #[]
  instanceTypes := #[]
  staticTypes := #[]
  resolved := Array.replicate 11 none
  statics := none }

def pool3 : Array CpInfo := pool [(1, .class_ 2), (0, u "java/lang/Comparable"), (0, .class_ 4), (0, u "java/lang/Object")] 7

/-- java/lang/Comparable -/
def k3 : Class := { plain "java/lang/Comparable" (some 0) with
  accessFlags := 1537
  interfaces := #[]
  cf := some (fileOf pool3 1 #[] #[] 1537 3 #[] #[])
  fields := #[]
  methods := #[]
  instanceTypes := #[]
  staticTypes := #[]
  resolved := Array.replicate 12 none
  statics := none }

def pool4 : Array CpInfo := pool [(1, .class_ 2), (0, u "java/io/Serializable"), (0, .class_ 4), (0, u "java/lang/Object")] 2

/-- java/io/Serializable -/
def k4 : Class := { plain "java/io/Serializable" (some 0) with
  accessFlags := 1537
  interfaces := #[]
  cf := some (fileOf pool4 1 #[] #[] 1537 3 #[] #[])
  fields := #[]
  methods := #[]
  instanceTypes := #[]
  staticTypes := #[]
  resolved := Array.replicate 7 none
  statics := none }

def pool5 : Array CpInfo := pool [(2, .class_ 4), (1, u "java/lang/Enum"), (0, u "name"), (0, u "Ljava/lang/String;"), (0, .fieldref 2 8), (0, .nameAndType 9 10), (0, u "ordinal"), (0, u "I"), (1, .class_ 14), (1, u "java/lang/Object"), (4, u "hash"), (86, .class_ 108), (1, u "java/lang/Enum$EnumDesc"), (2, .class_ 112), (0, u "java/lang/constant/Constable"), (0, .class_ 114), (0, u "java/lang/Comparable"), (0, .class_ 116), (0, u "java/io/Serializable"), (9, u "()I")] 77

def k5c0 : Code := { maxStack := 1, maxLocals := 1, code := jdk_37_method_2_code, exceptionTable := #[], attributes := #[] }
def k5m0 : Method := { name := "ordinal", desc := "()I", sig := { parameters := [], returnType := some .int }, accessFlags := 17, code := some k5c0 }
/-- java/lang/Enum -/
def k5 : Class := { plain "java/lang/Enum" (some 0) with
  accessFlags := 1057
  interfaces := #[2, 3, 4]
  cf := some (fileOf pool5 2 #[.nestMembers #[106]] #[{ accessFlags := 17, nameIndex := 9, descriptorIndex := 126, attributes := #[] }] 1057 12 #[111, 113, 115] #[{ accessFlags := 18, nameIndex := 5, descriptorIndex := 6, attributes := #[] }, { accessFlags := 18, nameIndex := 9, descriptorIndex := 10, attributes := #[] }, { accessFlags := 2, nameIndex := 19, descriptorIndex := 10, attributes := #[] }])
  fields := #[{ name := "name", type := (.object "java/lang/String"), accessFlags := 18, slot := 0, constantValue := 0 }, { name := "ordinal", type := .int, accessFlags := 18, slot := 1, constantValue := 0 }, { name := "hash", type := .int, accessFlags := 2, slot := 2, constantValue := 0 }]
  methods := #[k5m0]
  instanceTypes := #[(.object "java/lang/String"), .int, .int]
  staticTypes := #[]
  resolved := Array.replicate 204 none
  statics := none }

def pool6 : Array CpInfo := pool [(1, .class_ 2), (0, u "com/example/events_in_order/eventsinorder/model/Comparison$Operator"), (2, u "LESS_OR_EQUAL"), (0, u "Lcom/example/events_in_order/eventsinorder/model/Comparison$Operator;"), (2, u "GREATER_OR_EQUAL"), (2, u "NOT_EQUAL"), (2, u "LESS"), (2, u "GREATER"), (2, u "EQUAL"), (2, u "$VALUES"), (0, u "[Lcom/example/events_in_order/eventsinorder/model/Comparison$Operator;"), (6, .class_ 34), (1, u "java/lang/Enum"), (8, u "symbol"), (0, u "Ljava/lang/String;"), (0, .methodref 1 46), (0, .nameAndType 47 48), (0, u "ordinal"), (0, u "()I"), (34, u "accepts"), (0, u "(I)Z"), (7, .class_ 93), (0, u "com/example/events_in_order/eventsinorder/model/Comparison")] 2

def k6c0 : Code := { maxStack := 1, maxLocals := 2, code := prog_24_method_5_code, exceptionTable := #[], attributes := #[] }
def k6m0 : Method := { name := "accepts", desc := "(I)Z", sig := { parameters := [.int], returnType := some .boolean }, accessFlags := 0, code := some k6c0 }
/-- com/example/events_in_order/eventsinorder/model/Comparison$Operator -/
def k6 : Class := { plain "com/example/events_in_order/eventsinorder/model/Comparison$Operator" (some 5) with
  accessFlags := 16432
  interfaces := #[]
  cf := some (fileOf pool6 1 #[.nestHost 92] #[{ accessFlags := 0, nameIndex := 83, descriptorIndex := 84, attributes := #[] }] 16432 32 #[] #[{ accessFlags := 16409, nameIndex := 5, descriptorIndex := 6, attributes := #[] }, { accessFlags := 16409, nameIndex := 9, descriptorIndex := 6, attributes := #[] }, { accessFlags := 16409, nameIndex := 12, descriptorIndex := 6, attributes := #[] }, { accessFlags := 16409, nameIndex := 15, descriptorIndex := 6, attributes := #[] }, { accessFlags := 16409, nameIndex := 18, descriptorIndex := 6, attributes := #[] }, { accessFlags := 16409, nameIndex := 21, descriptorIndex := 6, attributes := #[] }, { accessFlags := 18, nameIndex := 43, descriptorIndex := 44, attributes := #[] }, { accessFlags := 4122, nameIndex := 24, descriptorIndex := 25, attributes := #[] }])
  fields := #[{ name := "LESS_OR_EQUAL", type := (.object "com/example/events_in_order/eventsinorder/model/Comparison$Operator"), accessFlags := 16409, slot := 0, constantValue := 0 }, { name := "GREATER_OR_EQUAL", type := (.object "com/example/events_in_order/eventsinorder/model/Comparison$Operator"), accessFlags := 16409, slot := 1, constantValue := 0 }, { name := "NOT_EQUAL", type := (.object "com/example/events_in_order/eventsinorder/model/Comparison$Operator"), accessFlags := 16409, slot := 2, constantValue := 0 }, { name := "LESS", type := (.object "com/example/events_in_order/eventsinorder/model/Comparison$Operator"), accessFlags := 16409, slot := 3, constantValue := 0 }, { name := "GREATER", type := (.object "com/example/events_in_order/eventsinorder/model/Comparison$Operator"), accessFlags := 16409, slot := 4, constantValue := 0 }, { name := "EQUAL", type := (.object "com/example/events_in_order/eventsinorder/model/Comparison$Operator"), accessFlags := 16409, slot := 5, constantValue := 0 }, { name := "symbol", type := (.object "java/lang/String"), accessFlags := 18, slot := 3, constantValue := 0 }, { name := "$VALUES", type := (.array (.object "com/example/events_in_order/eventsinorder/model/Comparison$Operator")), accessFlags := 4122, slot := 6, constantValue := 0 }]
  methods := #[k6m0]
  instanceTypes := #[(.object "java/lang/String"), .int, .int, (.object "java/lang/String")]
  staticTypes := #[(.object "com/example/events_in_order/eventsinorder/model/Comparison$Operator"), (.object "com/example/events_in_order/eventsinorder/model/Comparison$Operator"), (.object "com/example/events_in_order/eventsinorder/model/Comparison$Operator"), (.object "com/example/events_in_order/eventsinorder/model/Comparison$Operator"), (.object "com/example/events_in_order/eventsinorder/model/Comparison$Operator"), (.object "com/example/events_in_order/eventsinorder/model/Comparison$Operator"), (.array (.object "com/example/events_in_order/eventsinorder/model/Comparison$Operator"))]
  resolved := Array.replicate 96 none
  statics := some 0 }

def pool7 : Array CpInfo := pool [(1, u "java/lang/Cloneable"), (0, .class_ 1), (0, u "java/lang/Object"), (0, .class_ 3)] 3

/-- java/lang/Cloneable -/
def k7 : Class := { plain "java/lang/Cloneable" (some 0) with
  accessFlags := 1537
  interfaces := #[]
  cf := some (fileOf pool7 2 #[] #[] 1537 4 #[] #[])
  fields := #[]
  methods := #[]
  instanceTypes := #[]
  staticTypes := #[]
  resolved := Array.replicate 8 none
  statics := none }

/-- the primitive byte -/
def k8 : Class := { plain "byte" none with kind := .primitive 'B', accessFlags := 0x411 }
/-- [B -/
def k9 : Class := { plain "[B" (some 0) with kind := .array 8 .byte, interfaces := #[7, 4], accessFlags := 1041 }

/-- the primitive int -/
def k10 : Class := { plain "int" none with kind := .primitive 'I', accessFlags := 0x411 }
/-- [I -/
def k11 : Class := { plain "[I" (some 0) with kind := .array 10 .int, interfaces := #[7, 4], accessFlags := 1041 }

def heap : Heap := #[{ cls := 6, slots := #[.ref 1, .ref 4, .ref 2, .ref 6, .ref 3, .ref 5, .null], vm := .statics 6 },
  { cls := 6, slots := #[.null, .int 0, .int 0, .null], vm := .none },
  { cls := 6, slots := #[.null, .int 2, .int 0, .null], vm := .none },
  { cls := 6, slots := #[.null, .int 4, .int 0, .null], vm := .none },
  { cls := 6, slots := #[.null, .int 1, .int 0, .null], vm := .none },
  { cls := 6, slots := #[.null, .int 5, .int 0, .null], vm := .none },
  { cls := 6, slots := #[.null, .int 3, .int 0, .null], vm := .none }]
def classes : Array Class := #[k0, k1, k2, k3, k4, k5, k6, k7, k8, k9, k10, k11]
def interned : List (Array UInt16 × Addr) := []
def slotsUsed : Nat := 31
def theMethod : MethodId := ⟨1, 1⟩
def args0 : Array Value := #[.int 5, .int 6]
def aboutOver (below : List Frame) : State where
  vm := { classes := classes, interned := interned.toArray }
  heap := heap
  slotsUsed := slotsUsed
  threads := #[{ frames := .invoking theMethod args0 :: below }]
def below0 : List Frame := [.native { method := ⟨0, 0⟩, args := #[] }]
def about1 : State := aboutOver below0
def p0 : Program := .bare "" "" ""
def e0 : Env := launch0.env 0 0 0
theorem w_frames : about1.frames = Frame.invoking theMethod args0 :: below0 := rfl
set_option maxRecDepth 65536 in
theorem w_args : argsFit about1.vm theMethod args0 = true := by decide +kernel
set_option maxRecDepth 65536 in
theorem w_heap : heapFits about1 = true := by decide +kernel
set_option maxRecDepth 65536 in
theorem w_runnable : about1.curStatus? = some .runnable := by decide +kernel
set_option maxRecDepth 65536 in
theorem w_alone : about1.alone = true := by decide +kernel
set_option maxRecDepth 65536 in
theorem w_named : about1.methodNamed? x = some theMethod := by decide +kernel
set_option maxRecDepth 65536 in
theorem w_hears : about1.hears theMethod below0 = true := by decide +kernel
set_option maxRecDepth 65536 in
theorem w_ripe : about1.ripe theMethod args0 below0 = true := by decide +kernel
theorem w_running : about1.status = .running := rfl
set_option maxRecDepth 65536 in
theorem w_room : about1.hasRoom e0.platform room_1 = true :=
  launch0.hasRoom_least _ room_1 (by decide +kernel) (by decide +kernel) (by decide +kernel) (by decide +kernel) (by decide +kernel) (by decide +kernel)
theorem allAtoms_all (ts : List Jvm.Cond) (a : Array Jvm.Value) (st : Jvm.State) : (allAtoms ts).before a st = ts.all (fun c => c.before a st) := by
  induction ts with
  | nil => rfl
  | cons c t ih =>
    show (Jvm.Cond.and c (allAtoms t)).before a st = _
    rw [Jvm.Cond.before_and, ih, List.all_cons]
def words1 : List Jvm.Cond := Jvm.Cond.code x code maxLocals ret :: tables_1
/-- a 'code' word, met by the world's own term for the bytes: nothing is compared byte by byte -/
theorem code_word {y : MethodName} {bytes : ByteArray} {mx : Nat} {rt : Option FieldType} {a : Array Value} {s : State} {m : MethodId} {meth : Method} {c : Code} (h1 : s.methodNamed? y = some m) (h2 : s.vm.method? m = some meth) (h3 : meth.code = some c) (h4 : c.code = bytes)
    (h5 : (c.maxLocals == mx && c.exceptionTable.isEmpty && decide (c.maxStack ≤ mostOperands) && decide (meth.sig.returnType = rt) && !meth.locks && decide (parseMethodDescriptor y.desc = some meth.sig)) = true) : (Jvm.Cond.code y bytes mx rt).before a s = true := by
  simp only [Bool.and_eq_true, beq_iff_eq, Bool.not_eq_true', decide_eq_true_eq] at h5
  obtain ⟨⟨⟨⟨⟨g1, g2⟩, g3⟩, g4⟩, g5⟩, g6⟩ := h5
  simp [Cond.before, Cond.holds, Cond.value, h1, h2, h3, h4, g1, g2, g3, g4, g5, g6]
def isCode : Jvm.Cond → Bool
  | .code _ _ _ _ => true
  | _ => false
theorem all_split {L : List Jvm.Cond} {P : Jvm.Cond → Bool} (h1 : L.all (fun c => isCode c || P c) = true) (h2 : ∀ c ∈ L.filter isCode, P c = true) : L.all P = true := by
  refine List.all_eq_true.mpr fun c hc => ?_
  have h := List.all_eq_true.mp h1 c hc
  rcases Bool.eq_false_or_eq_true (isCode c) with hi | hi
  · exact h2 c (List.mem_filter.mpr ⟨hc, hi⟩)
  · simpa [hi] using h
set_option maxRecDepth 65536 in
theorem w_c0 : (Jvm.Cond.code x code maxLocals ret).before args0 about1 = true := code_word (m := ⟨1, 1⟩) (meth := k1m1) (c := k1c1) (by decide +kernel) rfl rfl rfl (by decide +kernel)
set_option maxRecDepth 65536 in
theorem w_c1 : (Jvm.Cond.code ({ cls := "com/example/events_in_order/eventsinorder/model/Comparison$Operator", name := "accepts", desc := "(I)Z" } : Jvm.MethodName) prog_24_method_5_code (2 : Nat) (Option.some Jvm.ClassFile.FieldType.boolean)).before args0 about1 = true := code_word (m := ⟨6, 0⟩) (meth := k6m0) (c := k6c0) (by decide +kernel) rfl rfl rfl (by decide +kernel)
set_option maxRecDepth 65536 in
theorem w_c2 : (Jvm.Cond.code ({ cls := "java/lang/Enum", name := "ordinal", desc := "()I" } : Jvm.MethodName) jdk_37_method_2_code (1 : Nat) (Option.some Jvm.ClassFile.FieldType.int)).before args0 about1 = true := code_word (m := ⟨5, 0⟩) (meth := k5m0) (c := k5c0) (by decide +kernel) rfl rfl rfl (by decide +kernel)
def codes1 : List Jvm.Cond := [Jvm.Cond.code x code maxLocals ret, Jvm.Cond.code ({ cls := "com/example/events_in_order/eventsinorder/model/Comparison$Operator", name := "accepts", desc := "(I)Z" } : Jvm.MethodName) prog_24_method_5_code (2 : Nat) (Option.some Jvm.ClassFile.FieldType.boolean), Jvm.Cond.code ({ cls := "java/lang/Enum", name := "ordinal", desc := "()I" } : Jvm.MethodName) jdk_37_method_2_code (1 : Nat) (Option.some Jvm.ClassFile.FieldType.int)]
set_option maxRecDepth 65536 in
theorem codes_eq : words1.filter isCode = codes1 := rfl
theorem w_codes : ∀ c ∈ words1.filter isCode, c.before args0 about1 = true := by
  rw [codes_eq]
  intro c hc
  simp only [codes1, List.mem_cons, List.not_mem_nil, or_false] at hc
  rcases hc with rfl | rfl | rfl
  · exact w_c0
  · exact w_c1
  · exact w_c2
set_option maxRecDepth 65536 in
theorem w_t1 : (words1.take 24).all (fun c => isCode c || c.before args0 about1) = true := by decide +kernel
set_option maxRecDepth 65536 in
theorem w_t2 : (words1.drop 24).all (fun c => isCode c || c.before args0 about1) = true := by decide +kernel
theorem w_tables : (allAtoms (Jvm.Cond.code x code maxLocals ret :: tables_1)).before args0 about1 = true := by
  rw [allAtoms_all]
  show words1.all (fun c => c.before args0 about1) = true
  refine all_split ?_ w_codes
  rw [← List.take_append_drop 24 words1, List.all_append, w_t1, w_t2]
  rfl
set_option maxRecDepth 65536 in
theorem w_case : (Jvm.Cond.and given_1 narrow_1).before args0 about1 = true := by decide +kernel
theorem w_applies : (headSpec (Jvm.Cond.code x code maxLocals ret :: tables_1) room_1).applies x e0.platform about1 = true :=
  (Spec.applies_iff w_frames).mpr ⟨w_running, w_runnable, w_alone, w_named, w_hears, w_ripe, w_room, w_tables⟩
theorem atStart : AtStart classFile x code maxLocals ret World_1 tables_1 room_1 Calls_1 rest_1 Pre_1 launch0 p0 e0 about1 theMethod args0 below0 :=
  ⟨lists_1, trivial, launch0.admits_env _ _ _, launch0.least_env, fairChoices_fair.cas, fairChoices_fair.clock, w_frames, w_args, w_heap, w_applies, trivial, trivial, w_case⟩
end start1
theorem witness_1 : WitnessClaimed_1 := ⟨start1.p0, start1.e0, start1.about1, start1.theMethod, start1.args0, start1.below0, start1.atStart⟩
end Jvm.Pilot.@@N@@
