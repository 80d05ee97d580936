import JvmDerived
import JvmDerived.Pilot.@@N@@Statement
import JvmDerived.Pilot.@@N@@Code
set_option linter.unusedVariables false
set_option linter.unusedSimpArgs false
namespace Jvm.Pilot.@@N@@
open Jvm Jvm.ClassFile Sem Op Lib Jvm.Free Jvm.Stand Jvm.LawKit Jvm.RoadKit Bundle Jvm.Pilot.@@N@@.Jvm.D
abbrev own_Ends (p : Program) (e : Env) (below : List Frame) (T : State) (g : JFrame) (Q : Outcome → State → Prop) : Prop :=
  ∃ s₂ o, Steps p.tables e below (T.setTop g) s₂ ∧ s₂.status = .running ∧ Ended s₂ below o ∧ Q o s₂
section Own
variable {p : Program} {l : Launch} {e : Env} {R : Room} {s : State} {m : MethodId} {args : Array Value} {below : List Frame} {meth : Method} {c : Code} {T T' : State} {locs : List Loc} {cells slots : Nat}
theorem own_go {g g' : JFrame} {Q : Outcome → State → Prop} (h : ∀ t, Steps p.tables e below (T'.setTop g') t → Steps p.tables e below (T.setTop g) t) (k : own_Ends p e below T' g' Q) : own_Ends p e below T g Q := by
  obtain ⟨s₂, o, h1, h2⟩ := k
  exact ⟨s₂, o, h _ h1, h2⟩
theorem own_start {g g' : JFrame} {Q : Outcome → State → Prop} (h : g = g') (k : own_Ends p e below T g' Q) : own_Ends p e below T g Q := h ▸ k
theorem own_ret (X : Stand p l e R s m args below meth c T locs cells slots) (hlk : meth.locks = false) (hx : p.tables.exec = Jvm.exec) {pc : Nat} {Ls : Array Slot} {w : Value} {t : FieldType} {i : Instr} {rest : List Value} (hret : meth.sig.returnType = some t) (hn : narrow t w = w)
    (hi : (i = .ireturn ∧ (t = .int ∨ t = .boolean ∨ t = .byte ∨ t = .char ∨ t = .short) ∧ ∃ z, w = .int z) ∨ (i = .lreturn ∧ t = .long ∧ ∃ z, w = .long z) ∨ (i = .dreturn ∧ t = .double ∧ ∃ z, w = .double z) ∨ (i = .freturn ∧ t = .float ∧ ∃ z, w = .float z) ∨ (i = .areturn ∧ t.isReference = true ∧ w.isRef = true))
    (hd : decode c.code pc = .ok (i, 1)) {Qv : Option Value → Heap → List Loc → Prop} {C S : Nat} (hq : Qv (some w) T.heap locs) (hc : cells ≤ C) (hs : slots ≤ S) :
    own_Ends p e below T (mkF m pc Ls (w :: rest)) (fun o U' => ∃ v L, o = .returned v ∧ Qv v U'.heap L ∧ FrameEnd s o U' L C S) := by
  obtain ⟨fs, hr, hrun, hended, hW, hsame⟩ := X.leave (v := some w) (fun h => by rw [hret] at h; cases h) hlk
  exact ⟨_, _, retOut X hx hret hn hi hd hr, hrun, hended, _, _, rfl, hq, ⟨_, rfl⟩, hW, hsame.mono hc hs⟩
theorem own_ret0 (X : Stand p l e R s m args below meth c T locs cells slots) (hlk : meth.locks = false) (hx : p.tables.exec = Jvm.exec) {pc : Nat} {Ls : Array Slot} (hret : meth.sig.returnType = none)
    (hd : decode c.code pc = .ok (.return_, 1)) {Qv : Option Value → Heap → List Loc → Prop} {C S : Nat} (hq : Qv none T.heap locs) (hc : cells ≤ C) (hs : slots ≤ S) :
    own_Ends p e below T (mkF m pc Ls []) (fun o U' => ∃ v L, o = .returned v ∧ Qv v U'.heap L ∧ FrameEnd s o U' L C S) := by
  obtain ⟨fs, hr, hrun, hended, hW, hsame⟩ := X.leave (v := none) (fun _ => rfl) hlk
  exact ⟨_, _, X.returnOut hx hret hd hr, hrun, hended, _, _, rfl, hq, ⟨_, rfl⟩, hW, hsame.mono hc hs⟩
theorem own_nr {t : FieldType} {v : Value} (h : v.isRef = true) : narrow t v = v := by cases v <;> first | (cases h; done) | (cases t <;> rfl)
end Own
theorem own_fld {args : Array Value} {s : State} {t : Term} {a : Addr} {C n d : String} {k : Int32} (ht : t.eval args s none [] s = some (.ref a)) (h : (Jvm.Cond.eq (.field t C n d) (.int k)).value args s none s [] = some true) : Fld s s.heap a C n d (.int k) := by
  obtain ⟨x, y, e1, e2, h3, h4⟩ := cmp_v (Or.inl h)
  obtain rfl : Value.int k = y := Option.some.inj ((Term.int_eval k).symm.trans e2)
  obtain ⟨z, rfl⟩ : ∃ z, x = .int z := h4
  have q : z = k := gotT (Cond.eq_ints e1 e2) h
  subst q
  exact Fld.start ((fld_at ht).symm.trans e1)
def own_pick (sF sU sT : Addr) (k : Int32) : Addr := if k = 0 then sF else if k = 1 then sU else sT
def own_op (sF sU sT x y : Addr) : Addr := if x = sT ∨ y = sT then sT else if x = sU ∨ y = sU then sU else sF
def own_rank (sF sU sT x : Addr) : Int32 := if x = sF then 0 else if x = sU then 1 else if x = sT then 2 else -1
def own_mm (x y : Int32) : Int32 := if x < y then y else x
theorem own_mod3 (x : Int32) : (x &&& 2147483647) % 3 = 0 ∨ (x &&& 2147483647) % 3 = 1 ∨ (x &&& 2147483647) % 3 = 2 := by
  have h1 := (c_and x 2147483647 (by decide)).1
  have h2 := (c_irem (x &&& 2147483647) 3 3 rfl).1 h1
  simp only [← Int32.toInt_inj]
  have : (0 : Int32).toInt = 0 := rfl
  have : (1 : Int32).toInt = 1 := rfl
  have : (2 : Int32).toInt = 2 := rfl
  omega
theorem own_rank_pick {sF sU sT : Addr} (d1 : sF ≠ sU) (d2 : sF ≠ sT) (d3 : sU ≠ sT) {i : Int32} (hi : i = 0 ∨ i = 1 ∨ i = 2) : own_rank sF sU sT (own_pick sF sU sT i) = i := by
  rcases hi with rfl | rfl | rfl <;> simp +decide [own_pick, own_rank, d1, d2, d3, d1.symm, d2.symm, d3.symm]
theorem own_key {sF sU sT : Addr} (d1 : sF ≠ sU) (d2 : sF ≠ sT) (d3 : sU ≠ sT) {i j : Int32} (hi : i = 0 ∨ i = 1 ∨ i = 2) (hj : j = 0 ∨ j = 1 ∨ j = 2) :
    own_rank sF sU sT (own_op sF sU sT (own_pick sF sU sT i) (own_pick sF sU sT j)) = own_mm i j := by
  rcases hi with rfl | rfl | rfl <;> rcases hj with rfl | rfl | rfl <;> simp +decide [own_op, own_pick, own_rank, own_mm, d1, d2, d3, d1.symm, d2.symm, d3.symm]
theorem own_pex {Z : State} {h : Heap} {K : String} {sF sU sT : Addr} (k : Int32) (e1 : Exa Z h sF K) (e2 : Exa Z h sU K) (e3 : Exa Z h sT K) : Exa Z h (own_pick sF sU sT k) K := by
  unfold own_pick; repeat' split
  all_goals assumption

theorem own_d_method_2_code_0 : decode method_2_code 0 = .ok (.iload_n 0, 1) := by decide +kernel
theorem own_d_method_2_code_1 : decode method_2_code 1 = .ok (.ifCond .ne 7, 3) := by decide +kernel
theorem own_d_method_2_code_4 : decode method_2_code 4 = .ok (.getstatic 7, 3) := by decide +kernel
theorem own_d_method_2_code_7 : decode method_2_code 7 = .ok (.areturn, 1) := by decide +kernel
theorem own_d_method_2_code_8 : decode method_2_code 8 = .ok (.iload_n 0, 1) := by decide +kernel
theorem own_d_method_2_code_9 : decode method_2_code 9 = .ok (.iconst 1, 1) := by decide +kernel
theorem own_d_method_2_code_10 : decode method_2_code 10 = .ok (.if_icmp .ne 7, 3) := by decide +kernel
theorem own_d_method_2_code_13 : decode method_2_code 13 = .ok (.getstatic 13, 3) := by decide +kernel
theorem own_d_method_2_code_16 : decode method_2_code 16 = .ok (.areturn, 1) := by decide +kernel
theorem own_d_method_2_code_17 : decode method_2_code 17 = .ok (.getstatic 16, 3) := by decide +kernel
theorem own_d_method_2_code_20 : decode method_2_code 20 = .ok (.areturn, 1) := by decide +kernel
def Q_own_rpick (p0 : Int32) (sF sU sT : Addr) (h0 : Heap) (n0 : Nat) (v : Option Value) (h : Heap) (L : List Loc) : Prop := v = some (.ref (own_pick sF sU sT p0)) ∧ L = [] ∧ h = h0
set_option maxRecDepth 65536 in
set_option maxHeartbeats 40000000 in
theorem own_rpick (l : Launch) (Z : State) (a0 : Array Value) (hw : ∀ d ∈ tables_1, d.before a0 Z = true) (ws : List Jvm.Cond) (p0 : Int32) (sF sU sT : Addr) (h0 : Heap) (n0 : Nat) (Z0 : n0 ≤ h0.size) (S_FALSE : Sta Z h0 "com/example/tierwright/tierwright/pmml/Truth" "FALSE" "Lcom/example/tierwright/tierwright/pmml/Truth;" (.ref sF)) (S_UNKNOWN : Sta Z h0 "com/example/tierwright/tierwright/pmml/Truth" "UNKNOWN" "Lcom/example/tierwright/tierwright/pmml/Truth;" (.ref sU)) (S_TRUE : Sta Z h0 "com/example/tierwright/tierwright/pmml/Truth" "TRUE" "Lcom/example/tierwright/tierwright/pmml/Truth;" (.ref sT)) :
    MetFree l (⟨"com/example/tierwright/tierwright/pmml/TruthOrPinLaw", "pick", "(I)Lcom/example/tierwright/tierwright/pmml/Truth;"⟩ : MethodName) (head1 (Jvm.Cond.code (⟨"com/example/tierwright/tierwright/pmml/TruthOrPinLaw", "pick", "(I)Lcom/example/tierwright/tierwright/pmml/Truth;"⟩ : MethodName) method_2_code 1 (some (.object "com/example/tierwright/tierwright/pmml/Truth")) :: ws) ({ frames := 0, cells := 0, slots := 0, locals := 0 } : Room)) (fun au Uu => au = #[(.int p0)] ∧ Z.Warmed39 Uu.vm ∧ Uu.heap = h0) (fun _ _ _ _ _ => True) (fun _ Uu ou Uw => ∃ vu Lu, ou = .returned vu ∧ Q_own_rpick p0 sF sU sT h0 n0 vu Uw.heap Lu ∧ FrameEnd Uu ou Uw Lu ({ frames := 0, cells := 0, slots := 0, locals := 0 } : Room).cells ({ frames := 0, cells := 0, slots := 0, locals := 0 } : Room).slots) := by
  refine MetFree.of_bodySF (plainFor_of_name (by first | (simp [plainName, overriddenIn]; done) | decide +kernel)) hisR ?_
  intro p e s m args below meth c s₁ Bd hml0 hP hK
  obtain ⟨rfl, hZ, hh⟩ := hP
  have hx := Bd.exec
  have hby := Bd.bytes
  have hlk := Bd.notSynchronized
  have hml : c.maxLocals = 1 := hml0
  have hown : s.vm.findClass "com/example/tierwright/tierwright/pmml/TruthOrPinLaw" = some m.cls := findClass_of_methodNamed Bd.named
  have hnm := (name_of_methodNamed Bd.named Bd.method).1
  have X0 : Stand p l e ({ frames := 0, cells := 0, slots := 0, locals := 0 } : Room) s m #[(.int p0)] below meth c s₁ [] 0 0 := Stand.of_body Bd
  have e0 : s₁.heap = h0 := by rw [← hh, Bd.state]; rfl
  have N0 := Fr.nil n0
  show own_Ends p e below s₁ (entryFrame m #[(.int p0)] 1) (fun ou Uw => ∃ vu Lu, ou = .returned vu ∧ Q_own_rpick p0 sF sU sT h0 n0 vu Uw.heap Lu ∧ FrameEnd s ou Uw Lu ({ frames := 0, cells := 0, slots := 0, locals := 0 } : Room).cells ({ frames := 0, cells := 0, slots := 0, locals := 0 } : Room).slots)
  refine own_start (g' := (mkF m 0 #[iv p0] [])) (by first | (simp [entryFrame, mkF, argsToLocals, Value.category, iv, rv]; done) | rfl) ?_
  refine own_go (T' := s₁) (g' := (mkF m 1 #[iv p0] [(.int p0)])) (fun t k => XS.iloadN X0.here hx rfl (hb hby own_d_method_2_code_0) rfl k) ?_
  by_cases hc1 : p0 = (0 : Int32)
  · refine own_go (T' := s₁) (g' := (mkF m 4 #[iv p0] [])) (fun t k => XS.ifNo X0.here hx rfl (hb hby own_d_method_2_code_1) rfl ((if0 _ _).trans (teq hc1).2) k) ?_
    obtain ⟨T2, X2, e2, st2⟩ := getS2 X0 hx hZ hown (host := "") (Or.inl (hw _ (List.mem_of_getElem? (i := 5) rfl))) Via.refl e0 S_FALSE (g := (mkF m 4 #[iv p0] [])) rfl (hb hby own_d_method_2_code_4)
    refine own_go (T' := T2) (g' := (mkF m 7 #[iv p0] [(.ref sF)])) (st2) ?_
    exact own_ret X2 hlk hx Bd.returns rfl (Or.inr (Or.inr (Or.inr (Or.inr ⟨rfl, rfl, rfl⟩)))) (hb hby own_d_method_2_code_7) ⟨by simp [own_pick, hc1], rfl, e2⟩ (by decide) (by decide)
  · refine own_go (T' := s₁) (g' := (mkF m 8 #[iv p0] [])) (fun t k => XS.ifYes X0.here hx rfl (pc0 := 1) (pc' := 8) rfl (hb hby own_d_method_2_code_1) rfl ((if0 _ _).trans (feq hc1).2) (by decide) (by decide) k) ?_
    refine own_go (T' := s₁) (g' := (mkF m 9 #[iv p0] [(.int p0)])) (fun t k => XS.iloadN X0.here hx rfl (hb hby own_d_method_2_code_8) rfl k) ?_
    refine own_go (T' := s₁) (g' := (mkF m 10 #[iv p0] [(.int (1 : Int32)), (.int p0)])) (fun t k => XS.iconst X0.here hx rfl (hb hby own_d_method_2_code_9) k) ?_
    by_cases hc3 : p0 = (1 : Int32)
    · refine own_go (T' := s₁) (g' := (mkF m 13 #[iv p0] [])) (fun t k => XS.icmpNo X0.here hx rfl (hb hby own_d_method_2_code_10) rfl (teq hc3).2 k) ?_
      obtain ⟨T4, X4, e4, st4⟩ := getS2 X0 hx hZ hown (host := "") (Or.inl (hw _ (List.mem_of_getElem? (i := 26) rfl))) Via.refl e0 S_UNKNOWN (g := (mkF m 13 #[iv p0] [])) rfl (hb hby own_d_method_2_code_13)
      refine own_go (T' := T4) (g' := (mkF m 16 #[iv p0] [(.ref sU)])) (st4) ?_
      exact own_ret X4 hlk hx Bd.returns rfl (Or.inr (Or.inr (Or.inr (Or.inr ⟨rfl, rfl, rfl⟩)))) (hb hby own_d_method_2_code_16) ⟨by simp [own_pick, hc1, hc3], rfl, e4⟩ (by decide) (by decide)
    · refine own_go (T' := s₁) (g' := (mkF m 17 #[iv p0] [])) (fun t k => XS.icmpYes X0.here hx rfl (pc0 := 10) (pc' := 17) rfl (hb hby own_d_method_2_code_10) rfl (feq hc3).2 (by decide) (by decide) k) ?_
      obtain ⟨T5, X5, e5, st5⟩ := getS2 X0 hx hZ hown (host := "") (Or.inl (hw _ (List.mem_of_getElem? (i := 25) rfl))) Via.refl e0 S_TRUE (g := (mkF m 17 #[iv p0] [])) rfl (hb hby own_d_method_2_code_17)
      refine own_go (T' := T5) (g' := (mkF m 20 #[iv p0] [(.ref sT)])) (st5) ?_
      exact own_ret X5 hlk hx Bd.returns rfl (Or.inr (Or.inr (Or.inr (Or.inr ⟨rfl, rfl, rfl⟩)))) (hb hby own_d_method_2_code_20) ⟨by simp [own_pick, hc1, hc3], rfl, e5⟩ (by decide) (by decide)

theorem own_d_prog_45_method_6_code_0 : decode prog_45_method_6_code 0 = .ok (.aload_n 0, 1) := by decide +kernel
theorem own_d_prog_45_method_6_code_1 : decode prog_45_method_6_code 1 = .ok (.getstatic 3, 3) := by decide +kernel
theorem own_d_prog_45_method_6_code_4 : decode prog_45_method_6_code 4 = .ok (.if_acmp .eq 10, 3) := by decide +kernel
theorem own_d_prog_45_method_6_code_7 : decode prog_45_method_6_code 7 = .ok (.aload_n 1, 1) := by decide +kernel
theorem own_d_prog_45_method_6_code_8 : decode prog_45_method_6_code 8 = .ok (.getstatic 3, 3) := by decide +kernel
theorem own_d_prog_45_method_6_code_11 : decode prog_45_method_6_code 11 = .ok (.if_acmp .ne 7, 3) := by decide +kernel
theorem own_d_prog_45_method_6_code_14 : decode prog_45_method_6_code 14 = .ok (.getstatic 3, 3) := by decide +kernel
theorem own_d_prog_45_method_6_code_17 : decode prog_45_method_6_code 17 = .ok (.areturn, 1) := by decide +kernel
theorem own_d_prog_45_method_6_code_18 : decode prog_45_method_6_code 18 = .ok (.aload_n 0, 1) := by decide +kernel
theorem own_d_prog_45_method_6_code_19 : decode prog_45_method_6_code 19 = .ok (.getstatic 10, 3) := by decide +kernel
theorem own_d_prog_45_method_6_code_22 : decode prog_45_method_6_code 22 = .ok (.if_acmp .eq 10, 3) := by decide +kernel
theorem own_d_prog_45_method_6_code_25 : decode prog_45_method_6_code 25 = .ok (.aload_n 1, 1) := by decide +kernel
theorem own_d_prog_45_method_6_code_26 : decode prog_45_method_6_code 26 = .ok (.getstatic 10, 3) := by decide +kernel
theorem own_d_prog_45_method_6_code_29 : decode prog_45_method_6_code 29 = .ok (.if_acmp .ne 9, 3) := by decide +kernel
theorem own_d_prog_45_method_6_code_32 : decode prog_45_method_6_code 32 = .ok (.getstatic 10, 3) := by decide +kernel
theorem own_d_prog_45_method_6_code_35 : decode prog_45_method_6_code 35 = .ok (.goto 6, 3) := by decide +kernel
theorem own_d_prog_45_method_6_code_38 : decode prog_45_method_6_code 38 = .ok (.getstatic 7, 3) := by decide +kernel
theorem own_d_prog_45_method_6_code_41 : decode prog_45_method_6_code 41 = .ok (.areturn, 1) := by decide +kernel
def Q_own_rop (a0r a1r sF sU sT : Addr) (h0 : Heap) (n0 : Nat) (v : Option Value) (h : Heap) (L : List Loc) : Prop := v = some (.ref (own_op sF sU sT a0r a1r)) ∧ L = [] ∧ h = h0
set_option maxRecDepth 65536 in
set_option maxHeartbeats 40000000 in
theorem own_rop (l : Launch) (Z : State) (a0 : Array Value) (hw : ∀ d ∈ tables_1, d.before a0 Z = true) (ws : List Jvm.Cond) (a0r a1r sF sU sT : Addr) (h0 : Heap) (n0 : Nat) (Z0 : n0 ≤ h0.size) (S_FALSE : Sta Z h0 "com/example/tierwright/tierwright/pmml/Truth" "FALSE" "Lcom/example/tierwright/tierwright/pmml/Truth;" (.ref sF)) (S_UNKNOWN : Sta Z h0 "com/example/tierwright/tierwright/pmml/Truth" "UNKNOWN" "Lcom/example/tierwright/tierwright/pmml/Truth;" (.ref sU)) (S_TRUE : Sta Z h0 "com/example/tierwright/tierwright/pmml/Truth" "TRUE" "Lcom/example/tierwright/tierwright/pmml/Truth;" (.ref sT)) :
    MetFree l (⟨"com/example/tierwright/tierwright/pmml/Truth", "or", "(Lcom/example/tierwright/tierwright/pmml/Truth;)Lcom/example/tierwright/tierwright/pmml/Truth;"⟩ : MethodName) (head1 (Jvm.Cond.code (⟨"com/example/tierwright/tierwright/pmml/Truth", "or", "(Lcom/example/tierwright/tierwright/pmml/Truth;)Lcom/example/tierwright/tierwright/pmml/Truth;"⟩ : MethodName) prog_45_method_6_code 2 (some (.object "com/example/tierwright/tierwright/pmml/Truth")) :: ws) ({ frames := 0, cells := 0, slots := 0, locals := 0 } : Room)) (fun au Uu => au = #[(.ref a0r), (.ref a1r)] ∧ Z.Warmed39 Uu.vm ∧ Uu.heap = h0) (fun _ _ _ _ _ => True) (fun _ Uu ou Uw => ∃ vu Lu, ou = .returned vu ∧ Q_own_rop a0r a1r sF sU sT h0 n0 vu Uw.heap Lu ∧ FrameEnd Uu ou Uw Lu ({ frames := 0, cells := 0, slots := 0, locals := 0 } : Room).cells ({ frames := 0, cells := 0, slots := 0, locals := 0 } : Room).slots) := by
  refine MetFree.of_bodySF (plainFor_of_name (by first | (simp [plainName, overriddenIn]; done) | decide +kernel)) hisR ?_
  intro p e s m args below meth c s₁ Bd hml0 hP hK
  obtain ⟨rfl, hZ, hh⟩ := hP
  have hx := Bd.exec
  have hby := Bd.bytes
  have hlk := Bd.notSynchronized
  have hml : c.maxLocals = 2 := hml0
  have hown : s.vm.findClass "com/example/tierwright/tierwright/pmml/Truth" = some m.cls := findClass_of_methodNamed Bd.named
  have hnm := (name_of_methodNamed Bd.named Bd.method).1
  have X0 : Stand p l e ({ frames := 0, cells := 0, slots := 0, locals := 0 } : Room) s m #[(.ref a0r), (.ref a1r)] below meth c s₁ [] 0 0 := Stand.of_body Bd
  have e0 : s₁.heap = h0 := by rw [← hh, Bd.state]; rfl
  have N0 := Fr.nil n0
  show own_Ends p e below s₁ (entryFrame m #[(.ref a0r), (.ref a1r)] 2) (fun ou Uw => ∃ vu Lu, ou = .returned vu ∧ Q_own_rop a0r a1r sF sU sT h0 n0 vu Uw.heap Lu ∧ FrameEnd s ou Uw Lu ({ frames := 0, cells := 0, slots := 0, locals := 0 } : Room).cells ({ frames := 0, cells := 0, slots := 0, locals := 0 } : Room).slots)
  refine own_start (g' := (mkF m 0 #[rv a0r, rv a1r] [])) (by first | (simp [entryFrame, mkF, argsToLocals, Value.category, iv, rv]; done) | rfl) ?_
  refine own_go (T' := s₁) (g' := (mkF m 1 #[rv a0r, rv a1r] [(.ref a0r)])) (fun t k => XS.aloadN X0.here hx rfl (hb hby own_d_prog_45_method_6_code_0) rfl rfl k) ?_
  obtain ⟨T6, X6, e6, st6⟩ := getS2 X0 hx hZ hown (host := "") (Or.inl (hw _ (List.mem_of_getElem? (i := 13) rfl))) Via.refl e0 S_TRUE (g := (mkF m 1 #[rv a0r, rv a1r] [(.ref a0r)])) rfl (hb hby own_d_prog_45_method_6_code_1)
  refine own_go (T' := T6) (g' := (mkF m 4 #[rv a0r, rv a1r] [(.ref sT), (.ref a0r)])) (st6) ?_
  by_cases ha7 : ((.ref a0r) : Value) = (.ref sT)
  · refine own_go (T' := T6) (g' := (mkF m 14 #[rv a0r, rv a1r] [])) (fun t k => Jvm.RoadKit.acmp (g := (mkF m 4 #[rv a0r, rv a1r] [(.ref sT), (.ref a0r)])) X6 hx rfl (x := (.ref a0r)) (y := (.ref sT)) rfl rfl (pc0 := 4) (pc' := 14) (same := true) rfl (hb hby own_d_prog_45_method_6_code_4) rfl (decide_eq_true ha7) (by decide) (by decide) k) ?_
    obtain ⟨T8, X8, e8, st8⟩ := getS2 X6 hx hZ hown (host := "") (Or.inl (hw _ (List.mem_of_getElem? (i := 13) rfl))) Via.refl e6 S_TRUE (g := (mkF m 14 #[rv a0r, rv a1r] [])) rfl (hb hby own_d_prog_45_method_6_code_14)
    refine own_go (T' := T8) (g' := (mkF m 17 #[rv a0r, rv a1r] [(.ref sT)])) (st8) ?_
    exact own_ret X8 hlk hx Bd.returns rfl (Or.inr (Or.inr (Or.inr (Or.inr ⟨rfl, rfl, rfl⟩)))) (hb hby own_d_prog_45_method_6_code_17) ⟨by simp only [Value.ref.injEq] at *; simp [own_op, *], rfl, e8⟩ (by decide) (by decide)
  · refine own_go (T' := T6) (g' := (mkF m 7 #[rv a0r, rv a1r] [])) (fun t k => Jvm.RoadKit.acmp (g := (mkF m 4 #[rv a0r, rv a1r] [(.ref sT), (.ref a0r)])) X6 hx rfl (x := (.ref a0r)) (y := (.ref sT)) rfl rfl (pc0 := 4) (pc' := 7) (same := false) rfl (hb hby own_d_prog_45_method_6_code_4) rfl (decide_eq_false ha7) (by decide) (by decide) k) ?_
    refine own_go (T' := T6) (g' := (mkF m 8 #[rv a0r, rv a1r] [(.ref a1r)])) (fun t k => XS.aloadN X6.here hx rfl (hb hby own_d_prog_45_method_6_code_7) rfl rfl k) ?_
    obtain ⟨T9, X9, e9, st9⟩ := getS2 X6 hx hZ hown (host := "") (Or.inl (hw _ (List.mem_of_getElem? (i := 13) rfl))) Via.refl e6 S_TRUE (g := (mkF m 8 #[rv a0r, rv a1r] [(.ref a1r)])) rfl (hb hby own_d_prog_45_method_6_code_8)
    refine own_go (T' := T9) (g' := (mkF m 11 #[rv a0r, rv a1r] [(.ref sT), (.ref a1r)])) (st9) ?_
    by_cases ha10 : ((.ref a1r) : Value) = (.ref sT)
    · refine own_go (T' := T9) (g' := (mkF m 14 #[rv a0r, rv a1r] [])) (fun t k => Jvm.RoadKit.acmp (g := (mkF m 11 #[rv a0r, rv a1r] [(.ref sT), (.ref a1r)])) X9 hx rfl (x := (.ref a1r)) (y := (.ref sT)) rfl rfl (pc0 := 11) (pc' := 14) (same := true) rfl (hb hby own_d_prog_45_method_6_code_11) rfl (decide_eq_true ha10) (by decide) (by decide) k) ?_
      obtain ⟨T11, X11, e11, st11⟩ := getS2 X9 hx hZ hown (host := "") (Or.inl (hw _ (List.mem_of_getElem? (i := 13) rfl))) Via.refl e9 S_TRUE (g := (mkF m 14 #[rv a0r, rv a1r] [])) rfl (hb hby own_d_prog_45_method_6_code_14)
      refine own_go (T' := T11) (g' := (mkF m 17 #[rv a0r, rv a1r] [(.ref sT)])) (st11) ?_
      exact own_ret X11 hlk hx Bd.returns rfl (Or.inr (Or.inr (Or.inr (Or.inr ⟨rfl, rfl, rfl⟩)))) (hb hby own_d_prog_45_method_6_code_17) ⟨by simp only [Value.ref.injEq] at *; simp [own_op, *], rfl, e11⟩ (by decide) (by decide)
    · refine own_go (T' := T9) (g' := (mkF m 18 #[rv a0r, rv a1r] [])) (fun t k => Jvm.RoadKit.acmp (g := (mkF m 11 #[rv a0r, rv a1r] [(.ref sT), (.ref a1r)])) X9 hx rfl (x := (.ref a1r)) (y := (.ref sT)) rfl rfl (pc0 := 11) (pc' := 18) (same := false) rfl (hb hby own_d_prog_45_method_6_code_11) rfl (decide_eq_false ha10) (by decide) (by decide) k) ?_
      refine own_go (T' := T9) (g' := (mkF m 19 #[rv a0r, rv a1r] [(.ref a0r)])) (fun t k => XS.aloadN X9.here hx rfl (hb hby own_d_prog_45_method_6_code_18) rfl rfl k) ?_
      obtain ⟨T12, X12, e12, st12⟩ := getS2 X9 hx hZ hown (host := "") (Or.inl (hw _ (List.mem_of_getElem? (i := 15) rfl))) Via.refl e9 S_UNKNOWN (g := (mkF m 19 #[rv a0r, rv a1r] [(.ref a0r)])) rfl (hb hby own_d_prog_45_method_6_code_19)
      refine own_go (T' := T12) (g' := (mkF m 22 #[rv a0r, rv a1r] [(.ref sU), (.ref a0r)])) (st12) ?_
      by_cases ha13 : ((.ref a0r) : Value) = (.ref sU)
      · refine own_go (T' := T12) (g' := (mkF m 32 #[rv a0r, rv a1r] [])) (fun t k => Jvm.RoadKit.acmp (g := (mkF m 22 #[rv a0r, rv a1r] [(.ref sU), (.ref a0r)])) X12 hx rfl (x := (.ref a0r)) (y := (.ref sU)) rfl rfl (pc0 := 22) (pc' := 32) (same := true) rfl (hb hby own_d_prog_45_method_6_code_22) rfl (decide_eq_true ha13) (by decide) (by decide) k) ?_
        obtain ⟨T14, X14, e14, st14⟩ := getS2 X12 hx hZ hown (host := "") (Or.inl (hw _ (List.mem_of_getElem? (i := 15) rfl))) Via.refl e12 S_UNKNOWN (g := (mkF m 32 #[rv a0r, rv a1r] [])) rfl (hb hby own_d_prog_45_method_6_code_32)
        refine own_go (T' := T14) (g' := (mkF m 35 #[rv a0r, rv a1r] [(.ref sU)])) (st14) ?_
        refine own_go (T' := T14) (g' := (mkF m 41 #[rv a0r, rv a1r] [(.ref sU)])) (fun t k => XS.goto X14.here hx rfl (pc0 := 35) (pc' := 41) rfl (hb hby own_d_prog_45_method_6_code_35) (by decide) (by decide) k) ?_
        exact own_ret X14 hlk hx Bd.returns rfl (Or.inr (Or.inr (Or.inr (Or.inr ⟨rfl, rfl, rfl⟩)))) (hb hby own_d_prog_45_method_6_code_41) ⟨by simp only [Value.ref.injEq] at *; simp [own_op, *], rfl, e14⟩ (by decide) (by decide)
      · refine own_go (T' := T12) (g' := (mkF m 25 #[rv a0r, rv a1r] [])) (fun t k => Jvm.RoadKit.acmp (g := (mkF m 22 #[rv a0r, rv a1r] [(.ref sU), (.ref a0r)])) X12 hx rfl (x := (.ref a0r)) (y := (.ref sU)) rfl rfl (pc0 := 22) (pc' := 25) (same := false) rfl (hb hby own_d_prog_45_method_6_code_22) rfl (decide_eq_false ha13) (by decide) (by decide) k) ?_
        refine own_go (T' := T12) (g' := (mkF m 26 #[rv a0r, rv a1r] [(.ref a1r)])) (fun t k => XS.aloadN X12.here hx rfl (hb hby own_d_prog_45_method_6_code_25) rfl rfl k) ?_
        obtain ⟨T15, X15, e15, st15⟩ := getS2 X12 hx hZ hown (host := "") (Or.inl (hw _ (List.mem_of_getElem? (i := 15) rfl))) Via.refl e12 S_UNKNOWN (g := (mkF m 26 #[rv a0r, rv a1r] [(.ref a1r)])) rfl (hb hby own_d_prog_45_method_6_code_26)
        refine own_go (T' := T15) (g' := (mkF m 29 #[rv a0r, rv a1r] [(.ref sU), (.ref a1r)])) (st15) ?_
        by_cases ha16 : ((.ref a1r) : Value) = (.ref sU)
        · refine own_go (T' := T15) (g' := (mkF m 32 #[rv a0r, rv a1r] [])) (fun t k => Jvm.RoadKit.acmp (g := (mkF m 29 #[rv a0r, rv a1r] [(.ref sU), (.ref a1r)])) X15 hx rfl (x := (.ref a1r)) (y := (.ref sU)) rfl rfl (pc0 := 29) (pc' := 32) (same := true) rfl (hb hby own_d_prog_45_method_6_code_29) rfl (decide_eq_true ha16) (by decide) (by decide) k) ?_
          obtain ⟨T17, X17, e17, st17⟩ := getS2 X15 hx hZ hown (host := "") (Or.inl (hw _ (List.mem_of_getElem? (i := 15) rfl))) Via.refl e15 S_UNKNOWN (g := (mkF m 32 #[rv a0r, rv a1r] [])) rfl (hb hby own_d_prog_45_method_6_code_32)
          refine own_go (T' := T17) (g' := (mkF m 35 #[rv a0r, rv a1r] [(.ref sU)])) (st17) ?_
          refine own_go (T' := T17) (g' := (mkF m 41 #[rv a0r, rv a1r] [(.ref sU)])) (fun t k => XS.goto X17.here hx rfl (pc0 := 35) (pc' := 41) rfl (hb hby own_d_prog_45_method_6_code_35) (by decide) (by decide) k) ?_
          exact own_ret X17 hlk hx Bd.returns rfl (Or.inr (Or.inr (Or.inr (Or.inr ⟨rfl, rfl, rfl⟩)))) (hb hby own_d_prog_45_method_6_code_41) ⟨by simp only [Value.ref.injEq] at *; simp [own_op, *], rfl, e17⟩ (by decide) (by decide)
        · refine own_go (T' := T15) (g' := (mkF m 38 #[rv a0r, rv a1r] [])) (fun t k => Jvm.RoadKit.acmp (g := (mkF m 29 #[rv a0r, rv a1r] [(.ref sU), (.ref a1r)])) X15 hx rfl (x := (.ref a1r)) (y := (.ref sU)) rfl rfl (pc0 := 29) (pc' := 38) (same := false) rfl (hb hby own_d_prog_45_method_6_code_29) rfl (decide_eq_false ha16) (by decide) (by decide) k) ?_
          obtain ⟨T18, X18, e18, st18⟩ := getS2 X15 hx hZ hown (host := "") (Or.inl (hw _ (List.mem_of_getElem? (i := 17) rfl))) Via.refl e15 S_FALSE (g := (mkF m 38 #[rv a0r, rv a1r] [])) rfl (hb hby own_d_prog_45_method_6_code_38)
          refine own_go (T' := T18) (g' := (mkF m 41 #[rv a0r, rv a1r] [(.ref sF)])) (st18) ?_
          exact own_ret X18 hlk hx Bd.returns rfl (Or.inr (Or.inr (Or.inr (Or.inr ⟨rfl, rfl, rfl⟩)))) (hb hby own_d_prog_45_method_6_code_41) ⟨by simp only [Value.ref.injEq] at *; simp [own_op, *], rfl, e18⟩ (by decide) (by decide)

theorem own_d_method_3_code_0 : decode method_3_code 0 = .ok (.aload_n 0, 1) := by decide +kernel
theorem own_d_method_3_code_1 : decode method_3_code 1 = .ok (.getstatic 7, 3) := by decide +kernel
theorem own_d_method_3_code_4 : decode method_3_code 4 = .ok (.if_acmp .ne 5, 3) := by decide +kernel
theorem own_d_method_3_code_7 : decode method_3_code 7 = .ok (.iconst 0, 1) := by decide +kernel
theorem own_d_method_3_code_8 : decode method_3_code 8 = .ok (.ireturn, 1) := by decide +kernel
theorem own_d_method_3_code_9 : decode method_3_code 9 = .ok (.aload_n 0, 1) := by decide +kernel
theorem own_d_method_3_code_10 : decode method_3_code 10 = .ok (.getstatic 13, 3) := by decide +kernel
theorem own_d_method_3_code_13 : decode method_3_code 13 = .ok (.if_acmp .ne 5, 3) := by decide +kernel
theorem own_d_method_3_code_16 : decode method_3_code 16 = .ok (.iconst 1, 1) := by decide +kernel
theorem own_d_method_3_code_17 : decode method_3_code 17 = .ok (.ireturn, 1) := by decide +kernel
theorem own_d_method_3_code_18 : decode method_3_code 18 = .ok (.aload_n 0, 1) := by decide +kernel
theorem own_d_method_3_code_19 : decode method_3_code 19 = .ok (.getstatic 16, 3) := by decide +kernel
theorem own_d_method_3_code_22 : decode method_3_code 22 = .ok (.if_acmp .ne 5, 3) := by decide +kernel
theorem own_d_method_3_code_25 : decode method_3_code 25 = .ok (.iconst 2, 1) := by decide +kernel
theorem own_d_method_3_code_26 : decode method_3_code 26 = .ok (.ireturn, 1) := by decide +kernel
theorem own_d_method_3_code_27 : decode method_3_code 27 = .ok (.iconst (-1), 1) := by decide +kernel
theorem own_d_method_3_code_28 : decode method_3_code 28 = .ok (.ireturn, 1) := by decide +kernel
def Q_own_rrank (a0r sF sU sT : Addr) (h0 : Heap) (n0 : Nat) (v : Option Value) (h : Heap) (L : List Loc) : Prop := v = some (.int (own_rank sF sU sT a0r)) ∧ L = [] ∧ h = h0
set_option maxRecDepth 65536 in
set_option maxHeartbeats 40000000 in
theorem own_rrank (l : Launch) (Z : State) (a0 : Array Value) (hw : ∀ d ∈ tables_1, d.before a0 Z = true) (ws : List Jvm.Cond) (a0r sF sU sT : Addr) (h0 : Heap) (n0 : Nat) (Z0 : n0 ≤ h0.size) (S_FALSE : Sta Z h0 "com/example/tierwright/tierwright/pmml/Truth" "FALSE" "Lcom/example/tierwright/tierwright/pmml/Truth;" (.ref sF)) (S_UNKNOWN : Sta Z h0 "com/example/tierwright/tierwright/pmml/Truth" "UNKNOWN" "Lcom/example/tierwright/tierwright/pmml/Truth;" (.ref sU)) (S_TRUE : Sta Z h0 "com/example/tierwright/tierwright/pmml/Truth" "TRUE" "Lcom/example/tierwright/tierwright/pmml/Truth;" (.ref sT)) :
    MetFree l (⟨"com/example/tierwright/tierwright/pmml/TruthOrPinLaw", "rank", "(Lcom/example/tierwright/tierwright/pmml/Truth;)I"⟩ : MethodName) (head1 (Jvm.Cond.code (⟨"com/example/tierwright/tierwright/pmml/TruthOrPinLaw", "rank", "(Lcom/example/tierwright/tierwright/pmml/Truth;)I"⟩ : MethodName) method_3_code 1 (some .int) :: ws) ({ frames := 0, cells := 0, slots := 0, locals := 0 } : Room)) (fun au Uu => au = #[(.ref a0r)] ∧ Z.Warmed39 Uu.vm ∧ Uu.heap = h0) (fun _ _ _ _ _ => True) (fun _ Uu ou Uw => ∃ vu Lu, ou = .returned vu ∧ Q_own_rrank a0r sF sU sT h0 n0 vu Uw.heap Lu ∧ FrameEnd Uu ou Uw Lu ({ frames := 0, cells := 0, slots := 0, locals := 0 } : Room).cells ({ frames := 0, cells := 0, slots := 0, locals := 0 } : Room).slots) := by
  refine MetFree.of_bodySF (plainFor_of_name (by first | (simp [plainName, overriddenIn]; done) | decide +kernel)) hisR ?_
  intro p e s m args below meth c s₁ Bd hml0 hP hK
  obtain ⟨rfl, hZ, hh⟩ := hP
  have hx := Bd.exec
  have hby := Bd.bytes
  have hlk := Bd.notSynchronized
  have hml : c.maxLocals = 1 := hml0
  have hown : s.vm.findClass "com/example/tierwright/tierwright/pmml/TruthOrPinLaw" = some m.cls := findClass_of_methodNamed Bd.named
  have hnm := (name_of_methodNamed Bd.named Bd.method).1
  have X0 : Stand p l e ({ frames := 0, cells := 0, slots := 0, locals := 0 } : Room) s m #[(.ref a0r)] below meth c s₁ [] 0 0 := Stand.of_body Bd
  have e0 : s₁.heap = h0 := by rw [← hh, Bd.state]; rfl
  have N0 := Fr.nil n0
  show own_Ends p e below s₁ (entryFrame m #[(.ref a0r)] 1) (fun ou Uw => ∃ vu Lu, ou = .returned vu ∧ Q_own_rrank a0r sF sU sT h0 n0 vu Uw.heap Lu ∧ FrameEnd s ou Uw Lu ({ frames := 0, cells := 0, slots := 0, locals := 0 } : Room).cells ({ frames := 0, cells := 0, slots := 0, locals := 0 } : Room).slots)
  refine own_start (g' := (mkF m 0 #[rv a0r] [])) (by first | (simp [entryFrame, mkF, argsToLocals, Value.category, iv, rv]; done) | rfl) ?_
  refine own_go (T' := s₁) (g' := (mkF m 1 #[rv a0r] [(.ref a0r)])) (fun t k => XS.aloadN X0.here hx rfl (hb hby own_d_method_3_code_0) rfl rfl k) ?_
  obtain ⟨T19, X19, e19, st19⟩ := getS2 X0 hx hZ hown (host := "") (Or.inl (hw _ (List.mem_of_getElem? (i := 5) rfl))) Via.refl e0 S_FALSE (g := (mkF m 1 #[rv a0r] [(.ref a0r)])) rfl (hb hby own_d_method_3_code_1)
  refine own_go (T' := T19) (g' := (mkF m 4 #[rv a0r] [(.ref sF), (.ref a0r)])) (st19) ?_
  by_cases ha20 : ((.ref a0r) : Value) = (.ref sF)
  · refine own_go (T' := T19) (g' := (mkF m 7 #[rv a0r] [])) (fun t k => Jvm.RoadKit.acmp (g := (mkF m 4 #[rv a0r] [(.ref sF), (.ref a0r)])) X19 hx rfl (x := (.ref a0r)) (y := (.ref sF)) rfl rfl (pc0 := 4) (pc' := 7) (same := true) rfl (hb hby own_d_method_3_code_4) rfl (decide_eq_true ha20) (by decide) (by decide) k) ?_
    refine own_go (T' := T19) (g' := (mkF m 8 #[rv a0r] [(.int (0 : Int32))])) (fun t k => XS.iconst X19.here hx rfl (hb hby own_d_method_3_code_7) k) ?_
    exact own_ret X19 hlk hx Bd.returns rfl (Or.inl ⟨rfl, Or.inl rfl, _, rfl⟩) (hb hby own_d_method_3_code_8) ⟨by unfold own_rank; rw [if_pos (Value.ref.inj ha20)], rfl, e19⟩ (by decide) (by decide)
  · refine own_go (T' := T19) (g' := (mkF m 9 #[rv a0r] [])) (fun t k => Jvm.RoadKit.acmp (g := (mkF m 4 #[rv a0r] [(.ref sF), (.ref a0r)])) X19 hx rfl (x := (.ref a0r)) (y := (.ref sF)) rfl rfl (pc0 := 4) (pc' := 9) (same := false) rfl (hb hby own_d_method_3_code_4) rfl (decide_eq_false ha20) (by decide) (by decide) k) ?_
    refine own_go (T' := T19) (g' := (mkF m 10 #[rv a0r] [(.ref a0r)])) (fun t k => XS.aloadN X19.here hx rfl (hb hby own_d_method_3_code_9) rfl rfl k) ?_
    obtain ⟨T21, X21, e21, st21⟩ := getS2 X19 hx hZ hown (host := "") (Or.inl (hw _ (List.mem_of_getElem? (i := 26) rfl))) Via.refl e19 S_UNKNOWN (g := (mkF m 10 #[rv a0r] [(.ref a0r)])) rfl (hb hby own_d_method_3_code_10)
    refine own_go (T' := T21) (g' := (mkF m 13 #[rv a0r] [(.ref sU), (.ref a0r)])) (st21) ?_
    by_cases ha22 : ((.ref a0r) : Value) = (.ref sU)
    · refine own_go (T' := T21) (g' := (mkF m 16 #[rv a0r] [])) (fun t k => Jvm.RoadKit.acmp (g := (mkF m 13 #[rv a0r] [(.ref sU), (.ref a0r)])) X21 hx rfl (x := (.ref a0r)) (y := (.ref sU)) rfl rfl (pc0 := 13) (pc' := 16) (same := true) rfl (hb hby own_d_method_3_code_13) rfl (decide_eq_true ha22) (by decide) (by decide) k) ?_
      refine own_go (T' := T21) (g' := (mkF m 17 #[rv a0r] [(.int (1 : Int32))])) (fun t k => XS.iconst X21.here hx rfl (hb hby own_d_method_3_code_16) k) ?_
      exact own_ret X21 hlk hx Bd.returns rfl (Or.inl ⟨rfl, Or.inl rfl, _, rfl⟩) (hb hby own_d_method_3_code_17) ⟨by unfold own_rank; rw [if_neg (fun q => ha20 (congrArg Value.ref q)), if_pos (Value.ref.inj ha22)], rfl, e21⟩ (by decide) (by decide)
    · refine own_go (T' := T21) (g' := (mkF m 18 #[rv a0r] [])) (fun t k => Jvm.RoadKit.acmp (g := (mkF m 13 #[rv a0r] [(.ref sU), (.ref a0r)])) X21 hx rfl (x := (.ref a0r)) (y := (.ref sU)) rfl rfl (pc0 := 13) (pc' := 18) (same := false) rfl (hb hby own_d_method_3_code_13) rfl (decide_eq_false ha22) (by decide) (by decide) k) ?_
      refine own_go (T' := T21) (g' := (mkF m 19 #[rv a0r] [(.ref a0r)])) (fun t k => XS.aloadN X21.here hx rfl (hb hby own_d_method_3_code_18) rfl rfl k) ?_
      obtain ⟨T23, X23, e23, st23⟩ := getS2 X21 hx hZ hown (host := "") (Or.inl (hw _ (List.mem_of_getElem? (i := 25) rfl))) Via.refl e21 S_TRUE (g := (mkF m 19 #[rv a0r] [(.ref a0r)])) rfl (hb hby own_d_method_3_code_19)
      refine own_go (T' := T23) (g' := (mkF m 22 #[rv a0r] [(.ref sT), (.ref a0r)])) (st23) ?_
      by_cases ha24 : ((.ref a0r) : Value) = (.ref sT)
      · refine own_go (T' := T23) (g' := (mkF m 25 #[rv a0r] [])) (fun t k => Jvm.RoadKit.acmp (g := (mkF m 22 #[rv a0r] [(.ref sT), (.ref a0r)])) X23 hx rfl (x := (.ref a0r)) (y := (.ref sT)) rfl rfl (pc0 := 22) (pc' := 25) (same := true) rfl (hb hby own_d_method_3_code_22) rfl (decide_eq_true ha24) (by decide) (by decide) k) ?_
        refine own_go (T' := T23) (g' := (mkF m 26 #[rv a0r] [(.int (2 : Int32))])) (fun t k => XS.iconst X23.here hx rfl (hb hby own_d_method_3_code_25) k) ?_
        exact own_ret X23 hlk hx Bd.returns rfl (Or.inl ⟨rfl, Or.inl rfl, _, rfl⟩) (hb hby own_d_method_3_code_26) ⟨by unfold own_rank; rw [if_neg (fun q => ha20 (congrArg Value.ref q)), if_neg (fun q => ha22 (congrArg Value.ref q)), if_pos (Value.ref.inj ha24)], rfl, e23⟩ (by decide) (by decide)
      · refine own_go (T' := T23) (g' := (mkF m 27 #[rv a0r] [])) (fun t k => Jvm.RoadKit.acmp (g := (mkF m 22 #[rv a0r] [(.ref sT), (.ref a0r)])) X23 hx rfl (x := (.ref a0r)) (y := (.ref sT)) rfl rfl (pc0 := 22) (pc' := 27) (same := false) rfl (hb hby own_d_method_3_code_22) rfl (decide_eq_false ha24) (by decide) (by decide) k) ?_
        refine own_go (T' := T23) (g' := (mkF m 28 #[rv a0r] [(.int (-1 : Int32))])) (fun t k => XS.iconst X23.here hx rfl (hb hby own_d_method_3_code_27) k) ?_
        exact own_ret X23 hlk hx Bd.returns rfl (Or.inl ⟨rfl, Or.inl rfl, _, rfl⟩) (hb hby own_d_method_3_code_28) ⟨by unfold own_rank; rw [if_neg (fun q => ha20 (congrArg Value.ref q)), if_neg (fun q => ha22 (congrArg Value.ref q)), if_neg (fun q => ha24 (congrArg Value.ref q))], rfl, e23⟩ (by decide) (by decide)

theorem own_d_jdk_29_method_65_code_0 : decode jdk_29_method_65_code 0 = .ok (.iload_n 0, 1) := by decide +kernel
theorem own_d_jdk_29_method_65_code_1 : decode jdk_29_method_65_code 1 = .ok (.iload_n 1, 1) := by decide +kernel
theorem own_d_jdk_29_method_65_code_2 : decode jdk_29_method_65_code 2 = .ok (.if_icmp .lt 7, 3) := by decide +kernel
theorem own_d_jdk_29_method_65_code_5 : decode jdk_29_method_65_code 5 = .ok (.iload_n 0, 1) := by decide +kernel
theorem own_d_jdk_29_method_65_code_6 : decode jdk_29_method_65_code 6 = .ok (.goto 4, 3) := by decide +kernel
theorem own_d_jdk_29_method_65_code_9 : decode jdk_29_method_65_code 9 = .ok (.iload_n 1, 1) := by decide +kernel
theorem own_d_jdk_29_method_65_code_10 : decode jdk_29_method_65_code 10 = .ok (.ireturn, 1) := by decide +kernel
def Q_own_rmm (p0 p1 : Int32) (h0 : Heap) (n0 : Nat) (v : Option Value) (h : Heap) (L : List Loc) : Prop := v = some (.int (own_mm p0 p1)) ∧ L = [] ∧ h = h0
set_option maxRecDepth 65536 in
set_option maxHeartbeats 40000000 in
theorem own_rmm (l : Launch) (Z : State) (a0 : Array Value) (hw : ∀ d ∈ tables_1, d.before a0 Z = true) (ws : List Jvm.Cond) (p0 p1 : Int32) (h0 : Heap) (n0 : Nat) (Z0 : n0 ≤ h0.size)  :
    MetFree l (⟨"java/lang/Math", "max", "(II)I"⟩ : MethodName) (head1 (Jvm.Cond.code (⟨"java/lang/Math", "max", "(II)I"⟩ : MethodName) jdk_29_method_65_code 2 (some .int) :: ws) ({ frames := 0, cells := 0, slots := 0, locals := 0 } : Room)) (fun au Uu => au = #[(.int p0), (.int p1)] ∧ Z.Warmed39 Uu.vm ∧ Uu.heap = h0) (fun _ _ _ _ _ => True) (fun _ Uu ou Uw => ∃ vu Lu, ou = .returned vu ∧ Q_own_rmm p0 p1 h0 n0 vu Uw.heap Lu ∧ FrameEnd Uu ou Uw Lu ({ frames := 0, cells := 0, slots := 0, locals := 0 } : Room).cells ({ frames := 0, cells := 0, slots := 0, locals := 0 } : Room).slots) := by
  refine MetFree.of_bodySF (Jvm.Free.JP.mathPlain rfl (by decide +kernel)) hisR ?_
  intro p e s m args below meth c s₁ Bd hml0 hP hK
  obtain ⟨rfl, hZ, hh⟩ := hP
  have hx := Bd.exec
  have hby := Bd.bytes
  have hlk := Bd.notSynchronized
  have hml : c.maxLocals = 2 := hml0
  have hown : s.vm.findClass "java/lang/Math" = some m.cls := findClass_of_methodNamed Bd.named
  have hnm := (name_of_methodNamed Bd.named Bd.method).1
  have X0 : Stand p l e ({ frames := 0, cells := 0, slots := 0, locals := 0 } : Room) s m #[(.int p0), (.int p1)] below meth c s₁ [] 0 0 := Stand.of_body Bd
  have e0 : s₁.heap = h0 := by rw [← hh, Bd.state]; rfl
  have N0 := Fr.nil n0
  show own_Ends p e below s₁ (entryFrame m #[(.int p0), (.int p1)] 2) (fun ou Uw => ∃ vu Lu, ou = .returned vu ∧ Q_own_rmm p0 p1 h0 n0 vu Uw.heap Lu ∧ FrameEnd s ou Uw Lu ({ frames := 0, cells := 0, slots := 0, locals := 0 } : Room).cells ({ frames := 0, cells := 0, slots := 0, locals := 0 } : Room).slots)
  refine own_start (g' := (mkF m 0 #[iv p0, iv p1] [])) (by first | (simp [entryFrame, mkF, argsToLocals, Value.category, iv, rv]; done) | rfl) ?_
  refine own_go (T' := s₁) (g' := (mkF m 1 #[iv p0, iv p1] [(.int p0)])) (fun t k => XS.iloadN X0.here hx rfl (hb hby own_d_jdk_29_method_65_code_0) rfl k) ?_
  refine own_go (T' := s₁) (g' := (mkF m 2 #[iv p0, iv p1] [(.int p1), (.int p0)])) (fun t k => XS.iloadN X0.here hx rfl (hb hby own_d_jdk_29_method_65_code_1) rfl k) ?_
  by_cases hc25 : p0 < p1
  · refine own_go (T' := s₁) (g' := (mkF m 9 #[iv p0, iv p1] [])) (fun t k => XS.icmpYes X0.here hx rfl (pc0 := 2) (pc' := 9) rfl (hb hby own_d_jdk_29_method_65_code_2) rfl (tlt hc25).1 (by decide) (by decide) k) ?_
    refine own_go (T' := s₁) (g' := (mkF m 10 #[iv p0, iv p1] [(.int p1)])) (fun t k => XS.iloadN X0.here hx rfl (hb hby own_d_jdk_29_method_65_code_9) rfl k) ?_
    exact own_ret X0 hlk hx Bd.returns rfl (Or.inl ⟨rfl, Or.inl rfl, _, rfl⟩) (hb hby own_d_jdk_29_method_65_code_10) ⟨by simp [own_mm, hc25], rfl, e0⟩ (by decide) (by decide)
  · refine own_go (T' := s₁) (g' := (mkF m 5 #[iv p0, iv p1] [])) (fun t k => XS.icmpNo X0.here hx rfl (hb hby own_d_jdk_29_method_65_code_2) rfl (flt hc25).1 k) ?_
    refine own_go (T' := s₁) (g' := (mkF m 6 #[iv p0, iv p1] [(.int p0)])) (fun t k => XS.iloadN X0.here hx rfl (hb hby own_d_jdk_29_method_65_code_5) rfl k) ?_
    refine own_go (T' := s₁) (g' := (mkF m 10 #[iv p0, iv p1] [(.int p0)])) (fun t k => XS.goto X0.here hx rfl (pc0 := 6) (pc' := 10) rfl (hb hby own_d_jdk_29_method_65_code_6) (by decide) (by decide) k) ?_
    exact own_ret X0 hlk hx Bd.returns rfl (Or.inl ⟨rfl, Or.inl rfl, _, rfl⟩) (hb hby own_d_jdk_29_method_65_code_10) ⟨by simp [own_mm, hc25], rfl, e0⟩ (by decide) (by decide)

theorem own_pd0 : parseMethodDescriptor "(I)Lcom/example/tierwright/tierwright/pmml/Truth;" = some ⟨[.int], some (.object "com/example/tierwright/tierwright/pmml/Truth")⟩ := by decide +kernel
theorem own_pd3 : parseMethodDescriptor "(II)I" = some ⟨[.int, .int], some .int⟩ := by decide +kernel
theorem own_pd2 : parseMethodDescriptor "(Lcom/example/tierwright/tierwright/pmml/Truth;)I" = some ⟨[(.object "com/example/tierwright/tierwright/pmml/Truth")], some .int⟩ := by decide +kernel
theorem own_pd1 : parseMethodDescriptor "(Lcom/example/tierwright/tierwright/pmml/Truth;)Lcom/example/tierwright/tierwright/pmml/Truth;" = some ⟨[(.object "com/example/tierwright/tierwright/pmml/Truth")], some (.object "com/example/tierwright/tierwright/pmml/Truth")⟩ := by decide +kernel
def Q_own_law (h0 : Heap) (n0 : Nat) (v : Option Value) (h : Heap) (L : List Loc) : Prop := v = some (.int 1) ∧ Fr n0 L
set_option maxRecDepth 65536 in
set_option maxHeartbeats 40000000 in
theorem own_law (l : Launch) (Z : State) (a0 : Array Value) (hw : ∀ d ∈ tables_1, d.before a0 Z = true) (ws : List Jvm.Cond) (x0 x1 : Int32) (sF sU sT : Addr) (h0 : Heap) (n0 : Nat) (Z0 : n0 ≤ h0.size) (S_FALSE : Sta Z h0 "com/example/tierwright/tierwright/pmml/Truth" "FALSE" "Lcom/example/tierwright/tierwright/pmml/Truth;" (.ref sF)) (S_UNKNOWN : Sta Z h0 "com/example/tierwright/tierwright/pmml/Truth" "UNKNOWN" "Lcom/example/tierwright/tierwright/pmml/Truth;" (.ref sU)) (S_TRUE : Sta Z h0 "com/example/tierwright/tierwright/pmml/Truth" "TRUE" "Lcom/example/tierwright/tierwright/pmml/Truth;" (.ref sT)) (E_FALSE : Exa Z h0 sF "com/example/tierwright/tierwright/pmml/Truth") (E_UNKNOWN : Exa Z h0 sU "com/example/tierwright/tierwright/pmml/Truth") (E_TRUE : Exa Z h0 sT "com/example/tierwright/tierwright/pmml/Truth") (d1 : sF ≠ sU) (d2 : sF ≠ sT) (d3 : sU ≠ sT) :
    MetFree l x (head1 (Jvm.Cond.code x code maxLocals ret :: ws) room_1) (fun au Uu => au = #[(.int x0), (.int x1)] ∧ Z.Warmed39 Uu.vm ∧ Uu.heap = h0) (fun _ _ _ _ _ => True) (fun _ Uu ou Uw => ∃ vu Lu, ou = .returned vu ∧ Q_own_law h0 n0 vu Uw.heap Lu ∧ FrameEnd Uu ou Uw Lu 0 0) := by
  refine MetFree.of_bodySF (plainFor_of_name (by first | (simp [plainName, overriddenIn]; done) | decide +kernel)) hisR ?_
  intro p e s m args below meth c s₁ Bd hml0 hP hK
  obtain ⟨rfl, hZ, hh⟩ := hP
  have hx := Bd.exec
  have hby := Bd.bytes
  have hlk := Bd.notSynchronized
  have hml : c.maxLocals = 7 := hml0
  have hown : s.vm.findClass "com/example/tierwright/tierwright/pmml/TruthOrPinLaw" = some m.cls := findClass_of_methodNamed Bd.named
  have hnm := (name_of_methodNamed Bd.named Bd.method).1
  have X0 : Stand p l e room_1 s m #[(.int x0), (.int x1)] below meth c s₁ [] 0 0 := Stand.of_body Bd
  have e0 : s₁.heap = h0 := by rw [← hh, Bd.state]; rfl
  have N0 := Fr.nil n0
  show own_Ends p e below s₁ (entryFrame m #[(.int x0), (.int x1)] maxLocals) (fun ou Uw => ∃ vu Lu, ou = .returned vu ∧ Q_own_law h0 n0 vu Uw.heap Lu ∧ FrameEnd s ou Uw Lu 0 0)
  refine own_start (g' := (mkF m 0 #[iv x0, iv x1, .unset, .unset, .unset, .unset, .unset] [])) (by first | (simp [entryFrame, mkF, argsToLocals, Value.category, iv, rv, maxLocals]; done) | rfl) ?_
  refine own_go (T' := s₁) (g' := (mkF m 1 #[iv x0, iv x1, .unset, .unset, .unset, .unset, .unset] [(.int x0)])) (fun t k => XS.iloadN X0.here hx rfl (hb hby at_0) rfl k) ?_
  refine own_go (T' := s₁) (g' := (mkF m 3 #[iv x0, iv x1, .unset, .unset, .unset, .unset, .unset] [(.int (2147483647 : Int32)), (.int x0)])) (fun t k => X0.ldcInt hx hown (mvT hZ (hw _ (List.mem_of_getElem? (i := 0) rfl))) (g := (mkF m 1 #[iv x0, iv x1, .unset, .unset, .unset, .unset, .unset] [(.int x0)])) rfl (hb hby at_1) _ k) ?_
  refine own_go (T' := s₁) (g' := (mkF m 4 #[iv x0, iv x1, .unset, .unset, .unset, .unset, .unset] [(.int (x0 &&& (2147483647 : Int32)))])) (fun t k => XS.iand X0.here hx rfl (hb hby at_3) rfl k) ?_
  refine own_go (T' := s₁) (g' := (mkF m 5 #[iv x0, iv x1, .unset, .unset, .unset, .unset, .unset] [(.int (3 : Int32)), (.int (x0 &&& (2147483647 : Int32)))])) (fun t k => XS.iconst X0.here hx rfl (hb hby at_4) k) ?_
  refine own_go (T' := s₁) (g' := (mkF m 6 #[iv x0, iv x1, .unset, .unset, .unset, .unset, .unset] [(.int ((x0 &&& (2147483647 : Int32)) % (3 : Int32)))])) (fun t k => Jvm.RoadKit.iremM X0 hx rfl (hb hby at_5) rfl (by decide) k) ?_
  refine own_go (T' := s₁) (g' := (mkF m 7 #[iv x0, iv x1, iv ((x0 &&& (2147483647 : Int32)) % (3 : Int32)), .unset, .unset, .unset, .unset] [])) (fun t k => XS.istoreN X0.here hx rfl (hb hby at_6) rfl (l' := #[iv x0, iv x1, iv ((x0 &&& (2147483647 : Int32)) % (3 : Int32)), .unset, .unset, .unset, .unset]) rfl k) ?_
  refine own_go (T' := s₁) (g' := (mkF m 8 #[iv x0, iv x1, iv ((x0 &&& (2147483647 : Int32)) % (3 : Int32)), .unset, .unset, .unset, .unset] [(.int x1)])) (fun t k => XS.iloadN X0.here hx rfl (hb hby at_7) rfl k) ?_
  refine own_go (T' := s₁) (g' := (mkF m 10 #[iv x0, iv x1, iv ((x0 &&& (2147483647 : Int32)) % (3 : Int32)), .unset, .unset, .unset, .unset] [(.int (2147483647 : Int32)), (.int x1)])) (fun t k => X0.ldcInt hx hown (mvT hZ (hw _ (List.mem_of_getElem? (i := 0) rfl))) (g := (mkF m 8 #[iv x0, iv x1, iv ((x0 &&& (2147483647 : Int32)) % (3 : Int32)), .unset, .unset, .unset, .unset] [(.int x1)])) rfl (hb hby at_8) _ k) ?_
  refine own_go (T' := s₁) (g' := (mkF m 11 #[iv x0, iv x1, iv ((x0 &&& (2147483647 : Int32)) % (3 : Int32)), .unset, .unset, .unset, .unset] [(.int (x1 &&& (2147483647 : Int32)))])) (fun t k => XS.iand X0.here hx rfl (hb hby at_10) rfl k) ?_
  refine own_go (T' := s₁) (g' := (mkF m 12 #[iv x0, iv x1, iv ((x0 &&& (2147483647 : Int32)) % (3 : Int32)), .unset, .unset, .unset, .unset] [(.int (3 : Int32)), (.int (x1 &&& (2147483647 : Int32)))])) (fun t k => XS.iconst X0.here hx rfl (hb hby at_11) k) ?_
  refine own_go (T' := s₁) (g' := (mkF m 13 #[iv x0, iv x1, iv ((x0 &&& (2147483647 : Int32)) % (3 : Int32)), .unset, .unset, .unset, .unset] [(.int ((x1 &&& (2147483647 : Int32)) % (3 : Int32)))])) (fun t k => Jvm.RoadKit.iremM X0 hx rfl (hb hby at_12) rfl (by decide) k) ?_
  refine own_go (T' := s₁) (g' := (mkF m 14 #[iv x0, iv x1, iv ((x0 &&& (2147483647 : Int32)) % (3 : Int32)), iv ((x1 &&& (2147483647 : Int32)) % (3 : Int32)), .unset, .unset, .unset] [])) (fun t k => XS.istoreN X0.here hx rfl (hb hby at_13) rfl (l' := #[iv x0, iv x1, iv ((x0 &&& (2147483647 : Int32)) % (3 : Int32)), iv ((x1 &&& (2147483647 : Int32)) % (3 : Int32)), .unset, .unset, .unset]) rfl k) ?_
  refine own_go (T' := s₁) (g' := (mkF m 15 #[iv x0, iv x1, iv ((x0 &&& (2147483647 : Int32)) % (3 : Int32)), iv ((x1 &&& (2147483647 : Int32)) % (3 : Int32)), .unset, .unset, .unset] [(.int ((x0 &&& (2147483647 : Int32)) % (3 : Int32)))])) (fun t k => XS.iloadN X0.here hx rfl (hb hby at_14) rfl k) ?_
  obtain ⟨_, _, ⟨T26, L26, k26, n26⟩, -, X26, ⟨Lc26, hQ26, l26, y26, z26⟩, st26⟩ := Jvm.LawKit.callS X0 hx (y := (⟨"com/example/tierwright/tierwright/pmml/TruthOrPinLaw", "pick", "(I)Lcom/example/tierwright/tierwright/pmml/Truth;"⟩ : MethodName)) hown (mvT hZ (hw _ (List.mem_of_getElem? (i := 1) rfl))) (mvT hZ (hw _ (List.mem_of_getElem? (i := 2) rfl))) (mvT hZ (hw _ (List.mem_of_getElem? (i := 3) rfl))) (mvT hZ (hw _ (List.mem_of_getElem? (i := 4) rfl))) (by decide) (backOf (W := 0) (own_rpick l Z a0 hw [] ((x0 &&& (2147483647 : Int32)) % (3 : Int32)) sF sU sT h0 n0 Z0 S_FALSE S_UNKNOWN S_TRUE) hZ (hw _ (List.mem_of_getElem? (i := 4) rfl)) (hw _ (List.mem_of_getElem? (i := 3) rfl)) (by decide) (by decide)) (g := (mkF m 15 #[iv x0, iv x1, iv ((x0 &&& (2147483647 : Int32)) % (3 : Int32)), iv ((x1 &&& (2147483647 : Int32)) % (3 : Int32)), .unset, .unset, .unset] [(.int ((x0 &&& (2147483647 : Int32)) % (3 : Int32)))])) rfl (by rw [hml]; rfl) (argsL := [(.int ((x0 &&& (2147483647 : Int32)) % (3 : Int32)))]) (rest := []) (lenOf own_pd0 rfl) rfl (by show 2 * 0 + _ ≤ _; exact Nat.le_of_eq rfl) (hb hby at_15) (fun _ _ => ⟨rfl, e0, (by decide : 0 + 0 ≤ _), (by decide : 0 + 0 ≤ _)⟩)
  dsimp only [Pt.U, Pt.locs, Pt.cells, Pt.slots] at X26 l26 y26 z26 st26 hQ26
  subst l26 y26 z26
  obtain ⟨rfl, rfl, e26⟩ := hQ26
  have E26q : T26.heap = h0 := e26
  have N26 := Fr.app N0 (Fr.nil n0)
  refine own_go (T' := T26) (g' := (mkF m 18 #[iv x0, iv x1, iv ((x0 &&& (2147483647 : Int32)) % (3 : Int32)), iv ((x1 &&& (2147483647 : Int32)) % (3 : Int32)), .unset, .unset, .unset] [(.ref (own_pick sF sU sT ((x0 &&& (2147483647 : Int32)) % (3 : Int32))))])) (st26) ?_
  refine own_go (T' := T26) (g' := (mkF m 20 #[iv x0, iv x1, iv ((x0 &&& (2147483647 : Int32)) % (3 : Int32)), iv ((x1 &&& (2147483647 : Int32)) % (3 : Int32)), rv (own_pick sF sU sT ((x0 &&& (2147483647 : Int32)) % (3 : Int32))), .unset, .unset] [])) (fun t k => XS.astore X26.here hx rfl (hb hby at_18) rfl rfl (l' := #[iv x0, iv x1, iv ((x0 &&& (2147483647 : Int32)) % (3 : Int32)), iv ((x1 &&& (2147483647 : Int32)) % (3 : Int32)), rv (own_pick sF sU sT ((x0 &&& (2147483647 : Int32)) % (3 : Int32))), .unset, .unset]) rfl k) ?_
  refine own_go (T' := T26) (g' := (mkF m 21 #[iv x0, iv x1, iv ((x0 &&& (2147483647 : Int32)) % (3 : Int32)), iv ((x1 &&& (2147483647 : Int32)) % (3 : Int32)), rv (own_pick sF sU sT ((x0 &&& (2147483647 : Int32)) % (3 : Int32))), .unset, .unset] [(.int ((x1 &&& (2147483647 : Int32)) % (3 : Int32)))])) (fun t k => XS.iloadN X26.here hx rfl (hb hby at_20) rfl k) ?_
  obtain ⟨_, _, ⟨T27, L27, k27, n27⟩, -, X27, ⟨Lc27, hQ27, l27, y27, z27⟩, st27⟩ := Jvm.LawKit.callS X26 hx (y := (⟨"com/example/tierwright/tierwright/pmml/TruthOrPinLaw", "pick", "(I)Lcom/example/tierwright/tierwright/pmml/Truth;"⟩ : MethodName)) hown (mvT hZ (hw _ (List.mem_of_getElem? (i := 1) rfl))) (mvT hZ (hw _ (List.mem_of_getElem? (i := 2) rfl))) (mvT hZ (hw _ (List.mem_of_getElem? (i := 3) rfl))) (mvT hZ (hw _ (List.mem_of_getElem? (i := 4) rfl))) (by decide) (backOf (W := 0) (own_rpick l Z a0 hw [] ((x1 &&& (2147483647 : Int32)) % (3 : Int32)) sF sU sT h0 n0 Z0 S_FALSE S_UNKNOWN S_TRUE) hZ (hw _ (List.mem_of_getElem? (i := 4) rfl)) (hw _ (List.mem_of_getElem? (i := 3) rfl)) (by decide) (by decide)) (g := (mkF m 21 #[iv x0, iv x1, iv ((x0 &&& (2147483647 : Int32)) % (3 : Int32)), iv ((x1 &&& (2147483647 : Int32)) % (3 : Int32)), rv (own_pick sF sU sT ((x0 &&& (2147483647 : Int32)) % (3 : Int32))), .unset, .unset] [(.int ((x1 &&& (2147483647 : Int32)) % (3 : Int32)))])) rfl (by rw [hml]; rfl) (argsL := [(.int ((x1 &&& (2147483647 : Int32)) % (3 : Int32)))]) (rest := []) (lenOf own_pd0 rfl) rfl (by show 2 * 0 + _ ≤ _; exact Nat.le_of_eq rfl) (hb hby at_21) (fun _ _ => ⟨rfl, E26q, (by decide : 0 + 0 ≤ _), (by decide : 0 + 0 ≤ _)⟩)
  dsimp only [Pt.U, Pt.locs, Pt.cells, Pt.slots] at X27 l27 y27 z27 st27 hQ27
  subst l27 y27 z27
  obtain ⟨rfl, rfl, e27⟩ := hQ27
  have E27q : T27.heap = h0 := e27
  have N27 := Fr.app N26 (Fr.nil n0)
  refine own_go (T' := T27) (g' := (mkF m 24 #[iv x0, iv x1, iv ((x0 &&& (2147483647 : Int32)) % (3 : Int32)), iv ((x1 &&& (2147483647 : Int32)) % (3 : Int32)), rv (own_pick sF sU sT ((x0 &&& (2147483647 : Int32)) % (3 : Int32))), .unset, .unset] [(.ref (own_pick sF sU sT ((x1 &&& (2147483647 : Int32)) % (3 : Int32))))])) (st27) ?_
  refine own_go (T' := T27) (g' := (mkF m 26 #[iv x0, iv x1, iv ((x0 &&& (2147483647 : Int32)) % (3 : Int32)), iv ((x1 &&& (2147483647 : Int32)) % (3 : Int32)), rv (own_pick sF sU sT ((x0 &&& (2147483647 : Int32)) % (3 : Int32))), rv (own_pick sF sU sT ((x1 &&& (2147483647 : Int32)) % (3 : Int32))), .unset] [])) (fun t k => XS.astore X27.here hx rfl (hb hby at_24) rfl rfl (l' := #[iv x0, iv x1, iv ((x0 &&& (2147483647 : Int32)) % (3 : Int32)), iv ((x1 &&& (2147483647 : Int32)) % (3 : Int32)), rv (own_pick sF sU sT ((x0 &&& (2147483647 : Int32)) % (3 : Int32))), rv (own_pick sF sU sT ((x1 &&& (2147483647 : Int32)) % (3 : Int32))), .unset]) rfl k) ?_
  refine own_go (T' := T27) (g' := (mkF m 28 #[iv x0, iv x1, iv ((x0 &&& (2147483647 : Int32)) % (3 : Int32)), iv ((x1 &&& (2147483647 : Int32)) % (3 : Int32)), rv (own_pick sF sU sT ((x0 &&& (2147483647 : Int32)) % (3 : Int32))), rv (own_pick sF sU sT ((x1 &&& (2147483647 : Int32)) % (3 : Int32))), .unset] [(.ref (own_pick sF sU sT ((x0 &&& (2147483647 : Int32)) % (3 : Int32))))])) (fun t k => XS.aload X27.here hx rfl (hb hby at_26) rfl rfl k) ?_
  refine own_go (T' := T27) (g' := (mkF m 30 #[iv x0, iv x1, iv ((x0 &&& (2147483647 : Int32)) % (3 : Int32)), iv ((x1 &&& (2147483647 : Int32)) % (3 : Int32)), rv (own_pick sF sU sT ((x0 &&& (2147483647 : Int32)) % (3 : Int32))), rv (own_pick sF sU sT ((x1 &&& (2147483647 : Int32)) % (3 : Int32))), .unset] [(.ref (own_pick sF sU sT ((x1 &&& (2147483647 : Int32)) % (3 : Int32)))), (.ref (own_pick sF sU sT ((x0 &&& (2147483647 : Int32)) % (3 : Int32))))])) (fun t k => XS.aload X27.here hx rfl (hb hby at_28) rfl rfl k) ?_
  obtain ⟨cq28, kq28, q28a, q28b, q28c⟩ := isOf hZ E27q (own_pex _ E_FALSE E_UNKNOWN E_TRUE)
  obtain ⟨_, _, ⟨T28, L28, k28, n28⟩, -, X28, ⟨Lc28, hQ28, l28, y28, z28⟩, st28⟩ := X27.virtualBack hx (y := (⟨"com/example/tierwright/tierwright/pmml/Truth", "or", "(Lcom/example/tierwright/tierwright/pmml/Truth;)Lcom/example/tierwright/tierwright/pmml/Truth;"⟩ : MethodName)) (z := (⟨"com/example/tierwright/tierwright/pmml/Truth", "or", "(Lcom/example/tierwright/tierwright/pmml/Truth;)Lcom/example/tierwright/tierwright/pmml/Truth;"⟩ : MethodName)) hown (mvT hZ (hw _ (List.mem_of_getElem? (i := 8) rfl))) (mvT hZ (hw _ (List.mem_of_getElem? (i := 9) rfl))) (notFace_of_selects (args := #[]) (mvT hZ (hw _ (List.mem_of_getElem? (i := 11) rfl)))) (mvT hZ (hw _ (List.mem_of_getElem? (i := 11) rfl))) (mvT hZ (hw _ (List.mem_of_getElem? (i := 10) rfl))) (by decide) (backOf (W := 0) (own_rop l Z a0 hw [] (own_pick sF sU sT ((x0 &&& (2147483647 : Int32)) % (3 : Int32))) (own_pick sF sU sT ((x1 &&& (2147483647 : Int32)) % (3 : Int32))) sF sU sT h0 n0 Z0 S_FALSE S_UNKNOWN S_TRUE) hZ (hw _ (List.mem_of_getElem? (i := 12) rfl)) (hw _ (List.mem_of_getElem? (i := 6) rfl)) (by decide) (by decide)) q28a q28c (g := (mkF m 30 #[iv x0, iv x1, iv ((x0 &&& (2147483647 : Int32)) % (3 : Int32)), iv ((x1 &&& (2147483647 : Int32)) % (3 : Int32)), rv (own_pick sF sU sT ((x0 &&& (2147483647 : Int32)) % (3 : Int32))), rv (own_pick sF sU sT ((x1 &&& (2147483647 : Int32)) % (3 : Int32))), .unset] [(.ref (own_pick sF sU sT ((x1 &&& (2147483647 : Int32)) % (3 : Int32)))), (.ref (own_pick sF sU sT ((x0 &&& (2147483647 : Int32)) % (3 : Int32))))])) rfl (by rw [hml]; rfl) (Steps.refl _) (argsL := [(.ref (own_pick sF sU sT ((x1 &&& (2147483647 : Int32)) % (3 : Int32))))]) (rest := []) (lenOf own_pd1 rfl) rfl (by show 2 * 0 + _ ≤ _; exact Nat.le_of_eq rfl) (hb hby at_30) (fun _ _ => ⟨rfl, E27q, (by decide : 0 + 0 ≤ _), (by decide : 0 + 0 ≤ _)⟩)
  dsimp only [Pt.U, Pt.locs, Pt.cells, Pt.slots] at X28 l28 y28 z28 st28 hQ28
  subst l28 y28 z28
  obtain ⟨rfl, rfl, e28⟩ := hQ28
  have E28q : T28.heap = h0 := e28
  have N28 := Fr.app N27 (Fr.nil n0)
  refine own_go (T' := T28) (g' := (mkF m 33 #[iv x0, iv x1, iv ((x0 &&& (2147483647 : Int32)) % (3 : Int32)), iv ((x1 &&& (2147483647 : Int32)) % (3 : Int32)), rv (own_pick sF sU sT ((x0 &&& (2147483647 : Int32)) % (3 : Int32))), rv (own_pick sF sU sT ((x1 &&& (2147483647 : Int32)) % (3 : Int32))), .unset] [(.ref (own_op sF sU sT (own_pick sF sU sT ((x0 &&& (2147483647 : Int32)) % (3 : Int32))) (own_pick sF sU sT ((x1 &&& (2147483647 : Int32)) % (3 : Int32)))))])) (fun t k => st28.trans k) ?_
  refine own_go (T' := T28) (g' := (mkF m 35 #[iv x0, iv x1, iv ((x0 &&& (2147483647 : Int32)) % (3 : Int32)), iv ((x1 &&& (2147483647 : Int32)) % (3 : Int32)), rv (own_pick sF sU sT ((x0 &&& (2147483647 : Int32)) % (3 : Int32))), rv (own_pick sF sU sT ((x1 &&& (2147483647 : Int32)) % (3 : Int32))), rv (own_op sF sU sT (own_pick sF sU sT ((x0 &&& (2147483647 : Int32)) % (3 : Int32))) (own_pick sF sU sT ((x1 &&& (2147483647 : Int32)) % (3 : Int32))))] [])) (fun t k => XS.astore X28.here hx rfl (hb hby at_33) rfl rfl (l' := #[iv x0, iv x1, iv ((x0 &&& (2147483647 : Int32)) % (3 : Int32)), iv ((x1 &&& (2147483647 : Int32)) % (3 : Int32)), rv (own_pick sF sU sT ((x0 &&& (2147483647 : Int32)) % (3 : Int32))), rv (own_pick sF sU sT ((x1 &&& (2147483647 : Int32)) % (3 : Int32))), rv (own_op sF sU sT (own_pick sF sU sT ((x0 &&& (2147483647 : Int32)) % (3 : Int32))) (own_pick sF sU sT ((x1 &&& (2147483647 : Int32)) % (3 : Int32))))]) rfl k) ?_
  refine own_go (T' := T28) (g' := (mkF m 37 #[iv x0, iv x1, iv ((x0 &&& (2147483647 : Int32)) % (3 : Int32)), iv ((x1 &&& (2147483647 : Int32)) % (3 : Int32)), rv (own_pick sF sU sT ((x0 &&& (2147483647 : Int32)) % (3 : Int32))), rv (own_pick sF sU sT ((x1 &&& (2147483647 : Int32)) % (3 : Int32))), rv (own_op sF sU sT (own_pick sF sU sT ((x0 &&& (2147483647 : Int32)) % (3 : Int32))) (own_pick sF sU sT ((x1 &&& (2147483647 : Int32)) % (3 : Int32))))] [(.ref (own_op sF sU sT (own_pick sF sU sT ((x0 &&& (2147483647 : Int32)) % (3 : Int32))) (own_pick sF sU sT ((x1 &&& (2147483647 : Int32)) % (3 : Int32)))))])) (fun t k => XS.aload X28.here hx rfl (hb hby at_35) rfl rfl k) ?_
  obtain ⟨_, _, ⟨T29, L29, k29, n29⟩, -, X29, ⟨Lc29, hQ29, l29, y29, z29⟩, st29⟩ := Jvm.LawKit.callS X28 hx (y := (⟨"com/example/tierwright/tierwright/pmml/TruthOrPinLaw", "rank", "(Lcom/example/tierwright/tierwright/pmml/Truth;)I"⟩ : MethodName)) hown (mvT hZ (hw _ (List.mem_of_getElem? (i := 18) rfl))) (mvT hZ (hw _ (List.mem_of_getElem? (i := 19) rfl))) (mvT hZ (hw _ (List.mem_of_getElem? (i := 3) rfl))) (mvT hZ (hw _ (List.mem_of_getElem? (i := 20) rfl))) (by decide) (backOf (W := 0) (own_rrank l Z a0 hw [] (own_op sF sU sT (own_pick sF sU sT ((x0 &&& (2147483647 : Int32)) % (3 : Int32))) (own_pick sF sU sT ((x1 &&& (2147483647 : Int32)) % (3 : Int32)))) sF sU sT h0 n0 Z0 S_FALSE S_UNKNOWN S_TRUE) hZ (hw _ (List.mem_of_getElem? (i := 20) rfl)) (hw _ (List.mem_of_getElem? (i := 3) rfl)) (by decide) (by decide)) (g := (mkF m 37 #[iv x0, iv x1, iv ((x0 &&& (2147483647 : Int32)) % (3 : Int32)), iv ((x1 &&& (2147483647 : Int32)) % (3 : Int32)), rv (own_pick sF sU sT ((x0 &&& (2147483647 : Int32)) % (3 : Int32))), rv (own_pick sF sU sT ((x1 &&& (2147483647 : Int32)) % (3 : Int32))), rv (own_op sF sU sT (own_pick sF sU sT ((x0 &&& (2147483647 : Int32)) % (3 : Int32))) (own_pick sF sU sT ((x1 &&& (2147483647 : Int32)) % (3 : Int32))))] [(.ref (own_op sF sU sT (own_pick sF sU sT ((x0 &&& (2147483647 : Int32)) % (3 : Int32))) (own_pick sF sU sT ((x1 &&& (2147483647 : Int32)) % (3 : Int32)))))])) rfl (by rw [hml]; rfl) (argsL := [(.ref (own_op sF sU sT (own_pick sF sU sT ((x0 &&& (2147483647 : Int32)) % (3 : Int32))) (own_pick sF sU sT ((x1 &&& (2147483647 : Int32)) % (3 : Int32)))))]) (rest := []) (lenOf own_pd2 rfl) rfl (by show 2 * 0 + _ ≤ _; exact Nat.le_of_eq rfl) (hb hby at_37) (fun _ _ => ⟨rfl, E28q, (by decide : 0 + 0 ≤ _), (by decide : 0 + 0 ≤ _)⟩)
  dsimp only [Pt.U, Pt.locs, Pt.cells, Pt.slots] at X29 l29 y29 z29 st29 hQ29
  subst l29 y29 z29
  obtain ⟨rfl, rfl, e29⟩ := hQ29
  have E29q : T29.heap = h0 := e29
  have N29 := Fr.app N28 (Fr.nil n0)
  refine own_go (T' := T29) (g' := (mkF m 40 #[iv x0, iv x1, iv ((x0 &&& (2147483647 : Int32)) % (3 : Int32)), iv ((x1 &&& (2147483647 : Int32)) % (3 : Int32)), rv (own_pick sF sU sT ((x0 &&& (2147483647 : Int32)) % (3 : Int32))), rv (own_pick sF sU sT ((x1 &&& (2147483647 : Int32)) % (3 : Int32))), rv (own_op sF sU sT (own_pick sF sU sT ((x0 &&& (2147483647 : Int32)) % (3 : Int32))) (own_pick sF sU sT ((x1 &&& (2147483647 : Int32)) % (3 : Int32))))] [(.int (own_rank sF sU sT (own_op sF sU sT (own_pick sF sU sT ((x0 &&& (2147483647 : Int32)) % (3 : Int32))) (own_pick sF sU sT ((x1 &&& (2147483647 : Int32)) % (3 : Int32))))))])) (st29) ?_
  refine own_go (T' := T29) (g' := (mkF m 41 #[iv x0, iv x1, iv ((x0 &&& (2147483647 : Int32)) % (3 : Int32)), iv ((x1 &&& (2147483647 : Int32)) % (3 : Int32)), rv (own_pick sF sU sT ((x0 &&& (2147483647 : Int32)) % (3 : Int32))), rv (own_pick sF sU sT ((x1 &&& (2147483647 : Int32)) % (3 : Int32))), rv (own_op sF sU sT (own_pick sF sU sT ((x0 &&& (2147483647 : Int32)) % (3 : Int32))) (own_pick sF sU sT ((x1 &&& (2147483647 : Int32)) % (3 : Int32))))] [(.int ((x0 &&& (2147483647 : Int32)) % (3 : Int32))), (.int (own_rank sF sU sT (own_op sF sU sT (own_pick sF sU sT ((x0 &&& (2147483647 : Int32)) % (3 : Int32))) (own_pick sF sU sT ((x1 &&& (2147483647 : Int32)) % (3 : Int32))))))])) (fun t k => XS.iloadN X29.here hx rfl (hb hby at_40) rfl k) ?_
  refine own_go (T' := T29) (g' := (mkF m 42 #[iv x0, iv x1, iv ((x0 &&& (2147483647 : Int32)) % (3 : Int32)), iv ((x1 &&& (2147483647 : Int32)) % (3 : Int32)), rv (own_pick sF sU sT ((x0 &&& (2147483647 : Int32)) % (3 : Int32))), rv (own_pick sF sU sT ((x1 &&& (2147483647 : Int32)) % (3 : Int32))), rv (own_op sF sU sT (own_pick sF sU sT ((x0 &&& (2147483647 : Int32)) % (3 : Int32))) (own_pick sF sU sT ((x1 &&& (2147483647 : Int32)) % (3 : Int32))))] [(.int ((x1 &&& (2147483647 : Int32)) % (3 : Int32))), (.int ((x0 &&& (2147483647 : Int32)) % (3 : Int32))), (.int (own_rank sF sU sT (own_op sF sU sT (own_pick sF sU sT ((x0 &&& (2147483647 : Int32)) % (3 : Int32))) (own_pick sF sU sT ((x1 &&& (2147483647 : Int32)) % (3 : Int32))))))])) (fun t k => XS.iloadN X29.here hx rfl (hb hby at_41) rfl k) ?_
  obtain ⟨_, _, ⟨T30, L30, k30, n30⟩, -, X30, ⟨Lc30, hQ30, l30, y30, z30⟩, st30⟩ := Jvm.LawKit.callS X29 hx (y := (⟨"java/lang/Math", "max", "(II)I"⟩ : MethodName)) hown (mvT hZ (hw _ (List.mem_of_getElem? (i := 21) rfl))) (mvT hZ (hw _ (List.mem_of_getElem? (i := 22) rfl))) (mvT hZ (hw _ (List.mem_of_getElem? (i := 23) rfl))) (mvT hZ (hw _ (List.mem_of_getElem? (i := 24) rfl))) (by decide) (backOf (W := 1) (own_rmm l Z a0 hw [] ((x0 &&& (2147483647 : Int32)) % (3 : Int32)) ((x1 &&& (2147483647 : Int32)) % (3 : Int32)) h0 n0 Z0) hZ (hw _ (List.mem_of_getElem? (i := 24) rfl)) (hw _ (List.mem_of_getElem? (i := 23) rfl)) (by decide) (by decide)) (g := (mkF m 42 #[iv x0, iv x1, iv ((x0 &&& (2147483647 : Int32)) % (3 : Int32)), iv ((x1 &&& (2147483647 : Int32)) % (3 : Int32)), rv (own_pick sF sU sT ((x0 &&& (2147483647 : Int32)) % (3 : Int32))), rv (own_pick sF sU sT ((x1 &&& (2147483647 : Int32)) % (3 : Int32))), rv (own_op sF sU sT (own_pick sF sU sT ((x0 &&& (2147483647 : Int32)) % (3 : Int32))) (own_pick sF sU sT ((x1 &&& (2147483647 : Int32)) % (3 : Int32))))] [(.int ((x1 &&& (2147483647 : Int32)) % (3 : Int32))), (.int ((x0 &&& (2147483647 : Int32)) % (3 : Int32))), (.int (own_rank sF sU sT (own_op sF sU sT (own_pick sF sU sT ((x0 &&& (2147483647 : Int32)) % (3 : Int32))) (own_pick sF sU sT ((x1 &&& (2147483647 : Int32)) % (3 : Int32))))))])) rfl (by rw [hml]; rfl) (argsL := [(.int ((x0 &&& (2147483647 : Int32)) % (3 : Int32))), (.int ((x1 &&& (2147483647 : Int32)) % (3 : Int32)))]) (rest := [(.int (own_rank sF sU sT (own_op sF sU sT (own_pick sF sU sT ((x0 &&& (2147483647 : Int32)) % (3 : Int32))) (own_pick sF sU sT ((x1 &&& (2147483647 : Int32)) % (3 : Int32))))))]) (lenOf own_pd3 rfl) rfl (by show 2 * 0 + _ ≤ _; exact Nat.le_of_eq rfl) (hb hby at_42) (fun _ _ => ⟨rfl, E29q, (by decide : 0 + 0 ≤ _), (by decide : 0 + 0 ≤ _)⟩)
  dsimp only [Pt.U, Pt.locs, Pt.cells, Pt.slots] at X30 l30 y30 z30 st30 hQ30
  subst l30 y30 z30
  obtain ⟨rfl, rfl, e30⟩ := hQ30
  have E30q : T30.heap = h0 := e30
  have N30 := Fr.app N29 (Fr.nil n0)
  refine own_go (T' := T30) (g' := (mkF m 45 #[iv x0, iv x1, iv ((x0 &&& (2147483647 : Int32)) % (3 : Int32)), iv ((x1 &&& (2147483647 : Int32)) % (3 : Int32)), rv (own_pick sF sU sT ((x0 &&& (2147483647 : Int32)) % (3 : Int32))), rv (own_pick sF sU sT ((x1 &&& (2147483647 : Int32)) % (3 : Int32))), rv (own_op sF sU sT (own_pick sF sU sT ((x0 &&& (2147483647 : Int32)) % (3 : Int32))) (own_pick sF sU sT ((x1 &&& (2147483647 : Int32)) % (3 : Int32))))] [(.int (own_mm ((x0 &&& (2147483647 : Int32)) % (3 : Int32)) ((x1 &&& (2147483647 : Int32)) % (3 : Int32)))), (.int (own_rank sF sU sT (own_op sF sU sT (own_pick sF sU sT ((x0 &&& (2147483647 : Int32)) % (3 : Int32))) (own_pick sF sU sT ((x1 &&& (2147483647 : Int32)) % (3 : Int32))))))])) (st30) ?_
  refine own_go (T' := T30) (g' := (mkF m 48 #[iv x0, iv x1, iv ((x0 &&& (2147483647 : Int32)) % (3 : Int32)), iv ((x1 &&& (2147483647 : Int32)) % (3 : Int32)), rv (own_pick sF sU sT ((x0 &&& (2147483647 : Int32)) % (3 : Int32))), rv (own_pick sF sU sT ((x1 &&& (2147483647 : Int32)) % (3 : Int32))), rv (own_op sF sU sT (own_pick sF sU sT ((x0 &&& (2147483647 : Int32)) % (3 : Int32))) (own_pick sF sU sT ((x1 &&& (2147483647 : Int32)) % (3 : Int32))))] [])) (fun t k => XS.icmpNo X30.here hx rfl (hb hby at_45) rfl (teq (own_key d1 d2 d3 (own_mod3 x0) (own_mod3 x1) : ((own_rank sF sU sT (own_op sF sU sT (own_pick sF sU sT ((x0 &&& (2147483647 : Int32)) % (3 : Int32))) (own_pick sF sU sT ((x1 &&& (2147483647 : Int32)) % (3 : Int32))))) = (own_mm ((x0 &&& (2147483647 : Int32)) % (3 : Int32)) ((x1 &&& (2147483647 : Int32)) % (3 : Int32)))))).2 k) ?_
  refine own_go (T' := T30) (g' := (mkF m 49 #[iv x0, iv x1, iv ((x0 &&& (2147483647 : Int32)) % (3 : Int32)), iv ((x1 &&& (2147483647 : Int32)) % (3 : Int32)), rv (own_pick sF sU sT ((x0 &&& (2147483647 : Int32)) % (3 : Int32))), rv (own_pick sF sU sT ((x1 &&& (2147483647 : Int32)) % (3 : Int32))), rv (own_op sF sU sT (own_pick sF sU sT ((x0 &&& (2147483647 : Int32)) % (3 : Int32))) (own_pick sF sU sT ((x1 &&& (2147483647 : Int32)) % (3 : Int32))))] [(.int (1 : Int32))])) (fun t k => XS.iconst X30.here hx rfl (hb hby at_48) k) ?_
  refine own_go (T' := T30) (g' := (mkF m 53 #[iv x0, iv x1, iv ((x0 &&& (2147483647 : Int32)) % (3 : Int32)), iv ((x1 &&& (2147483647 : Int32)) % (3 : Int32)), rv (own_pick sF sU sT ((x0 &&& (2147483647 : Int32)) % (3 : Int32))), rv (own_pick sF sU sT ((x1 &&& (2147483647 : Int32)) % (3 : Int32))), rv (own_op sF sU sT (own_pick sF sU sT ((x0 &&& (2147483647 : Int32)) % (3 : Int32))) (own_pick sF sU sT ((x1 &&& (2147483647 : Int32)) % (3 : Int32))))] [(.int (1 : Int32))])) (fun t k => XS.goto X30.here hx rfl (pc0 := 49) (pc' := 53) rfl (hb hby at_49) (by decide) (by decide) k) ?_
  exact own_ret X30 hlk hx Bd.returns rfl (Or.inl ⟨rfl, Or.inr (Or.inl rfl), _, rfl⟩) (hb hby at_53) (by first | exact ⟨rfl, N30⟩ | (rw [Fr] at *; exact ⟨rfl, by simpa using N30⟩)) (by decide) (by decide)

set_option maxRecDepth 65536 in
set_option maxHeartbeats 40000000 in
theorem own_comes {Post : Tables → Env → Array Value → State → Outcome → State → Prop} (hpost : ∀ tb e args s v u, (limb_1_1.after args s (.returned v) u = true ∧ limb_1_2.after args s (.returned v) u = true ∧ True) → FrameEnd s (.returned v) u (Jvm.fieldLocs frame_1_writes args s ++ Jvm.arrayLocs frame_1_arrays args s ++ Jvm.staticLocs frame_1_statics s) 0 0 → Post tb e args s (.returned v) u) :
    ArmFor flags0 classFile x code maxLocals ret World_1 tables_1 room_1 Calls_1 rest_1 Pre_1 Post := by
  intro l hfl _ _ p e ha hc hk s m args below hf hA hF happ hP
  obtain ⟨hcalls, hrest, hpre⟩ := hP
  obtain ⟨-, -, -, hnamed, -, -, -, hat⟩ := (Spec.applies_iff hf).mp happ
  obtain ⟨hg, hn⟩ := and_e (Cond.before_iff.mp (show (Jvm.Cond.and given_1 narrow_1).before args s = true from hpre))
  obtain ⟨hg0, hg1⟩ := and_e hg
  obtain ⟨ha0, hr0⟩ := and_e hg1
  obtain ⟨w0, w1, rfl⟩ : ∃ w0 w1 : Value, args = #[w0, w1] := by
    have hs : args.size = 2 := by simpa [Cond.value, given_1] using hg0
    obtain ⟨L⟩ := args
    match L, hs with
    | [w0, w1], _ => exact ⟨w0, w1, rfl⟩
  have hw := fun d (hd : d ∈ tables_1) => atoms_spec (ws := Jvm.Cond.code x code maxLocals ret :: tables_1) hat d (List.mem_cons_of_mem _ hd)
  have hfit : Fit s := fun {y c} hc i hi => by
    obtain ⟨ha, rfl⟩ := Array.getElem?_eq_some_iff.mp hc
    have q := List.all_eq_true.mp ((Array.all_eq_true_iff_forall_mem.mp hF) _ (Array.getElem_mem ha)) i (List.mem_range.mpr hi)
    simpa [Array.getElem?_eq_getElem hi] using q
  obtain ⟨x0, ex0⟩ := is_v ha0
  obtain rfl : w0 = (.int x0) := Option.some.inj ex0
  obtain ⟨x1, ex1⟩ := is_v hr0
  obtain rfl : w1 = (.int x1) := Option.some.inj ex1
  obtain ⟨hn0, hq0⟩ := and_e hn
  obtain ⟨hn1, hq1⟩ := and_e hq0
  obtain ⟨hn2, hq2⟩ := and_e hq1
  obtain ⟨hn3, hq3⟩ := and_e hq2
  obtain ⟨hn4, hq4⟩ := and_e hq3
  obtain ⟨a_FALSE, v_FALSE⟩ := exa_v hn0
  have E_FALSE : Exa s s.heap a_FALSE "com/example/tierwright/tierwright/pmml/Truth" := Exa.start v_FALSE hn0
  have S_FALSE : Sta s s.heap "com/example/tierwright/tierwright/pmml/Truth" "FALSE" "Lcom/example/tierwright/tierwright/pmml/Truth;" (.ref a_FALSE) := Sta.start v_FALSE (Or.inr ⟨(hw _ (List.mem_of_getElem? (i := 6) rfl)), (hw _ (List.mem_of_getElem? (i := 7) rfl))⟩)
  obtain ⟨a_TRUE, v_TRUE⟩ := exa_v hn1
  have E_TRUE : Exa s s.heap a_TRUE "com/example/tierwright/tierwright/pmml/Truth" := Exa.start v_TRUE hn1
  have S_TRUE : Sta s s.heap "com/example/tierwright/tierwright/pmml/Truth" "TRUE" "Lcom/example/tierwright/tierwright/pmml/Truth;" (.ref a_TRUE) := Sta.start v_TRUE (Or.inr ⟨(hw _ (List.mem_of_getElem? (i := 6) rfl)), (hw _ (List.mem_of_getElem? (i := 14) rfl))⟩)
  obtain ⟨a_UNKNOWN, v_UNKNOWN⟩ := exa_v hn4
  have E_UNKNOWN : Exa s s.heap a_UNKNOWN "com/example/tierwright/tierwright/pmml/Truth" := Exa.start v_UNKNOWN hn4
  have S_UNKNOWN : Sta s s.heap "com/example/tierwright/tierwright/pmml/Truth" "UNKNOWN" "Lcom/example/tierwright/tierwright/pmml/Truth;" (.ref a_UNKNOWN) := Sta.start v_UNKNOWN (Or.inr ⟨(hw _ (List.mem_of_getElem? (i := 6) rfl)), (hw _ (List.mem_of_getElem? (i := 16) rfl))⟩)
  have O_FALSE := own_fld v_FALSE hn2
  have O_TRUE := own_fld v_TRUE hn3
  have O_UNKNOWN := own_fld v_UNKNOWN hq4
  obtain ⟨n, o, h1, h2, h3, _, L, rfl, ⟨rfl, N⟩, hq⟩ := own_law l s _ hw tables_1 x0 x1 a_FALSE a_UNKNOWN a_TRUE s.heap s.heap.size (Nat.le_refl _) S_FALSE S_UNKNOWN S_TRUE E_FALSE E_UNKNOWN E_TRUE (O_FALSE.ne O_UNKNOWN (by decide)) (O_FALSE.ne O_TRUE (by decide)) (O_UNKNOWN.ne O_TRUE (by decide)) p e ha hc hk s m _ below hf ((Spec.applies_iff_loose hf).mp happ).1 ⟨rfl, State.Warmed39.refl s, rfl⟩ trivial
  refine ⟨n, _, h1, h2, h3, hpost _ _ _ _ _ _ ⟨Cond.after_iff.mpr rfl, Cond.after_iff.mpr (eq_i res_at (Term.int_eval (1)) rfl), trivial⟩ ⟨hq.1, hq.2.1, (hq.2.2.sift fun y hy => Or.inr (N y hy)).mono (by decide) (by decide)⟩⟩
theorem main_1_1 : Claimed_1_1 := own_comes fun _ _ _ _ _ _ h hF => ⟨h.1, hF⟩
theorem main_1_2 : Claimed_1_2 := own_comes fun _ _ _ _ _ _ h hF => ⟨h.2.1, hF⟩
end Jvm.Pilot.@@N@@
namespace Jvm.Pilot.@@N@@
open Jvm Jvm.ClassFile Sem Op Lib Jvm.Free Jvm.Stand Jvm.Pilot.@@N@@.Jvm.D
/-! MADE BY PROGRAM (witnessworld.py) out of the Statement's table words and the real class files: 13 classes; the members and pool entries that the words name. The judged class is class 1, her method 3. -/
namespace start1
open Jvm.ClassFile
def u (s : String) : CpInfo := .utf8 (stringToUtf16 s)
/-- a pool by its gaps: so many unusable entries, then the entry; so many at the end -/
def gap : Nat → List CpInfo → List CpInfo
  | 0, r => r
  | n + 1, r => .unusable :: gap n r
def poolList (es : List (Nat × CpInfo)) (last : Nat) : List CpInfo := es.foldr (fun e r => gap e.1 (e.2 :: r)) (gap last [])
def pool (es : List (Nat × CpInfo)) (last : Nat) : Array CpInfo := ⟨poolList es last⟩
def fileOf (pool : Array CpInfo) (this : Nat) (attrs : Array Attribute := #[]) (ms : Array MethodInfo := #[]) (fl : Nat := 33) (sup : Nat := 0) (ifs : Array Nat := #[]) (fds : Array FieldInfo := #[]) : ClassFile where
  minorVersion := 0
  majorVersion := 65
  constantPool := pool
  accessFlags := fl
  thisClass := this
  superClass := sup
  interfaces := ifs
  fields := fds
  methods := ms
  attributes := attrs
def plain (name : String) (sup : Option ClassId) : Class where
  name := name
  kind := .ordinary
  loader := none
  accessFlags := 33
  super := sup
  interfaces := #[]
  cf := none
  fields := #[]
  methods := #[]
  instanceTypes := #[]
  staticTypes := #[]
  resolved := #[]
  callSites := []
  init := .initialized
  statics := none
  mirror := none

def pool0 : Array CpInfo := pool [(5, u "<init>"), (0, u "()V"), (1, .class_ 10), (1, u "java/lang/Object")] 113

def k0m0 : Method := { name := "<init>", desc := "()V", sig := { parameters := [], returnType := none }, accessFlags := 1, code := none }
/-- java/lang/Object -/
def k0 : Class := { plain "java/lang/Object" none with
  accessFlags := 33
  interfaces := #[]
  cf := some (fileOf pool0 8 #[] #[{ accessFlags := 1, nameIndex := 5, descriptorIndex := 6, attributes := #[] }] 33 0 #[] #[])
  fields := #[]
  methods := #[k0m0]
  instanceTypes := #[]
  staticTypes := #[]
  resolved := Array.replicate 124 none
  statics := none }

def pool1 : Array CpInfo := pool [(2, .class_ 4), (1, u "java/lang/Object"), (0, u "<init>"), (0, u "()V"), (0, .fieldref 8 9), (0, .class_ 10), (0, .nameAndType 11 12), (0, u "com/example/tierwright/tierwright/pmml/Truth"), (0, u "FALSE"), (0, u "Lcom/example/tierwright/tierwright/pmml/Truth;"), (0, .fieldref 8 14), (0, .nameAndType 15 12), (0, u "UNKNOWN"), (0, .fieldref 8 17), (0, .nameAndType 18 12), (0, u "TRUE"), (0, .integer 2147483647), (0, .methodref 21 22), (0, .class_ 23), (0, .nameAndType 24 25), (0, u "com/example/tierwright/tierwright/pmml/TruthOrPinLaw"), (0, u "pick"), (0, u "(I)Lcom/example/tierwright/tierwright/pmml/Truth;"), (0, .methodref 8 27), (0, .nameAndType 28 29), (0, u "or"), (0, u "(Lcom/example/tierwright/tierwright/pmml/Truth;)Lcom/example/tierwright/tierwright/pmml/Truth;"), (0, .methodref 21 31), (0, .nameAndType 32 33), (0, u "rank"), (0, u "(Lcom/example/tierwright/tierwright/pmml/Truth;)I"), (0, .methodref 35 36), (0, .class_ 37), (0, .nameAndType 38 39), (0, u "java/lang/Math"), (0, u "max"), (0, u "(II)I"), (3, u "law"), (0, u "(II)Z")] 2

def k1m0 : Method := { name := "<init>", desc := "()V", sig := { parameters := [], returnType := none }, accessFlags := 2, code := none }
def k1c1 : Code := { maxStack := 2, maxLocals := 1, code := method_2_code, exceptionTable := #[], attributes := #[] }
def k1m1 : Method := { name := "pick", desc := "(I)Lcom/example/tierwright/tierwright/pmml/Truth;", sig := { parameters := [.int], returnType := some (.object "com/example/tierwright/tierwright/pmml/Truth") }, accessFlags := 10, code := some k1c1 }
def k1c2 : Code := { maxStack := 2, maxLocals := 1, code := method_3_code, exceptionTable := #[], attributes := #[] }
def k1m2 : Method := { name := "rank", desc := "(Lcom/example/tierwright/tierwright/pmml/Truth;)I", sig := { parameters := [(.object "com/example/tierwright/tierwright/pmml/Truth")], returnType := some .int }, accessFlags := 10, code := some k1c2 }
def k1c3 : Code := { maxStack := 3, maxLocals := 7, code := code, exceptionTable := #[], attributes := #[] }
def k1m3 : Method := { name := "law", desc := "(II)Z", sig := { parameters := [.int, .int], returnType := some .boolean }, accessFlags := 9, code := some k1c3 }
/-- com/example/tierwright/tierwright/pmml/TruthOrPinLaw -/
def k1 : Class := { plain "com/example/tierwright/tierwright/pmml/TruthOrPinLaw" (some 0) with
  accessFlags := 49
  interfaces := #[]
  cf := some (fileOf pool1 21 #[] #[{ accessFlags := 2, nameIndex := 5, descriptorIndex := 6, attributes := #[] }, { accessFlags := 10, nameIndex := 24, descriptorIndex := 25, attributes := #[] }, { accessFlags := 10, nameIndex := 32, descriptorIndex := 33, attributes := #[] }, { accessFlags := 9, nameIndex := 43, descriptorIndex := 44, attributes := #[] }] 49 2 #[] #[])
  fields := #[]
  methods := #[k1m0, k1m1, k1m2, k1m3]
  instanceTypes := #[]
  staticTypes := #[]
  resolved := Array.replicate 47 none
  statics := none }

def pool2 : Array CpInfo := pool [(1, .class_ 2), (0, u "java/lang/constant/Constable"), (0, .class_ 4), (0, u "java/lang/Object")] 6

/-- java/lang/constant/Constable -/
def k2 : Class := { plain "java/lang/constant/Constable" (some 0) with
  accessFlags := 1537
  interfaces := #[]
  cf := some (fileOf pool2 1 #[] #[] 1537 3 #[] #[])
  fields := #[]
  methods := #[]
  instanceTypes := #[]
  staticTypes := #[]
  resolved := Array.replicate 11 none
  statics := none }

def pool3 : Array CpInfo := pool [(1, .class_ 2), (0, u "java/lang/Comparable"), (0, .class_ 4), (0, u "java/lang/Object")] 7

/-- java/lang/Comparable -/
def k3 : Class := { plain "java/lang/Comparable" (some 0) with
  accessFlags := 1537
  interfaces := #[]
  cf := some (fileOf pool3 1 #[] #[] 1537 3 #[] #[])
  fields := #[]
  methods := #[]
  instanceTypes := #[]
  staticTypes := #[]
  resolved := Array.replicate 12 none
  statics := none }

def pool4 : Array CpInfo := pool [(1, .class_ 2), (0, u "java/io/Serializable"), (0, .class_ 4), (0, u "java/lang/Object")] 2

/-- java/io/Serializable -/
def k4 : Class := { plain "java/io/Serializable" (some 0) with
  accessFlags := 1537
  interfaces := #[]
  cf := some (fileOf pool4 1 #[] #[] 1537 3 #[] #[])
  fields := #[]
  methods := #[]
  instanceTypes := #[]
  staticTypes := #[]
  resolved := Array.replicate 7 none
  statics := none }

def pool5 : Array CpInfo := pool [(2, .class_ 4), (1, u "java/lang/Enum"), (0, u "name"), (0, u "Ljava/lang/String;"), (2, u "ordinal"), (0, u "I"), (1, .class_ 14), (1, u "java/lang/Object"), (4, u "hash"), (86, .class_ 108), (1, u "java/lang/Enum$EnumDesc"), (2, .class_ 112), (0, u "java/lang/constant/Constable"), (0, .class_ 114), (0, u "java/lang/Comparable"), (0, .class_ 116), (0, u "java/io/Serializable")] 87

/-- java/lang/Enum -/
def k5 : Class := { plain "java/lang/Enum" (some 0) with
  accessFlags := 1057
  interfaces := #[2, 3, 4]
  cf := some (fileOf pool5 2 #[.nestMembers #[106]] #[] 1057 12 #[111, 113, 115] #[{ accessFlags := 18, nameIndex := 5, descriptorIndex := 6, attributes := #[] }, { accessFlags := 18, nameIndex := 9, descriptorIndex := 10, attributes := #[] }, { accessFlags := 2, nameIndex := 19, descriptorIndex := 10, attributes := #[] }])
  fields := #[{ name := "name", type := (.object "java/lang/String"), accessFlags := 18, slot := 0, constantValue := 0 }, { name := "ordinal", type := .int, accessFlags := 18, slot := 1, constantValue := 0 }, { name := "hash", type := .int, accessFlags := 2, slot := 2, constantValue := 0 }]
  methods := #[]
  instanceTypes := #[(.object "java/lang/String"), .int, .int]
  staticTypes := #[]
  resolved := Array.replicate 204 none
  statics := none }

def pool6 : Array CpInfo := pool [(1, .class_ 2), (0, u "com/example/tierwright/tierwright/pmml/Truth"), (0, .fieldref 1 4), (0, .nameAndType 5 6), (0, u "TRUE"), (0, u "Lcom/example/tierwright/tierwright/pmml/Truth;"), (0, .fieldref 1 8), (0, .nameAndType 9 6), (0, u "FALSE"), (0, .fieldref 1 11), (0, .nameAndType 12 6), (0, u "UNKNOWN"), (2, u "$VALUES"), (0, u "[Lcom/example/tierwright/tierwright/pmml/Truth;"), (6, .class_ 25), (1, u "java/lang/Enum"), (27, u "(Lcom/example/tierwright/tierwright/pmml/Truth;)Lcom/example/tierwright/tierwright/pmml/Truth;"), (0, u "or")] 5

def k6c0 : Code := { maxStack := 2, maxLocals := 2, code := prog_45_method_6_code, exceptionTable := #[], attributes := #[] }
def k6m0 : Method := { name := "or", desc := "(Lcom/example/tierwright/tierwright/pmml/Truth;)Lcom/example/tierwright/tierwright/pmml/Truth;", sig := { parameters := [(.object "com/example/tierwright/tierwright/pmml/Truth")], returnType := some (.object "com/example/tierwright/tierwright/pmml/Truth") }, accessFlags := 0, code := some k6c0 }
/-- com/example/tierwright/tierwright/pmml/Truth -/
def k6 : Class := { plain "com/example/tierwright/tierwright/pmml/Truth" (some 5) with
  accessFlags := 16432
  interfaces := #[]
  cf := some (fileOf pool6 1 #[] #[{ accessFlags := 0, nameIndex := 54, descriptorIndex := 53, attributes := #[] }] 16432 23 #[] #[{ accessFlags := 16409, nameIndex := 5, descriptorIndex := 6, attributes := #[] }, { accessFlags := 16409, nameIndex := 9, descriptorIndex := 6, attributes := #[] }, { accessFlags := 16409, nameIndex := 12, descriptorIndex := 6, attributes := #[] }, { accessFlags := 4122, nameIndex := 15, descriptorIndex := 16, attributes := #[] }])
  fields := #[{ name := "TRUE", type := (.object "com/example/tierwright/tierwright/pmml/Truth"), accessFlags := 16409, slot := 0, constantValue := 0 }, { name := "FALSE", type := (.object "com/example/tierwright/tierwright/pmml/Truth"), accessFlags := 16409, slot := 1, constantValue := 0 }, { name := "UNKNOWN", type := (.object "com/example/tierwright/tierwright/pmml/Truth"), accessFlags := 16409, slot := 2, constantValue := 0 }, { name := "$VALUES", type := (.array (.object "com/example/tierwright/tierwright/pmml/Truth")), accessFlags := 4122, slot := 3, constantValue := 0 }]
  methods := #[k6m0]
  instanceTypes := #[(.object "java/lang/String"), .int, .int]
  staticTypes := #[(.object "com/example/tierwright/tierwright/pmml/Truth"), (.object "com/example/tierwright/tierwright/pmml/Truth"), (.object "com/example/tierwright/tierwright/pmml/Truth"), (.array (.object "com/example/tierwright/tierwright/pmml/Truth"))]
  resolved := Array.replicate 60 none
  statics := some 0 }

def pool7 : Array CpInfo := pool [(1, .class_ 2), (0, u "java/lang/Math"), (1, .class_ 6), (1, u "java/lang/Object"), (0, u "<init>"), (0, u "()V"), (89, .class_ 100), (1, u "java/lang/Math$RandomNumberGeneratorHolder"), (71, u "negativeZeroFloatBits"), (0, u "J"), (2, u "negativeZeroDoubleBits"), (21, u "max"), (46, u "$assertionsDisabled"), (0, u "Z"), (88, u "(II)I"), (2, u "twoToTheDoubleScaleDown"), (0, u "D"), (4, u "twoToTheDoubleScaleUp"), (9, u "E"), (3, u "PI"), (2, u "TAU"), (2, u "DEGREES_TO_RADIANS"), (0, u "RADIANS_TO_DEGREES")] 94

def k7m0 : Method := { name := "<init>", desc := "()V", sig := { parameters := [], returnType := none }, accessFlags := 2, code := none }
def k7c1 : Code := { maxStack := 2, maxLocals := 2, code := jdk_29_method_65_code, exceptionTable := #[], attributes := #[] }
def k7m1 : Method := { name := "max", desc := "(II)I", sig := { parameters := [.int, .int], returnType := some .int }, accessFlags := 9, code := some k7c1 }
/-- java/lang/Math -/
def k7 : Class := { plain "java/lang/Math" (some 0) with
  accessFlags := 49
  interfaces := #[]
  cf := some (fileOf pool7 1 #[.nestMembers #[98]] #[{ accessFlags := 2, nameIndex := 7, descriptorIndex := 8, attributes := #[] }, { accessFlags := 9, nameIndex := 198, descriptorIndex := 335, attributes := #[] }] 49 4 #[] #[{ accessFlags := 25, nameIndex := 354, descriptorIndex := 339, attributes := #[] }, { accessFlags := 25, nameIndex := 358, descriptorIndex := 339, attributes := #[] }, { accessFlags := 25, nameIndex := 361, descriptorIndex := 339, attributes := #[] }, { accessFlags := 26, nameIndex := 364, descriptorIndex := 339, attributes := #[] }, { accessFlags := 26, nameIndex := 365, descriptorIndex := 339, attributes := #[] }, { accessFlags := 26, nameIndex := 172, descriptorIndex := 173, attributes := #[] }, { accessFlags := 26, nameIndex := 176, descriptorIndex := 173, attributes := #[] }, { accessFlags := 8, nameIndex := 344, descriptorIndex := 339, attributes := #[] }, { accessFlags := 8, nameIndex := 338, descriptorIndex := 339, attributes := #[] }, { accessFlags := 4120, nameIndex := 245, descriptorIndex := 246, attributes := #[] }])
  fields := #[{ name := "E", type := .double, accessFlags := 25, slot := 0, constantValue := 0 }, { name := "PI", type := .double, accessFlags := 25, slot := 1, constantValue := 0 }, { name := "TAU", type := .double, accessFlags := 25, slot := 2, constantValue := 0 }, { name := "DEGREES_TO_RADIANS", type := .double, accessFlags := 26, slot := 3, constantValue := 0 }, { name := "RADIANS_TO_DEGREES", type := .double, accessFlags := 26, slot := 4, constantValue := 0 }, { name := "negativeZeroFloatBits", type := .long, accessFlags := 26, slot := 5, constantValue := 0 }, { name := "negativeZeroDoubleBits", type := .long, accessFlags := 26, slot := 6, constantValue := 0 }, { name := "twoToTheDoubleScaleUp", type := .double, accessFlags := 8, slot := 7, constantValue := 0 }, { name := "twoToTheDoubleScaleDown", type := .double, accessFlags := 8, slot := 8, constantValue := 0 }, { name := "$assertionsDisabled", type := .boolean, accessFlags := 4120, slot := 9, constantValue := 0 }]
  methods := #[k7m0, k7m1]
  instanceTypes := #[]
  staticTypes := #[.double, .double, .double, .double, .double, .long, .long, .double, .double, .boolean]
  resolved := Array.replicate 460 none
  statics := none }

def pool8 : Array CpInfo := pool [(1, u "java/lang/Cloneable"), (0, .class_ 1), (0, u "java/lang/Object"), (0, .class_ 3)] 3

/-- java/lang/Cloneable -/
def k8 : Class := { plain "java/lang/Cloneable" (some 0) with
  accessFlags := 1537
  interfaces := #[]
  cf := some (fileOf pool8 2 #[] #[] 1537 4 #[] #[])
  fields := #[]
  methods := #[]
  instanceTypes := #[]
  staticTypes := #[]
  resolved := Array.replicate 8 none
  statics := none }

/-- the primitive byte -/
def k9 : Class := { plain "byte" none with kind := .primitive 'B', accessFlags := 0x411 }
/-- [B -/
def k10 : Class := { plain "[B" (some 0) with kind := .array 9 .byte, interfaces := #[8, 4], accessFlags := 1041 }

/-- the primitive int -/
def k11 : Class := { plain "int" none with kind := .primitive 'I', accessFlags := 0x411 }
/-- [I -/
def k12 : Class := { plain "[I" (some 0) with kind := .array 11 .int, interfaces := #[8, 4], accessFlags := 1041 }

def heap : Heap := #[{ cls := 6, slots := #[.ref 2, .ref 1, .ref 3, .null], vm := .statics 6 },
  { cls := 6, slots := #[.null, .int 1, .int 0], vm := .none },
  { cls := 6, slots := #[.null, .int 0, .int 0], vm := .none },
  { cls := 6, slots := #[.null, .int 2, .int 0], vm := .none }]
def classes : Array Class := #[k0, k1, k2, k3, k4, k5, k6, k7, k8, k9, k10, k11, k12]
def interned : List (Array UInt16 × Addr) := []
def slotsUsed : Nat := 13
def theMethod : MethodId := ⟨1, 3⟩
def args0 : Array Value := #[.int 5, .int 6]
def aboutOver (below : List Frame) : State where
  vm := { classes := classes, interned := interned.toArray }
  heap := heap
  slotsUsed := slotsUsed
  threads := #[{ frames := .invoking theMethod args0 :: below }]
def below0 : List Frame := [.native { method := ⟨0, 0⟩, args := #[] }]
def about1 : State := aboutOver below0
def p0 : Program := .bare "" "" ""
def e0 : Env := launch0.env 0 0 0
theorem w_frames : about1.frames = Frame.invoking theMethod args0 :: below0 := rfl
set_option maxRecDepth 65536 in
theorem w_args : argsFit about1.vm theMethod args0 = true := by decide +kernel
set_option maxRecDepth 65536 in
theorem w_heap : heapFits about1 = true := by decide +kernel
set_option maxRecDepth 65536 in
theorem w_runnable : about1.curStatus? = some .runnable := by decide +kernel
set_option maxRecDepth 65536 in
theorem w_alone : about1.alone = true := by decide +kernel
set_option maxRecDepth 65536 in
theorem w_named : about1.methodNamed? x = some theMethod := by decide +kernel
set_option maxRecDepth 65536 in
theorem w_hears : about1.hears theMethod below0 = true := by decide +kernel
set_option maxRecDepth 65536 in
theorem w_ripe : about1.ripe theMethod args0 below0 = true := by decide +kernel
theorem w_running : about1.status = .running := rfl
set_option maxRecDepth 65536 in
theorem w_room : about1.hasRoom e0.platform room_1 = true :=
  launch0.hasRoom_least _ room_1 (by decide +kernel) (by decide +kernel) (by decide +kernel) (by decide +kernel) (by decide +kernel) (by decide +kernel)
theorem allAtoms_all (ts : List Jvm.Cond) (a : Array Jvm.Value) (st : Jvm.State) : (allAtoms ts).before a st = ts.all (fun c => c.before a st) := by
  induction ts with
  | nil => rfl
  | cons c t ih =>
    show (Jvm.Cond.and c (allAtoms t)).before a st = _
    rw [Jvm.Cond.before_and, ih, List.all_cons]
def words1 : List Jvm.Cond := Jvm.Cond.code x code maxLocals ret :: tables_1
/-- a 'code' word, met by the world's own term for the bytes: nothing is compared byte by byte -/
theorem code_word {y : MethodName} {bytes : ByteArray} {mx : Nat} {rt : Option FieldType} {a : Array Value} {s : State} {m : MethodId} {meth : Method} {c : Code} (h1 : s.methodNamed? y = some m) (h2 : s.vm.method? m = some meth) (h3 : meth.code = some c) (h4 : c.code = bytes)
    (h5 : (c.maxLocals == mx && c.exceptionTable.isEmpty && decide (c.maxStack ≤ mostOperands) && decide (meth.sig.returnType = rt) && !meth.locks && decide (parseMethodDescriptor y.desc = some meth.sig)) = true) : (Jvm.Cond.code y bytes mx rt).before a s = true := by
  simp only [Bool.and_eq_true, beq_iff_eq, Bool.not_eq_true', decide_eq_true_eq] at h5
  obtain ⟨⟨⟨⟨⟨g1, g2⟩, g3⟩, g4⟩, g5⟩, g6⟩ := h5
  simp [Cond.before, Cond.holds, Cond.value, h1, h2, h3, h4, g1, g2, g3, g4, g5, g6]
def isCode : Jvm.Cond → Bool
  | .code _ _ _ _ => true
  | _ => false
theorem all_split {L : List Jvm.Cond} {P : Jvm.Cond → Bool} (h1 : L.all (fun c => isCode c || P c) = true) (h2 : ∀ c ∈ L.filter isCode, P c = true) : L.all P = true := by
  refine List.all_eq_true.mpr fun c hc => ?_
  have h := List.all_eq_true.mp h1 c hc
  rcases Bool.eq_false_or_eq_true (isCode c) with hi | hi
  · exact h2 c (List.mem_filter.mpr ⟨hc, hi⟩)
  · simpa [hi] using h
set_option maxRecDepth 65536 in
theorem w_c0 : (Jvm.Cond.code x code maxLocals ret).before args0 about1 = true := code_word (m := ⟨1, 3⟩) (meth := k1m3) (c := k1c3) (by decide +kernel) rfl rfl rfl (by decide +kernel)
set_option maxRecDepth 65536 in
theorem w_c1 : (Jvm.Cond.code ({ cls := "com/example/tierwright/tierwright/pmml/TruthOrPinLaw", name := "pick", desc := "(I)Lcom/example/tierwright/tierwright/pmml/Truth;" } : Jvm.MethodName) method_2_code (1 : Nat) (Option.some (Jvm.ClassFile.FieldType.object "com/example/tierwright/tierwright/pmml/Truth"))).before args0 about1 = true := code_word (m := ⟨1, 1⟩) (meth := k1m1) (c := k1c1) (by decide +kernel) rfl rfl rfl (by decide +kernel)
set_option maxRecDepth 65536 in
theorem w_c2 : (Jvm.Cond.code ({ cls := "com/example/tierwright/tierwright/pmml/Truth", name := "or", desc := "(Lcom/example/tierwright/tierwright/pmml/Truth;)Lcom/example/tierwright/tierwright/pmml/Truth;" } : Jvm.MethodName) prog_45_method_6_code (2 : Nat) (Option.some (Jvm.ClassFile.FieldType.object "com/example/tierwright/tierwright/pmml/Truth"))).before args0 about1 = true := code_word (m := ⟨6, 0⟩) (meth := k6m0) (c := k6c0) (by decide +kernel) rfl rfl rfl (by decide +kernel)
set_option maxRecDepth 65536 in
theorem w_c3 : (Jvm.Cond.code ({ cls := "com/example/tierwright/tierwright/pmml/TruthOrPinLaw", name := "rank", desc := "(Lcom/example/tierwright/tierwright/pmml/Truth;)I" } : Jvm.MethodName) method_3_code (1 : Nat) (Option.some Jvm.ClassFile.FieldType.int)).before args0 about1 = true := code_word (m := ⟨1, 2⟩) (meth := k1m2) (c := k1c2) (by decide +kernel) rfl rfl rfl (by decide +kernel)
set_option maxRecDepth 65536 in
theorem w_c4 : (Jvm.Cond.code ({ cls := "java/lang/Math", name := "max", desc := "(II)I" } : Jvm.MethodName) jdk_29_method_65_code (2 : Nat) (Option.some Jvm.ClassFile.FieldType.int)).before args0 about1 = true := code_word (m := ⟨7, 1⟩) (meth := k7m1) (c := k7c1) (by decide +kernel) rfl rfl rfl (by decide +kernel)
def codes1 : List Jvm.Cond := [Jvm.Cond.code x code maxLocals ret, Jvm.Cond.code ({ cls := "com/example/tierwright/tierwright/pmml/TruthOrPinLaw", name := "pick", desc := "(I)Lcom/example/tierwright/tierwright/pmml/Truth;" } : Jvm.MethodName) method_2_code (1 : Nat) (Option.some (Jvm.ClassFile.FieldType.object "com/example/tierwright/tierwright/pmml/Truth")), Jvm.Cond.code ({ cls := "com/example/tierwright/tierwright/pmml/Truth", name := "or", desc := "(Lcom/example/tierwright/tierwright/pmml/Truth;)Lcom/example/tierwright/tierwright/pmml/Truth;" } : Jvm.MethodName) prog_45_method_6_code (2 : Nat) (Option.some (Jvm.ClassFile.FieldType.object "com/example/tierwright/tierwright/pmml/Truth")), Jvm.Cond.code ({ cls := "com/example/tierwright/tierwright/pmml/TruthOrPinLaw", name := "rank", desc := "(Lcom/example/tierwright/tierwright/pmml/Truth;)I" } : Jvm.MethodName) method_3_code (1 : Nat) (Option.some Jvm.ClassFile.FieldType.int), Jvm.Cond.code ({ cls := "java/lang/Math", name := "max", desc := "(II)I" } : Jvm.MethodName) jdk_29_method_65_code (2 : Nat) (Option.some Jvm.ClassFile.FieldType.int)]
set_option maxRecDepth 65536 in
theorem codes_eq : words1.filter isCode = codes1 := rfl
theorem w_codes : ∀ c ∈ words1.filter isCode, c.before args0 about1 = true := by
  rw [codes_eq]
  intro c hc
  simp only [codes1, List.mem_cons, List.not_mem_nil, or_false] at hc
  rcases hc with rfl | rfl | rfl | rfl | rfl
  · exact w_c0
  · exact w_c1
  · exact w_c2
  · exact w_c3
  · exact w_c4
set_option maxRecDepth 65536 in
theorem w_t1 : (words1.take 24).all (fun c => isCode c || c.before args0 about1) = true := by decide +kernel
set_option maxRecDepth 65536 in
theorem w_t2 : (words1.drop 24).all (fun c => isCode c || c.before args0 about1) = true := by decide +kernel
theorem w_tables : (allAtoms (Jvm.Cond.code x code maxLocals ret :: tables_1)).before args0 about1 = true := by
  rw [allAtoms_all]
  show words1.all (fun c => c.before args0 about1) = true
  refine all_split ?_ w_codes
  rw [← List.take_append_drop 24 words1, List.all_append, w_t1, w_t2]
  rfl
set_option maxRecDepth 65536 in
theorem w_case : (Jvm.Cond.and given_1 narrow_1).before args0 about1 = true := by decide +kernel
theorem w_applies : (headSpec (Jvm.Cond.code x code maxLocals ret :: tables_1) room_1).applies x e0.platform about1 = true :=
  (Spec.applies_iff w_frames).mpr ⟨w_running, w_runnable, w_alone, w_named, w_hears, w_ripe, w_room, w_tables⟩
theorem atStart : AtStart classFile x code maxLocals ret World_1 tables_1 room_1 Calls_1 rest_1 Pre_1 launch0 p0 e0 about1 theMethod args0 below0 :=
  ⟨lists_1, trivial, launch0.admits_env _ _ _, launch0.least_env, fairChoices_fair.cas, fairChoices_fair.clock, w_frames, w_args, w_heap, w_applies, trivial, trivial, w_case⟩
end start1
theorem witness_1 : WitnessClaimed_1 := ⟨start1.p0, start1.e0, start1.about1, start1.theMethod, start1.args0, start1.below0, start1.atStart⟩
end Jvm.Pilot.@@N@@
