import JvmDerived
import JvmDerived.Pilot.@@N@@Statement
import JvmDerived.Pilot.@@N@@Code
set_option linter.unusedVariables false
set_option linter.unusedSimpArgs false
namespace Jvm.Pilot.@@N@@
open Jvm Jvm.ClassFile Sem Op Lib Jvm.Free Jvm.Stand Jvm.LawKit Jvm.RoadKit Bundle Jvm.Pilot.@@N@@.Jvm.D
abbrev own_Ends (p : Program) (e : Env) (below : List Frame) (T : State) (g : JFrame) (Q : Outcome → State → Prop) : Prop :=
  ∃ s₂ o, Steps p.tables e below (T.setTop g) s₂ ∧ s₂.status = .running ∧ Ended s₂ below o ∧ Q o s₂
section Own
variable {p : Program} {l : Launch} {e : Env} {R : Room} {s : State} {m : MethodId} {args : Array Value} {below : List Frame} {meth : Method} {c : Code} {T T' : State} {locs : List Loc} {cells slots : Nat}
theorem own_go {g g' : JFrame} {Q : Outcome → State → Prop} (h : ∀ t, Steps p.tables e below (T'.setTop g') t → Steps p.tables e below (T.setTop g) t) (k : own_Ends p e below T' g' Q) : own_Ends p e below T g Q := by
  obtain ⟨s₂, o, h1, h2⟩ := k
  exact ⟨s₂, o, h _ h1, h2⟩
theorem own_start {g g' : JFrame} {Q : Outcome → State → Prop} (h : g = g') (k : own_Ends p e below T g' Q) : own_Ends p e below T g Q := h ▸ k
theorem own_ret (X : Stand p l e R s m args below meth c T locs cells slots) (hlk : meth.locks = false) (hx : p.tables.exec = Jvm.exec) {pc : Nat} {Ls : Array Slot} {w : Value} {t : FieldType} {i : Instr} {rest : List Value} (hret : meth.sig.returnType = some t) (hn : narrow t w = w)
    (hi : (i = .ireturn ∧ (t = .int ∨ t = .boolean ∨ t = .byte ∨ t = .char ∨ t = .short) ∧ ∃ z, w = .int z) ∨ (i = .lreturn ∧ t = .long ∧ ∃ z, w = .long z) ∨ (i = .dreturn ∧ t = .double ∧ ∃ z, w = .double z) ∨ (i = .freturn ∧ t = .float ∧ ∃ z, w = .float z) ∨ (i = .areturn ∧ t.isReference = true ∧ w.isRef = true))
    (hd : decode c.code pc = .ok (i, 1)) {Qv : Option Value → Heap → List Loc → Prop} {C S : Nat} (hq : Qv (some w) T.heap locs) (hc : cells ≤ C) (hs : slots ≤ S) :
    own_Ends p e below T (mkF m pc Ls (w :: rest)) (fun o U' => ∃ v L, o = .returned v ∧ Qv v U'.heap L ∧ FrameEnd s o U' L C S) := by
  obtain ⟨fs, hr, hrun, hended, hW, hsame⟩ := X.leave (v := some w) (fun h => by rw [hret] at h; cases h) hlk
  exact ⟨_, _, retOut X hx hret hn hi hd hr, hrun, hended, _, _, rfl, hq, ⟨_, rfl⟩, hW, hsame.mono hc hs⟩
theorem own_ret0 (X : Stand p l e R s m args below meth c T locs cells slots) (hlk : meth.locks = false) (hx : p.tables.exec = Jvm.exec) {pc : Nat} {Ls : Array Slot} (hret : meth.sig.returnType = none)
    (hd : decode c.code pc = .ok (.return_, 1)) {Qv : Option Value → Heap → List Loc → Prop} {C S : Nat} (hq : Qv none T.heap locs) (hc : cells ≤ C) (hs : slots ≤ S) :
    own_Ends p e below T (mkF m pc Ls []) (fun o U' => ∃ v L, o = .returned v ∧ Qv v U'.heap L ∧ FrameEnd s o U' L C S) := by
  obtain ⟨fs, hr, hrun, hended, hW, hsame⟩ := X.leave (v := none) (fun _ => rfl) hlk
  exact ⟨_, _, X.returnOut hx hret hd hr, hrun, hended, _, _, rfl, hq, ⟨_, rfl⟩, hW, hsame.mono hc hs⟩
theorem own_nr {t : FieldType} {v : Value} (h : v.isRef = true) : narrow t v = v := by cases v <;> first | (cases h; done) | (cases t <;> rfl)
end Own
theorem own_fld {args : Array Value} {s : State} {t : Term} {a : Addr} {C n d : String} {k : Int32} (ht : t.eval args s none [] s = some (.ref a)) (h : (Jvm.Cond.eq (.field t C n d) (.int k)).value args s none s [] = some true) : Fld s s.heap a C n d (.int k) := by
  obtain ⟨x, y, e1, e2, h3, h4⟩ := cmp_v (Or.inl h)
  obtain rfl : Value.int k = y := Option.some.inj ((Term.int_eval k).symm.trans e2)
  obtain ⟨z, rfl⟩ : ∃ z, x = .int z := h4
  have q : z = k := gotT (Cond.eq_ints e1 e2) h
  subst q
  exact Fld.start ((fld_at ht).symm.trans e1)
def own_pick (sS sI sN sB sM : Addr) (k : Int32) : Addr := if k = 0 then sS else if k = 1 then sI else if k = 2 then sN else if k = 3 then sB else sM
def own_and (sI sN sM x y : Addr) : Addr := if x = y then x else if (x = sI ∨ x = sN) ∧ (y = sI ∨ y = sN) then sN else sM
theorem own_mod5 (x : Int32) : (x &&& 2147483647) % 5 = 0 ∨ (x &&& 2147483647) % 5 = 1 ∨ (x &&& 2147483647) % 5 = 2 ∨ (x &&& 2147483647) % 5 = 3 ∨ (x &&& 2147483647) % 5 = 4 := by
  have h1 := (c_and x 2147483647 (by decide)).1
  have h2 := (c_irem (x &&& 2147483647) 5 5 rfl).1 h1
  simp only [← Int32.toInt_inj]
  have : (0 : Int32).toInt = 0 := rfl
  have : (1 : Int32).toInt = 1 := rfl
  have : (2 : Int32).toInt = 2 := rfl
  have : (3 : Int32).toInt = 3 := rfl
  have : (4 : Int32).toInt = 4 := rfl
  omega
def own_dist (sS sI sN sB sM : Addr) : Prop := sS ≠ sI ∧ sS ≠ sN ∧ sS ≠ sB ∧ sS ≠ sM ∧ sI ≠ sN ∧ sI ≠ sB ∧ sI ≠ sM ∧ sN ≠ sB ∧ sN ≠ sM ∧ sB ≠ sM
set_option maxHeartbeats 4000000 in
theorem own_key {sS sI sN sB sM : Addr} (hd : own_dist sS sI sN sB sM) {i j : Int32} (hi : i = 0 ∨ i = 1 ∨ i = 2 ∨ i = 3 ∨ i = 4) (hj : j = 0 ∨ j = 1 ∨ j = 2 ∨ j = 3 ∨ j = 4) :
    own_and sI sN sM (own_pick sS sI sN sB sM i) (own_pick sS sI sN sB sM j) = own_pick sS sI sN sB sM (if i = j then i else if i * j = 2 then 2 else 4) := by
  obtain ⟨d1, d2, d3, d4, d5, d6, d7, d8, d9, d10⟩ := hd
  rcases hi with rfl | rfl | rfl | rfl | rfl <;> rcases hj with rfl | rfl | rfl | rfl | rfl <;> simp +decide [own_and, own_pick, d1, d2, d3, d4, d5, d6, d7, d8, d9, d10, d1.symm, d2.symm, d3.symm, d4.symm, d5.symm, d6.symm, d7.symm, d8.symm, d9.symm, d10.symm]

theorem own_pex {Z : State} {h : Heap} {K : String} {sS sI sN sB sM : Addr} (k : Int32) (e1 : Exa Z h sS K) (e2 : Exa Z h sI K) (e3 : Exa Z h sN K) (e4 : Exa Z h sB K) (e5 : Exa Z h sM K) : Exa Z h (own_pick sS sI sN sB sM k) K := by
  unfold own_pick; repeat' split
  all_goals assumption

theorem own_d_method_2_code_0 : decode method_2_code 0 = .ok (.iload_n 0, 1) := by decide +kernel
theorem own_d_method_2_code_1 : decode method_2_code 1 = .ok (.ifCond .ne 7, 3) := by decide +kernel
theorem own_d_method_2_code_4 : decode method_2_code 4 = .ok (.getstatic 7, 3) := by decide +kernel
theorem own_d_method_2_code_7 : decode method_2_code 7 = .ok (.areturn, 1) := by decide +kernel
theorem own_d_method_2_code_8 : decode method_2_code 8 = .ok (.iload_n 0, 1) := by decide +kernel
theorem own_d_method_2_code_9 : decode method_2_code 9 = .ok (.iconst 1, 1) := by decide +kernel
theorem own_d_method_2_code_10 : decode method_2_code 10 = .ok (.if_icmp .ne 7, 3) := by decide +kernel
theorem own_d_method_2_code_13 : decode method_2_code 13 = .ok (.getstatic 13, 3) := by decide +kernel
theorem own_d_method_2_code_16 : decode method_2_code 16 = .ok (.areturn, 1) := by decide +kernel
theorem own_d_method_2_code_17 : decode method_2_code 17 = .ok (.iload_n 0, 1) := by decide +kernel
theorem own_d_method_2_code_18 : decode method_2_code 18 = .ok (.iconst 2, 1) := by decide +kernel
theorem own_d_method_2_code_19 : decode method_2_code 19 = .ok (.if_icmp .ne 7, 3) := by decide +kernel
theorem own_d_method_2_code_22 : decode method_2_code 22 = .ok (.getstatic 16, 3) := by decide +kernel
theorem own_d_method_2_code_25 : decode method_2_code 25 = .ok (.areturn, 1) := by decide +kernel
theorem own_d_method_2_code_26 : decode method_2_code 26 = .ok (.iload_n 0, 1) := by decide +kernel
theorem own_d_method_2_code_27 : decode method_2_code 27 = .ok (.iconst 3, 1) := by decide +kernel
theorem own_d_method_2_code_28 : decode method_2_code 28 = .ok (.if_icmp .ne 7, 3) := by decide +kernel
theorem own_d_method_2_code_31 : decode method_2_code 31 = .ok (.getstatic 19, 3) := by decide +kernel
theorem own_d_method_2_code_34 : decode method_2_code 34 = .ok (.areturn, 1) := by decide +kernel
theorem own_d_method_2_code_35 : decode method_2_code 35 = .ok (.getstatic 22, 3) := by decide +kernel
theorem own_d_method_2_code_38 : decode method_2_code 38 = .ok (.areturn, 1) := by decide +kernel
def Q_own_rpick (p0 : Int32) (sS sI sN sB sM : Addr) (h0 : Heap) (n0 : Nat) (v : Option Value) (h : Heap) (L : List Loc) : Prop := v = some (.ref (own_pick sS sI sN sB sM p0)) ∧ L = [] ∧ h = h0
set_option maxRecDepth 65536 in
set_option maxHeartbeats 40000000 in
theorem own_rpick (l : Launch) (Z : State) (a0 : Array Value) (hw : ∀ d ∈ tables_1, d.before a0 Z = true) (ws : List Jvm.Cond) (p0 : Int32) (sS sI sN sB sM : Addr) (h0 : Heap) (n0 : Nat) (Z0 : n0 ≤ h0.size) (S_STRING : Sta Z h0 "com/example/piastrella/piastrella/data/PropertyType" "STRING" "Lcom/example/piastrella/piastrella/data/PropertyType;" (.ref sS)) (S_INTEGER : Sta Z h0 "com/example/piastrella/piastrella/data/PropertyType" "INTEGER" "Lcom/example/piastrella/piastrella/data/PropertyType;" (.ref sI)) (S_NUMBER : Sta Z h0 "com/example/piastrella/piastrella/data/PropertyType" "NUMBER" "Lcom/example/piastrella/piastrella/data/PropertyType;" (.ref sN)) (S_BOOLEAN : Sta Z h0 "com/example/piastrella/piastrella/data/PropertyType" "BOOLEAN" "Lcom/example/piastrella/piastrella/data/PropertyType;" (.ref sB)) (S_MIXED : Sta Z h0 "com/example/piastrella/piastrella/data/PropertyType" "MIXED" "Lcom/example/piastrella/piastrella/data/PropertyType;" (.ref sM)) :
    MetFree l (⟨"com/example/piastrella/piastrella/data/PropertyTypeAndPinLaw", "pick", "(I)Lcom/example/piastrella/piastrella/data/PropertyType;"⟩ : MethodName) (head1 (Jvm.Cond.code (⟨"com/example/piastrella/piastrella/data/PropertyTypeAndPinLaw", "pick", "(I)Lcom/example/piastrella/piastrella/data/PropertyType;"⟩ : MethodName) method_2_code 1 (some (.object "com/example/piastrella/piastrella/data/PropertyType")) :: ws) ({ frames := 0, cells := 0, slots := 0, locals := 0 } : Room)) (fun au Uu => au = #[(.int p0)] ∧ Z.Warmed39 Uu.vm ∧ Uu.heap = h0) (fun _ _ _ _ _ => True) (fun _ Uu ou Uw => ∃ vu Lu, ou = .returned vu ∧ Q_own_rpick p0 sS sI sN sB sM h0 n0 vu Uw.heap Lu ∧ FrameEnd Uu ou Uw Lu ({ frames := 0, cells := 0, slots := 0, locals := 0 } : Room).cells ({ frames := 0, cells := 0, slots := 0, locals := 0 } : Room).slots) := by
  refine MetFree.of_bodySF (plainFor_of_name (by first | (simp [plainName, overriddenIn]; done) | decide +kernel)) hisR ?_
  intro p e s m args below meth c s₁ Bd hml0 hP hK
  obtain ⟨rfl, hZ, hh⟩ := hP
  have hx := Bd.exec
  have hby := Bd.bytes
  have hlk := Bd.notSynchronized
  have hml : c.maxLocals = 1 := hml0
  have hown : s.vm.findClass "com/example/piastrella/piastrella/data/PropertyTypeAndPinLaw" = some m.cls := findClass_of_methodNamed Bd.named
  have hnm := (name_of_methodNamed Bd.named Bd.method).1
  have X0 : Stand p l e ({ frames := 0, cells := 0, slots := 0, locals := 0 } : Room) s m #[(.int p0)] below meth c s₁ [] 0 0 := Stand.of_body Bd
  have e0 : s₁.heap = h0 := by rw [← hh, Bd.state]; rfl
  have N0 := Fr.nil n0
  show own_Ends p e below s₁ (entryFrame m #[(.int p0)] 1) (fun ou Uw => ∃ vu Lu, ou = .returned vu ∧ Q_own_rpick p0 sS sI sN sB sM h0 n0 vu Uw.heap Lu ∧ FrameEnd s ou Uw Lu ({ frames := 0, cells := 0, slots := 0, locals := 0 } : Room).cells ({ frames := 0, cells := 0, slots := 0, locals := 0 } : Room).slots)
  refine own_start (g' := (mkF m 0 #[iv p0] [])) (by first | (simp [entryFrame, mkF, argsToLocals, Value.category, iv, rv]; done) | rfl) ?_
  refine own_go (T' := s₁) (g' := (mkF m 1 #[iv p0] [(.int p0)])) (fun t k => XS.iloadN X0.here hx rfl (hb hby own_d_method_2_code_0) rfl k) ?_
  by_cases hc1 : p0 = (0 : Int32)
  · refine own_go (T' := s₁) (g' := (mkF m 4 #[iv p0] [])) (fun t k => XS.ifNo X0.here hx rfl (hb hby own_d_method_2_code_1) rfl ((if0 _ _).trans (teq hc1).2) k) ?_
    obtain ⟨T2, X2, e2, st2⟩ := getS2 X0 hx hZ hown (host := "") (Or.inl (hw _ (List.mem_of_getElem? (i := 5) rfl))) Via.refl e0 S_STRING (g := (mkF m 4 #[iv p0] [])) rfl (hb hby own_d_method_2_code_4)
    refine own_go (T' := T2) (g' := (mkF m 7 #[iv p0] [(.ref sS)])) (st2) ?_
    exact own_ret X2 hlk hx Bd.returns rfl (Or.inr (Or.inr (Or.inr (Or.inr ⟨rfl, rfl, rfl⟩)))) (hb hby own_d_method_2_code_7) ⟨by simp [own_pick, hc1], rfl, e2⟩ (by decide) (by decide)
  · refine own_go (T' := s₁) (g' := (mkF m 8 #[iv p0] [])) (fun t k => XS.ifYes X0.here hx rfl (pc0 := 1) (pc' := 8) rfl (hb hby own_d_method_2_code_1) rfl ((if0 _ _).trans (feq hc1).2) (by decide) (by decide) k) ?_
    refine own_go (T' := s₁) (g' := (mkF m 9 #[iv p0] [(.int p0)])) (fun t k => XS.iloadN X0.here hx rfl (hb hby own_d_method_2_code_8) rfl k) ?_
    refine own_go (T' := s₁) (g' := (mkF m 10 #[iv p0] [(.int (1 : Int32)), (.int p0)])) (fun t k => XS.iconst X0.here hx rfl (hb hby own_d_method_2_code_9) k) ?_
    by_cases hc3 : p0 = (1 : Int32)
    · refine own_go (T' := s₁) (g' := (mkF m 13 #[iv p0] [])) (fun t k => XS.icmpNo X0.here hx rfl (hb hby own_d_method_2_code_10) rfl (teq hc3).2 k) ?_
      obtain ⟨T4, X4, e4, st4⟩ := getS2 X0 hx hZ hown (host := "") (Or.inl (hw _ (List.mem_of_getElem? (i := 22) rfl))) Via.refl e0 S_INTEGER (g := (mkF m 13 #[iv p0] [])) rfl (hb hby own_d_method_2_code_13)
      refine own_go (T' := T4) (g' := (mkF m 16 #[iv p0] [(.ref sI)])) (st4) ?_
      exact own_ret X4 hlk hx Bd.returns rfl (Or.inr (Or.inr (Or.inr (Or.inr ⟨rfl, rfl, rfl⟩)))) (hb hby own_d_method_2_code_16) ⟨by simp [own_pick, hc1, hc3], rfl, e4⟩ (by decide) (by decide)
    · refine own_go (T' := s₁) (g' := (mkF m 17 #[iv p0] [])) (fun t k => XS.icmpYes X0.here hx rfl (pc0 := 10) (pc' := 17) rfl (hb hby own_d_method_2_code_10) rfl (feq hc3).2 (by decide) (by decide) k) ?_
      refine own_go (T' := s₁) (g' := (mkF m 18 #[iv p0] [(.int p0)])) (fun t k => XS.iloadN X0.here hx rfl (hb hby own_d_method_2_code_17) rfl k) ?_
      refine own_go (T' := s₁) (g' := (mkF m 19 #[iv p0] [(.int (2 : Int32)), (.int p0)])) (fun t k => XS.iconst X0.here hx rfl (hb hby own_d_method_2_code_18) k) ?_
      by_cases hc5 : p0 = (2 : Int32)
      · refine own_go (T' := s₁) (g' := (mkF m 22 #[iv p0] [])) (fun t k => XS.icmpNo X0.here hx rfl (hb hby own_d_method_2_code_19) rfl (teq hc5).2 k) ?_
        obtain ⟨T6, X6, e6, st6⟩ := getS2 X0 hx hZ hown (host := "") (Or.inl (hw _ (List.mem_of_getElem? (i := 23) rfl))) Via.refl e0 S_NUMBER (g := (mkF m 22 #[iv p0] [])) rfl (hb hby own_d_method_2_code_22)
        refine own_go (T' := T6) (g' := (mkF m 25 #[iv p0] [(.ref sN)])) (st6) ?_
        exact own_ret X6 hlk hx Bd.returns rfl (Or.inr (Or.inr (Or.inr (Or.inr ⟨rfl, rfl, rfl⟩)))) (hb hby own_d_method_2_code_25) ⟨by simp [own_pick, hc1, hc3, hc5], rfl, e6⟩ (by decide) (by decide)
      · refine own_go (T' := s₁) (g' := (mkF m 26 #[iv p0] [])) (fun t k => XS.icmpYes X0.here hx rfl (pc0 := 19) (pc' := 26) rfl (hb hby own_d_method_2_code_19) rfl (feq hc5).2 (by decide) (by decide) k) ?_
        refine own_go (T' := s₁) (g' := (mkF m 27 #[iv p0] [(.int p0)])) (fun t k => XS.iloadN X0.here hx rfl (hb hby own_d_method_2_code_26) rfl k) ?_
        refine own_go (T' := s₁) (g' := (mkF m 28 #[iv p0] [(.int (3 : Int32)), (.int p0)])) (fun t k => XS.iconst X0.here hx rfl (hb hby own_d_method_2_code_27) k) ?_
        by_cases hc7 : p0 = (3 : Int32)
        · refine own_go (T' := s₁) (g' := (mkF m 31 #[iv p0] [])) (fun t k => XS.icmpNo X0.here hx rfl (hb hby own_d_method_2_code_28) rfl (teq hc7).2 k) ?_
          obtain ⟨T8, X8, e8, st8⟩ := getS2 X0 hx hZ hown (host := "") (Or.inl (hw _ (List.mem_of_getElem? (i := 8) rfl))) Via.refl e0 S_BOOLEAN (g := (mkF m 31 #[iv p0] [])) rfl (hb hby own_d_method_2_code_31)
          refine own_go (T' := T8) (g' := (mkF m 34 #[iv p0] [(.ref sB)])) (st8) ?_
          exact own_ret X8 hlk hx Bd.returns rfl (Or.inr (Or.inr (Or.inr (Or.inr ⟨rfl, rfl, rfl⟩)))) (hb hby own_d_method_2_code_34) ⟨by simp [own_pick, hc1, hc3, hc5, hc7], rfl, e8⟩ (by decide) (by decide)
        · refine own_go (T' := s₁) (g' := (mkF m 35 #[iv p0] [])) (fun t k => XS.icmpYes X0.here hx rfl (pc0 := 28) (pc' := 35) rfl (hb hby own_d_method_2_code_28) rfl (feq hc7).2 (by decide) (by decide) k) ?_
          obtain ⟨T9, X9, e9, st9⟩ := getS2 X0 hx hZ hown (host := "") (Or.inl (hw _ (List.mem_of_getElem? (i := 21) rfl))) Via.refl e0 S_MIXED (g := (mkF m 35 #[iv p0] [])) rfl (hb hby own_d_method_2_code_35)
          refine own_go (T' := T9) (g' := (mkF m 38 #[iv p0] [(.ref sM)])) (st9) ?_
          exact own_ret X9 hlk hx Bd.returns rfl (Or.inr (Or.inr (Or.inr (Or.inr ⟨rfl, rfl, rfl⟩)))) (hb hby own_d_method_2_code_38) ⟨by simp [own_pick, hc1, hc3, hc5, hc7], rfl, e9⟩ (by decide) (by decide)

theorem own_d_prog_4_method_6_code_0 : decode prog_4_method_6_code 0 = .ok (.aload_n 0, 1) := by decide +kernel
theorem own_d_prog_4_method_6_code_1 : decode prog_4_method_6_code 1 = .ok (.aload_n 1, 1) := by decide +kernel
theorem own_d_prog_4_method_6_code_2 : decode prog_4_method_6_code 2 = .ok (.if_acmp .ne 8, 3) := by decide +kernel
theorem own_d_prog_4_method_6_code_5 : decode prog_4_method_6_code 5 = .ok (.aload_n 0, 1) := by decide +kernel
theorem own_d_prog_4_method_6_code_6 : decode prog_4_method_6_code 6 = .ok (.astore_n 2, 1) := by decide +kernel
theorem own_d_prog_4_method_6_code_7 : decode prog_4_method_6_code 7 = .ok (.goto 42, 3) := by decide +kernel
theorem own_d_prog_4_method_6_code_10 : decode prog_4_method_6_code 10 = .ok (.aload_n 0, 1) := by decide +kernel
theorem own_d_prog_4_method_6_code_11 : decode prog_4_method_6_code 11 = .ok (.getstatic 7, 3) := by decide +kernel
theorem own_d_prog_4_method_6_code_14 : decode prog_4_method_6_code 14 = .ok (.if_acmp .eq 10, 3) := by decide +kernel
theorem own_d_prog_4_method_6_code_17 : decode prog_4_method_6_code 17 = .ok (.aload_n 0, 1) := by decide +kernel
theorem own_d_prog_4_method_6_code_18 : decode prog_4_method_6_code 18 = .ok (.getstatic 10, 3) := by decide +kernel
theorem own_d_prog_4_method_6_code_21 : decode prog_4_method_6_code 21 = .ok (.if_acmp .ne 24, 3) := by decide +kernel
theorem own_d_prog_4_method_6_code_24 : decode prog_4_method_6_code 24 = .ok (.aload_n 1, 1) := by decide +kernel
theorem own_d_prog_4_method_6_code_25 : decode prog_4_method_6_code 25 = .ok (.getstatic 7, 3) := by decide +kernel
theorem own_d_prog_4_method_6_code_28 : decode prog_4_method_6_code 28 = .ok (.if_acmp .eq 10, 3) := by decide +kernel
theorem own_d_prog_4_method_6_code_31 : decode prog_4_method_6_code 31 = .ok (.aload_n 1, 1) := by decide +kernel
theorem own_d_prog_4_method_6_code_32 : decode prog_4_method_6_code 32 = .ok (.getstatic 10, 3) := by decide +kernel
theorem own_d_prog_4_method_6_code_35 : decode prog_4_method_6_code 35 = .ok (.if_acmp .ne 10, 3) := by decide +kernel
theorem own_d_prog_4_method_6_code_38 : decode prog_4_method_6_code 38 = .ok (.getstatic 10, 3) := by decide +kernel
theorem own_d_prog_4_method_6_code_41 : decode prog_4_method_6_code 41 = .ok (.astore_n 2, 1) := by decide +kernel
theorem own_d_prog_4_method_6_code_42 : decode prog_4_method_6_code 42 = .ok (.goto 7, 3) := by decide +kernel
theorem own_d_prog_4_method_6_code_45 : decode prog_4_method_6_code 45 = .ok (.getstatic 16, 3) := by decide +kernel
theorem own_d_prog_4_method_6_code_48 : decode prog_4_method_6_code 48 = .ok (.astore_n 2, 1) := by decide +kernel
theorem own_d_prog_4_method_6_code_49 : decode prog_4_method_6_code 49 = .ok (.aload_n 2, 1) := by decide +kernel
theorem own_d_prog_4_method_6_code_50 : decode prog_4_method_6_code 50 = .ok (.areturn, 1) := by decide +kernel
def Q_own_rand (a0r a1r sI sN sM : Addr) (h0 : Heap) (n0 : Nat) (v : Option Value) (h : Heap) (L : List Loc) : Prop := v = some (.ref (own_and sI sN sM a0r a1r)) ∧ L = [] ∧ h = h0
set_option maxRecDepth 65536 in
set_option maxHeartbeats 40000000 in
theorem own_rand (l : Launch) (Z : State) (a0 : Array Value) (hw : ∀ d ∈ tables_1, d.before a0 Z = true) (ws : List Jvm.Cond) (a0r a1r sI sN sM : Addr) (h0 : Heap) (n0 : Nat) (Z0 : n0 ≤ h0.size) (S_INTEGER : Sta Z h0 "com/example/piastrella/piastrella/data/PropertyType" "INTEGER" "Lcom/example/piastrella/piastrella/data/PropertyType;" (.ref sI)) (S_NUMBER : Sta Z h0 "com/example/piastrella/piastrella/data/PropertyType" "NUMBER" "Lcom/example/piastrella/piastrella/data/PropertyType;" (.ref sN)) (S_MIXED : Sta Z h0 "com/example/piastrella/piastrella/data/PropertyType" "MIXED" "Lcom/example/piastrella/piastrella/data/PropertyType;" (.ref sM)) :
    MetFree l (⟨"com/example/piastrella/piastrella/data/PropertyType", "and", "(Lcom/example/piastrella/piastrella/data/PropertyType;)Lcom/example/piastrella/piastrella/data/PropertyType;"⟩ : MethodName) (head1 (Jvm.Cond.code (⟨"com/example/piastrella/piastrella/data/PropertyType", "and", "(Lcom/example/piastrella/piastrella/data/PropertyType;)Lcom/example/piastrella/piastrella/data/PropertyType;"⟩ : MethodName) prog_4_method_6_code 3 (some (.object "com/example/piastrella/piastrella/data/PropertyType")) :: ws) ({ frames := 0, cells := 0, slots := 0, locals := 0 } : Room)) (fun au Uu => au = #[(.ref a0r), (.ref a1r)] ∧ Z.Warmed39 Uu.vm ∧ Uu.heap = h0) (fun _ _ _ _ _ => True) (fun _ Uu ou Uw => ∃ vu Lu, ou = .returned vu ∧ Q_own_rand a0r a1r sI sN sM h0 n0 vu Uw.heap Lu ∧ FrameEnd Uu ou Uw Lu ({ frames := 0, cells := 0, slots := 0, locals := 0 } : Room).cells ({ frames := 0, cells := 0, slots := 0, locals := 0 } : Room).slots) := by
  refine MetFree.of_bodySF (plainFor_of_name (by first | (simp [plainName, overriddenIn]; done) | decide +kernel)) hisR ?_
  intro p e s m args below meth c s₁ Bd hml0 hP hK
  obtain ⟨rfl, hZ, hh⟩ := hP
  have hx := Bd.exec
  have hby := Bd.bytes
  have hlk := Bd.notSynchronized
  have hml : c.maxLocals = 3 := hml0
  have hown : s.vm.findClass "com/example/piastrella/piastrella/data/PropertyType" = some m.cls := findClass_of_methodNamed Bd.named
  have hnm := (name_of_methodNamed Bd.named Bd.method).1
  have X0 : Stand p l e ({ frames := 0, cells := 0, slots := 0, locals := 0 } : Room) s m #[(.ref a0r), (.ref a1r)] below meth c s₁ [] 0 0 := Stand.of_body Bd
  have e0 : s₁.heap = h0 := by rw [← hh, Bd.state]; rfl
  have N0 := Fr.nil n0
  show own_Ends p e below s₁ (entryFrame m #[(.ref a0r), (.ref a1r)] 3) (fun ou Uw => ∃ vu Lu, ou = .returned vu ∧ Q_own_rand a0r a1r sI sN sM h0 n0 vu Uw.heap Lu ∧ FrameEnd s ou Uw Lu ({ frames := 0, cells := 0, slots := 0, locals := 0 } : Room).cells ({ frames := 0, cells := 0, slots := 0, locals := 0 } : Room).slots)
  refine own_start (g' := (mkF m 0 #[rv a0r, rv a1r, .unset] [])) (by first | (simp [entryFrame, mkF, argsToLocals, Value.category, iv, rv]; done) | rfl) ?_
  refine own_go (T' := s₁) (g' := (mkF m 1 #[rv a0r, rv a1r, .unset] [(.ref a0r)])) (fun t k => XS.aloadN X0.here hx rfl (hb hby own_d_prog_4_method_6_code_0) rfl rfl k) ?_
  refine own_go (T' := s₁) (g' := (mkF m 2 #[rv a0r, rv a1r, .unset] [(.ref a1r), (.ref a0r)])) (fun t k => XS.aloadN X0.here hx rfl (hb hby own_d_prog_4_method_6_code_1) rfl rfl k) ?_
  by_cases ha10 : ((.ref a0r) : Value) = (.ref a1r)
  · refine own_go (T' := s₁) (g' := (mkF m 5 #[rv a0r, rv a1r, .unset] [])) (fun t k => Jvm.RoadKit.acmp (g := (mkF m 2 #[rv a0r, rv a1r, .unset] [(.ref a1r), (.ref a0r)])) X0 hx rfl (x := (.ref a0r)) (y := (.ref a1r)) rfl rfl (pc0 := 2) (pc' := 5) (same := true) rfl (hb hby own_d_prog_4_method_6_code_2) rfl (decide_eq_true ha10) (by decide) (by decide) k) ?_
    refine own_go (T' := s₁) (g' := (mkF m 6 #[rv a0r, rv a1r, .unset] [(.ref a0r)])) (fun t k => XS.aloadN X0.here hx rfl (hb hby own_d_prog_4_method_6_code_5) rfl rfl k) ?_
    refine own_go (T' := s₁) (g' := (mkF m 7 #[rv a0r, rv a1r, rv a0r] [])) (fun t k => XS.astoreN X0.here hx rfl (hb hby own_d_prog_4_method_6_code_6) rfl rfl (l' := #[rv a0r, rv a1r, rv a0r]) rfl k) ?_
    refine own_go (T' := s₁) (g' := (mkF m 49 #[rv a0r, rv a1r, rv a0r] [])) (fun t k => XS.goto X0.here hx rfl (pc0 := 7) (pc' := 49) rfl (hb hby own_d_prog_4_method_6_code_7) (by decide) (by decide) k) ?_
    refine own_go (T' := s₁) (g' := (mkF m 50 #[rv a0r, rv a1r, rv a0r] [(.ref a0r)])) (fun t k => XS.aloadN X0.here hx rfl (hb hby own_d_prog_4_method_6_code_49) rfl rfl k) ?_
    exact own_ret X0 hlk hx Bd.returns rfl (Or.inr (Or.inr (Or.inr (Or.inr ⟨rfl, rfl, rfl⟩)))) (hb hby own_d_prog_4_method_6_code_50) ⟨by have q0 := eq_true (Value.ref.inj ha10); simp [own_and, q0], rfl, e0⟩ (by decide) (by decide)
  · refine own_go (T' := s₁) (g' := (mkF m 10 #[rv a0r, rv a1r, .unset] [])) (fun t k => Jvm.RoadKit.acmp (g := (mkF m 2 #[rv a0r, rv a1r, .unset] [(.ref a1r), (.ref a0r)])) X0 hx rfl (x := (.ref a0r)) (y := (.ref a1r)) rfl rfl (pc0 := 2) (pc' := 10) (same := false) rfl (hb hby own_d_prog_4_method_6_code_2) rfl (decide_eq_false ha10) (by decide) (by decide) k) ?_
    refine own_go (T' := s₁) (g' := (mkF m 11 #[rv a0r, rv a1r, .unset] [(.ref a0r)])) (fun t k => XS.aloadN X0.here hx rfl (hb hby own_d_prog_4_method_6_code_10) rfl rfl k) ?_
    obtain ⟨T11, X11, e11, st11⟩ := getS2 X0 hx hZ hown (host := "") (Or.inl (hw _ (List.mem_of_getElem? (i := 15) rfl))) Via.refl e0 S_INTEGER (g := (mkF m 11 #[rv a0r, rv a1r, .unset] [(.ref a0r)])) rfl (hb hby own_d_prog_4_method_6_code_11)
    refine own_go (T' := T11) (g' := (mkF m 14 #[rv a0r, rv a1r, .unset] [(.ref sI), (.ref a0r)])) (st11) ?_
    by_cases ha12 : ((.ref a0r) : Value) = (.ref sI)
    · refine own_go (T' := T11) (g' := (mkF m 24 #[rv a0r, rv a1r, .unset] [])) (fun t k => Jvm.RoadKit.acmp (g := (mkF m 14 #[rv a0r, rv a1r, .unset] [(.ref sI), (.ref a0r)])) X11 hx rfl (x := (.ref a0r)) (y := (.ref sI)) rfl rfl (pc0 := 14) (pc' := 24) (same := true) rfl (hb hby own_d_prog_4_method_6_code_14) rfl (decide_eq_true ha12) (by decide) (by decide) k) ?_
      refine own_go (T' := T11) (g' := (mkF m 25 #[rv a0r, rv a1r, .unset] [(.ref a1r)])) (fun t k => XS.aloadN X11.here hx rfl (hb hby own_d_prog_4_method_6_code_24) rfl rfl k) ?_
      obtain ⟨T13, X13, e13, st13⟩ := getS2 X11 hx hZ hown (host := "") (Or.inl (hw _ (List.mem_of_getElem? (i := 15) rfl))) Via.refl e11 S_INTEGER (g := (mkF m 25 #[rv a0r, rv a1r, .unset] [(.ref a1r)])) rfl (hb hby own_d_prog_4_method_6_code_25)
      refine own_go (T' := T13) (g' := (mkF m 28 #[rv a0r, rv a1r, .unset] [(.ref sI), (.ref a1r)])) (st13) ?_
      by_cases ha14 : ((.ref a1r) : Value) = (.ref sI)
      · refine own_go (T' := T13) (g' := (mkF m 38 #[rv a0r, rv a1r, .unset] [])) (fun t k => Jvm.RoadKit.acmp (g := (mkF m 28 #[rv a0r, rv a1r, .unset] [(.ref sI), (.ref a1r)])) X13 hx rfl (x := (.ref a1r)) (y := (.ref sI)) rfl rfl (pc0 := 28) (pc' := 38) (same := true) rfl (hb hby own_d_prog_4_method_6_code_28) rfl (decide_eq_true ha14) (by decide) (by decide) k) ?_
        obtain ⟨T15, X15, e15, st15⟩ := getS2 X13 hx hZ hown (host := "") (Or.inl (hw _ (List.mem_of_getElem? (i := 17) rfl))) Via.refl e13 S_NUMBER (g := (mkF m 38 #[rv a0r, rv a1r, .unset] [])) rfl (hb hby own_d_prog_4_method_6_code_38)
        refine own_go (T' := T15) (g' := (mkF m 41 #[rv a0r, rv a1r, .unset] [(.ref sN)])) (st15) ?_
        refine own_go (T' := T15) (g' := (mkF m 42 #[rv a0r, rv a1r, rv sN] [])) (fun t k => XS.astoreN X15.here hx rfl (hb hby own_d_prog_4_method_6_code_41) rfl rfl (l' := #[rv a0r, rv a1r, rv sN]) rfl k) ?_
        refine own_go (T' := T15) (g' := (mkF m 49 #[rv a0r, rv a1r, rv sN] [])) (fun t k => XS.goto X15.here hx rfl (pc0 := 42) (pc' := 49) rfl (hb hby own_d_prog_4_method_6_code_42) (by decide) (by decide) k) ?_
        refine own_go (T' := T15) (g' := (mkF m 50 #[rv a0r, rv a1r, rv sN] [(.ref sN)])) (fun t k => XS.aloadN X15.here hx rfl (hb hby own_d_prog_4_method_6_code_49) rfl rfl k) ?_
        exact own_ret X15 hlk hx Bd.returns rfl (Or.inr (Or.inr (Or.inr (Or.inr ⟨rfl, rfl, rfl⟩)))) (hb hby own_d_prog_4_method_6_code_50) ⟨by have q0 := eq_false (fun q => ha10 (congrArg Value.ref q)); have q1 := eq_true (Value.ref.inj ha12); have q2 := eq_true (Value.ref.inj ha14); simp [own_and, q0, q1, q2], rfl, e15⟩ (by decide) (by decide)
      · refine own_go (T' := T13) (g' := (mkF m 31 #[rv a0r, rv a1r, .unset] [])) (fun t k => Jvm.RoadKit.acmp (g := (mkF m 28 #[rv a0r, rv a1r, .unset] [(.ref sI), (.ref a1r)])) X13 hx rfl (x := (.ref a1r)) (y := (.ref sI)) rfl rfl (pc0 := 28) (pc' := 31) (same := false) rfl (hb hby own_d_prog_4_method_6_code_28) rfl (decide_eq_false ha14) (by decide) (by decide) k) ?_
        refine own_go (T' := T13) (g' := (mkF m 32 #[rv a0r, rv a1r, .unset] [(.ref a1r)])) (fun t k => XS.aloadN X13.here hx rfl (hb hby own_d_prog_4_method_6_code_31) rfl rfl k) ?_
        obtain ⟨T16, X16, e16, st16⟩ := getS2 X13 hx hZ hown (host := "") (Or.inl (hw _ (List.mem_of_getElem? (i := 17) rfl))) Via.refl e13 S_NUMBER (g := (mkF m 32 #[rv a0r, rv a1r, .unset] [(.ref a1r)])) rfl (hb hby own_d_prog_4_method_6_code_32)
        refine own_go (T' := T16) (g' := (mkF m 35 #[rv a0r, rv a1r, .unset] [(.ref sN), (.ref a1r)])) (st16) ?_
        by_cases ha17 : ((.ref a1r) : Value) = (.ref sN)
        · refine own_go (T' := T16) (g' := (mkF m 38 #[rv a0r, rv a1r, .unset] [])) (fun t k => Jvm.RoadKit.acmp (g := (mkF m 35 #[rv a0r, rv a1r, .unset] [(.ref sN), (.ref a1r)])) X16 hx rfl (x := (.ref a1r)) (y := (.ref sN)) rfl rfl (pc0 := 35) (pc' := 38) (same := true) rfl (hb hby own_d_prog_4_method_6_code_35) rfl (decide_eq_true ha17) (by decide) (by decide) k) ?_
          obtain ⟨T18, X18, e18, st18⟩ := getS2 X16 hx hZ hown (host := "") (Or.inl (hw _ (List.mem_of_getElem? (i := 17) rfl))) Via.refl e16 S_NUMBER (g := (mkF m 38 #[rv a0r, rv a1r, .unset] [])) rfl (hb hby own_d_prog_4_method_6_code_38)
          refine own_go (T' := T18) (g' := (mkF m 41 #[rv a0r, rv a1r, .unset] [(.ref sN)])) (st18) ?_
          refine own_go (T' := T18) (g' := (mkF m 42 #[rv a0r, rv a1r, rv sN] [])) (fun t k => XS.astoreN X18.here hx rfl (hb hby own_d_prog_4_method_6_code_41) rfl rfl (l' := #[rv a0r, rv a1r, rv sN]) rfl k) ?_
          refine own_go (T' := T18) (g' := (mkF m 49 #[rv a0r, rv a1r, rv sN] [])) (fun t k => XS.goto X18.here hx rfl (pc0 := 42) (pc' := 49) rfl (hb hby own_d_prog_4_method_6_code_42) (by decide) (by decide) k) ?_
          refine own_go (T' := T18) (g' := (mkF m 50 #[rv a0r, rv a1r, rv sN] [(.ref sN)])) (fun t k => XS.aloadN X18.here hx rfl (hb hby own_d_prog_4_method_6_code_49) rfl rfl k) ?_
          exact own_ret X18 hlk hx Bd.returns rfl (Or.inr (Or.inr (Or.inr (Or.inr ⟨rfl, rfl, rfl⟩)))) (hb hby own_d_prog_4_method_6_code_50) ⟨by have q0 := eq_false (fun q => ha10 (congrArg Value.ref q)); have q1 := eq_true (Value.ref.inj ha12); have q2 := eq_false (fun q => ha14 (congrArg Value.ref q)); have q3 := eq_true (Value.ref.inj ha17); simp [own_and, q0, q1, q2, q3], rfl, e18⟩ (by decide) (by decide)
        · refine own_go (T' := T16) (g' := (mkF m 45 #[rv a0r, rv a1r, .unset] [])) (fun t k => Jvm.RoadKit.acmp (g := (mkF m 35 #[rv a0r, rv a1r, .unset] [(.ref sN), (.ref a1r)])) X16 hx rfl (x := (.ref a1r)) (y := (.ref sN)) rfl rfl (pc0 := 35) (pc' := 45) (same := false) rfl (hb hby own_d_prog_4_method_6_code_35) rfl (decide_eq_false ha17) (by decide) (by decide) k) ?_
          obtain ⟨T19, X19, e19, st19⟩ := getS2 X16 hx hZ hown (host := "") (Or.inl (hw _ (List.mem_of_getElem? (i := 19) rfl))) Via.refl e16 S_MIXED (g := (mkF m 45 #[rv a0r, rv a1r, .unset] [])) rfl (hb hby own_d_prog_4_method_6_code_45)
          refine own_go (T' := T19) (g' := (mkF m 48 #[rv a0r, rv a1r, .unset] [(.ref sM)])) (st19) ?_
          refine own_go (T' := T19) (g' := (mkF m 49 #[rv a0r, rv a1r, rv sM] [])) (fun t k => XS.astoreN X19.here hx rfl (hb hby own_d_prog_4_method_6_code_48) rfl rfl (l' := #[rv a0r, rv a1r, rv sM]) rfl k) ?_
          refine own_go (T' := T19) (g' := (mkF m 50 #[rv a0r, rv a1r, rv sM] [(.ref sM)])) (fun t k => XS.aloadN X19.here hx rfl (hb hby own_d_prog_4_method_6_code_49) rfl rfl k) ?_
          exact own_ret X19 hlk hx Bd.returns rfl (Or.inr (Or.inr (Or.inr (Or.inr ⟨rfl, rfl, rfl⟩)))) (hb hby own_d_prog_4_method_6_code_50) ⟨by have q0 := eq_false (fun q => ha10 (congrArg Value.ref q)); have q1 := eq_true (Value.ref.inj ha12); have q2 := eq_false (fun q => ha14 (congrArg Value.ref q)); have q3 := eq_false (fun q => ha17 (congrArg Value.ref q)); simp [own_and, q0, q1, q2, q3], rfl, e19⟩ (by decide) (by decide)
    · refine own_go (T' := T11) (g' := (mkF m 17 #[rv a0r, rv a1r, .unset] [])) (fun t k => Jvm.RoadKit.acmp (g := (mkF m 14 #[rv a0r, rv a1r, .unset] [(.ref sI), (.ref a0r)])) X11 hx rfl (x := (.ref a0r)) (y := (.ref sI)) rfl rfl (pc0 := 14) (pc' := 17) (same := false) rfl (hb hby own_d_prog_4_method_6_code_14) rfl (decide_eq_false ha12) (by decide) (by decide) k) ?_
      refine own_go (T' := T11) (g' := (mkF m 18 #[rv a0r, rv a1r, .unset] [(.ref a0r)])) (fun t k => XS.aloadN X11.here hx rfl (hb hby own_d_prog_4_method_6_code_17) rfl rfl k) ?_
      obtain ⟨T20, X20, e20, st20⟩ := getS2 X11 hx hZ hown (host := "") (Or.inl (hw _ (List.mem_of_getElem? (i := 17) rfl))) Via.refl e11 S_NUMBER (g := (mkF m 18 #[rv a0r, rv a1r, .unset] [(.ref a0r)])) rfl (hb hby own_d_prog_4_method_6_code_18)
      refine own_go (T' := T20) (g' := (mkF m 21 #[rv a0r, rv a1r, .unset] [(.ref sN), (.ref a0r)])) (st20) ?_
      by_cases ha21 : ((.ref a0r) : Value) = (.ref sN)
      · refine own_go (T' := T20) (g' := (mkF m 24 #[rv a0r, rv a1r, .unset] [])) (fun t k => Jvm.RoadKit.acmp (g := (mkF m 21 #[rv a0r, rv a1r, .unset] [(.ref sN), (.ref a0r)])) X20 hx rfl (x := (.ref a0r)) (y := (.ref sN)) rfl rfl (pc0 := 21) (pc' := 24) (same := true) rfl (hb hby own_d_prog_4_method_6_code_21) rfl (decide_eq_true ha21) (by decide) (by decide) k) ?_
        refine own_go (T' := T20) (g' := (mkF m 25 #[rv a0r, rv a1r, .unset] [(.ref a1r)])) (fun t k => XS.aloadN X20.here hx rfl (hb hby own_d_prog_4_method_6_code_24) rfl rfl k) ?_
        obtain ⟨T22, X22, e22, st22⟩ := getS2 X20 hx hZ hown (host := "") (Or.inl (hw _ (List.mem_of_getElem? (i := 15) rfl))) Via.refl e20 S_INTEGER (g := (mkF m 25 #[rv a0r, rv a1r, .unset] [(.ref a1r)])) rfl (hb hby own_d_prog_4_method_6_code_25)
        refine own_go (T' := T22) (g' := (mkF m 28 #[rv a0r, rv a1r, .unset] [(.ref sI), (.ref a1r)])) (st22) ?_
        by_cases ha23 : ((.ref a1r) : Value) = (.ref sI)
        · refine own_go (T' := T22) (g' := (mkF m 38 #[rv a0r, rv a1r, .unset] [])) (fun t k => Jvm.RoadKit.acmp (g := (mkF m 28 #[rv a0r, rv a1r, .unset] [(.ref sI), (.ref a1r)])) X22 hx rfl (x := (.ref a1r)) (y := (.ref sI)) rfl rfl (pc0 := 28) (pc' := 38) (same := true) rfl (hb hby own_d_prog_4_method_6_code_28) rfl (decide_eq_true ha23) (by decide) (by decide) k) ?_
          obtain ⟨T24, X24, e24, st24⟩ := getS2 X22 hx hZ hown (host := "") (Or.inl (hw _ (List.mem_of_getElem? (i := 17) rfl))) Via.refl e22 S_NUMBER (g := (mkF m 38 #[rv a0r, rv a1r, .unset] [])) rfl (hb hby own_d_prog_4_method_6_code_38)
          refine own_go (T' := T24) (g' := (mkF m 41 #[rv a0r, rv a1r, .unset] [(.ref sN)])) (st24) ?_
          refine own_go (T' := T24) (g' := (mkF m 42 #[rv a0r, rv a1r, rv sN] [])) (fun t k => XS.astoreN X24.here hx rfl (hb hby own_d_prog_4_method_6_code_41) rfl rfl (l' := #[rv a0r, rv a1r, rv sN]) rfl k) ?_
          refine own_go (T' := T24) (g' := (mkF m 49 #[rv a0r, rv a1r, rv sN] [])) (fun t k => XS.goto X24.here hx rfl (pc0 := 42) (pc' := 49) rfl (hb hby own_d_prog_4_method_6_code_42) (by decide) (by decide) k) ?_
          refine own_go (T' := T24) (g' := (mkF m 50 #[rv a0r, rv a1r, rv sN] [(.ref sN)])) (fun t k => XS.aloadN X24.here hx rfl (hb hby own_d_prog_4_method_6_code_49) rfl rfl k) ?_
          exact own_ret X24 hlk hx Bd.returns rfl (Or.inr (Or.inr (Or.inr (Or.inr ⟨rfl, rfl, rfl⟩)))) (hb hby own_d_prog_4_method_6_code_50) ⟨by have q0 := eq_false (fun q => ha10 (congrArg Value.ref q)); have q1 := eq_false (fun q => ha12 (congrArg Value.ref q)); have q2 := eq_true (Value.ref.inj ha21); have q3 := eq_true (Value.ref.inj ha23); simp [own_and, q0, q1, q2, q3], rfl, e24⟩ (by decide) (by decide)
        · refine own_go (T' := T22) (g' := (mkF m 31 #[rv a0r, rv a1r, .unset] [])) (fun t k => Jvm.RoadKit.acmp (g := (mkF m 28 #[rv a0r, rv a1r, .unset] [(.ref sI), (.ref a1r)])) X22 hx rfl (x := (.ref a1r)) (y := (.ref sI)) rfl rfl (pc0 := 28) (pc' := 31) (same := false) rfl (hb hby own_d_prog_4_method_6_code_28) rfl (decide_eq_false ha23) (by decide) (by decide) k) ?_
          refine own_go (T' := T22) (g' := (mkF m 32 #[rv a0r, rv a1r, .unset] [(.ref a1r)])) (fun t k => XS.aloadN X22.here hx rfl (hb hby own_d_prog_4_method_6_code_31) rfl rfl k) ?_
          obtain ⟨T25, X25, e25, st25⟩ := getS2 X22 hx hZ hown (host := "") (Or.inl (hw _ (List.mem_of_getElem? (i := 17) rfl))) Via.refl e22 S_NUMBER (g := (mkF m 32 #[rv a0r, rv a1r, .unset] [(.ref a1r)])) rfl (hb hby own_d_prog_4_method_6_code_32)
          refine own_go (T' := T25) (g' := (mkF m 35 #[rv a0r, rv a1r, .unset] [(.ref sN), (.ref a1r)])) (st25) ?_
          by_cases ha26 : ((.ref a1r) : Value) = (.ref sN)
          · refine own_go (T' := T25) (g' := (mkF m 38 #[rv a0r, rv a1r, .unset] [])) (fun t k => Jvm.RoadKit.acmp (g := (mkF m 35 #[rv a0r, rv a1r, .unset] [(.ref sN), (.ref a1r)])) X25 hx rfl (x := (.ref a1r)) (y := (.ref sN)) rfl rfl (pc0 := 35) (pc' := 38) (same := true) rfl (hb hby own_d_prog_4_method_6_code_35) rfl (decide_eq_true ha26) (by decide) (by decide) k) ?_
            obtain ⟨T27, X27, e27, st27⟩ := getS2 X25 hx hZ hown (host := "") (Or.inl (hw _ (List.mem_of_getElem? (i := 17) rfl))) Via.refl e25 S_NUMBER (g := (mkF m 38 #[rv a0r, rv a1r, .unset] [])) rfl (hb hby own_d_prog_4_method_6_code_38)
            refine own_go (T' := T27) (g' := (mkF m 41 #[rv a0r, rv a1r, .unset] [(.ref sN)])) (st27) ?_
            refine own_go (T' := T27) (g' := (mkF m 42 #[rv a0r, rv a1r, rv sN] [])) (fun t k => XS.astoreN X27.here hx rfl (hb hby own_d_prog_4_method_6_code_41) rfl rfl (l' := #[rv a0r, rv a1r, rv sN]) rfl k) ?_
            refine own_go (T' := T27) (g' := (mkF m 49 #[rv a0r, rv a1r, rv sN] [])) (fun t k => XS.goto X27.here hx rfl (pc0 := 42) (pc' := 49) rfl (hb hby own_d_prog_4_method_6_code_42) (by decide) (by decide) k) ?_
            refine own_go (T' := T27) (g' := (mkF m 50 #[rv a0r, rv a1r, rv sN] [(.ref sN)])) (fun t k => XS.aloadN X27.here hx rfl (hb hby own_d_prog_4_method_6_code_49) rfl rfl k) ?_
            exact own_ret X27 hlk hx Bd.returns rfl (Or.inr (Or.inr (Or.inr (Or.inr ⟨rfl, rfl, rfl⟩)))) (hb hby own_d_prog_4_method_6_code_50) ⟨by have q0 := eq_false (fun q => ha10 (congrArg Value.ref q)); have q1 := eq_false (fun q => ha12 (congrArg Value.ref q)); have q2 := eq_true (Value.ref.inj ha21); have q3 := eq_false (fun q => ha23 (congrArg Value.ref q)); have q4 := eq_true (Value.ref.inj ha26); simp [own_and, q0, q1, q2, q3, q4], rfl, e27⟩ (by decide) (by decide)
          · refine own_go (T' := T25) (g' := (mkF m 45 #[rv a0r, rv a1r, .unset] [])) (fun t k => Jvm.RoadKit.acmp (g := (mkF m 35 #[rv a0r, rv a1r, .unset] [(.ref sN), (.ref a1r)])) X25 hx rfl (x := (.ref a1r)) (y := (.ref sN)) rfl rfl (pc0 := 35) (pc' := 45) (same := false) rfl (hb hby own_d_prog_4_method_6_code_35) rfl (decide_eq_false ha26) (by decide) (by decide) k) ?_
            obtain ⟨T28, X28, e28, st28⟩ := getS2 X25 hx hZ hown (host := "") (Or.inl (hw _ (List.mem_of_getElem? (i := 19) rfl))) Via.refl e25 S_MIXED (g := (mkF m 45 #[rv a0r, rv a1r, .unset] [])) rfl (hb hby own_d_prog_4_method_6_code_45)
            refine own_go (T' := T28) (g' := (mkF m 48 #[rv a0r, rv a1r, .unset] [(.ref sM)])) (st28) ?_
            refine own_go (T' := T28) (g' := (mkF m 49 #[rv a0r, rv a1r, rv sM] [])) (fun t k => XS.astoreN X28.here hx rfl (hb hby own_d_prog_4_method_6_code_48) rfl rfl (l' := #[rv a0r, rv a1r, rv sM]) rfl k) ?_
            refine own_go (T' := T28) (g' := (mkF m 50 #[rv a0r, rv a1r, rv sM] [(.ref sM)])) (fun t k => XS.aloadN X28.here hx rfl (hb hby own_d_prog_4_method_6_code_49) rfl rfl k) ?_
            exact own_ret X28 hlk hx Bd.returns rfl (Or.inr (Or.inr (Or.inr (Or.inr ⟨rfl, rfl, rfl⟩)))) (hb hby own_d_prog_4_method_6_code_50) ⟨by have q0 := eq_false (fun q => ha10 (congrArg Value.ref q)); have q1 := eq_false (fun q => ha12 (congrArg Value.ref q)); have q2 := eq_true (Value.ref.inj ha21); have q3 := eq_false (fun q => ha23 (congrArg Value.ref q)); have q4 := eq_false (fun q => ha26 (congrArg Value.ref q)); simp [own_and, q0, q1, q2, q3, q4], rfl, e28⟩ (by decide) (by decide)
      · refine own_go (T' := T20) (g' := (mkF m 45 #[rv a0r, rv a1r, .unset] [])) (fun t k => Jvm.RoadKit.acmp (g := (mkF m 21 #[rv a0r, rv a1r, .unset] [(.ref sN), (.ref a0r)])) X20 hx rfl (x := (.ref a0r)) (y := (.ref sN)) rfl rfl (pc0 := 21) (pc' := 45) (same := false) rfl (hb hby own_d_prog_4_method_6_code_21) rfl (decide_eq_false ha21) (by decide) (by decide) k) ?_
        obtain ⟨T29, X29, e29, st29⟩ := getS2 X20 hx hZ hown (host := "") (Or.inl (hw _ (List.mem_of_getElem? (i := 19) rfl))) Via.refl e20 S_MIXED (g := (mkF m 45 #[rv a0r, rv a1r, .unset] [])) rfl (hb hby own_d_prog_4_method_6_code_45)
        refine own_go (T' := T29) (g' := (mkF m 48 #[rv a0r, rv a1r, .unset] [(.ref sM)])) (st29) ?_
        refine own_go (T' := T29) (g' := (mkF m 49 #[rv a0r, rv a1r, rv sM] [])) (fun t k => XS.astoreN X29.here hx rfl (hb hby own_d_prog_4_method_6_code_48) rfl rfl (l' := #[rv a0r, rv a1r, rv sM]) rfl k) ?_
        refine own_go (T' := T29) (g' := (mkF m 50 #[rv a0r, rv a1r, rv sM] [(.ref sM)])) (fun t k => XS.aloadN X29.here hx rfl (hb hby own_d_prog_4_method_6_code_49) rfl rfl k) ?_
        exact own_ret X29 hlk hx Bd.returns rfl (Or.inr (Or.inr (Or.inr (Or.inr ⟨rfl, rfl, rfl⟩)))) (hb hby own_d_prog_4_method_6_code_50) ⟨by have q0 := eq_false (fun q => ha10 (congrArg Value.ref q)); have q1 := eq_false (fun q => ha12 (congrArg Value.ref q)); have q2 := eq_false (fun q => ha21 (congrArg Value.ref q)); simp [own_and, q0, q1, q2], rfl, e29⟩ (by decide) (by decide)

theorem own_pd0 : parseMethodDescriptor "(I)Lcom/example/piastrella/piastrella/data/PropertyType;" = some ⟨[.int], some (.object "com/example/piastrella/piastrella/data/PropertyType")⟩ := by decide +kernel
theorem own_pd1 : parseMethodDescriptor "(Lcom/example/piastrella/piastrella/data/PropertyType;)Lcom/example/piastrella/piastrella/data/PropertyType;" = some ⟨[(.object "com/example/piastrella/piastrella/data/PropertyType")], some (.object "com/example/piastrella/piastrella/data/PropertyType")⟩ := by decide +kernel
def Q_own_law (h0 : Heap) (n0 : Nat) (v : Option Value) (h : Heap) (L : List Loc) : Prop := v = some (.int 1) ∧ Fr n0 L
set_option maxRecDepth 65536 in
set_option maxHeartbeats 40000000 in
theorem own_law (l : Launch) (Z : State) (a0 : Array Value) (hw : ∀ d ∈ tables_1, d.before a0 Z = true) (ws : List Jvm.Cond) (x0 x1 : Int32) (sS sI sN sB sM : Addr) (h0 : Heap) (n0 : Nat) (Z0 : n0 ≤ h0.size) (S_STRING : Sta Z h0 "com/example/piastrella/piastrella/data/PropertyType" "STRING" "Lcom/example/piastrella/piastrella/data/PropertyType;" (.ref sS)) (S_INTEGER : Sta Z h0 "com/example/piastrella/piastrella/data/PropertyType" "INTEGER" "Lcom/example/piastrella/piastrella/data/PropertyType;" (.ref sI)) (S_NUMBER : Sta Z h0 "com/example/piastrella/piastrella/data/PropertyType" "NUMBER" "Lcom/example/piastrella/piastrella/data/PropertyType;" (.ref sN)) (S_BOOLEAN : Sta Z h0 "com/example/piastrella/piastrella/data/PropertyType" "BOOLEAN" "Lcom/example/piastrella/piastrella/data/PropertyType;" (.ref sB)) (S_MIXED : Sta Z h0 "com/example/piastrella/piastrella/data/PropertyType" "MIXED" "Lcom/example/piastrella/piastrella/data/PropertyType;" (.ref sM)) (E_STRING : Exa Z h0 sS "com/example/piastrella/piastrella/data/PropertyType") (E_INTEGER : Exa Z h0 sI "com/example/piastrella/piastrella/data/PropertyType") (E_NUMBER : Exa Z h0 sN "com/example/piastrella/piastrella/data/PropertyType") (E_BOOLEAN : Exa Z h0 sB "com/example/piastrella/piastrella/data/PropertyType") (E_MIXED : Exa Z h0 sM "com/example/piastrella/piastrella/data/PropertyType") (hd : own_dist sS sI sN sB sM) :
    MetFree l x (head1 (Jvm.Cond.code x code maxLocals ret :: ws) room_1) (fun au Uu => au = #[(.int x0), (.int x1)] ∧ Z.Warmed39 Uu.vm ∧ Uu.heap = h0) (fun _ _ _ _ _ => True) (fun _ Uu ou Uw => ∃ vu Lu, ou = .returned vu ∧ Q_own_law h0 n0 vu Uw.heap Lu ∧ FrameEnd Uu ou Uw Lu 0 0) := by
  refine MetFree.of_bodySF (plainFor_of_name (by first | (simp [plainName, overriddenIn]; done) | decide +kernel)) hisR ?_
  intro p e s m args below meth c s₁ Bd hml0 hP hK
  obtain ⟨rfl, hZ, hh⟩ := hP
  have hx := Bd.exec
  have hby := Bd.bytes
  have hlk := Bd.notSynchronized
  have hml : c.maxLocals = 6 := hml0
  have hown : s.vm.findClass "com/example/piastrella/piastrella/data/PropertyTypeAndPinLaw" = some m.cls := findClass_of_methodNamed Bd.named
  have hnm := (name_of_methodNamed Bd.named Bd.method).1
  have X0 : Stand p l e room_1 s m #[(.int x0), (.int x1)] below meth c s₁ [] 0 0 := Stand.of_body Bd
  have e0 : s₁.heap = h0 := by rw [← hh, Bd.state]; rfl
  have N0 := Fr.nil n0
  show own_Ends p e below s₁ (entryFrame m #[(.int x0), (.int x1)] maxLocals) (fun ou Uw => ∃ vu Lu, ou = .returned vu ∧ Q_own_law h0 n0 vu Uw.heap Lu ∧ FrameEnd s ou Uw Lu 0 0)
  refine own_start (g' := (mkF m 0 #[iv x0, iv x1, .unset, .unset, .unset, .unset] [])) (by first | (simp [entryFrame, mkF, argsToLocals, Value.category, iv, rv, maxLocals]; done) | rfl) ?_
  refine own_go (T' := s₁) (g' := (mkF m 1 #[iv x0, iv x1, .unset, .unset, .unset, .unset] [(.int x0)])) (fun t k => XS.iloadN X0.here hx rfl (hb hby at_0) rfl k) ?_
  refine own_go (T' := s₁) (g' := (mkF m 3 #[iv x0, iv x1, .unset, .unset, .unset, .unset] [(.int (2147483647 : Int32)), (.int x0)])) (fun t k => X0.ldcInt hx hown (mvT hZ (hw _ (List.mem_of_getElem? (i := 0) rfl))) (g := (mkF m 1 #[iv x0, iv x1, .unset, .unset, .unset, .unset] [(.int x0)])) rfl (hb hby at_1) _ k) ?_
  refine own_go (T' := s₁) (g' := (mkF m 4 #[iv x0, iv x1, .unset, .unset, .unset, .unset] [(.int (x0 &&& (2147483647 : Int32)))])) (fun t k => XS.iand X0.here hx rfl (hb hby at_3) rfl k) ?_
  refine own_go (T' := s₁) (g' := (mkF m 5 #[iv x0, iv x1, .unset, .unset, .unset, .unset] [(.int (5 : Int32)), (.int (x0 &&& (2147483647 : Int32)))])) (fun t k => XS.iconst X0.here hx rfl (hb hby at_4) k) ?_
  refine own_go (T' := s₁) (g' := (mkF m 6 #[iv x0, iv x1, .unset, .unset, .unset, .unset] [(.int ((x0 &&& (2147483647 : Int32)) % (5 : Int32)))])) (fun t k => Jvm.RoadKit.iremM X0 hx rfl (hb hby at_5) rfl (by decide) k) ?_
  refine own_go (T' := s₁) (g' := (mkF m 7 #[iv x0, iv x1, iv ((x0 &&& (2147483647 : Int32)) % (5 : Int32)), .unset, .unset, .unset] [])) (fun t k => XS.istoreN X0.here hx rfl (hb hby at_6) rfl (l' := #[iv x0, iv x1, iv ((x0 &&& (2147483647 : Int32)) % (5 : Int32)), .unset, .unset, .unset]) rfl k) ?_
  refine own_go (T' := s₁) (g' := (mkF m 8 #[iv x0, iv x1, iv ((x0 &&& (2147483647 : Int32)) % (5 : Int32)), .unset, .unset, .unset] [(.int x1)])) (fun t k => XS.iloadN X0.here hx rfl (hb hby at_7) rfl k) ?_
  refine own_go (T' := s₁) (g' := (mkF m 10 #[iv x0, iv x1, iv ((x0 &&& (2147483647 : Int32)) % (5 : Int32)), .unset, .unset, .unset] [(.int (2147483647 : Int32)), (.int x1)])) (fun t k => X0.ldcInt hx hown (mvT hZ (hw _ (List.mem_of_getElem? (i := 0) rfl))) (g := (mkF m 8 #[iv x0, iv x1, iv ((x0 &&& (2147483647 : Int32)) % (5 : Int32)), .unset, .unset, .unset] [(.int x1)])) rfl (hb hby at_8) _ k) ?_
  refine own_go (T' := s₁) (g' := (mkF m 11 #[iv x0, iv x1, iv ((x0 &&& (2147483647 : Int32)) % (5 : Int32)), .unset, .unset, .unset] [(.int (x1 &&& (2147483647 : Int32)))])) (fun t k => XS.iand X0.here hx rfl (hb hby at_10) rfl k) ?_
  refine own_go (T' := s₁) (g' := (mkF m 12 #[iv x0, iv x1, iv ((x0 &&& (2147483647 : Int32)) % (5 : Int32)), .unset, .unset, .unset] [(.int (5 : Int32)), (.int (x1 &&& (2147483647 : Int32)))])) (fun t k => XS.iconst X0.here hx rfl (hb hby at_11) k) ?_
  refine own_go (T' := s₁) (g' := (mkF m 13 #[iv x0, iv x1, iv ((x0 &&& (2147483647 : Int32)) % (5 : Int32)), .unset, .unset, .unset] [(.int ((x1 &&& (2147483647 : Int32)) % (5 : Int32)))])) (fun t k => Jvm.RoadKit.iremM X0 hx rfl (hb hby at_12) rfl (by decide) k) ?_
  refine own_go (T' := s₁) (g' := (mkF m 14 #[iv x0, iv x1, iv ((x0 &&& (2147483647 : Int32)) % (5 : Int32)), iv ((x1 &&& (2147483647 : Int32)) % (5 : Int32)), .unset, .unset] [])) (fun t k => XS.istoreN X0.here hx rfl (hb hby at_13) rfl (l' := #[iv x0, iv x1, iv ((x0 &&& (2147483647 : Int32)) % (5 : Int32)), iv ((x1 &&& (2147483647 : Int32)) % (5 : Int32)), .unset, .unset]) rfl k) ?_
  refine own_go (T' := s₁) (g' := (mkF m 15 #[iv x0, iv x1, iv ((x0 &&& (2147483647 : Int32)) % (5 : Int32)), iv ((x1 &&& (2147483647 : Int32)) % (5 : Int32)), .unset, .unset] [(.int ((x0 &&& (2147483647 : Int32)) % (5 : Int32)))])) (fun t k => XS.iloadN X0.here hx rfl (hb hby at_14) rfl k) ?_
  obtain ⟨_, _, ⟨T30, L30, k30, n30⟩, -, X30, ⟨Lc30, hQ30, l30, y30, z30⟩, st30⟩ := Jvm.LawKit.callS X0 hx (y := (⟨"com/example/piastrella/piastrella/data/PropertyTypeAndPinLaw", "pick", "(I)Lcom/example/piastrella/piastrella/data/PropertyType;"⟩ : MethodName)) hown (mvT hZ (hw _ (List.mem_of_getElem? (i := 1) rfl))) (mvT hZ (hw _ (List.mem_of_getElem? (i := 2) rfl))) (mvT hZ (hw _ (List.mem_of_getElem? (i := 3) rfl))) (mvT hZ (hw _ (List.mem_of_getElem? (i := 4) rfl))) (by decide) (backOf (W := 0) (own_rpick l Z a0 hw [] ((x0 &&& (2147483647 : Int32)) % (5 : Int32)) sS sI sN sB sM h0 n0 Z0 S_STRING S_INTEGER S_NUMBER S_BOOLEAN S_MIXED) hZ (hw _ (List.mem_of_getElem? (i := 4) rfl)) (hw _ (List.mem_of_getElem? (i := 3) rfl)) (by decide) (by decide)) (g := (mkF m 15 #[iv x0, iv x1, iv ((x0 &&& (2147483647 : Int32)) % (5 : Int32)), iv ((x1 &&& (2147483647 : Int32)) % (5 : Int32)), .unset, .unset] [(.int ((x0 &&& (2147483647 : Int32)) % (5 : Int32)))])) rfl (by rw [hml]; rfl) (argsL := [(.int ((x0 &&& (2147483647 : Int32)) % (5 : Int32)))]) (rest := []) (lenOf own_pd0 rfl) rfl (by show 2 * 0 + _ ≤ _; exact Nat.le_of_eq rfl) (hb hby at_15) (fun _ _ => ⟨rfl, e0, (by decide : 0 + 0 ≤ _), (by decide : 0 + 0 ≤ _)⟩)
  dsimp only [Pt.U, Pt.locs, Pt.cells, Pt.slots] at X30 l30 y30 z30 st30 hQ30
  subst l30 y30 z30
  obtain ⟨rfl, rfl, e30⟩ := hQ30
  have E30q : T30.heap = h0 := e30
  have N30 := Fr.app N0 (Fr.nil n0)
  refine own_go (T' := T30) (g' := (mkF m 18 #[iv x0, iv x1, iv ((x0 &&& (2147483647 : Int32)) % (5 : Int32)), iv ((x1 &&& (2147483647 : Int32)) % (5 : Int32)), .unset, .unset] [(.ref (own_pick sS sI sN sB sM ((x0 &&& (2147483647 : Int32)) % (5 : Int32))))])) (st30) ?_
  refine own_go (T' := T30) (g' := (mkF m 19 #[iv x0, iv x1, iv ((x0 &&& (2147483647 : Int32)) % (5 : Int32)), iv ((x1 &&& (2147483647 : Int32)) % (5 : Int32)), .unset, .unset] [(.int ((x1 &&& (2147483647 : Int32)) % (5 : Int32))), (.ref (own_pick sS sI sN sB sM ((x0 &&& (2147483647 : Int32)) % (5 : Int32))))])) (fun t k => XS.iloadN X30.here hx rfl (hb hby at_18) rfl k) ?_
  obtain ⟨_, _, ⟨T31, L31, k31, n31⟩, -, X31, ⟨Lc31, hQ31, l31, y31, z31⟩, st31⟩ := Jvm.LawKit.callS X30 hx (y := (⟨"com/example/piastrella/piastrella/data/PropertyTypeAndPinLaw", "pick", "(I)Lcom/example/piastrella/piastrella/data/PropertyType;"⟩ : MethodName)) hown (mvT hZ (hw _ (List.mem_of_getElem? (i := 1) rfl))) (mvT hZ (hw _ (List.mem_of_getElem? (i := 2) rfl))) (mvT hZ (hw _ (List.mem_of_getElem? (i := 3) rfl))) (mvT hZ (hw _ (List.mem_of_getElem? (i := 4) rfl))) (by decide) (backOf (W := 1) (own_rpick l Z a0 hw [] ((x1 &&& (2147483647 : Int32)) % (5 : Int32)) sS sI sN sB sM h0 n0 Z0 S_STRING S_INTEGER S_NUMBER S_BOOLEAN S_MIXED) hZ (hw _ (List.mem_of_getElem? (i := 4) rfl)) (hw _ (List.mem_of_getElem? (i := 3) rfl)) (by decide) (by decide)) (g := (mkF m 19 #[iv x0, iv x1, iv ((x0 &&& (2147483647 : Int32)) % (5 : Int32)), iv ((x1 &&& (2147483647 : Int32)) % (5 : Int32)), .unset, .unset] [(.int ((x1 &&& (2147483647 : Int32)) % (5 : Int32))), (.ref (own_pick sS sI sN sB sM ((x0 &&& (2147483647 : Int32)) % (5 : Int32))))])) rfl (by rw [hml]; rfl) (argsL := [(.int ((x1 &&& (2147483647 : Int32)) % (5 : Int32)))]) (rest := [(.ref (own_pick sS sI sN sB sM ((x0 &&& (2147483647 : Int32)) % (5 : Int32))))]) (lenOf own_pd0 rfl) rfl (by show 2 * 0 + _ ≤ _; exact Nat.le_of_eq rfl) (hb hby at_19) (fun _ _ => ⟨rfl, E30q, (by decide : 0 + 0 ≤ _), (by decide : 0 + 0 ≤ _)⟩)
  dsimp only [Pt.U, Pt.locs, Pt.cells, Pt.slots] at X31 l31 y31 z31 st31 hQ31
  subst l31 y31 z31
  obtain ⟨rfl, rfl, e31⟩ := hQ31
  have E31q : T31.heap = h0 := e31
  have N31 := Fr.app N30 (Fr.nil n0)
  refine own_go (T' := T31) (g' := (mkF m 22 #[iv x0, iv x1, iv ((x0 &&& (2147483647 : Int32)) % (5 : Int32)), iv ((x1 &&& (2147483647 : Int32)) % (5 : Int32)), .unset, .unset] [(.ref (own_pick sS sI sN sB sM ((x1 &&& (2147483647 : Int32)) % (5 : Int32)))), (.ref (own_pick sS sI sN sB sM ((x0 &&& (2147483647 : Int32)) % (5 : Int32))))])) (st31) ?_
  obtain ⟨cq32, kq32, q32a, q32b, q32c⟩ := isOf hZ E31q (own_pex _ E_STRING E_INTEGER E_NUMBER E_BOOLEAN E_MIXED)
  obtain ⟨_, _, ⟨T32, L32, k32, n32⟩, -, X32, ⟨Lc32, hQ32, l32, y32, z32⟩, st32⟩ := X31.virtualBack hx (y := (⟨"com/example/piastrella/piastrella/data/PropertyType", "and", "(Lcom/example/piastrella/piastrella/data/PropertyType;)Lcom/example/piastrella/piastrella/data/PropertyType;"⟩ : MethodName)) (z := (⟨"com/example/piastrella/piastrella/data/PropertyType", "and", "(Lcom/example/piastrella/piastrella/data/PropertyType;)Lcom/example/piastrella/piastrella/data/PropertyType;"⟩ : MethodName)) hown (mvT hZ (hw _ (List.mem_of_getElem? (i := 10) rfl))) (mvT hZ (hw _ (List.mem_of_getElem? (i := 11) rfl))) (notFace_of_selects (args := #[]) (mvT hZ (hw _ (List.mem_of_getElem? (i := 13) rfl)))) (mvT hZ (hw _ (List.mem_of_getElem? (i := 13) rfl))) (mvT hZ (hw _ (List.mem_of_getElem? (i := 12) rfl))) (by decide) (backOf (W := 0) (own_rand l Z a0 hw [] (own_pick sS sI sN sB sM ((x0 &&& (2147483647 : Int32)) % (5 : Int32))) (own_pick sS sI sN sB sM ((x1 &&& (2147483647 : Int32)) % (5 : Int32))) sI sN sM h0 n0 Z0 S_INTEGER S_NUMBER S_MIXED) hZ (hw _ (List.mem_of_getElem? (i := 14) rfl)) (hw _ (List.mem_of_getElem? (i := 6) rfl)) (by decide) (by decide)) q32a q32c (g := (mkF m 22 #[iv x0, iv x1, iv ((x0 &&& (2147483647 : Int32)) % (5 : Int32)), iv ((x1 &&& (2147483647 : Int32)) % (5 : Int32)), .unset, .unset] [(.ref (own_pick sS sI sN sB sM ((x1 &&& (2147483647 : Int32)) % (5 : Int32)))), (.ref (own_pick sS sI sN sB sM ((x0 &&& (2147483647 : Int32)) % (5 : Int32))))])) rfl (by rw [hml]; rfl) (Steps.refl _) (argsL := [(.ref (own_pick sS sI sN sB sM ((x1 &&& (2147483647 : Int32)) % (5 : Int32))))]) (rest := []) (lenOf own_pd1 rfl) rfl (by show 2 * 0 + _ ≤ _; exact Nat.le_of_eq rfl) (hb hby at_22) (fun _ _ => ⟨rfl, E31q, (by decide : 0 + 0 ≤ _), (by decide : 0 + 0 ≤ _)⟩)
  dsimp only [Pt.U, Pt.locs, Pt.cells, Pt.slots] at X32 l32 y32 z32 st32 hQ32
  subst l32 y32 z32
  obtain ⟨rfl, rfl, e32⟩ := hQ32
  have E32q : T32.heap = h0 := e32
  have N32 := Fr.app N31 (Fr.nil n0)
  refine own_go (T' := T32) (g' := (mkF m 25 #[iv x0, iv x1, iv ((x0 &&& (2147483647 : Int32)) % (5 : Int32)), iv ((x1 &&& (2147483647 : Int32)) % (5 : Int32)), .unset, .unset] [(.ref (own_and sI sN sM (own_pick sS sI sN sB sM ((x0 &&& (2147483647 : Int32)) % (5 : Int32))) (own_pick sS sI sN sB sM ((x1 &&& (2147483647 : Int32)) % (5 : Int32)))))])) (fun t k => st32.trans k) ?_
  refine own_go (T' := T32) (g' := (mkF m 27 #[iv x0, iv x1, iv ((x0 &&& (2147483647 : Int32)) % (5 : Int32)), iv ((x1 &&& (2147483647 : Int32)) % (5 : Int32)), rv (own_and sI sN sM (own_pick sS sI sN sB sM ((x0 &&& (2147483647 : Int32)) % (5 : Int32))) (own_pick sS sI sN sB sM ((x1 &&& (2147483647 : Int32)) % (5 : Int32)))), .unset] [])) (fun t k => XS.astore X32.here hx rfl (hb hby at_25) rfl rfl (l' := #[iv x0, iv x1, iv ((x0 &&& (2147483647 : Int32)) % (5 : Int32)), iv ((x1 &&& (2147483647 : Int32)) % (5 : Int32)), rv (own_and sI sN sM (own_pick sS sI sN sB sM ((x0 &&& (2147483647 : Int32)) % (5 : Int32))) (own_pick sS sI sN sB sM ((x1 &&& (2147483647 : Int32)) % (5 : Int32)))), .unset]) rfl k) ?_
  refine own_go (T' := T32) (g' := (mkF m 28 #[iv x0, iv x1, iv ((x0 &&& (2147483647 : Int32)) % (5 : Int32)), iv ((x1 &&& (2147483647 : Int32)) % (5 : Int32)), rv (own_and sI sN sM (own_pick sS sI sN sB sM ((x0 &&& (2147483647 : Int32)) % (5 : Int32))) (own_pick sS sI sN sB sM ((x1 &&& (2147483647 : Int32)) % (5 : Int32)))), .unset] [(.int ((x0 &&& (2147483647 : Int32)) % (5 : Int32)))])) (fun t k => XS.iloadN X32.here hx rfl (hb hby at_27) rfl k) ?_
  refine own_go (T' := T32) (g' := (mkF m 29 #[iv x0, iv x1, iv ((x0 &&& (2147483647 : Int32)) % (5 : Int32)), iv ((x1 &&& (2147483647 : Int32)) % (5 : Int32)), rv (own_and sI sN sM (own_pick sS sI sN sB sM ((x0 &&& (2147483647 : Int32)) % (5 : Int32))) (own_pick sS sI sN sB sM ((x1 &&& (2147483647 : Int32)) % (5 : Int32)))), .unset] [(.int ((x1 &&& (2147483647 : Int32)) % (5 : Int32))), (.int ((x0 &&& (2147483647 : Int32)) % (5 : Int32)))])) (fun t k => XS.iloadN X32.here hx rfl (hb hby at_28) rfl k) ?_
  by_cases hc33 : ((x0 &&& (2147483647 : Int32)) % (5 : Int32)) = ((x1 &&& (2147483647 : Int32)) % (5 : Int32))
  · refine own_go (T' := T32) (g' := (mkF m 32 #[iv x0, iv x1, iv ((x0 &&& (2147483647 : Int32)) % (5 : Int32)), iv ((x1 &&& (2147483647 : Int32)) % (5 : Int32)), rv (own_and sI sN sM (own_pick sS sI sN sB sM ((x0 &&& (2147483647 : Int32)) % (5 : Int32))) (own_pick sS sI sN sB sM ((x1 &&& (2147483647 : Int32)) % (5 : Int32)))), .unset] [])) (fun t k => XS.icmpNo X32.here hx rfl (hb hby at_29) rfl (teq hc33).2 k) ?_
    refine own_go (T' := T32) (g' := (mkF m 33 #[iv x0, iv x1, iv ((x0 &&& (2147483647 : Int32)) % (5 : Int32)), iv ((x1 &&& (2147483647 : Int32)) % (5 : Int32)), rv (own_and sI sN sM (own_pick sS sI sN sB sM ((x0 &&& (2147483647 : Int32)) % (5 : Int32))) (own_pick sS sI sN sB sM ((x1 &&& (2147483647 : Int32)) % (5 : Int32)))), .unset] [(.int ((x0 &&& (2147483647 : Int32)) % (5 : Int32)))])) (fun t k => XS.iloadN X32.here hx rfl (hb hby at_32) rfl k) ?_
    refine own_go (T' := T32) (g' := (mkF m 35 #[iv x0, iv x1, iv ((x0 &&& (2147483647 : Int32)) % (5 : Int32)), iv ((x1 &&& (2147483647 : Int32)) % (5 : Int32)), rv (own_and sI sN sM (own_pick sS sI sN sB sM ((x0 &&& (2147483647 : Int32)) % (5 : Int32))) (own_pick sS sI sN sB sM ((x1 &&& (2147483647 : Int32)) % (5 : Int32)))), iv ((x0 &&& (2147483647 : Int32)) % (5 : Int32))] [])) (fun t k => XS.istore X32.here hx rfl (hb hby at_33) rfl (l' := #[iv x0, iv x1, iv ((x0 &&& (2147483647 : Int32)) % (5 : Int32)), iv ((x1 &&& (2147483647 : Int32)) % (5 : Int32)), rv (own_and sI sN sM (own_pick sS sI sN sB sM ((x0 &&& (2147483647 : Int32)) % (5 : Int32))) (own_pick sS sI sN sB sM ((x1 &&& (2147483647 : Int32)) % (5 : Int32)))), iv ((x0 &&& (2147483647 : Int32)) % (5 : Int32))]) rfl k) ?_
    refine own_go (T' := T32) (g' := (mkF m 54 #[iv x0, iv x1, iv ((x0 &&& (2147483647 : Int32)) % (5 : Int32)), iv ((x1 &&& (2147483647 : Int32)) % (5 : Int32)), rv (own_and sI sN sM (own_pick sS sI sN sB sM ((x0 &&& (2147483647 : Int32)) % (5 : Int32))) (own_pick sS sI sN sB sM ((x1 &&& (2147483647 : Int32)) % (5 : Int32)))), iv ((x0 &&& (2147483647 : Int32)) % (5 : Int32))] [])) (fun t k => XS.goto X32.here hx rfl (pc0 := 35) (pc' := 54) rfl (hb hby at_35) (by decide) (by decide) k) ?_
    refine own_go (T' := T32) (g' := (mkF m 56 #[iv x0, iv x1, iv ((x0 &&& (2147483647 : Int32)) % (5 : Int32)), iv ((x1 &&& (2147483647 : Int32)) % (5 : Int32)), rv (own_and sI sN sM (own_pick sS sI sN sB sM ((x0 &&& (2147483647 : Int32)) % (5 : Int32))) (own_pick sS sI sN sB sM ((x1 &&& (2147483647 : Int32)) % (5 : Int32)))), iv ((x0 &&& (2147483647 : Int32)) % (5 : Int32))] [(.ref (own_and sI sN sM (own_pick sS sI sN sB sM ((x0 &&& (2147483647 : Int32)) % (5 : Int32))) (own_pick sS sI sN sB sM ((x1 &&& (2147483647 : Int32)) % (5 : Int32)))))])) (fun t k => XS.aload X32.here hx rfl (hb hby at_54) rfl rfl k) ?_
    refine own_go (T' := T32) (g' := (mkF m 58 #[iv x0, iv x1, iv ((x0 &&& (2147483647 : Int32)) % (5 : Int32)), iv ((x1 &&& (2147483647 : Int32)) % (5 : Int32)), rv (own_and sI sN sM (own_pick sS sI sN sB sM ((x0 &&& (2147483647 : Int32)) % (5 : Int32))) (own_pick sS sI sN sB sM ((x1 &&& (2147483647 : Int32)) % (5 : Int32)))), iv ((x0 &&& (2147483647 : Int32)) % (5 : Int32))] [(.int ((x0 &&& (2147483647 : Int32)) % (5 : Int32))), (.ref (own_and sI sN sM (own_pick sS sI sN sB sM ((x0 &&& (2147483647 : Int32)) % (5 : Int32))) (own_pick sS sI sN sB sM ((x1 &&& (2147483647 : Int32)) % (5 : Int32)))))])) (fun t k => XS.iload X32.here hx rfl (hb hby at_56) rfl k) ?_
    obtain ⟨_, _, ⟨T34, L34, k34, n34⟩, -, X34, ⟨Lc34, hQ34, l34, y34, z34⟩, st34⟩ := Jvm.LawKit.callS X32 hx (y := (⟨"com/example/piastrella/piastrella/data/PropertyTypeAndPinLaw", "pick", "(I)Lcom/example/piastrella/piastrella/data/PropertyType;"⟩ : MethodName)) hown (mvT hZ (hw _ (List.mem_of_getElem? (i := 1) rfl))) (mvT hZ (hw _ (List.mem_of_getElem? (i := 2) rfl))) (mvT hZ (hw _ (List.mem_of_getElem? (i := 3) rfl))) (mvT hZ (hw _ (List.mem_of_getElem? (i := 4) rfl))) (by decide) (backOf (W := 1) (own_rpick l Z a0 hw [] ((x0 &&& (2147483647 : Int32)) % (5 : Int32)) sS sI sN sB sM h0 n0 Z0 S_STRING S_INTEGER S_NUMBER S_BOOLEAN S_MIXED) hZ (hw _ (List.mem_of_getElem? (i := 4) rfl)) (hw _ (List.mem_of_getElem? (i := 3) rfl)) (by decide) (by decide)) (g := (mkF m 58 #[iv x0, iv x1, iv ((x0 &&& (2147483647 : Int32)) % (5 : Int32)), iv ((x1 &&& (2147483647 : Int32)) % (5 : Int32)), rv (own_and sI sN sM (own_pick sS sI sN sB sM ((x0 &&& (2147483647 : Int32)) % (5 : Int32))) (own_pick sS sI sN sB sM ((x1 &&& (2147483647 : Int32)) % (5 : Int32)))), iv ((x0 &&& (2147483647 : Int32)) % (5 : Int32))] [(.int ((x0 &&& (2147483647 : Int32)) % (5 : Int32))), (.ref (own_and sI sN sM (own_pick sS sI sN sB sM ((x0 &&& (2147483647 : Int32)) % (5 : Int32))) (own_pick sS sI sN sB sM ((x1 &&& (2147483647 : Int32)) % (5 : Int32)))))])) rfl (by rw [hml]; rfl) (argsL := [(.int ((x0 &&& (2147483647 : Int32)) % (5 : Int32)))]) (rest := [(.ref (own_and sI sN sM (own_pick sS sI sN sB sM ((x0 &&& (2147483647 : Int32)) % (5 : Int32))) (own_pick sS sI sN sB sM ((x1 &&& (2147483647 : Int32)) % (5 : Int32)))))]) (lenOf own_pd0 rfl) rfl (by show 2 * 0 + _ ≤ _; exact Nat.le_of_eq rfl) (hb hby at_58) (fun _ _ => ⟨rfl, E32q, (by decide : 0 + 0 ≤ _), (by decide : 0 + 0 ≤ _)⟩)
    dsimp only [Pt.U, Pt.locs, Pt.cells, Pt.slots] at X34 l34 y34 z34 st34 hQ34
    subst l34 y34 z34
    obtain ⟨rfl, rfl, e34⟩ := hQ34
    have E34q : T34.heap = h0 := e34
    have N34 := Fr.app N32 (Fr.nil n0)
    refine own_go (T' := T34) (g' := (mkF m 61 #[iv x0, iv x1, iv ((x0 &&& (2147483647 : Int32)) % (5 : Int32)), iv ((x1 &&& (2147483647 : Int32)) % (5 : Int32)), rv (own_and sI sN sM (own_pick sS sI sN sB sM ((x0 &&& (2147483647 : Int32)) % (5 : Int32))) (own_pick sS sI sN sB sM ((x1 &&& (2147483647 : Int32)) % (5 : Int32)))), iv ((x0 &&& (2147483647 : Int32)) % (5 : Int32))] [(.ref (own_pick sS sI sN sB sM ((x0 &&& (2147483647 : Int32)) % (5 : Int32)))), (.ref (own_and sI sN sM (own_pick sS sI sN sB sM ((x0 &&& (2147483647 : Int32)) % (5 : Int32))) (own_pick sS sI sN sB sM ((x1 &&& (2147483647 : Int32)) % (5 : Int32)))))])) (st34) ?_
    refine own_go (T' := T34) (g' := (mkF m 64 #[iv x0, iv x1, iv ((x0 &&& (2147483647 : Int32)) % (5 : Int32)), iv ((x1 &&& (2147483647 : Int32)) % (5 : Int32)), rv (own_and sI sN sM (own_pick sS sI sN sB sM ((x0 &&& (2147483647 : Int32)) % (5 : Int32))) (own_pick sS sI sN sB sM ((x1 &&& (2147483647 : Int32)) % (5 : Int32)))), iv ((x0 &&& (2147483647 : Int32)) % (5 : Int32))] [])) (fun t k => Jvm.RoadKit.acmp (g := (mkF m 61 #[iv x0, iv x1, iv ((x0 &&& (2147483647 : Int32)) % (5 : Int32)), iv ((x1 &&& (2147483647 : Int32)) % (5 : Int32)), rv (own_and sI sN sM (own_pick sS sI sN sB sM ((x0 &&& (2147483647 : Int32)) % (5 : Int32))) (own_pick sS sI sN sB sM ((x1 &&& (2147483647 : Int32)) % (5 : Int32)))), iv ((x0 &&& (2147483647 : Int32)) % (5 : Int32))] [(.ref (own_pick sS sI sN sB sM ((x0 &&& (2147483647 : Int32)) % (5 : Int32)))), (.ref (own_and sI sN sM (own_pick sS sI sN sB sM ((x0 &&& (2147483647 : Int32)) % (5 : Int32))) (own_pick sS sI sN sB sM ((x1 &&& (2147483647 : Int32)) % (5 : Int32)))))])) X34 hx rfl (x := (.ref (own_and sI sN sM (own_pick sS sI sN sB sM ((x0 &&& (2147483647 : Int32)) % (5 : Int32))) (own_pick sS sI sN sB sM ((x1 &&& (2147483647 : Int32)) % (5 : Int32)))))) (y := (.ref (own_pick sS sI sN sB sM ((x0 &&& (2147483647 : Int32)) % (5 : Int32))))) rfl rfl (pc0 := 61) (pc' := 64) (same := true) rfl (hb hby at_61) rfl (decide_eq_true (congrArg Value.ref ((own_key hd (own_mod5 x0) (own_mod5 x1)).trans (by simp [hc33])))) (by decide) (by decide) k) ?_
    refine own_go (T' := T34) (g' := (mkF m 65 #[iv x0, iv x1, iv ((x0 &&& (2147483647 : Int32)) % (5 : Int32)), iv ((x1 &&& (2147483647 : Int32)) % (5 : Int32)), rv (own_and sI sN sM (own_pick sS sI sN sB sM ((x0 &&& (2147483647 : Int32)) % (5 : Int32))) (own_pick sS sI sN sB sM ((x1 &&& (2147483647 : Int32)) % (5 : Int32)))), iv ((x0 &&& (2147483647 : Int32)) % (5 : Int32))] [(.int (1 : Int32))])) (fun t k => XS.iconst X34.here hx rfl (hb hby at_64) k) ?_
    refine own_go (T' := T34) (g' := (mkF m 69 #[iv x0, iv x1, iv ((x0 &&& (2147483647 : Int32)) % (5 : Int32)), iv ((x1 &&& (2147483647 : Int32)) % (5 : Int32)), rv (own_and sI sN sM (own_pick sS sI sN sB sM ((x0 &&& (2147483647 : Int32)) % (5 : Int32))) (own_pick sS sI sN sB sM ((x1 &&& (2147483647 : Int32)) % (5 : Int32)))), iv ((x0 &&& (2147483647 : Int32)) % (5 : Int32))] [(.int (1 : Int32))])) (fun t k => XS.goto X34.here hx rfl (pc0 := 65) (pc' := 69) rfl (hb hby at_65) (by decide) (by decide) k) ?_
    exact own_ret X34 hlk hx Bd.returns rfl (Or.inl ⟨rfl, Or.inr (Or.inl rfl), _, rfl⟩) (hb hby at_69) (by first | exact ⟨rfl, N34⟩ | (rw [Fr] at *; exact ⟨rfl, by simpa using N34⟩)) (by decide) (by decide)
  · refine own_go (T' := T32) (g' := (mkF m 38 #[iv x0, iv x1, iv ((x0 &&& (2147483647 : Int32)) % (5 : Int32)), iv ((x1 &&& (2147483647 : Int32)) % (5 : Int32)), rv (own_and sI sN sM (own_pick sS sI sN sB sM ((x0 &&& (2147483647 : Int32)) % (5 : Int32))) (own_pick sS sI sN sB sM ((x1 &&& (2147483647 : Int32)) % (5 : Int32)))), .unset] [])) (fun t k => XS.icmpYes X32.here hx rfl (pc0 := 29) (pc' := 38) rfl (hb hby at_29) rfl (feq hc33).2 (by decide) (by decide) k) ?_
    refine own_go (T' := T32) (g' := (mkF m 39 #[iv x0, iv x1, iv ((x0 &&& (2147483647 : Int32)) % (5 : Int32)), iv ((x1 &&& (2147483647 : Int32)) % (5 : Int32)), rv (own_and sI sN sM (own_pick sS sI sN sB sM ((x0 &&& (2147483647 : Int32)) % (5 : Int32))) (own_pick sS sI sN sB sM ((x1 &&& (2147483647 : Int32)) % (5 : Int32)))), .unset] [(.int ((x0 &&& (2147483647 : Int32)) % (5 : Int32)))])) (fun t k => XS.iloadN X32.here hx rfl (hb hby at_38) rfl k) ?_
    refine own_go (T' := T32) (g' := (mkF m 40 #[iv x0, iv x1, iv ((x0 &&& (2147483647 : Int32)) % (5 : Int32)), iv ((x1 &&& (2147483647 : Int32)) % (5 : Int32)), rv (own_and sI sN sM (own_pick sS sI sN sB sM ((x0 &&& (2147483647 : Int32)) % (5 : Int32))) (own_pick sS sI sN sB sM ((x1 &&& (2147483647 : Int32)) % (5 : Int32)))), .unset] [(.int ((x1 &&& (2147483647 : Int32)) % (5 : Int32))), (.int ((x0 &&& (2147483647 : Int32)) % (5 : Int32)))])) (fun t k => XS.iloadN X32.here hx rfl (hb hby at_39) rfl k) ?_
    refine own_go (T' := T32) (g' := (mkF m 41 #[iv x0, iv x1, iv ((x0 &&& (2147483647 : Int32)) % (5 : Int32)), iv ((x1 &&& (2147483647 : Int32)) % (5 : Int32)), rv (own_and sI sN sM (own_pick sS sI sN sB sM ((x0 &&& (2147483647 : Int32)) % (5 : Int32))) (own_pick sS sI sN sB sM ((x1 &&& (2147483647 : Int32)) % (5 : Int32)))), .unset] [(.int (((x0 &&& (2147483647 : Int32)) % (5 : Int32)) * ((x1 &&& (2147483647 : Int32)) % (5 : Int32))))])) (fun t k => XS.imul X32.here hx rfl (hb hby at_40) rfl k) ?_
    refine own_go (T' := T32) (g' := (mkF m 42 #[iv x0, iv x1, iv ((x0 &&& (2147483647 : Int32)) % (5 : Int32)), iv ((x1 &&& (2147483647 : Int32)) % (5 : Int32)), rv (own_and sI sN sM (own_pick sS sI sN sB sM ((x0 &&& (2147483647 : Int32)) % (5 : Int32))) (own_pick sS sI sN sB sM ((x1 &&& (2147483647 : Int32)) % (5 : Int32)))), .unset] [(.int (2 : Int32)), (.int (((x0 &&& (2147483647 : Int32)) % (5 : Int32)) * ((x1 &&& (2147483647 : Int32)) % (5 : Int32))))])) (fun t k => XS.iconst X32.here hx rfl (hb hby at_41) k) ?_
    by_cases hc35 : (((x0 &&& (2147483647 : Int32)) % (5 : Int32)) * ((x1 &&& (2147483647 : Int32)) % (5 : Int32))) = (2 : Int32)
    · refine own_go (T' := T32) (g' := (mkF m 45 #[iv x0, iv x1, iv ((x0 &&& (2147483647 : Int32)) % (5 : Int32)), iv ((x1 &&& (2147483647 : Int32)) % (5 : Int32)), rv (own_and sI sN sM (own_pick sS sI sN sB sM ((x0 &&& (2147483647 : Int32)) % (5 : Int32))) (own_pick sS sI sN sB sM ((x1 &&& (2147483647 : Int32)) % (5 : Int32)))), .unset] [])) (fun t k => XS.icmpNo X32.here hx rfl (hb hby at_42) rfl (teq hc35).2 k) ?_
      refine own_go (T' := T32) (g' := (mkF m 46 #[iv x0, iv x1, iv ((x0 &&& (2147483647 : Int32)) % (5 : Int32)), iv ((x1 &&& (2147483647 : Int32)) % (5 : Int32)), rv (own_and sI sN sM (own_pick sS sI sN sB sM ((x0 &&& (2147483647 : Int32)) % (5 : Int32))) (own_pick sS sI sN sB sM ((x1 &&& (2147483647 : Int32)) % (5 : Int32)))), .unset] [(.int (2 : Int32))])) (fun t k => XS.iconst X32.here hx rfl (hb hby at_45) k) ?_
      refine own_go (T' := T32) (g' := (mkF m 48 #[iv x0, iv x1, iv ((x0 &&& (2147483647 : Int32)) % (5 : Int32)), iv ((x1 &&& (2147483647 : Int32)) % (5 : Int32)), rv (own_and sI sN sM (own_pick sS sI sN sB sM ((x0 &&& (2147483647 : Int32)) % (5 : Int32))) (own_pick sS sI sN sB sM ((x1 &&& (2147483647 : Int32)) % (5 : Int32)))), iv (2 : Int32)] [])) (fun t k => XS.istore X32.here hx rfl (hb hby at_46) rfl (l' := #[iv x0, iv x1, iv ((x0 &&& (2147483647 : Int32)) % (5 : Int32)), iv ((x1 &&& (2147483647 : Int32)) % (5 : Int32)), rv (own_and sI sN sM (own_pick sS sI sN sB sM ((x0 &&& (2147483647 : Int32)) % (5 : Int32))) (own_pick sS sI sN sB sM ((x1 &&& (2147483647 : Int32)) % (5 : Int32)))), iv (2 : Int32)]) rfl k) ?_
      refine own_go (T' := T32) (g' := (mkF m 54 #[iv x0, iv x1, iv ((x0 &&& (2147483647 : Int32)) % (5 : Int32)), iv ((x1 &&& (2147483647 : Int32)) % (5 : Int32)), rv (own_and sI sN sM (own_pick sS sI sN sB sM ((x0 &&& (2147483647 : Int32)) % (5 : Int32))) (own_pick sS sI sN sB sM ((x1 &&& (2147483647 : Int32)) % (5 : Int32)))), iv (2 : Int32)] [])) (fun t k => XS.goto X32.here hx rfl (pc0 := 48) (pc' := 54) rfl (hb hby at_48) (by decide) (by decide) k) ?_
      refine own_go (T' := T32) (g' := (mkF m 56 #[iv x0, iv x1, iv ((x0 &&& (2147483647 : Int32)) % (5 : Int32)), iv ((x1 &&& (2147483647 : Int32)) % (5 : Int32)), rv (own_and sI sN sM (own_pick sS sI sN sB sM ((x0 &&& (2147483647 : Int32)) % (5 : Int32))) (own_pick sS sI sN sB sM ((x1 &&& (2147483647 : Int32)) % (5 : Int32)))), iv (2 : Int32)] [(.ref (own_and sI sN sM (own_pick sS sI sN sB sM ((x0 &&& (2147483647 : Int32)) % (5 : Int32))) (own_pick sS sI sN sB sM ((x1 &&& (2147483647 : Int32)) % (5 : Int32)))))])) (fun t k => XS.aload X32.here hx rfl (hb hby at_54) rfl rfl k) ?_
      refine own_go (T' := T32) (g' := (mkF m 58 #[iv x0, iv x1, iv ((x0 &&& (2147483647 : Int32)) % (5 : Int32)), iv ((x1 &&& (2147483647 : Int32)) % (5 : Int32)), rv (own_and sI sN sM (own_pick sS sI sN sB sM ((x0 &&& (2147483647 : Int32)) % (5 : Int32))) (own_pick sS sI sN sB sM ((x1 &&& (2147483647 : Int32)) % (5 : Int32)))), iv (2 : Int32)] [(.int (2 : Int32)), (.ref (own_and sI sN sM (own_pick sS sI sN sB sM ((x0 &&& (2147483647 : Int32)) % (5 : Int32))) (own_pick sS sI sN sB sM ((x1 &&& (2147483647 : Int32)) % (5 : Int32)))))])) (fun t k => XS.iload X32.here hx rfl (hb hby at_56) rfl k) ?_
      obtain ⟨_, _, ⟨T36, L36, k36, n36⟩, -, X36, ⟨Lc36, hQ36, l36, y36, z36⟩, st36⟩ := Jvm.LawKit.callS X32 hx (y := (⟨"com/example/piastrella/piastrella/data/PropertyTypeAndPinLaw", "pick", "(I)Lcom/example/piastrella/piastrella/data/PropertyType;"⟩ : MethodName)) hown (mvT hZ (hw _ (List.mem_of_getElem? (i := 1) rfl))) (mvT hZ (hw _ (List.mem_of_getElem? (i := 2) rfl))) (mvT hZ (hw _ (List.mem_of_getElem? (i := 3) rfl))) (mvT hZ (hw _ (List.mem_of_getElem? (i := 4) rfl))) (by decide) (backOf (W := 1) (own_rpick l Z a0 hw [] (2 : Int32) sS sI sN sB sM h0 n0 Z0 S_STRING S_INTEGER S_NUMBER S_BOOLEAN S_MIXED) hZ (hw _ (List.mem_of_getElem? (i := 4) rfl)) (hw _ (List.mem_of_getElem? (i := 3) rfl)) (by decide) (by decide)) (g := (mkF m 58 #[iv x0, iv x1, iv ((x0 &&& (2147483647 : Int32)) % (5 : Int32)), iv ((x1 &&& (2147483647 : Int32)) % (5 : Int32)), rv (own_and sI sN sM (own_pick sS sI sN sB sM ((x0 &&& (2147483647 : Int32)) % (5 : Int32))) (own_pick sS sI sN sB sM ((x1 &&& (2147483647 : Int32)) % (5 : Int32)))), iv (2 : Int32)] [(.int (2 : Int32)), (.ref (own_and sI sN sM (own_pick sS sI sN sB sM ((x0 &&& (2147483647 : Int32)) % (5 : Int32))) (own_pick sS sI sN sB sM ((x1 &&& (2147483647 : Int32)) % (5 : Int32)))))])) rfl (by rw [hml]; rfl) (argsL := [(.int (2 : Int32))]) (rest := [(.ref (own_and sI sN sM (own_pick sS sI sN sB sM ((x0 &&& (2147483647 : Int32)) % (5 : Int32))) (own_pick sS sI sN sB sM ((x1 &&& (2147483647 : Int32)) % (5 : Int32)))))]) (lenOf own_pd0 rfl) rfl (by show 2 * 0 + _ ≤ _; exact Nat.le_of_eq rfl) (hb hby at_58) (fun _ _ => ⟨rfl, E32q, (by decide : 0 + 0 ≤ _), (by decide : 0 + 0 ≤ _)⟩)
      dsimp only [Pt.U, Pt.locs, Pt.cells, Pt.slots] at X36 l36 y36 z36 st36 hQ36
      subst l36 y36 z36
      obtain ⟨rfl, rfl, e36⟩ := hQ36
      have E36q : T36.heap = h0 := e36
      have N36 := Fr.app N32 (Fr.nil n0)
      refine own_go (T' := T36) (g' := (mkF m 61 #[iv x0, iv x1, iv ((x0 &&& (2147483647 : Int32)) % (5 : Int32)), iv ((x1 &&& (2147483647 : Int32)) % (5 : Int32)), rv (own_and sI sN sM (own_pick sS sI sN sB sM ((x0 &&& (2147483647 : Int32)) % (5 : Int32))) (own_pick sS sI sN sB sM ((x1 &&& (2147483647 : Int32)) % (5 : Int32)))), iv (2 : Int32)] [(.ref (own_pick sS sI sN sB sM (2 : Int32))), (.ref (own_and sI sN sM (own_pick sS sI sN sB sM ((x0 &&& (2147483647 : Int32)) % (5 : Int32))) (own_pick sS sI sN sB sM ((x1 &&& (2147483647 : Int32)) % (5 : Int32)))))])) (st36) ?_
      refine own_go (T' := T36) (g' := (mkF m 64 #[iv x0, iv x1, iv ((x0 &&& (2147483647 : Int32)) % (5 : Int32)), iv ((x1 &&& (2147483647 : Int32)) % (5 : Int32)), rv (own_and sI sN sM (own_pick sS sI sN sB sM ((x0 &&& (2147483647 : Int32)) % (5 : Int32))) (own_pick sS sI sN sB sM ((x1 &&& (2147483647 : Int32)) % (5 : Int32)))), iv (2 : Int32)] [])) (fun t k => Jvm.RoadKit.acmp (g := (mkF m 61 #[iv x0, iv x1, iv ((x0 &&& (2147483647 : Int32)) % (5 : Int32)), iv ((x1 &&& (2147483647 : Int32)) % (5 : Int32)), rv (own_and sI sN sM (own_pick sS sI sN sB sM ((x0 &&& (2147483647 : Int32)) % (5 : Int32))) (own_pick sS sI sN sB sM ((x1 &&& (2147483647 : Int32)) % (5 : Int32)))), iv (2 : Int32)] [(.ref (own_pick sS sI sN sB sM (2 : Int32))), (.ref (own_and sI sN sM (own_pick sS sI sN sB sM ((x0 &&& (2147483647 : Int32)) % (5 : Int32))) (own_pick sS sI sN sB sM ((x1 &&& (2147483647 : Int32)) % (5 : Int32)))))])) X36 hx rfl (x := (.ref (own_and sI sN sM (own_pick sS sI sN sB sM ((x0 &&& (2147483647 : Int32)) % (5 : Int32))) (own_pick sS sI sN sB sM ((x1 &&& (2147483647 : Int32)) % (5 : Int32)))))) (y := (.ref (own_pick sS sI sN sB sM (2 : Int32)))) rfl rfl (pc0 := 61) (pc' := 64) (same := true) rfl (hb hby at_61) rfl (decide_eq_true (congrArg Value.ref ((own_key hd (own_mod5 x0) (own_mod5 x1)).trans (by simp [hc33, hc35])))) (by decide) (by decide) k) ?_
      refine own_go (T' := T36) (g' := (mkF m 65 #[iv x0, iv x1, iv ((x0 &&& (2147483647 : Int32)) % (5 : Int32)), iv ((x1 &&& (2147483647 : Int32)) % (5 : Int32)), rv (own_and sI sN sM (own_pick sS sI sN sB sM ((x0 &&& (2147483647 : Int32)) % (5 : Int32))) (own_pick sS sI sN sB sM ((x1 &&& (2147483647 : Int32)) % (5 : Int32)))), iv (2 : Int32)] [(.int (1 : Int32))])) (fun t k => XS.iconst X36.here hx rfl (hb hby at_64) k) ?_
      refine own_go (T' := T36) (g' := (mkF m 69 #[iv x0, iv x1, iv ((x0 &&& (2147483647 : Int32)) % (5 : Int32)), iv ((x1 &&& (2147483647 : Int32)) % (5 : Int32)), rv (own_and sI sN sM (own_pick sS sI sN sB sM ((x0 &&& (2147483647 : Int32)) % (5 : Int32))) (own_pick sS sI sN sB sM ((x1 &&& (2147483647 : Int32)) % (5 : Int32)))), iv (2 : Int32)] [(.int (1 : Int32))])) (fun t k => XS.goto X36.here hx rfl (pc0 := 65) (pc' := 69) rfl (hb hby at_65) (by decide) (by decide) k) ?_
      exact own_ret X36 hlk hx Bd.returns rfl (Or.inl ⟨rfl, Or.inr (Or.inl rfl), _, rfl⟩) (hb hby at_69) (by first | exact ⟨rfl, N36⟩ | (rw [Fr] at *; exact ⟨rfl, by simpa using N36⟩)) (by decide) (by decide)
    · refine own_go (T' := T32) (g' := (mkF m 51 #[iv x0, iv x1, iv ((x0 &&& (2147483647 : Int32)) % (5 : Int32)), iv ((x1 &&& (2147483647 : Int32)) % (5 : Int32)), rv (own_and sI sN sM (own_pick sS sI sN sB sM ((x0 &&& (2147483647 : Int32)) % (5 : Int32))) (own_pick sS sI sN sB sM ((x1 &&& (2147483647 : Int32)) % (5 : Int32)))), .unset] [])) (fun t k => XS.icmpYes X32.here hx rfl (pc0 := 42) (pc' := 51) rfl (hb hby at_42) rfl (feq hc35).2 (by decide) (by decide) k) ?_
      refine own_go (T' := T32) (g' := (mkF m 52 #[iv x0, iv x1, iv ((x0 &&& (2147483647 : Int32)) % (5 : Int32)), iv ((x1 &&& (2147483647 : Int32)) % (5 : Int32)), rv (own_and sI sN sM (own_pick sS sI sN sB sM ((x0 &&& (2147483647 : Int32)) % (5 : Int32))) (own_pick sS sI sN sB sM ((x1 &&& (2147483647 : Int32)) % (5 : Int32)))), .unset] [(.int (4 : Int32))])) (fun t k => XS.iconst X32.here hx rfl (hb hby at_51) k) ?_
      refine own_go (T' := T32) (g' := (mkF m 54 #[iv x0, iv x1, iv ((x0 &&& (2147483647 : Int32)) % (5 : Int32)), iv ((x1 &&& (2147483647 : Int32)) % (5 : Int32)), rv (own_and sI sN sM (own_pick sS sI sN sB sM ((x0 &&& (2147483647 : Int32)) % (5 : Int32))) (own_pick sS sI sN sB sM ((x1 &&& (2147483647 : Int32)) % (5 : Int32)))), iv (4 : Int32)] [])) (fun t k => XS.istore X32.here hx rfl (hb hby at_52) rfl (l' := #[iv x0, iv x1, iv ((x0 &&& (2147483647 : Int32)) % (5 : Int32)), iv ((x1 &&& (2147483647 : Int32)) % (5 : Int32)), rv (own_and sI sN sM (own_pick sS sI sN sB sM ((x0 &&& (2147483647 : Int32)) % (5 : Int32))) (own_pick sS sI sN sB sM ((x1 &&& (2147483647 : Int32)) % (5 : Int32)))), iv (4 : Int32)]) rfl k) ?_
      refine own_go (T' := T32) (g' := (mkF m 56 #[iv x0, iv x1, iv ((x0 &&& (2147483647 : Int32)) % (5 : Int32)), iv ((x1 &&& (2147483647 : Int32)) % (5 : Int32)), rv (own_and sI sN sM (own_pick sS sI sN sB sM ((x0 &&& (2147483647 : Int32)) % (5 : Int32))) (own_pick sS sI sN sB sM ((x1 &&& (2147483647 : Int32)) % (5 : Int32)))), iv (4 : Int32)] [(.ref (own_and sI sN sM (own_pick sS sI sN sB sM ((x0 &&& (2147483647 : Int32)) % (5 : Int32))) (own_pick sS sI sN sB sM ((x1 &&& (2147483647 : Int32)) % (5 : Int32)))))])) (fun t k => XS.aload X32.here hx rfl (hb hby at_54) rfl rfl k) ?_
      refine own_go (T' := T32) (g' := (mkF m 58 #[iv x0, iv x1, iv ((x0 &&& (2147483647 : Int32)) % (5 : Int32)), iv ((x1 &&& (2147483647 : Int32)) % (5 : Int32)), rv (own_and sI sN sM (own_pick sS sI sN sB sM ((x0 &&& (2147483647 : Int32)) % (5 : Int32))) (own_pick sS sI sN sB sM ((x1 &&& (2147483647 : Int32)) % (5 : Int32)))), iv (4 : Int32)] [(.int (4 : Int32)), (.ref (own_and sI sN sM (own_pick sS sI sN sB sM ((x0 &&& (2147483647 : Int32)) % (5 : Int32))) (own_pick sS sI sN sB sM ((x1 &&& (2147483647 : Int32)) % (5 : Int32)))))])) (fun t k => XS.iload X32.here hx rfl (hb hby at_56) rfl k) ?_
      obtain ⟨_, _, ⟨T37, L37, k37, n37⟩, -, X37, ⟨Lc37, hQ37, l37, y37, z37⟩, st37⟩ := Jvm.LawKit.callS X32 hx (y := (⟨"com/example/piastrella/piastrella/data/PropertyTypeAndPinLaw", "pick", "(I)Lcom/example/piastrella/piastrella/data/PropertyType;"⟩ : MethodName)) hown (mvT hZ (hw _ (List.mem_of_getElem? (i := 1) rfl))) (mvT hZ (hw _ (List.mem_of_getElem? (i := 2) rfl))) (mvT hZ (hw _ (List.mem_of_getElem? (i := 3) rfl))) (mvT hZ (hw _ (List.mem_of_getElem? (i := 4) rfl))) (by decide) (backOf (W := 1) (own_rpick l Z a0 hw [] (4 : Int32) sS sI sN sB sM h0 n0 Z0 S_STRING S_INTEGER S_NUMBER S_BOOLEAN S_MIXED) hZ (hw _ (List.mem_of_getElem? (i := 4) rfl)) (hw _ (List.mem_of_getElem? (i := 3) rfl)) (by decide) (by decide)) (g := (mkF m 58 #[iv x0, iv x1, iv ((x0 &&& (2147483647 : Int32)) % (5 : Int32)), iv ((x1 &&& (2147483647 : Int32)) % (5 : Int32)), rv (own_and sI sN sM (own_pick sS sI sN sB sM ((x0 &&& (2147483647 : Int32)) % (5 : Int32))) (own_pick sS sI sN sB sM ((x1 &&& (2147483647 : Int32)) % (5 : Int32)))), iv (4 : Int32)] [(.int (4 : Int32)), (.ref (own_and sI sN sM (own_pick sS sI sN sB sM ((x0 &&& (2147483647 : Int32)) % (5 : Int32))) (own_pick sS sI sN sB sM ((x1 &&& (2147483647 : Int32)) % (5 : Int32)))))])) rfl (by rw [hml]; rfl) (argsL := [(.int (4 : Int32))]) (rest := [(.ref (own_and sI sN sM (own_pick sS sI sN sB sM ((x0 &&& (2147483647 : Int32)) % (5 : Int32))) (own_pick sS sI sN sB sM ((x1 &&& (2147483647 : Int32)) % (5 : Int32)))))]) (lenOf own_pd0 rfl) rfl (by show 2 * 0 + _ ≤ _; exact Nat.le_of_eq rfl) (hb hby at_58) (fun _ _ => ⟨rfl, E32q, (by decide : 0 + 0 ≤ _), (by decide : 0 + 0 ≤ _)⟩)
      dsimp only [Pt.U, Pt.locs, Pt.cells, Pt.slots] at X37 l37 y37 z37 st37 hQ37
      subst l37 y37 z37
      obtain ⟨rfl, rfl, e37⟩ := hQ37
      have E37q : T37.heap = h0 := e37
      have N37 := Fr.app N32 (Fr.nil n0)
      refine own_go (T' := T37) (g' := (mkF m 61 #[iv x0, iv x1, iv ((x0 &&& (2147483647 : Int32)) % (5 : Int32)), iv ((x1 &&& (2147483647 : Int32)) % (5 : Int32)), rv (own_and sI sN sM (own_pick sS sI sN sB sM ((x0 &&& (2147483647 : Int32)) % (5 : Int32))) (own_pick sS sI sN sB sM ((x1 &&& (2147483647 : Int32)) % (5 : Int32)))), iv (4 : Int32)] [(.ref (own_pick sS sI sN sB sM (4 : Int32))), (.ref (own_and sI sN sM (own_pick sS sI sN sB sM ((x0 &&& (2147483647 : Int32)) % (5 : Int32))) (own_pick sS sI sN sB sM ((x1 &&& (2147483647 : Int32)) % (5 : Int32)))))])) (st37) ?_
      refine own_go (T' := T37) (g' := (mkF m 64 #[iv x0, iv x1, iv ((x0 &&& (2147483647 : Int32)) % (5 : Int32)), iv ((x1 &&& (2147483647 : Int32)) % (5 : Int32)), rv (own_and sI sN sM (own_pick sS sI sN sB sM ((x0 &&& (2147483647 : Int32)) % (5 : Int32))) (own_pick sS sI sN sB sM ((x1 &&& (2147483647 : Int32)) % (5 : Int32)))), iv (4 : Int32)] [])) (fun t k => Jvm.RoadKit.acmp (g := (mkF m 61 #[iv x0, iv x1, iv ((x0 &&& (2147483647 : Int32)) % (5 : Int32)), iv ((x1 &&& (2147483647 : Int32)) % (5 : Int32)), rv (own_and sI sN sM (own_pick sS sI sN sB sM ((x0 &&& (2147483647 : Int32)) % (5 : Int32))) (own_pick sS sI sN sB sM ((x1 &&& (2147483647 : Int32)) % (5 : Int32)))), iv (4 : Int32)] [(.ref (own_pick sS sI sN sB sM (4 : Int32))), (.ref (own_and sI sN sM (own_pick sS sI sN sB sM ((x0 &&& (2147483647 : Int32)) % (5 : Int32))) (own_pick sS sI sN sB sM ((x1 &&& (2147483647 : Int32)) % (5 : Int32)))))])) X37 hx rfl (x := (.ref (own_and sI sN sM (own_pick sS sI sN sB sM ((x0 &&& (2147483647 : Int32)) % (5 : Int32))) (own_pick sS sI sN sB sM ((x1 &&& (2147483647 : Int32)) % (5 : Int32)))))) (y := (.ref (own_pick sS sI sN sB sM (4 : Int32)))) rfl rfl (pc0 := 61) (pc' := 64) (same := true) rfl (hb hby at_61) rfl (decide_eq_true (congrArg Value.ref ((own_key hd (own_mod5 x0) (own_mod5 x1)).trans (by simp [hc33, hc35])))) (by decide) (by decide) k) ?_
      refine own_go (T' := T37) (g' := (mkF m 65 #[iv x0, iv x1, iv ((x0 &&& (2147483647 : Int32)) % (5 : Int32)), iv ((x1 &&& (2147483647 : Int32)) % (5 : Int32)), rv (own_and sI sN sM (own_pick sS sI sN sB sM ((x0 &&& (2147483647 : Int32)) % (5 : Int32))) (own_pick sS sI sN sB sM ((x1 &&& (2147483647 : Int32)) % (5 : Int32)))), iv (4 : Int32)] [(.int (1 : Int32))])) (fun t k => XS.iconst X37.here hx rfl (hb hby at_64) k) ?_
      refine own_go (T' := T37) (g' := (mkF m 69 #[iv x0, iv x1, iv ((x0 &&& (2147483647 : Int32)) % (5 : Int32)), iv ((x1 &&& (2147483647 : Int32)) % (5 : Int32)), rv (own_and sI sN sM (own_pick sS sI sN sB sM ((x0 &&& (2147483647 : Int32)) % (5 : Int32))) (own_pick sS sI sN sB sM ((x1 &&& (2147483647 : Int32)) % (5 : Int32)))), iv (4 : Int32)] [(.int (1 : Int32))])) (fun t k => XS.goto X37.here hx rfl (pc0 := 65) (pc' := 69) rfl (hb hby at_65) (by decide) (by decide) k) ?_
      exact own_ret X37 hlk hx Bd.returns rfl (Or.inl ⟨rfl, Or.inr (Or.inl rfl), _, rfl⟩) (hb hby at_69) (by first | exact ⟨rfl, N37⟩ | (rw [Fr] at *; exact ⟨rfl, by simpa using N37⟩)) (by decide) (by decide)

set_option maxRecDepth 65536 in
set_option maxHeartbeats 40000000 in
theorem own_comes {Post : Tables → Env → Array Value → State → Outcome → State → Prop} (hpost : ∀ tb e args s v u, (limb_1_1.after args s (.returned v) u = true ∧ limb_1_2.after args s (.returned v) u = true ∧ True) → FrameEnd s (.returned v) u (Jvm.fieldLocs frame_1_writes args s ++ Jvm.arrayLocs frame_1_arrays args s ++ Jvm.staticLocs frame_1_statics s) 0 0 → Post tb e args s (.returned v) u) :
    ArmFor flags0 classFile x code maxLocals ret World_1 tables_1 room_1 Calls_1 rest_1 Pre_1 Post := by
  intro l hfl _ _ p e ha hc hk s m args below hf hA hF happ hP
  obtain ⟨hcalls, hrest, hpre⟩ := hP
  obtain ⟨-, -, -, hnamed, -, -, -, hat⟩ := (Spec.applies_iff hf).mp happ
  obtain ⟨hg, hn⟩ := and_e (Cond.before_iff.mp (show (Jvm.Cond.and given_1 narrow_1).before args s = true from hpre))
  obtain ⟨hg0, hg1⟩ := and_e hg
  obtain ⟨ha0, hr0⟩ := and_e hg1
  obtain ⟨w0, w1, rfl⟩ : ∃ w0 w1 : Value, args = #[w0, w1] := by
    have hs : args.size = 2 := by simpa [Cond.value, given_1] using hg0
    obtain ⟨L⟩ := args
    match L, hs with
    | [w0, w1], _ => exact ⟨w0, w1, rfl⟩
  have hw := fun d (hd : d ∈ tables_1) => atoms_spec (ws := Jvm.Cond.code x code maxLocals ret :: tables_1) hat d (List.mem_cons_of_mem _ hd)
  have hfit : Fit s := fun {y c} hc i hi => by
    obtain ⟨ha, rfl⟩ := Array.getElem?_eq_some_iff.mp hc
    have q := List.all_eq_true.mp ((Array.all_eq_true_iff_forall_mem.mp hF) _ (Array.getElem_mem ha)) i (List.mem_range.mpr hi)
    simpa [Array.getElem?_eq_getElem hi] using q
  obtain ⟨x0, ex0⟩ := is_v ha0
  obtain rfl : w0 = (.int x0) := Option.some.inj ex0
  obtain ⟨x1, ex1⟩ := is_v hr0
  obtain rfl : w1 = (.int x1) := Option.some.inj ex1
  obtain ⟨hn0, hq0⟩ := and_e hn
  obtain ⟨hn1, hq1⟩ := and_e hq0
  obtain ⟨hn2, hq2⟩ := and_e hq1
  obtain ⟨hn3, hq3⟩ := and_e hq2
  obtain ⟨hn4, hq4⟩ := and_e hq3
  obtain ⟨hn5, hq5⟩ := and_e hq4
  obtain ⟨hn6, hq6⟩ := and_e hq5
  obtain ⟨hn7, hq7⟩ := and_e hq6
  obtain ⟨hn8, hq8⟩ := and_e hq7
  obtain ⟨a_STRING, v_STRING⟩ := exa_v hn0
  have E_STRING : Exa s s.heap a_STRING "com/example/piastrella/piastrella/data/PropertyType" := Exa.start v_STRING hn0
  have S_STRING : Sta s s.heap "com/example/piastrella/piastrella/data/PropertyType" "STRING" "Lcom/example/piastrella/piastrella/data/PropertyType;" (.ref a_STRING) := Sta.start v_STRING (Or.inr ⟨(hw _ (List.mem_of_getElem? (i := 6) rfl)), (hw _ (List.mem_of_getElem? (i := 7) rfl))⟩)
  obtain ⟨a_BOOLEAN, v_BOOLEAN⟩ := exa_v hn1
  have E_BOOLEAN : Exa s s.heap a_BOOLEAN "com/example/piastrella/piastrella/data/PropertyType" := Exa.start v_BOOLEAN hn1
  have S_BOOLEAN : Sta s s.heap "com/example/piastrella/piastrella/data/PropertyType" "BOOLEAN" "Lcom/example/piastrella/piastrella/data/PropertyType;" (.ref a_BOOLEAN) := Sta.start v_BOOLEAN (Or.inr ⟨(hw _ (List.mem_of_getElem? (i := 6) rfl)), (hw _ (List.mem_of_getElem? (i := 9) rfl))⟩)
  obtain ⟨a_INTEGER, v_INTEGER⟩ := exa_v hn4
  have E_INTEGER : Exa s s.heap a_INTEGER "com/example/piastrella/piastrella/data/PropertyType" := Exa.start v_INTEGER hn4
  have S_INTEGER : Sta s s.heap "com/example/piastrella/piastrella/data/PropertyType" "INTEGER" "Lcom/example/piastrella/piastrella/data/PropertyType;" (.ref a_INTEGER) := Sta.start v_INTEGER (Or.inr ⟨(hw _ (List.mem_of_getElem? (i := 6) rfl)), (hw _ (List.mem_of_getElem? (i := 16) rfl))⟩)
  obtain ⟨a_NUMBER, v_NUMBER⟩ := exa_v hn6
  have E_NUMBER : Exa s s.heap a_NUMBER "com/example/piastrella/piastrella/data/PropertyType" := Exa.start v_NUMBER hn6
  have S_NUMBER : Sta s s.heap "com/example/piastrella/piastrella/data/PropertyType" "NUMBER" "Lcom/example/piastrella/piastrella/data/PropertyType;" (.ref a_NUMBER) := Sta.start v_NUMBER (Or.inr ⟨(hw _ (List.mem_of_getElem? (i := 6) rfl)), (hw _ (List.mem_of_getElem? (i := 18) rfl))⟩)
  obtain ⟨a_MIXED, v_MIXED⟩ := exa_v hn8
  have E_MIXED : Exa s s.heap a_MIXED "com/example/piastrella/piastrella/data/PropertyType" := Exa.start v_MIXED hn8
  have S_MIXED : Sta s s.heap "com/example/piastrella/piastrella/data/PropertyType" "MIXED" "Lcom/example/piastrella/piastrella/data/PropertyType;" (.ref a_MIXED) := Sta.start v_MIXED (Or.inr ⟨(hw _ (List.mem_of_getElem? (i := 6) rfl)), (hw _ (List.mem_of_getElem? (i := 20) rfl))⟩)
  have O_STRING := own_fld v_STRING hn2
  have O_BOOLEAN := own_fld v_BOOLEAN hn3
  have O_INTEGER := own_fld v_INTEGER hn5
  have O_NUMBER := own_fld v_NUMBER hn7
  have O_MIXED := own_fld v_MIXED hq8
  have hd : own_dist a_STRING a_INTEGER a_NUMBER a_BOOLEAN a_MIXED := ⟨O_STRING.ne O_INTEGER (by decide), O_STRING.ne O_NUMBER (by decide), O_STRING.ne O_BOOLEAN (by decide), O_STRING.ne O_MIXED (by decide), O_INTEGER.ne O_NUMBER (by decide), O_INTEGER.ne O_BOOLEAN (by decide), O_INTEGER.ne O_MIXED (by decide), O_NUMBER.ne O_BOOLEAN (by decide), O_NUMBER.ne O_MIXED (by decide), O_BOOLEAN.ne O_MIXED (by decide)⟩
  obtain ⟨n, o, h1, h2, h3, _, L, rfl, ⟨rfl, N⟩, hq⟩ := own_law l s _ hw tables_1 x0 x1 a_STRING a_INTEGER a_NUMBER a_BOOLEAN a_MIXED s.heap s.heap.size (Nat.le_refl _) S_STRING S_INTEGER S_NUMBER S_BOOLEAN S_MIXED E_STRING E_INTEGER E_NUMBER E_BOOLEAN E_MIXED hd p e ha hc hk s m _ below hf ((Spec.applies_iff_loose hf).mp happ).1 ⟨rfl, State.Warmed39.refl s, rfl⟩ trivial
  refine ⟨n, _, h1, h2, h3, hpost _ _ _ _ _ _ ⟨Cond.after_iff.mpr rfl, Cond.after_iff.mpr (eq_i res_at (Term.int_eval (1)) rfl), trivial⟩ ⟨hq.1, hq.2.1, (hq.2.2.sift fun y hy => Or.inr (N y hy)).mono (by decide) (by decide)⟩⟩
theorem main_1_1 : Claimed_1_1 := own_comes fun _ _ _ _ _ _ h hF => ⟨h.1, hF⟩
theorem main_1_2 : Claimed_1_2 := own_comes fun _ _ _ _ _ _ h hF => ⟨h.2.1, hF⟩
end Jvm.Pilot.@@N@@
namespace Jvm.Pilot.@@N@@
open Jvm Jvm.ClassFile Sem Op Lib Jvm.Free Jvm.Stand Jvm.Pilot.@@N@@.Jvm.D
/-! MADE BY PROGRAM (witnessworld.py) out of the Statement's table words and the real class files: 12 classes; the members and pool entries that the words name. The judged class is class 1, her method 2. -/
namespace start1
open Jvm.ClassFile
def u (s : String) : CpInfo := .utf8 (stringToUtf16 s)
/-- a pool by its gaps: so many unusable entries, then the entry; so many at the end -/
def gap : Nat → List CpInfo → List CpInfo
  | 0, r => r
  | n + 1, r => .unusable :: gap n r
def poolList (es : List (Nat × CpInfo)) (last : Nat) : List CpInfo := es.foldr (fun e r => gap e.1 (e.2 :: r)) (gap last [])
def pool (es : List (Nat × CpInfo)) (last : Nat) : Array CpInfo := ⟨poolList es last⟩
def fileOf (pool : Array CpInfo) (this : Nat) (attrs : Array Attribute := #[]) (ms : Array MethodInfo := #[]) (fl : Nat := 33) (sup : Nat := 0) (ifs : Array Nat := #[]) (fds : Array FieldInfo := #[]) : ClassFile where
  minorVersion := 0
  majorVersion := 65
  constantPool := pool
  accessFlags := fl
  thisClass := this
  superClass := sup
  interfaces := ifs
  fields := fds
  methods := ms
  attributes := attrs
def plain (name : String) (sup : Option ClassId) : Class where
  name := name
  kind := .ordinary
  loader := none
  accessFlags := 33
  super := sup
  interfaces := #[]
  cf := none
  fields := #[]
  methods := #[]
  instanceTypes := #[]
  staticTypes := #[]
  resolved := #[]
  callSites := []
  init := .initialized
  statics := none
  mirror := none

def pool0 : Array CpInfo := pool [(5, u "<init>"), (0, u "()V"), (1, .class_ 10), (1, u "java/lang/Object")] 113

def k0m0 : Method := { name := "<init>", desc := "()V", sig := { parameters := [], returnType := none }, accessFlags := 1, code := none }
/-- java/lang/Object -/
def k0 : Class := { plain "java/lang/Object" none with
  accessFlags := 33
  interfaces := #[]
  cf := some (fileOf pool0 8 #[] #[{ accessFlags := 1, nameIndex := 5, descriptorIndex := 6, attributes := #[] }] 33 0 #[] #[])
  fields := #[]
  methods := #[k0m0]
  instanceTypes := #[]
  staticTypes := #[]
  resolved := Array.replicate 124 none
  statics := none }

def pool1 : Array CpInfo := pool [(2, .class_ 4), (1, u "java/lang/Object"), (0, u "<init>"), (0, u "()V"), (0, .fieldref 8 9), (0, .class_ 10), (0, .nameAndType 11 12), (0, u "com/example/piastrella/piastrella/data/PropertyType"), (0, u "STRING"), (0, u "Lcom/example/piastrella/piastrella/data/PropertyType;"), (0, .fieldref 8 14), (0, .nameAndType 15 12), (0, u "INTEGER"), (0, .fieldref 8 17), (0, .nameAndType 18 12), (0, u "NUMBER"), (0, .fieldref 8 20), (0, .nameAndType 21 12), (0, u "BOOLEAN"), (0, .fieldref 8 23), (0, .nameAndType 24 12), (0, u "MIXED"), (0, .integer 2147483647), (0, .methodref 27 28), (0, .class_ 29), (0, .nameAndType 30 31), (0, u "com/example/piastrella/piastrella/data/PropertyTypeAndPinLaw"), (0, u "pick"), (0, u "(I)Lcom/example/piastrella/piastrella/data/PropertyType;"), (0, .methodref 8 33), (0, .nameAndType 34 35), (0, u "and"), (0, u "(Lcom/example/piastrella/piastrella/data/PropertyType;)Lcom/example/piastrella/piastrella/data/PropertyType;"), (3, u "law"), (0, u "(II)Z")] 2

def k1m0 : Method := { name := "<init>", desc := "()V", sig := { parameters := [], returnType := none }, accessFlags := 1, code := none }
def k1c1 : Code := { maxStack := 2, maxLocals := 1, code := method_2_code, exceptionTable := #[], attributes := #[] }
def k1m1 : Method := { name := "pick", desc := "(I)Lcom/example/piastrella/piastrella/data/PropertyType;", sig := { parameters := [.int], returnType := some (.object "com/example/piastrella/piastrella/data/PropertyType") }, accessFlags := 10, code := some k1c1 }
def k1c2 : Code := { maxStack := 2, maxLocals := 6, code := code, exceptionTable := #[], attributes := #[] }
def k1m2 : Method := { name := "law", desc := "(II)Z", sig := { parameters := [.int, .int], returnType := some .boolean }, accessFlags := 9, code := some k1c2 }
/-- com/example/piastrella/piastrella/data/PropertyTypeAndPinLaw -/
def k1 : Class := { plain "com/example/piastrella/piastrella/data/PropertyTypeAndPinLaw" (some 0) with
  accessFlags := 49
  interfaces := #[]
  cf := some (fileOf pool1 27 #[] #[{ accessFlags := 1, nameIndex := 5, descriptorIndex := 6, attributes := #[] }, { accessFlags := 10, nameIndex := 30, descriptorIndex := 31, attributes := #[] }, { accessFlags := 9, nameIndex := 39, descriptorIndex := 40, attributes := #[] }] 49 2 #[] #[])
  fields := #[]
  methods := #[k1m0, k1m1, k1m2]
  instanceTypes := #[]
  staticTypes := #[]
  resolved := Array.replicate 43 none
  statics := none }

def pool2 : Array CpInfo := pool [(1, .class_ 2), (0, u "java/lang/constant/Constable"), (0, .class_ 4), (0, u "java/lang/Object")] 6

/-- java/lang/constant/Constable -/
def k2 : Class := { plain "java/lang/constant/Constable" (some 0) with
  accessFlags := 1537
  interfaces := #[]
  cf := some (fileOf pool2 1 #[] #[] 1537 3 #[] #[])
  fields := #[]
  methods := #[]
  instanceTypes := #[]
  staticTypes := #[]
  resolved := Array.replicate 11 none
  statics := none }

def pool3 : Array CpInfo := pool [(1, .class_ 2), (0, u "java/lang/Comparable"), (0, .class_ 4), (0, u "java/lang/Object")] 7

/-- java/lang/Comparable -/
def k3 : Class := { plain "java/lang/Comparable" (some 0) with
  accessFlags := 1537
  interfaces := #[]
  cf := some (fileOf pool3 1 #[] #[] 1537 3 #[] #[])
  fields := #[]
  methods := #[]
  instanceTypes := #[]
  staticTypes := #[]
  resolved := Array.replicate 12 none
  statics := none }

def pool4 : Array CpInfo := pool [(1, .class_ 2), (0, u "java/io/Serializable"), (0, .class_ 4), (0, u "java/lang/Object")] 2

/-- java/io/Serializable -/
def k4 : Class := { plain "java/io/Serializable" (some 0) with
  accessFlags := 1537
  interfaces := #[]
  cf := some (fileOf pool4 1 #[] #[] 1537 3 #[] #[])
  fields := #[]
  methods := #[]
  instanceTypes := #[]
  staticTypes := #[]
  resolved := Array.replicate 7 none
  statics := none }

def pool5 : Array CpInfo := pool [(2, .class_ 4), (1, u "java/lang/Enum"), (0, u "name"), (0, u "Ljava/lang/String;"), (2, u "ordinal"), (0, u "I"), (1, .class_ 14), (1, u "java/lang/Object"), (4, u "hash"), (86, .class_ 108), (1, u "java/lang/Enum$EnumDesc"), (2, .class_ 112), (0, u "java/lang/constant/Constable"), (0, .class_ 114), (0, u "java/lang/Comparable"), (0, .class_ 116), (0, u "java/io/Serializable")] 87

/-- java/lang/Enum -/
def k5 : Class := { plain "java/lang/Enum" (some 0) with
  accessFlags := 1057
  interfaces := #[2, 3, 4]
  cf := some (fileOf pool5 2 #[.nestMembers #[106]] #[] 1057 12 #[111, 113, 115] #[{ accessFlags := 18, nameIndex := 5, descriptorIndex := 6, attributes := #[] }, { accessFlags := 18, nameIndex := 9, descriptorIndex := 10, attributes := #[] }, { accessFlags := 2, nameIndex := 19, descriptorIndex := 10, attributes := #[] }])
  fields := #[{ name := "name", type := (.object "java/lang/String"), accessFlags := 18, slot := 0, constantValue := 0 }, { name := "ordinal", type := .int, accessFlags := 18, slot := 1, constantValue := 0 }, { name := "hash", type := .int, accessFlags := 2, slot := 2, constantValue := 0 }]
  methods := #[]
  instanceTypes := #[(.object "java/lang/String"), .int, .int]
  staticTypes := #[]
  resolved := Array.replicate 204 none
  statics := none }

def pool6 : Array CpInfo := pool [(1, .class_ 2), (0, u "com/example/piastrella/piastrella/data/PropertyType"), (2, u "STRING"), (0, u "Lcom/example/piastrella/piastrella/data/PropertyType;"), (0, .fieldref 1 8), (0, .nameAndType 9 6), (0, u "INTEGER"), (0, .fieldref 1 11), (0, .nameAndType 12 6), (0, u "NUMBER"), (2, u "BOOLEAN"), (0, .fieldref 1 17), (0, .nameAndType 18 6), (0, u "MIXED"), (2, u "$VALUES"), (0, u "[Lcom/example/piastrella/piastrella/data/PropertyType;"), (6, .class_ 31), (1, u "java/lang/Enum"), (8, u "schemaType"), (0, u "Ljava/lang/String;"), (39, u "and"), (0, u "(Lcom/example/piastrella/piastrella/data/PropertyType;)Lcom/example/piastrella/piastrella/data/PropertyType;")] 5

def k6c0 : Code := { maxStack := 2, maxLocals := 3, code := prog_4_method_6_code, exceptionTable := #[], attributes := #[] }
def k6m0 : Method := { name := "and", desc := "(Lcom/example/piastrella/piastrella/data/PropertyType;)Lcom/example/piastrella/piastrella/data/PropertyType;", sig := { parameters := [(.object "com/example/piastrella/piastrella/data/PropertyType")], returnType := some (.object "com/example/piastrella/piastrella/data/PropertyType") }, accessFlags := 1, code := some k6c0 }
/-- com/example/piastrella/piastrella/data/PropertyType -/
def k6 : Class := { plain "com/example/piastrella/piastrella/data/PropertyType" (some 5) with
  accessFlags := 16433
  interfaces := #[]
  cf := some (fileOf pool6 1 #[] #[{ accessFlags := 1, nameIndex := 81, descriptorIndex := 82, attributes := #[] }] 16433 29 #[] #[{ accessFlags := 16409, nameIndex := 5, descriptorIndex := 6, attributes := #[] }, { accessFlags := 16409, nameIndex := 9, descriptorIndex := 6, attributes := #[] }, { accessFlags := 16409, nameIndex := 12, descriptorIndex := 6, attributes := #[] }, { accessFlags := 16409, nameIndex := 15, descriptorIndex := 6, attributes := #[] }, { accessFlags := 16409, nameIndex := 18, descriptorIndex := 6, attributes := #[] }, { accessFlags := 18, nameIndex := 40, descriptorIndex := 41, attributes := #[] }, { accessFlags := 4122, nameIndex := 21, descriptorIndex := 22, attributes := #[] }])
  fields := #[{ name := "STRING", type := (.object "com/example/piastrella/piastrella/data/PropertyType"), accessFlags := 16409, slot := 0, constantValue := 0 }, { name := "INTEGER", type := (.object "com/example/piastrella/piastrella/data/PropertyType"), accessFlags := 16409, slot := 1, constantValue := 0 }, { name := "NUMBER", type := (.object "com/example/piastrella/piastrella/data/PropertyType"), accessFlags := 16409, slot := 2, constantValue := 0 }, { name := "BOOLEAN", type := (.object "com/example/piastrella/piastrella/data/PropertyType"), accessFlags := 16409, slot := 3, constantValue := 0 }, { name := "MIXED", type := (.object "com/example/piastrella/piastrella/data/PropertyType"), accessFlags := 16409, slot := 4, constantValue := 0 }, { name := "schemaType", type := (.object "java/lang/String"), accessFlags := 18, slot := 3, constantValue := 0 }, { name := "$VALUES", type := (.array (.object "com/example/piastrella/piastrella/data/PropertyType")), accessFlags := 4122, slot := 5, constantValue := 0 }]
  methods := #[k6m0]
  instanceTypes := #[(.object "java/lang/String"), .int, .int, (.object "java/lang/String")]
  staticTypes := #[(.object "com/example/piastrella/piastrella/data/PropertyType"), (.object "com/example/piastrella/piastrella/data/PropertyType"), (.object "com/example/piastrella/piastrella/data/PropertyType"), (.object "com/example/piastrella/piastrella/data/PropertyType"), (.object "com/example/piastrella/piastrella/data/PropertyType"), (.array (.object "com/example/piastrella/piastrella/data/PropertyType"))]
  resolved := Array.replicate 88 none
  statics := some 0 }

def pool7 : Array CpInfo := pool [(1, u "java/lang/Cloneable"), (0, .class_ 1), (0, u "java/lang/Object"), (0, .class_ 3)] 3

/-- java/lang/Cloneable -/
def k7 : Class := { plain "java/lang/Cloneable" (some 0) with
  accessFlags := 1537
  interfaces := #[]
  cf := some (fileOf pool7 2 #[] #[] 1537 4 #[] #[])
  fields := #[]
  methods := #[]
  instanceTypes := #[]
  staticTypes := #[]
  resolved := Array.replicate 8 none
  statics := none }

/-- the primitive byte -/
def k8 : Class := { plain "byte" none with kind := .primitive 'B', accessFlags := 0x411 }
/-- [B -/
def k9 : Class := { plain "[B" (some 0) with kind := .array 8 .byte, interfaces := #[7, 4], accessFlags := 1041 }

/-- the primitive int -/
def k10 : Class := { plain "int" none with kind := .primitive 'I', accessFlags := 0x411 }
/-- [I -/
def k11 : Class := { plain "[I" (some 0) with kind := .array 10 .int, interfaces := #[7, 4], accessFlags := 1041 }

def heap : Heap := #[{ cls := 6, slots := #[.ref 1, .ref 3, .ref 4, .ref 2, .ref 5, .null], vm := .statics 6 },
  { cls := 6, slots := #[.null, .int 0, .int 0, .null], vm := .none },
  { cls := 6, slots := #[.null, .int 3, .int 0, .null], vm := .none },
  { cls := 6, slots := #[.null, .int 1, .int 0, .null], vm := .none },
  { cls := 6, slots := #[.null, .int 2, .int 0, .null], vm := .none },
  { cls := 6, slots := #[.null, .int 4, .int 0, .null], vm := .none }]
def classes : Array Class := #[k0, k1, k2, k3, k4, k5, k6, k7, k8, k9, k10, k11]
def interned : List (Array UInt16 × Addr) := []
def slotsUsed : Nat := 26
def theMethod : MethodId := ⟨1, 2⟩
def args0 : Array Value := #[.int 5, .int 6]
def aboutOver (below : List Frame) : State where
  vm := { classes := classes, interned := interned.toArray }
  heap := heap
  slotsUsed := slotsUsed
  threads := #[{ frames := .invoking theMethod args0 :: below }]
def below0 : List Frame := [.native { method := ⟨0, 0⟩, args := #[] }]
def about1 : State := aboutOver below0
def p0 : Program := .bare "" "" ""
def e0 : Env := launch0.env 0 0 0
theorem w_frames : about1.frames = Frame.invoking theMethod args0 :: below0 := rfl
set_option maxRecDepth 65536 in
theorem w_args : argsFit about1.vm theMethod args0 = true := by decide +kernel
set_option maxRecDepth 65536 in
theorem w_heap : heapFits about1 = true := by decide +kernel
set_option maxRecDepth 65536 in
theorem w_runnable : about1.curStatus? = some .runnable := by decide +kernel
set_option maxRecDepth 65536 in
theorem w_alone : about1.alone = true := by decide +kernel
set_option maxRecDepth 65536 in
theorem w_named : about1.methodNamed? x = some theMethod := by decide +kernel
set_option maxRecDepth 65536 in
theorem w_hears : about1.hears theMethod below0 = true := by decide +kernel
set_option maxRecDepth 65536 in
theorem w_ripe : about1.ripe theMethod args0 below0 = true := by decide +kernel
theorem w_running : about1.status = .running := rfl
set_option maxRecDepth 65536 in
theorem w_room : about1.hasRoom e0.platform room_1 = true :=
  launch0.hasRoom_least _ room_1 (by decide +kernel) (by decide +kernel) (by decide +kernel) (by decide +kernel) (by decide +kernel) (by decide +kernel)
theorem allAtoms_all (ts : List Jvm.Cond) (a : Array Jvm.Value) (st : Jvm.State) : (allAtoms ts).before a st = ts.all (fun c => c.before a st) := by
  induction ts with
  | nil => rfl
  | cons c t ih =>
    show (Jvm.Cond.and c (allAtoms t)).before a st = _
    rw [Jvm.Cond.before_and, ih, List.all_cons]
def words1 : List Jvm.Cond := Jvm.Cond.code x code maxLocals ret :: tables_1
/-- a 'code' word, met by the world's own term for the bytes: nothing is compared byte by byte -/
theorem code_word {y : MethodName} {bytes : ByteArray} {mx : Nat} {rt : Option FieldType} {a : Array Value} {s : State} {m : MethodId} {meth : Method} {c : Code} (h1 : s.methodNamed? y = some m) (h2 : s.vm.method? m = some meth) (h3 : meth.code = some c) (h4 : c.code = bytes)
    (h5 : (c.maxLocals == mx && c.exceptionTable.isEmpty && decide (c.maxStack ≤ mostOperands) && decide (meth.sig.returnType = rt) && !meth.locks && decide (parseMethodDescriptor y.desc = some meth.sig)) = true) : (Jvm.Cond.code y bytes mx rt).before a s = true := by
  simp only [Bool.and_eq_true, beq_iff_eq, Bool.not_eq_true', decide_eq_true_eq] at h5
  obtain ⟨⟨⟨⟨⟨g1, g2⟩, g3⟩, g4⟩, g5⟩, g6⟩ := h5
  simp [Cond.before, Cond.holds, Cond.value, h1, h2, h3, h4, g1, g2, g3, g4, g5, g6]
def isCode : Jvm.Cond → Bool
  | .code _ _ _ _ => true
  | _ => false
theorem all_split {L : List Jvm.Cond} {P : Jvm.Cond → Bool} (h1 : L.all (fun c => isCode c || P c) = true) (h2 : ∀ c ∈ L.filter isCode, P c = true) : L.all P = true := by
  refine List.all_eq_true.mpr fun c hc => ?_
  have h := List.all_eq_true.mp h1 c hc
  rcases Bool.eq_false_or_eq_true (isCode c) with hi | hi
  · exact h2 c (List.mem_filter.mpr ⟨hc, hi⟩)
  · simpa [hi] using h
set_option maxRecDepth 65536 in
theorem w_c0 : (Jvm.Cond.code x code maxLocals ret).before args0 about1 = true := code_word (m := ⟨1, 2⟩) (meth := k1m2) (c := k1c2) (by decide +kernel) rfl rfl rfl (by decide +kernel)
set_option maxRecDepth 65536 in
theorem w_c1 : (Jvm.Cond.code ({ cls := "com/example/piastrella/piastrella/data/PropertyTypeAndPinLaw", name := "pick", desc := "(I)Lcom/example/piastrella/piastrella/data/PropertyType;" } : Jvm.MethodName) method_2_code (1 : Nat) (Option.some (Jvm.ClassFile.FieldType.object "com/example/piastrella/piastrella/data/PropertyType"))).before args0 about1 = true := code_word (m := ⟨1, 1⟩) (meth := k1m1) (c := k1c1) (by decide +kernel) rfl rfl rfl (by decide +kernel)
set_option maxRecDepth 65536 in
theorem w_c2 : (Jvm.Cond.code ({ cls := "com/example/piastrella/piastrella/data/PropertyType", name := "and", desc := "(Lcom/example/piastrella/piastrella/data/PropertyType;)Lcom/example/piastrella/piastrella/data/PropertyType;" } : Jvm.MethodName) prog_4_method_6_code (3 : Nat) (Option.some (Jvm.ClassFile.FieldType.object "com/example/piastrella/piastrella/data/PropertyType"))).before args0 about1 = true := code_word (m := ⟨6, 0⟩) (meth := k6m0) (c := k6c0) (by decide +kernel) rfl rfl rfl (by decide +kernel)
def codes1 : List Jvm.Cond := [Jvm.Cond.code x code maxLocals ret, Jvm.Cond.code ({ cls := "com/example/piastrella/piastrella/data/PropertyTypeAndPinLaw", name := "pick", desc := "(I)Lcom/example/piastrella/piastrella/data/PropertyType;" } : Jvm.MethodName) method_2_code (1 : Nat) (Option.some (Jvm.ClassFile.FieldType.object "com/example/piastrella/piastrella/data/PropertyType")), Jvm.Cond.code ({ cls := "com/example/piastrella/piastrella/data/PropertyType", name := "and", desc := "(Lcom/example/piastrella/piastrella/data/PropertyType;)Lcom/example/piastrella/piastrella/data/PropertyType;" } : Jvm.MethodName) prog_4_method_6_code (3 : Nat) (Option.some (Jvm.ClassFile.FieldType.object "com/example/piastrella/piastrella/data/PropertyType"))]
set_option maxRecDepth 65536 in
theorem codes_eq : words1.filter isCode = codes1 := rfl
theorem w_codes : ∀ c ∈ words1.filter isCode, c.before args0 about1 = true := by
  rw [codes_eq]
  intro c hc
  simp only [codes1, List.mem_cons, List.not_mem_nil, or_false] at hc
  rcases hc with rfl | rfl | rfl
  · exact w_c0
  · exact w_c1
  · exact w_c2
set_option maxRecDepth 65536 in
theorem w_t1 : (words1.take 24).all (fun c => isCode c || c.before args0 about1) = true := by decide +kernel
set_option maxRecDepth 65536 in
theorem w_t2 : (words1.drop 24).all (fun c => isCode c || c.before args0 about1) = true := by decide +kernel
theorem w_tables : (allAtoms (Jvm.Cond.code x code maxLocals ret :: tables_1)).before args0 about1 = true := by
  rw [allAtoms_all]
  show words1.all (fun c => c.before args0 about1) = true
  refine all_split ?_ w_codes
  rw [← List.take_append_drop 24 words1, List.all_append, w_t1, w_t2]
  rfl
set_option maxRecDepth 65536 in
theorem w_case : (Jvm.Cond.and given_1 narrow_1).before args0 about1 = true := by decide +kernel
theorem w_applies : (headSpec (Jvm.Cond.code x code maxLocals ret :: tables_1) room_1).applies x e0.platform about1 = true :=
  (Spec.applies_iff w_frames).mpr ⟨w_running, w_runnable, w_alone, w_named, w_hears, w_ripe, w_room, w_tables⟩
theorem atStart : AtStart classFile x code maxLocals ret World_1 tables_1 room_1 Calls_1 rest_1 Pre_1 launch0 p0 e0 about1 theMethod args0 below0 :=
  ⟨lists_1, trivial, launch0.admits_env _ _ _, launch0.least_env, fairChoices_fair.cas, fairChoices_fair.clock, w_frames, w_args, w_heap, w_applies, trivial, trivial, w_case⟩
end start1
theorem witness_1 : WitnessClaimed_1 := ⟨start1.p0, start1.e0, start1.about1, start1.theMethod, start1.args0, start1.below0, start1.atStart⟩
end Jvm.Pilot.@@N@@
