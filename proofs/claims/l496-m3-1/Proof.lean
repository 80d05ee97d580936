import JvmDerived
import JvmDerived.Pilot.@@N@@Statement
import JvmDerived.Pilot.@@N@@Code
set_option linter.unusedVariables false
set_option linter.unusedSimpArgs false
namespace Jvm.Pilot.@@N@@
open Jvm Jvm.ClassFile Sem Op Lib Jvm.Free Jvm.Stand Jvm.LawKit Jvm.RoadKit Bundle Jvm.Pilot.@@N@@.Jvm.D
abbrev own_Ends (p : Program) (e : Env) (below : List Frame) (T : State) (g : JFrame) (Q : Outcome → State → Prop) : Prop :=
  ∃ s₂ o, Steps p.tables e below (T.setTop g) s₂ ∧ s₂.status = .running ∧ Ended s₂ below o ∧ Q o s₂
section Own
variable {p : Program} {l : Launch} {e : Env} {R : Room} {s : State} {m : MethodId} {args : Array Value} {below : List Frame} {meth : Method} {c : Code} {T T' : State} {locs : List Loc} {cells slots : Nat}
theorem own_go {g g' : JFrame} {Q : Outcome → State → Prop} (h : ∀ t, Steps p.tables e below (T'.setTop g') t → Steps p.tables e below (T.setTop g) t) (k : own_Ends p e below T' g' Q) : own_Ends p e below T g Q := by
  obtain ⟨s₂, o, h1, h2⟩ := k
  exact ⟨s₂, o, h _ h1, h2⟩
theorem own_start {g g' : JFrame} {Q : Outcome → State → Prop} (h : g = g') (k : own_Ends p e below T g' Q) : own_Ends p e below T g Q := h ▸ k
theorem own_ret (X : Stand p l e R s m args below meth c T locs cells slots) (hlk : meth.locks = false) (hx : p.tables.exec = Jvm.exec) {pc : Nat} {Ls : Array Slot} {w : Value} {t : FieldType} {i : Instr} {rest : List Value} (hret : meth.sig.returnType = some t) (hn : narrow t w = w)
    (hi : (i = .ireturn ∧ (t = .int ∨ t = .boolean ∨ t = .byte ∨ t = .char ∨ t = .short) ∧ ∃ z, w = .int z) ∨ (i = .lreturn ∧ t = .long ∧ ∃ z, w = .long z) ∨ (i = .dreturn ∧ t = .double ∧ ∃ z, w = .double z) ∨ (i = .freturn ∧ t = .float ∧ ∃ z, w = .float z) ∨ (i = .areturn ∧ t.isReference = true ∧ w.isRef = true))
    (hd : decode c.code pc = .ok (i, 1)) {Qv : Option Value → Heap → List Loc → Prop} {C S : Nat} (hq : Qv (some w) T.heap locs) (hc : cells ≤ C) (hs : slots ≤ S) :
    own_Ends p e below T (mkF m pc Ls (w :: rest)) (fun o U' => ∃ v L, o = .returned v ∧ Qv v U'.heap L ∧ FrameEnd s o U' L C S) := by
  obtain ⟨fs, hr, hrun, hended, hW, hsame⟩ := X.leave (v := some w) (fun h => by rw [hret] at h; cases h) hlk
  exact ⟨_, _, retOut X hx hret hn hi hd hr, hrun, hended, _, _, rfl, hq, ⟨_, rfl⟩, hW, hsame.mono hc hs⟩
theorem own_ret0 (X : Stand p l e R s m args below meth c T locs cells slots) (hlk : meth.locks = false) (hx : p.tables.exec = Jvm.exec) {pc : Nat} {Ls : Array Slot} (hret : meth.sig.returnType = none)
    (hd : decode c.code pc = .ok (.return_, 1)) {Qv : Option Value → Heap → List Loc → Prop} {C S : Nat} (hq : Qv none T.heap locs) (hc : cells ≤ C) (hs : slots ≤ S) :
    own_Ends p e below T (mkF m pc Ls []) (fun o U' => ∃ v L, o = .returned v ∧ Qv v U'.heap L ∧ FrameEnd s o U' L C S) := by
  obtain ⟨fs, hr, hrun, hended, hW, hsame⟩ := X.leave (v := none) (fun _ => rfl) hlk
  exact ⟨_, _, X.returnOut hx hret hd hr, hrun, hended, _, _, rfl, hq, ⟨_, rfl⟩, hW, hsame.mono hc hs⟩
theorem own_nr {t : FieldType} {v : Value} (h : v.isRef = true) : narrow t v = v := by cases v <;> first | (cases h; done) | (cases t <;> rfl)
end Own
def own_RB (Z : State) (h : Heap) (n0 : Nat) (b : Addr) (r f : Nat) (G : Nat → Int32) : Prop :=
  ∃ (aS aL aF aE : Addr) (kS kL kF kE : ClassId) (zS zE : Nat) (vS vL vF vE : List Value),
    Exa Z h b "com/example/tierwright/tierwright/table/RowBounds" ∧ n0 ≤ b ∧ Fld Z h b "com/example/tierwright/tierwright/table/RowBounds" "starts" "[I" (.ref aS) ∧ Fld Z h b "com/example/tierwright/tierwright/table/RowBounds" "lines" "[J" (.ref aL) ∧ Fld Z h b "com/example/tierwright/tierwright/table/RowBounds" "firstEnds" "[I" (.ref aF) ∧ Fld Z h b "com/example/tierwright/tierwright/table/RowBounds" "ends" "[I" (.ref aE) ∧ Fld Z h b "com/example/tierwright/tierwright/table/RowBounds" "rows" "I" (.int (Int32.ofNat r)) ∧ Fld Z h b "com/example/tierwright/tierwright/table/RowBounds" "fields" "I" (.int (Int32.ofNat f)) ∧
    Arv Z h aS kS .int (Int32.ofNat zS) vS (.int (0 : Int32)) ∧ Arv Z h aL kL .long (Int32.ofNat zS) vL (.long (0 : Int64)) ∧ Arv Z h aF kF .int (Int32.ofNat (zS + 1)) vF (.int (0 : Int32)) ∧ Arv Z h aE kE .int (Int32.ofNat zE) vE (.int (0 : Int32)) ∧
    (n0 ≤ aS ∧ n0 ≤ aL ∧ n0 ≤ aF ∧ n0 ≤ aE) ∧ (b ≠ aS ∧ b ≠ aL ∧ b ≠ aF ∧ b ≠ aE ∧ aS ≠ aL ∧ aS ≠ aF ∧ aS ≠ aE ∧ aL ≠ aF ∧ aL ≠ aE ∧ aF ≠ aE) ∧
    (1 ≤ zS ∧ zS ≤ 3 ∧ 1 ≤ zE ∧ zE ≤ 16 ∧ f ≤ zE ∧ r ≤ zS) ∧ (vS.length = zS ∧ vL.length = zS ∧ vF.length = zS + 1 ∧ vE.length = zE) ∧ ∀ i, i ≤ r → vF.getD i (.int (0 : Int32)) = .int (G i)
theorem own_small {i : Nat} (h : i < 64) : (Int32.ofNat i).toInt = i := Int32.toInt_ofNat_small (by omega)
theorem own_cl {i : Nat} (h : i < 64) : (Int32.ofNat i).toNatClampNeg = i := clamp_of rfl (by omega)
theorem own_ltn {i n : Nat} (hi : i < 64) (hn : n < 64) : Int32.ofNat i < Int32.ofNat n ↔ i < n := by
  rw [Int32.lt_iff_toInt_lt, own_small hi, own_small hn]; omega
theorem own_eqn {a b : Nat} (ha : a < 64) (hb : b < 64) : Int32.ofNat a = Int32.ofNat b ↔ a = b := by
  rw [← Int32.toInt_inj, own_small ha, own_small hb]; omega
theorem own_nn {i : Nat} (h : i < 64) : ¬ Int32.ofNat i < 0 := by
  rw [Int32.lt_iff_toInt_lt, own_small h]; have : (0 : Int32).toInt = 0 := rfl; omega
theorem own_inb {i n : Nat} (hi : i < n) (hn : n < 64) : ¬ Int32.ofNat i < 0 ∧ Int32.ofNat i < Int32.ofNat n := ⟨own_nn (by omega), (own_ltn (by omega) hn).mpr hi⟩
theorem own_two {f : Nat} (h : f < 16) : (2 : Int32) * Int32.ofNat f = Int32.ofNat (2 * f) := by
  have q := c_imul 2 (Int32.ofNat f); have r := rng32 ((2 : Int32) * Int32.ofNat f)
  rw [own_small (by omega), show (2 : Int32).toInt = 2 from rfl] at q
  rw [← Int32.toInt_inj, own_small (by omega)]
  have : (2 : Int32).toInt = 2 := rfl
  omega
theorem own_mask {x m : Int32} {k : Nat} (h0 : 0 ≤ m.toInt) (hm : m.toInt = k) (hk : k < 16) : ∃ N : Nat, (x &&& m) = Int32.ofNat N ∧ N ≤ k := by
  have h := c_and x m h0
  refine ⟨(x &&& m).toInt.toNat, ?_, by omega⟩
  rw [← Int32.toInt_inj, own_small (by omega)]; omega
def own_mx (x y : Int32) : Int32 := if x < y then y else x
def own_mn (x y : Int32) : Int32 := if y < x then y else x
theorem own_mxn {c : Nat} (h : c < 16) : own_mx (Int32.ofNat c) 1 = Int32.ofNat (max c 1) := by
  have e : (1 : Int32) = Int32.ofNat 1 := rfl
  unfold own_mx; rw [e]; simp only [own_ltn (i := c) (n := 1) (by omega) (by omega)]
  by_cases q : c < 1
  · rw [if_pos q, show max c 1 = 1 by omega]
  · rw [if_neg q, show max c 1 = c by omega]
theorem own_mnz {z w : Nat} (h : z < w) (hw : w < 64) : own_mn (Int32.ofNat z) (Int32.ofNat w) = Int32.ofNat z := by
  unfold own_mn; simp only [own_ltn (i := w) (n := z) hw (by omega)]; rw [if_neg (by omega)]
theorem own_subn {a b : Nat} (ha : a < 16) (hb : b < 16) : Int32.ofNat (a + b) - Int32.ofNat a = Int32.ofNat b := by
  have q := c_isub (Int32.ofNat (a + b)) (Int32.ofNat a); have r := rng32 (Int32.ofNat (a + b) - Int32.ofNat a)
  rw [own_small (by omega), own_small (by omega)] at q
  rw [← Int32.toInt_inj, own_small (by omega)]
  omega
theorem own_sub0 (a : Int32) : a - 0 = a := by
  have q := c_isub a 0; have r := rng32 (a - 0); have r2 := rng32 a
  rw [← Int32.toInt_inj]; have : (0 : Int32).toInt = 0 := rfl
  omega
def own_cpl (vs : List Value) (d : Value) (z w : Nat) : List Value := (List.replicate w d).take (0 : Int32).toNatClampNeg ++ (List.range (Int32.ofNat z).toNatClampNeg).map (fun i => vs.getD ((0 : Int32).toNatClampNeg + i) d) ++ (List.replicate w d).drop ((0 : Int32).toNatClampNeg + (Int32.ofNat z).toNatClampNeg)
theorem own_cpl_eq (vs : List Value) (d : Value) {z w : Nat} (hz : z < 64) : own_cpl vs d z w = (List.range z).map (fun i => vs.getD i d) ++ (List.replicate w d).drop z := by
  unfold own_cpl; rw [own_cl hz]
  have e : (0 : Int32).toNatClampNeg = 0 := rfl
  rw [e]; simp
theorem own_cpl_len (vs : List Value) (d : Value) {z w : Nat} (hz : z < 64) (h : z ≤ w) : (own_cpl vs d z w).length = w := by
  rw [own_cpl_eq vs d hz]; simp; omega
theorem own_cpl_get (vs : List Value) (d : Value) {z w i : Nat} (hz : z < 64) (hi : i < z) : (own_cpl vs d z w).getD i d = vs.getD i d := by
  rw [own_cpl_eq vs d hz, List.getD_eq_getElem?_getD, List.getElem?_append_left (by simpa using hi)]
  simp [List.getElem?_map, List.getElem?_range hi]
theorem own_setget {vs : List Value} {j i : Nat} {v d : Value} (hj : j < vs.length) : (vs.set j v).getD i d = if i = j then v else vs.getD i d := by
  by_cases q : i = j
  · subst q; simp [List.getD_eq_getElem?_getD, hj]
  · rw [if_neg q, List.getD_eq_getElem?_getD, List.getElem?_set_ne (fun e => q e.symm), ← List.getD_eq_getElem?_getD]

theorem own_d_jdk_29_method_65_code_0 : decode jdk_29_method_65_code 0 = .ok (.iload_n 0, 1) := by decide +kernel
theorem own_d_jdk_29_method_65_code_1 : decode jdk_29_method_65_code 1 = .ok (.iload_n 1, 1) := by decide +kernel
theorem own_d_jdk_29_method_65_code_2 : decode jdk_29_method_65_code 2 = .ok (.if_icmp .lt 7, 3) := by decide +kernel
theorem own_d_jdk_29_method_65_code_5 : decode jdk_29_method_65_code 5 = .ok (.iload_n 0, 1) := by decide +kernel
theorem own_d_jdk_29_method_65_code_6 : decode jdk_29_method_65_code 6 = .ok (.goto 4, 3) := by decide +kernel
theorem own_d_jdk_29_method_65_code_9 : decode jdk_29_method_65_code 9 = .ok (.iload_n 1, 1) := by decide +kernel
theorem own_d_jdk_29_method_65_code_10 : decode jdk_29_method_65_code 10 = .ok (.ireturn, 1) := by decide +kernel
def Q_own_rmx (p0 p1 : Int32) (h0 : Heap) (n0 : Nat) (v : Option Value) (h : Heap) (L : List Loc) : Prop := v = some (.int (own_mx p0 p1)) ∧ L = [] ∧ h = h0
set_option maxRecDepth 65536 in
set_option maxHeartbeats 40000000 in
theorem own_rmx (l : Launch) (Z : State) (a0 : Array Value) (hw : ∀ d ∈ tables_1, d.before a0 Z = true) (ws : List Jvm.Cond) (p0 p1 : Int32) (h0 : Heap) (n0 : Nat) (Z0 : n0 ≤ h0.size)  :
    MetFree l (⟨"java/lang/Math", "max", "(II)I"⟩ : MethodName) (head1 (Jvm.Cond.code (⟨"java/lang/Math", "max", "(II)I"⟩ : MethodName) jdk_29_method_65_code 2 (some .int) :: ws) ({ frames := 0, cells := 0, slots := 0, locals := 0 } : Room)) (fun au Uu => au = #[(.int p0), (.int p1)] ∧ Z.Warmed39 Uu.vm ∧ Uu.heap = h0) (fun _ _ _ _ _ => True) (fun _ Uu ou Uw => ∃ vu Lu, ou = .returned vu ∧ Q_own_rmx p0 p1 h0 n0 vu Uw.heap Lu ∧ FrameEnd Uu ou Uw Lu ({ frames := 0, cells := 0, slots := 0, locals := 0 } : Room).cells ({ frames := 0, cells := 0, slots := 0, locals := 0 } : Room).slots) := by
  refine MetFree.of_bodySF (Jvm.Free.JP.mathPlain rfl (by decide +kernel)) hisR ?_
  intro p e s m args below meth c s₁ Bd hml0 hP hK
  obtain ⟨rfl, hZ, hh⟩ := hP
  have hx := Bd.exec
  have hby := Bd.bytes
  have hlk := Bd.notSynchronized
  have hml : c.maxLocals = 2 := hml0
  have hown : s.vm.findClass "java/lang/Math" = some m.cls := findClass_of_methodNamed Bd.named
  have hnm := (name_of_methodNamed Bd.named Bd.method).1
  have X0 : Stand p l e ({ frames := 0, cells := 0, slots := 0, locals := 0 } : Room) s m #[(.int p0), (.int p1)] below meth c s₁ [] 0 0 := Stand.of_body Bd
  have e0 : s₁.heap = h0 := by rw [← hh, Bd.state]; rfl
  have N0 := Fr.nil n0
  show own_Ends p e below s₁ (entryFrame m #[(.int p0), (.int p1)] 2) (fun ou Uw => ∃ vu Lu, ou = .returned vu ∧ Q_own_rmx p0 p1 h0 n0 vu Uw.heap Lu ∧ FrameEnd s ou Uw Lu ({ frames := 0, cells := 0, slots := 0, locals := 0 } : Room).cells ({ frames := 0, cells := 0, slots := 0, locals := 0 } : Room).slots)
  refine own_start (g' := (mkF m 0 #[iv p0, iv p1] [])) (by first | (simp [entryFrame, mkF, argsToLocals, Value.category, iv, rv]; done) | rfl) ?_
  refine own_go (T' := s₁) (g' := (mkF m 1 #[iv p0, iv p1] [(.int p0)])) (fun t k => XS.iloadN X0.here hx rfl (hb hby own_d_jdk_29_method_65_code_0) rfl k) ?_
  refine own_go (T' := s₁) (g' := (mkF m 2 #[iv p0, iv p1] [(.int p1), (.int p0)])) (fun t k => XS.iloadN X0.here hx rfl (hb hby own_d_jdk_29_method_65_code_1) rfl k) ?_
  by_cases hc1 : p0 < p1
  · refine own_go (T' := s₁) (g' := (mkF m 9 #[iv p0, iv p1] [])) (fun t k => XS.icmpYes X0.here hx rfl (pc0 := 2) (pc' := 9) rfl (hb hby own_d_jdk_29_method_65_code_2) rfl (tlt hc1).1 (by decide) (by decide) k) ?_
    refine own_go (T' := s₁) (g' := (mkF m 10 #[iv p0, iv p1] [(.int p1)])) (fun t k => XS.iloadN X0.here hx rfl (hb hby own_d_jdk_29_method_65_code_9) rfl k) ?_
    exact own_ret X0 hlk hx Bd.returns rfl (Or.inl ⟨rfl, Or.inl rfl, _, rfl⟩) (hb hby own_d_jdk_29_method_65_code_10) ⟨by simp [own_mx, hc1], rfl, e0⟩ (by decide) (by decide)
  · refine own_go (T' := s₁) (g' := (mkF m 5 #[iv p0, iv p1] [])) (fun t k => XS.icmpNo X0.here hx rfl (hb hby own_d_jdk_29_method_65_code_2) rfl (flt hc1).1 k) ?_
    refine own_go (T' := s₁) (g' := (mkF m 6 #[iv p0, iv p1] [(.int p0)])) (fun t k => XS.iloadN X0.here hx rfl (hb hby own_d_jdk_29_method_65_code_5) rfl k) ?_
    refine own_go (T' := s₁) (g' := (mkF m 10 #[iv p0, iv p1] [(.int p0)])) (fun t k => XS.goto X0.here hx rfl (pc0 := 6) (pc' := 10) rfl (hb hby own_d_jdk_29_method_65_code_6) (by decide) (by decide) k) ?_
    exact own_ret X0 hlk hx Bd.returns rfl (Or.inl ⟨rfl, Or.inl rfl, _, rfl⟩) (hb hby own_d_jdk_29_method_65_code_10) ⟨by simp [own_mx, hc1], rfl, e0⟩ (by decide) (by decide)

theorem own_d_jdk_29_method_69_code_0 : decode jdk_29_method_69_code 0 = .ok (.iload_n 0, 1) := by decide +kernel
theorem own_d_jdk_29_method_69_code_1 : decode jdk_29_method_69_code 1 = .ok (.iload_n 1, 1) := by decide +kernel
theorem own_d_jdk_29_method_69_code_2 : decode jdk_29_method_69_code 2 = .ok (.if_icmp .gt 7, 3) := by decide +kernel
theorem own_d_jdk_29_method_69_code_5 : decode jdk_29_method_69_code 5 = .ok (.iload_n 0, 1) := by decide +kernel
theorem own_d_jdk_29_method_69_code_6 : decode jdk_29_method_69_code 6 = .ok (.goto 4, 3) := by decide +kernel
theorem own_d_jdk_29_method_69_code_9 : decode jdk_29_method_69_code 9 = .ok (.iload_n 1, 1) := by decide +kernel
theorem own_d_jdk_29_method_69_code_10 : decode jdk_29_method_69_code 10 = .ok (.ireturn, 1) := by decide +kernel
def Q_own_rmn (p0 p1 : Int32) (h0 : Heap) (n0 : Nat) (v : Option Value) (h : Heap) (L : List Loc) : Prop := v = some (.int (own_mn p0 p1)) ∧ L = [] ∧ h = h0
set_option maxRecDepth 65536 in
set_option maxHeartbeats 40000000 in
theorem own_rmn (l : Launch) (Z : State) (a0 : Array Value) (hw : ∀ d ∈ tables_1, d.before a0 Z = true) (ws : List Jvm.Cond) (p0 p1 : Int32) (h0 : Heap) (n0 : Nat) (Z0 : n0 ≤ h0.size)  :
    MetFree l (⟨"java/lang/Math", "min", "(II)I"⟩ : MethodName) (head1 (Jvm.Cond.code (⟨"java/lang/Math", "min", "(II)I"⟩ : MethodName) jdk_29_method_69_code 2 (some .int) :: ws) ({ frames := 0, cells := 0, slots := 0, locals := 0 } : Room)) (fun au Uu => au = #[(.int p0), (.int p1)] ∧ Z.Warmed39 Uu.vm ∧ Uu.heap = h0) (fun _ _ _ _ _ => True) (fun _ Uu ou Uw => ∃ vu Lu, ou = .returned vu ∧ Q_own_rmn p0 p1 h0 n0 vu Uw.heap Lu ∧ FrameEnd Uu ou Uw Lu ({ frames := 0, cells := 0, slots := 0, locals := 0 } : Room).cells ({ frames := 0, cells := 0, slots := 0, locals := 0 } : Room).slots) := by
  refine MetFree.of_bodySF (Jvm.Free.JP.mathPlain rfl (by decide +kernel)) hisR ?_
  intro p e s m args below meth c s₁ Bd hml0 hP hK
  obtain ⟨rfl, hZ, hh⟩ := hP
  have hx := Bd.exec
  have hby := Bd.bytes
  have hlk := Bd.notSynchronized
  have hml : c.maxLocals = 2 := hml0
  have hown : s.vm.findClass "java/lang/Math" = some m.cls := findClass_of_methodNamed Bd.named
  have hnm := (name_of_methodNamed Bd.named Bd.method).1
  have X0 : Stand p l e ({ frames := 0, cells := 0, slots := 0, locals := 0 } : Room) s m #[(.int p0), (.int p1)] below meth c s₁ [] 0 0 := Stand.of_body Bd
  have e0 : s₁.heap = h0 := by rw [← hh, Bd.state]; rfl
  have N0 := Fr.nil n0
  show own_Ends p e below s₁ (entryFrame m #[(.int p0), (.int p1)] 2) (fun ou Uw => ∃ vu Lu, ou = .returned vu ∧ Q_own_rmn p0 p1 h0 n0 vu Uw.heap Lu ∧ FrameEnd s ou Uw Lu ({ frames := 0, cells := 0, slots := 0, locals := 0 } : Room).cells ({ frames := 0, cells := 0, slots := 0, locals := 0 } : Room).slots)
  refine own_start (g' := (mkF m 0 #[iv p0, iv p1] [])) (by first | (simp [entryFrame, mkF, argsToLocals, Value.category, iv, rv]; done) | rfl) ?_
  refine own_go (T' := s₁) (g' := (mkF m 1 #[iv p0, iv p1] [(.int p0)])) (fun t k => XS.iloadN X0.here hx rfl (hb hby own_d_jdk_29_method_69_code_0) rfl k) ?_
  refine own_go (T' := s₁) (g' := (mkF m 2 #[iv p0, iv p1] [(.int p1), (.int p0)])) (fun t k => XS.iloadN X0.here hx rfl (hb hby own_d_jdk_29_method_69_code_1) rfl k) ?_
  by_cases hc2 : p1 < p0
  · refine own_go (T' := s₁) (g' := (mkF m 9 #[iv p0, iv p1] [])) (fun t k => XS.icmpYes X0.here hx rfl (pc0 := 2) (pc' := 9) rfl (hb hby own_d_jdk_29_method_69_code_2) rfl (tlt hc2).2.2.1 (by decide) (by decide) k) ?_
    refine own_go (T' := s₁) (g' := (mkF m 10 #[iv p0, iv p1] [(.int p1)])) (fun t k => XS.iloadN X0.here hx rfl (hb hby own_d_jdk_29_method_69_code_9) rfl k) ?_
    exact own_ret X0 hlk hx Bd.returns rfl (Or.inl ⟨rfl, Or.inl rfl, _, rfl⟩) (hb hby own_d_jdk_29_method_69_code_10) ⟨by simp [own_mn, hc2], rfl, e0⟩ (by decide) (by decide)
  · refine own_go (T' := s₁) (g' := (mkF m 5 #[iv p0, iv p1] [])) (fun t k => XS.icmpNo X0.here hx rfl (hb hby own_d_jdk_29_method_69_code_2) rfl (flt hc2).2.2.1 k) ?_
    refine own_go (T' := s₁) (g' := (mkF m 6 #[iv p0, iv p1] [(.int p0)])) (fun t k => XS.iloadN X0.here hx rfl (hb hby own_d_jdk_29_method_69_code_5) rfl k) ?_
    refine own_go (T' := s₁) (g' := (mkF m 10 #[iv p0, iv p1] [(.int p0)])) (fun t k => XS.goto X0.here hx rfl (pc0 := 6) (pc' := 10) rfl (hb hby own_d_jdk_29_method_69_code_6) (by decide) (by decide) k) ?_
    exact own_ret X0 hlk hx Bd.returns rfl (Or.inl ⟨rfl, Or.inl rfl, _, rfl⟩) (hb hby own_d_jdk_29_method_69_code_10) ⟨by simp [own_mn, hc2], rfl, e0⟩ (by decide) (by decide)

theorem own_pd0 : parseMethodDescriptor "(II)I" = some ⟨[.int, .int], some .int⟩ := by decide +kernel
theorem own_d_jdk_65_method_123_code_0 : decode jdk_65_method_123_code 0 = .ok (.iload_n 1, 1) := by decide +kernel
theorem own_d_jdk_65_method_123_code_1 : decode jdk_65_method_123_code 1 = .ok (.aload_n 0, 1) := by decide +kernel
theorem own_d_jdk_65_method_123_code_2 : decode jdk_65_method_123_code 2 = .ok (.arraylength, 1) := by decide +kernel
theorem own_d_jdk_65_method_123_code_3 : decode jdk_65_method_123_code 3 = .ok (.if_icmp .ne 11, 3) := by decide +kernel
theorem own_d_jdk_65_method_123_code_14 : decode jdk_65_method_123_code 14 = .ok (.iload_n 1, 1) := by decide +kernel
theorem own_d_jdk_65_method_123_code_15 : decode jdk_65_method_123_code 15 = .ok (.newarray .int, 2) := by decide +kernel
theorem own_d_jdk_65_method_123_code_17 : decode jdk_65_method_123_code 17 = .ok (.astore_n 2, 1) := by decide +kernel
theorem own_d_jdk_65_method_123_code_18 : decode jdk_65_method_123_code 18 = .ok (.aload_n 0, 1) := by decide +kernel
theorem own_d_jdk_65_method_123_code_19 : decode jdk_65_method_123_code 19 = .ok (.iconst 0, 1) := by decide +kernel
theorem own_d_jdk_65_method_123_code_20 : decode jdk_65_method_123_code 20 = .ok (.aload_n 2, 1) := by decide +kernel
theorem own_d_jdk_65_method_123_code_21 : decode jdk_65_method_123_code 21 = .ok (.iconst 0, 1) := by decide +kernel
theorem own_d_jdk_65_method_123_code_22 : decode jdk_65_method_123_code 22 = .ok (.aload_n 0, 1) := by decide +kernel
theorem own_d_jdk_65_method_123_code_23 : decode jdk_65_method_123_code 23 = .ok (.arraylength, 1) := by decide +kernel
theorem own_d_jdk_65_method_123_code_24 : decode jdk_65_method_123_code 24 = .ok (.iload_n 1, 1) := by decide +kernel
theorem own_d_jdk_65_method_123_code_25 : decode jdk_65_method_123_code 25 = .ok (.invokestatic 304, 3) := by decide +kernel
theorem own_d_jdk_65_method_123_code_28 : decode jdk_65_method_123_code 28 = .ok (.invokestatic 150, 3) := by decide +kernel
theorem own_d_jdk_65_method_123_code_31 : decode jdk_65_method_123_code 31 = .ok (.aload_n 2, 1) := by decide +kernel
theorem own_d_jdk_65_method_123_code_32 : decode jdk_65_method_123_code 32 = .ok (.areturn, 1) := by decide +kernel
def Q_own_cpI10 (Z : State) (z w : Nat) (vs : List Value) (h0 : Heap) (n0 : Nat) (v : Option Value) (h : Heap) (L : List Loc) : Prop := ∃ (b : Addr) (k : ClassId), v = some (.ref b) ∧ Fr n0 L ∧ h0.size ≤ b ∧ Keep h0 h [] ∧ ∃ vs', Arv Z h b k .int (Int32.ofNat w) vs' (.int (0 : Int32)) ∧ vs'.length = w ∧ ∀ i, i < z → vs'.getD i (.int (0 : Int32)) = vs.getD i (.int (0 : Int32))
set_option maxRecDepth 65536 in
set_option maxHeartbeats 40000000 in
theorem own_cpI10 (l : Launch) (Z : State) (a0 : Array Value) (hw : ∀ d ∈ tables_1, d.before a0 Z = true) (ws : List Jvm.Cond) (a : Addr) (ka : ClassId) (z w : Nat) (vs : List Value) (h0 : Heap) (n0 : Nat) (Z0 : n0 ≤ h0.size) (hzw : z < w) (hwc : w ≤ 10) (V_a : Arv Z h0 a ka .int (Int32.ofNat z) vs (.int (0 : Int32))) :
    MetFree l (⟨"java/util/Arrays", "copyOf", "([II)[I"⟩ : MethodName) (head1 (Jvm.Cond.code (⟨"java/util/Arrays", "copyOf", "([II)[I"⟩ : MethodName) jdk_65_method_123_code 3 (some (.array .int)) :: ws) ({ frames := 1, cells := 1, slots := 10, locals := 30 } : Room)) (fun au Uu => au = #[(.ref a), (.int (Int32.ofNat w))] ∧ Z.Warmed39 Uu.vm ∧ Uu.heap = h0) (fun _ _ _ _ _ => True) (fun _ Uu ou Uw => ∃ vu Lu, ou = .returned vu ∧ Q_own_cpI10 Z z w vs h0 n0 vu Uw.heap Lu ∧ FrameEnd Uu ou Uw Lu ({ frames := 1, cells := 1, slots := 10, locals := 30 } : Room).cells ({ frames := 1, cells := 1, slots := 10, locals := 30 } : Room).slots) := by
  refine MetFree.of_bodySF (plainFor_of_name (by first | (simp [plainName, overriddenIn]; done) | decide +kernel)) hisR ?_
  intro p e s m args below meth c s₁ Bd hml0 hP hK
  obtain ⟨rfl, hZ, hh⟩ := hP
  have hx := Bd.exec
  have hby := Bd.bytes
  have hlk := Bd.notSynchronized
  have hml : c.maxLocals = 3 := hml0
  have hown : s.vm.findClass "java/util/Arrays" = some m.cls := findClass_of_methodNamed Bd.named
  have hnm := (name_of_methodNamed Bd.named Bd.method).1
  have X0 : Stand p l e ({ frames := 1, cells := 1, slots := 10, locals := 30 } : Room) s m #[(.ref a), (.int (Int32.ofNat w))] below meth c s₁ [] 0 0 := Stand.of_body Bd
  have e0 : s₁.heap = h0 := by rw [← hh, Bd.state]; rfl
  have N0 := Fr.nil n0
  show own_Ends p e below s₁ (entryFrame m #[(.ref a), (.int (Int32.ofNat w))] 3) (fun ou Uw => ∃ vu Lu, ou = .returned vu ∧ Q_own_cpI10 Z z w vs h0 n0 vu Uw.heap Lu ∧ FrameEnd s ou Uw Lu ({ frames := 1, cells := 1, slots := 10, locals := 30 } : Room).cells ({ frames := 1, cells := 1, slots := 10, locals := 30 } : Room).slots)
  refine own_start (g' := (mkF m 0 #[rv a, iv (Int32.ofNat w), .unset] [])) (by first | (simp [entryFrame, mkF, argsToLocals, Value.category, iv, rv]; done) | rfl) ?_
  refine own_go (T' := s₁) (g' := (mkF m 1 #[rv a, iv (Int32.ofNat w), .unset] [(.int (Int32.ofNat w))])) (fun t k => XS.iloadN X0.here hx rfl (hb hby own_d_jdk_65_method_123_code_0) rfl k) ?_
  refine own_go (T' := s₁) (g' := (mkF m 2 #[rv a, iv (Int32.ofNat w), .unset] [(.ref a), (.int (Int32.ofNat w))])) (fun t k => XS.aloadN X0.here hx rfl (hb hby own_d_jdk_65_method_123_code_1) rfl rfl k) ?_
  obtain ⟨cl3, Ar3, -, Sz3, Nn3, -, -⟩ := id V_a
  refine own_go (T' := s₁) (g' := (mkF m 3 #[rv a, iv (Int32.ofNat w), .unset] [(.int (Int32.ofNat z)), (.int (Int32.ofNat w))])) (fun t k => X0.arraylength hx (by rw [e0]; exact Ar3.1) (State.isArrayOf_alike hZ.alike Ar3.2.1) (g := (mkF m 2 #[rv a, iv (Int32.ofNat w), .unset] [(.ref a), (.int (Int32.ofNat w))])) rfl rfl (hb hby own_d_jdk_65_method_123_code_2) _ (by rw [len_of Sz3 Nn3]; exact k)) ?_
  refine own_go (T' := s₁) (g' := (mkF m 14 #[rv a, iv (Int32.ofNat w), .unset] [])) (fun t k => XS.icmpYes X0.here hx rfl (pc0 := 3) (pc' := 14) rfl (hb hby own_d_jdk_65_method_123_code_3) rfl (feq (by rw [own_eqn (by omega) (by omega)]; omega : ¬ ((Int32.ofNat w) = (Int32.ofNat z)))).2 (by decide) (by decide) k) ?_
  refine own_go (T' := s₁) (g' := (mkF m 15 #[rv a, iv (Int32.ofNat w), .unset] [(.int (Int32.ofNat w))])) (fun t k => XS.iloadN X0.here hx rfl (hb hby own_d_jdk_65_method_123_code_14) rfl k) ?_
  obtain ⟨T4, h4, k4, X4, e4, E4, A4, st4⟩ := newP X0 hx hZ (hw _ (List.mem_of_getElem? (i := 13) rfl)) e0 (g := (mkF m 15 #[rv a, iv (Int32.ofNat w), .unset] [(.int (Int32.ofNat w))])) rfl (hb hby own_d_jdk_65_method_123_code_15) rfl (own_nn (by omega)) (cap := 10) (by rw [own_cl (by omega)]; omega) (by decide) (by decide) (by decide)
  obtain ⟨b4, g4⟩ : ∃ z, z = h0.size := ⟨_, rfl⟩
  rw [← g4] at A4 st4
  have gn4 : n0 ≤ b4 := Nat.le_trans Z0 (Nat.le_of_eq g4.symm)
  have hz4 : n0 ≤ h4.size := Nat.le_trans Z0 E4.1
  have o4 : h0.size ≤ b4 := Nat.le_trans (Keep.refl h0 []).1 (Nat.le_of_eq g4.symm)
  have K4 := (Keep.refl h0 []).ext E4
  have c5 := V_a.ext E4
  have ne6 : a ≠ b4 := Nat.ne_of_lt (Nat.lt_of_lt_of_le V_a.lt (Nat.le_of_eq g4.symm))
  have V4 : Arv Z h4 b4 k4 .int (Int32.ofNat w) (List.replicate w (.int (0 : Int32))) (.int (0 : Int32)) := (Arv.new A4 (own_nn (by omega))).pad (pad_rep [] (.int (0 : Int32)) w)
  refine own_go (T' := T4) (g' := (mkF m 17 #[rv a, iv (Int32.ofNat w), .unset] [(.ref b4)])) (st4) ?_
  refine own_go (T' := T4) (g' := (mkF m 18 #[rv a, iv (Int32.ofNat w), rv b4] [])) (fun t k => XS.astoreN X4.here hx rfl (hb hby own_d_jdk_65_method_123_code_17) rfl rfl (l' := #[rv a, iv (Int32.ofNat w), rv b4]) rfl k) ?_
  refine own_go (T' := T4) (g' := (mkF m 19 #[rv a, iv (Int32.ofNat w), rv b4] [(.ref a)])) (fun t k => XS.aloadN X4.here hx rfl (hb hby own_d_jdk_65_method_123_code_18) rfl rfl k) ?_
  refine own_go (T' := T4) (g' := (mkF m 20 #[rv a, iv (Int32.ofNat w), rv b4] [(.int (0 : Int32)), (.ref a)])) (fun t k => XS.iconst X4.here hx rfl (hb hby own_d_jdk_65_method_123_code_19) k) ?_
  refine own_go (T' := T4) (g' := (mkF m 21 #[rv a, iv (Int32.ofNat w), rv b4] [(.ref b4), (.int (0 : Int32)), (.ref a)])) (fun t k => XS.aloadN X4.here hx rfl (hb hby own_d_jdk_65_method_123_code_20) rfl rfl k) ?_
  refine own_go (T' := T4) (g' := (mkF m 22 #[rv a, iv (Int32.ofNat w), rv b4] [(.int (0 : Int32)), (.ref b4), (.int (0 : Int32)), (.ref a)])) (fun t k => XS.iconst X4.here hx rfl (hb hby own_d_jdk_65_method_123_code_21) k) ?_
  refine own_go (T' := T4) (g' := (mkF m 23 #[rv a, iv (Int32.ofNat w), rv b4] [(.ref a), (.int (0 : Int32)), (.ref b4), (.int (0 : Int32)), (.ref a)])) (fun t k => XS.aloadN X4.here hx rfl (hb hby own_d_jdk_65_method_123_code_22) rfl rfl k) ?_
  obtain ⟨cl7, Ar7, -, Sz7, Nn7, -, -⟩ := id c5
  refine own_go (T' := T4) (g' := (mkF m 24 #[rv a, iv (Int32.ofNat w), rv b4] [(.int (Int32.ofNat z)), (.int (0 : Int32)), (.ref b4), (.int (0 : Int32)), (.ref a)])) (fun t k => X4.arraylength hx (by rw [e4]; exact Ar7.1) (State.isArrayOf_alike hZ.alike Ar7.2.1) (g := (mkF m 23 #[rv a, iv (Int32.ofNat w), rv b4] [(.ref a), (.int (0 : Int32)), (.ref b4), (.int (0 : Int32)), (.ref a)])) rfl rfl (hb hby own_d_jdk_65_method_123_code_23) _ (by rw [len_of Sz7 Nn7]; exact k)) ?_
  refine own_go (T' := T4) (g' := (mkF m 25 #[rv a, iv (Int32.ofNat w), rv b4] [(.int (Int32.ofNat w)), (.int (Int32.ofNat z)), (.int (0 : Int32)), (.ref b4), (.int (0 : Int32)), (.ref a)])) (fun t k => XS.iloadN X4.here hx rfl (hb hby own_d_jdk_65_method_123_code_24) rfl k) ?_
  obtain ⟨_, _, ⟨T8, L8, k8, n8⟩, -, X8, ⟨Lc8, hQ8, l8, y8, z8⟩, st8⟩ := Jvm.LawKit.callS X4 hx (y := (⟨"java/lang/Math", "min", "(II)I"⟩ : MethodName)) hown (mvT hZ (hw _ (List.mem_of_getElem? (i := 38) rfl))) (mvT hZ (hw _ (List.mem_of_getElem? (i := 39) rfl))) (mvT hZ (hw _ (List.mem_of_getElem? (i := 11) rfl))) (mvT hZ (hw _ (List.mem_of_getElem? (i := 40) rfl))) (by decide) (backOf (W := 4) (own_rmn l Z a0 hw [] (Int32.ofNat z) (Int32.ofNat w) h4 n0 hz4) hZ (hw _ (List.mem_of_getElem? (i := 40) rfl)) (hw _ (List.mem_of_getElem? (i := 11) rfl)) (by decide) (by decide)) (g := (mkF m 25 #[rv a, iv (Int32.ofNat w), rv b4] [(.int (Int32.ofNat w)), (.int (Int32.ofNat z)), (.int (0 : Int32)), (.ref b4), (.int (0 : Int32)), (.ref a)])) rfl (by rw [hml]; rfl) (argsL := [(.int (Int32.ofNat z)), (.int (Int32.ofNat w))]) (rest := [(.int (0 : Int32)), (.ref b4), (.int (0 : Int32)), (.ref a)]) (lenOf own_pd0 rfl) rfl (by show 2 * 0 + _ ≤ _; exact Nat.le_of_eq rfl) (hb hby own_d_jdk_65_method_123_code_25) (fun _ _ => ⟨rfl, e4, (by decide : 1 + 0 ≤ _), (by decide : 10 + 0 ≤ _)⟩)
  dsimp only [Pt.U, Pt.locs, Pt.cells, Pt.slots] at X8 l8 y8 z8 st8 hQ8
  subst l8 y8 z8
  obtain ⟨rfl, rfl, e8⟩ := hQ8
  have E8q : T8.heap = h4 := e8
  have N8 := Fr.app N0 (Fr.nil n0)
  refine own_go (T' := T8) (g' := (mkF m 28 #[rv a, iv (Int32.ofNat w), rv b4] [(.int (own_mn (Int32.ofNat z) (Int32.ofNat w))), (.int (0 : Int32)), (.ref b4), (.int (0 : Int32)), (.ref a)])) (st8) ?_
  rw [own_mnz hzw (by omega)]
  obtain ⟨T9, h9, L9, X9, e9, N9, K_9, V9q, st9⟩ := cpA X8 hx hZ hown (hw _ (List.mem_of_getElem? (i := 41) rfl)) (hw _ (List.mem_of_getElem? (i := 44) rfl)) (hw _ (List.mem_of_getElem? (i := 42) rfl)) (hw _ (List.mem_of_getElem? (i := 43) rfl)) E8q (sp := (0 : Int32)) (dp := (0 : Int32)) (nn := (Int32.ofNat z)) (us := (List.range (Int32.ofNat z).toNatClampNeg).map (fun i => vs.getD ((0 : Int32).toNatClampNeg + i) (.int (0 : Int32)))) c5 V4 (Or.inl ⟨rfl, rfl⟩) (by decide) (by decide) (own_nn (by omega)) (by rw [own_cl (by omega)]; exact Nat.le_of_eq (Nat.zero_add _)) (by rw [own_cl (by omega), own_cl (by omega)]; show 0 + z ≤ w; omega) rfl (by rw [own_cl (by omega), List.length_replicate]; show 0 + z ≤ w; omega) N8 gn4 (g := (mkF m 28 #[rv a, iv (Int32.ofNat w), rv b4] [(.int (Int32.ofNat z)), (.int (0 : Int32)), (.ref b4), (.int (0 : Int32)), (.ref a)])) rfl (by rw [hml]; rfl) rfl (hb hby own_d_jdk_65_method_123_code_28) (by decide) (W := 0) (by show 2 * 0 + _ ≤ _; exact Nat.le_of_eq rfl) (by decide)
  have V9 : Arv Z h9 b4 k4 .int (Int32.ofNat w) (own_cpl vs (.int (0 : Int32)) z w) (.int (0 : Int32)) := V9q
  have c10 := c5.keep K_9 (ninS ne6 nin0)
  have hz9 : n0 ≤ h9.size := Nat.le_trans hz4 K_9.1
  have K9 := Keep.trans K4 K_9 (allS (P := fun x => x ∈ _ ∨ h0.size ≤ x) (Or.inr o4) all0)
  refine own_go (T' := T9) (g' := (mkF m 31 #[rv a, iv (Int32.ofNat w), rv b4] [])) (st9) ?_
  refine own_go (T' := T9) (g' := (mkF m 32 #[rv a, iv (Int32.ofNat w), rv b4] [(.ref b4)])) (fun t k => XS.aloadN X9.here hx rfl (hb hby own_d_jdk_65_method_123_code_31) rfl rfl k) ?_
  exact own_ret X9 hlk hx Bd.returns rfl (Or.inr (Or.inr (Or.inr (Or.inr ⟨rfl, rfl, rfl⟩)))) (hb hby own_d_jdk_65_method_123_code_32) (by rw [e9]; exact ⟨b4, _, rfl, N9, o4, K9, _, V9, own_cpl_len vs (.int (0 : Int32)) (by omega) (by omega), fun i hi => own_cpl_get vs (.int (0 : Int32)) (by omega) hi⟩) (by decide) (by decide)

def Q_own_cpI2 (Z : State) (z w : Nat) (vs : List Value) (h0 : Heap) (n0 : Nat) (v : Option Value) (h : Heap) (L : List Loc) : Prop := ∃ (b : Addr) (k : ClassId), v = some (.ref b) ∧ Fr n0 L ∧ h0.size ≤ b ∧ Keep h0 h [] ∧ ∃ vs', Arv Z h b k .int (Int32.ofNat w) vs' (.int (0 : Int32)) ∧ vs'.length = w ∧ ∀ i, i < z → vs'.getD i (.int (0 : Int32)) = vs.getD i (.int (0 : Int32))
set_option maxRecDepth 65536 in
set_option maxHeartbeats 40000000 in
theorem own_cpI2 (l : Launch) (Z : State) (a0 : Array Value) (hw : ∀ d ∈ tables_1, d.before a0 Z = true) (ws : List Jvm.Cond) (a : Addr) (ka : ClassId) (z w : Nat) (vs : List Value) (h0 : Heap) (n0 : Nat) (Z0 : n0 ≤ h0.size) (hzw : z < w) (hwc : w ≤ 2) (V_a : Arv Z h0 a ka .int (Int32.ofNat z) vs (.int (0 : Int32))) :
    MetFree l (⟨"java/util/Arrays", "copyOf", "([II)[I"⟩ : MethodName) (head1 (Jvm.Cond.code (⟨"java/util/Arrays", "copyOf", "([II)[I"⟩ : MethodName) jdk_65_method_123_code 3 (some (.array .int)) :: ws) ({ frames := 1, cells := 1, slots := 2, locals := 30 } : Room)) (fun au Uu => au = #[(.ref a), (.int (Int32.ofNat w))] ∧ Z.Warmed39 Uu.vm ∧ Uu.heap = h0) (fun _ _ _ _ _ => True) (fun _ Uu ou Uw => ∃ vu Lu, ou = .returned vu ∧ Q_own_cpI2 Z z w vs h0 n0 vu Uw.heap Lu ∧ FrameEnd Uu ou Uw Lu ({ frames := 1, cells := 1, slots := 2, locals := 30 } : Room).cells ({ frames := 1, cells := 1, slots := 2, locals := 30 } : Room).slots) := by
  refine MetFree.of_bodySF (plainFor_of_name (by first | (simp [plainName, overriddenIn]; done) | decide +kernel)) hisR ?_
  intro p e s m args below meth c s₁ Bd hml0 hP hK
  obtain ⟨rfl, hZ, hh⟩ := hP
  have hx := Bd.exec
  have hby := Bd.bytes
  have hlk := Bd.notSynchronized
  have hml : c.maxLocals = 3 := hml0
  have hown : s.vm.findClass "java/util/Arrays" = some m.cls := findClass_of_methodNamed Bd.named
  have hnm := (name_of_methodNamed Bd.named Bd.method).1
  have X0 : Stand p l e ({ frames := 1, cells := 1, slots := 2, locals := 30 } : Room) s m #[(.ref a), (.int (Int32.ofNat w))] below meth c s₁ [] 0 0 := Stand.of_body Bd
  have e0 : s₁.heap = h0 := by rw [← hh, Bd.state]; rfl
  have N0 := Fr.nil n0
  show own_Ends p e below s₁ (entryFrame m #[(.ref a), (.int (Int32.ofNat w))] 3) (fun ou Uw => ∃ vu Lu, ou = .returned vu ∧ Q_own_cpI2 Z z w vs h0 n0 vu Uw.heap Lu ∧ FrameEnd s ou Uw Lu ({ frames := 1, cells := 1, slots := 2, locals := 30 } : Room).cells ({ frames := 1, cells := 1, slots := 2, locals := 30 } : Room).slots)
  refine own_start (g' := (mkF m 0 #[rv a, iv (Int32.ofNat w), .unset] [])) (by first | (simp [entryFrame, mkF, argsToLocals, Value.category, iv, rv]; done) | rfl) ?_
  refine own_go (T' := s₁) (g' := (mkF m 1 #[rv a, iv (Int32.ofNat w), .unset] [(.int (Int32.ofNat w))])) (fun t k => XS.iloadN X0.here hx rfl (hb hby own_d_jdk_65_method_123_code_0) rfl k) ?_
  refine own_go (T' := s₁) (g' := (mkF m 2 #[rv a, iv (Int32.ofNat w), .unset] [(.ref a), (.int (Int32.ofNat w))])) (fun t k => XS.aloadN X0.here hx rfl (hb hby own_d_jdk_65_method_123_code_1) rfl rfl k) ?_
  obtain ⟨cl15, Ar15, -, Sz15, Nn15, -, -⟩ := id V_a
  refine own_go (T' := s₁) (g' := (mkF m 3 #[rv a, iv (Int32.ofNat w), .unset] [(.int (Int32.ofNat z)), (.int (Int32.ofNat w))])) (fun t k => X0.arraylength hx (by rw [e0]; exact Ar15.1) (State.isArrayOf_alike hZ.alike Ar15.2.1) (g := (mkF m 2 #[rv a, iv (Int32.ofNat w), .unset] [(.ref a), (.int (Int32.ofNat w))])) rfl rfl (hb hby own_d_jdk_65_method_123_code_2) _ (by rw [len_of Sz15 Nn15]; exact k)) ?_
  refine own_go (T' := s₁) (g' := (mkF m 14 #[rv a, iv (Int32.ofNat w), .unset] [])) (fun t k => XS.icmpYes X0.here hx rfl (pc0 := 3) (pc' := 14) rfl (hb hby own_d_jdk_65_method_123_code_3) rfl (feq (by rw [own_eqn (by omega) (by omega)]; omega : ¬ ((Int32.ofNat w) = (Int32.ofNat z)))).2 (by decide) (by decide) k) ?_
  refine own_go (T' := s₁) (g' := (mkF m 15 #[rv a, iv (Int32.ofNat w), .unset] [(.int (Int32.ofNat w))])) (fun t k => XS.iloadN X0.here hx rfl (hb hby own_d_jdk_65_method_123_code_14) rfl k) ?_
  obtain ⟨T16, h16, k16, X16, e16, E16, A16, st16⟩ := newP X0 hx hZ (hw _ (List.mem_of_getElem? (i := 13) rfl)) e0 (g := (mkF m 15 #[rv a, iv (Int32.ofNat w), .unset] [(.int (Int32.ofNat w))])) rfl (hb hby own_d_jdk_65_method_123_code_15) rfl (own_nn (by omega)) (cap := 2) (by rw [own_cl (by omega)]; omega) (by decide) (by decide) (by decide)
  obtain ⟨b16, g16⟩ : ∃ z, z = h0.size := ⟨_, rfl⟩
  rw [← g16] at A16 st16
  have gn16 : n0 ≤ b16 := Nat.le_trans Z0 (Nat.le_of_eq g16.symm)
  have hz16 : n0 ≤ h16.size := Nat.le_trans Z0 E16.1
  have o16 : h0.size ≤ b16 := Nat.le_trans (Keep.refl h0 []).1 (Nat.le_of_eq g16.symm)
  have K16 := (Keep.refl h0 []).ext E16
  have c17 := V_a.ext E16
  have ne18 : a ≠ b16 := Nat.ne_of_lt (Nat.lt_of_lt_of_le V_a.lt (Nat.le_of_eq g16.symm))
  have V16 : Arv Z h16 b16 k16 .int (Int32.ofNat w) (List.replicate w (.int (0 : Int32))) (.int (0 : Int32)) := (Arv.new A16 (own_nn (by omega))).pad (pad_rep [] (.int (0 : Int32)) w)
  refine own_go (T' := T16) (g' := (mkF m 17 #[rv a, iv (Int32.ofNat w), .unset] [(.ref b16)])) (st16) ?_
  refine own_go (T' := T16) (g' := (mkF m 18 #[rv a, iv (Int32.ofNat w), rv b16] [])) (fun t k => XS.astoreN X16.here hx rfl (hb hby own_d_jdk_65_method_123_code_17) rfl rfl (l' := #[rv a, iv (Int32.ofNat w), rv b16]) rfl k) ?_
  refine own_go (T' := T16) (g' := (mkF m 19 #[rv a, iv (Int32.ofNat w), rv b16] [(.ref a)])) (fun t k => XS.aloadN X16.here hx rfl (hb hby own_d_jdk_65_method_123_code_18) rfl rfl k) ?_
  refine own_go (T' := T16) (g' := (mkF m 20 #[rv a, iv (Int32.ofNat w), rv b16] [(.int (0 : Int32)), (.ref a)])) (fun t k => XS.iconst X16.here hx rfl (hb hby own_d_jdk_65_method_123_code_19) k) ?_
  refine own_go (T' := T16) (g' := (mkF m 21 #[rv a, iv (Int32.ofNat w), rv b16] [(.ref b16), (.int (0 : Int32)), (.ref a)])) (fun t k => XS.aloadN X16.here hx rfl (hb hby own_d_jdk_65_method_123_code_20) rfl rfl k) ?_
  refine own_go (T' := T16) (g' := (mkF m 22 #[rv a, iv (Int32.ofNat w), rv b16] [(.int (0 : Int32)), (.ref b16), (.int (0 : Int32)), (.ref a)])) (fun t k => XS.iconst X16.here hx rfl (hb hby own_d_jdk_65_method_123_code_21) k) ?_
  refine own_go (T' := T16) (g' := (mkF m 23 #[rv a, iv (Int32.ofNat w), rv b16] [(.ref a), (.int (0 : Int32)), (.ref b16), (.int (0 : Int32)), (.ref a)])) (fun t k => XS.aloadN X16.here hx rfl (hb hby own_d_jdk_65_method_123_code_22) rfl rfl k) ?_
  obtain ⟨cl19, Ar19, -, Sz19, Nn19, -, -⟩ := id c17
  refine own_go (T' := T16) (g' := (mkF m 24 #[rv a, iv (Int32.ofNat w), rv b16] [(.int (Int32.ofNat z)), (.int (0 : Int32)), (.ref b16), (.int (0 : Int32)), (.ref a)])) (fun t k => X16.arraylength hx (by rw [e16]; exact Ar19.1) (State.isArrayOf_alike hZ.alike Ar19.2.1) (g := (mkF m 23 #[rv a, iv (Int32.ofNat w), rv b16] [(.ref a), (.int (0 : Int32)), (.ref b16), (.int (0 : Int32)), (.ref a)])) rfl rfl (hb hby own_d_jdk_65_method_123_code_23) _ (by rw [len_of Sz19 Nn19]; exact k)) ?_
  refine own_go (T' := T16) (g' := (mkF m 25 #[rv a, iv (Int32.ofNat w), rv b16] [(.int (Int32.ofNat w)), (.int (Int32.ofNat z)), (.int (0 : Int32)), (.ref b16), (.int (0 : Int32)), (.ref a)])) (fun t k => XS.iloadN X16.here hx rfl (hb hby own_d_jdk_65_method_123_code_24) rfl k) ?_
  obtain ⟨_, _, ⟨T20, L20, k20, n20⟩, -, X20, ⟨Lc20, hQ20, l20, y20, z20⟩, st20⟩ := Jvm.LawKit.callS X16 hx (y := (⟨"java/lang/Math", "min", "(II)I"⟩ : MethodName)) hown (mvT hZ (hw _ (List.mem_of_getElem? (i := 38) rfl))) (mvT hZ (hw _ (List.mem_of_getElem? (i := 39) rfl))) (mvT hZ (hw _ (List.mem_of_getElem? (i := 11) rfl))) (mvT hZ (hw _ (List.mem_of_getElem? (i := 40) rfl))) (by decide) (backOf (W := 4) (own_rmn l Z a0 hw [] (Int32.ofNat z) (Int32.ofNat w) h16 n0 hz16) hZ (hw _ (List.mem_of_getElem? (i := 40) rfl)) (hw _ (List.mem_of_getElem? (i := 11) rfl)) (by decide) (by decide)) (g := (mkF m 25 #[rv a, iv (Int32.ofNat w), rv b16] [(.int (Int32.ofNat w)), (.int (Int32.ofNat z)), (.int (0 : Int32)), (.ref b16), (.int (0 : Int32)), (.ref a)])) rfl (by rw [hml]; rfl) (argsL := [(.int (Int32.ofNat z)), (.int (Int32.ofNat w))]) (rest := [(.int (0 : Int32)), (.ref b16), (.int (0 : Int32)), (.ref a)]) (lenOf own_pd0 rfl) rfl (by show 2 * 0 + _ ≤ _; exact Nat.le_of_eq rfl) (hb hby own_d_jdk_65_method_123_code_25) (fun _ _ => ⟨rfl, e16, (by decide : 1 + 0 ≤ _), (by decide : 2 + 0 ≤ _)⟩)
  dsimp only [Pt.U, Pt.locs, Pt.cells, Pt.slots] at X20 l20 y20 z20 st20 hQ20
  subst l20 y20 z20
  obtain ⟨rfl, rfl, e20⟩ := hQ20
  have E20q : T20.heap = h16 := e20
  have N20 := Fr.app N0 (Fr.nil n0)
  refine own_go (T' := T20) (g' := (mkF m 28 #[rv a, iv (Int32.ofNat w), rv b16] [(.int (own_mn (Int32.ofNat z) (Int32.ofNat w))), (.int (0 : Int32)), (.ref b16), (.int (0 : Int32)), (.ref a)])) (st20) ?_
  rw [own_mnz hzw (by omega)]
  obtain ⟨T21, h21, L21, X21, e21, N21, K_21, V21q, st21⟩ := cpA X20 hx hZ hown (hw _ (List.mem_of_getElem? (i := 41) rfl)) (hw _ (List.mem_of_getElem? (i := 44) rfl)) (hw _ (List.mem_of_getElem? (i := 42) rfl)) (hw _ (List.mem_of_getElem? (i := 43) rfl)) E20q (sp := (0 : Int32)) (dp := (0 : Int32)) (nn := (Int32.ofNat z)) (us := (List.range (Int32.ofNat z).toNatClampNeg).map (fun i => vs.getD ((0 : Int32).toNatClampNeg + i) (.int (0 : Int32)))) c17 V16 (Or.inl ⟨rfl, rfl⟩) (by decide) (by decide) (own_nn (by omega)) (by rw [own_cl (by omega)]; exact Nat.le_of_eq (Nat.zero_add _)) (by rw [own_cl (by omega), own_cl (by omega)]; show 0 + z ≤ w; omega) rfl (by rw [own_cl (by omega), List.length_replicate]; show 0 + z ≤ w; omega) N20 gn16 (g := (mkF m 28 #[rv a, iv (Int32.ofNat w), rv b16] [(.int (Int32.ofNat z)), (.int (0 : Int32)), (.ref b16), (.int (0 : Int32)), (.ref a)])) rfl (by rw [hml]; rfl) rfl (hb hby own_d_jdk_65_method_123_code_28) (by decide) (W := 0) (by show 2 * 0 + _ ≤ _; exact Nat.le_of_eq rfl) (by decide)
  have V21 : Arv Z h21 b16 k16 .int (Int32.ofNat w) (own_cpl vs (.int (0 : Int32)) z w) (.int (0 : Int32)) := V21q
  have c22 := c17.keep K_21 (ninS ne18 nin0)
  have hz21 : n0 ≤ h21.size := Nat.le_trans hz16 K_21.1
  have K21 := Keep.trans K16 K_21 (allS (P := fun x => x ∈ _ ∨ h0.size ≤ x) (Or.inr o16) all0)
  refine own_go (T' := T21) (g' := (mkF m 31 #[rv a, iv (Int32.ofNat w), rv b16] [])) (st21) ?_
  refine own_go (T' := T21) (g' := (mkF m 32 #[rv a, iv (Int32.ofNat w), rv b16] [(.ref b16)])) (fun t k => XS.aloadN X21.here hx rfl (hb hby own_d_jdk_65_method_123_code_31) rfl rfl k) ?_
  exact own_ret X21 hlk hx Bd.returns rfl (Or.inr (Or.inr (Or.inr (Or.inr ⟨rfl, rfl, rfl⟩)))) (hb hby own_d_jdk_65_method_123_code_32) (by rw [e21]; exact ⟨b16, _, rfl, N21, o16, K21, _, V21, own_cpl_len vs (.int (0 : Int32)) (by omega) (by omega), fun i hi => own_cpl_get vs (.int (0 : Int32)) (by omega) hi⟩) (by decide) (by decide)

def Q_own_cpI3 (Z : State) (z w : Nat) (vs : List Value) (h0 : Heap) (n0 : Nat) (v : Option Value) (h : Heap) (L : List Loc) : Prop := ∃ (b : Addr) (k : ClassId), v = some (.ref b) ∧ Fr n0 L ∧ h0.size ≤ b ∧ Keep h0 h [] ∧ ∃ vs', Arv Z h b k .int (Int32.ofNat w) vs' (.int (0 : Int32)) ∧ vs'.length = w ∧ ∀ i, i < z → vs'.getD i (.int (0 : Int32)) = vs.getD i (.int (0 : Int32))
set_option maxRecDepth 65536 in
set_option maxHeartbeats 40000000 in
theorem own_cpI3 (l : Launch) (Z : State) (a0 : Array Value) (hw : ∀ d ∈ tables_1, d.before a0 Z = true) (ws : List Jvm.Cond) (a : Addr) (ka : ClassId) (z w : Nat) (vs : List Value) (h0 : Heap) (n0 : Nat) (Z0 : n0 ≤ h0.size) (hzw : z < w) (hwc : w ≤ 3) (V_a : Arv Z h0 a ka .int (Int32.ofNat z) vs (.int (0 : Int32))) :
    MetFree l (⟨"java/util/Arrays", "copyOf", "([II)[I"⟩ : MethodName) (head1 (Jvm.Cond.code (⟨"java/util/Arrays", "copyOf", "([II)[I"⟩ : MethodName) jdk_65_method_123_code 3 (some (.array .int)) :: ws) ({ frames := 1, cells := 1, slots := 3, locals := 30 } : Room)) (fun au Uu => au = #[(.ref a), (.int (Int32.ofNat w))] ∧ Z.Warmed39 Uu.vm ∧ Uu.heap = h0) (fun _ _ _ _ _ => True) (fun _ Uu ou Uw => ∃ vu Lu, ou = .returned vu ∧ Q_own_cpI3 Z z w vs h0 n0 vu Uw.heap Lu ∧ FrameEnd Uu ou Uw Lu ({ frames := 1, cells := 1, slots := 3, locals := 30 } : Room).cells ({ frames := 1, cells := 1, slots := 3, locals := 30 } : Room).slots) := by
  refine MetFree.of_bodySF (plainFor_of_name (by first | (simp [plainName, overriddenIn]; done) | decide +kernel)) hisR ?_
  intro p e s m args below meth c s₁ Bd hml0 hP hK
  obtain ⟨rfl, hZ, hh⟩ := hP
  have hx := Bd.exec
  have hby := Bd.bytes
  have hlk := Bd.notSynchronized
  have hml : c.maxLocals = 3 := hml0
  have hown : s.vm.findClass "java/util/Arrays" = some m.cls := findClass_of_methodNamed Bd.named
  have hnm := (name_of_methodNamed Bd.named Bd.method).1
  have X0 : Stand p l e ({ frames := 1, cells := 1, slots := 3, locals := 30 } : Room) s m #[(.ref a), (.int (Int32.ofNat w))] below meth c s₁ [] 0 0 := Stand.of_body Bd
  have e0 : s₁.heap = h0 := by rw [← hh, Bd.state]; rfl
  have N0 := Fr.nil n0
  show own_Ends p e below s₁ (entryFrame m #[(.ref a), (.int (Int32.ofNat w))] 3) (fun ou Uw => ∃ vu Lu, ou = .returned vu ∧ Q_own_cpI3 Z z w vs h0 n0 vu Uw.heap Lu ∧ FrameEnd s ou Uw Lu ({ frames := 1, cells := 1, slots := 3, locals := 30 } : Room).cells ({ frames := 1, cells := 1, slots := 3, locals := 30 } : Room).slots)
  refine own_start (g' := (mkF m 0 #[rv a, iv (Int32.ofNat w), .unset] [])) (by first | (simp [entryFrame, mkF, argsToLocals, Value.category, iv, rv]; done) | rfl) ?_
  refine own_go (T' := s₁) (g' := (mkF m 1 #[rv a, iv (Int32.ofNat w), .unset] [(.int (Int32.ofNat w))])) (fun t k => XS.iloadN X0.here hx rfl (hb hby own_d_jdk_65_method_123_code_0) rfl k) ?_
  refine own_go (T' := s₁) (g' := (mkF m 2 #[rv a, iv (Int32.ofNat w), .unset] [(.ref a), (.int (Int32.ofNat w))])) (fun t k => XS.aloadN X0.here hx rfl (hb hby own_d_jdk_65_method_123_code_1) rfl rfl k) ?_
  obtain ⟨cl27, Ar27, -, Sz27, Nn27, -, -⟩ := id V_a
  refine own_go (T' := s₁) (g' := (mkF m 3 #[rv a, iv (Int32.ofNat w), .unset] [(.int (Int32.ofNat z)), (.int (Int32.ofNat w))])) (fun t k => X0.arraylength hx (by rw [e0]; exact Ar27.1) (State.isArrayOf_alike hZ.alike Ar27.2.1) (g := (mkF m 2 #[rv a, iv (Int32.ofNat w), .unset] [(.ref a), (.int (Int32.ofNat w))])) rfl rfl (hb hby own_d_jdk_65_method_123_code_2) _ (by rw [len_of Sz27 Nn27]; exact k)) ?_
  refine own_go (T' := s₁) (g' := (mkF m 14 #[rv a, iv (Int32.ofNat w), .unset] [])) (fun t k => XS.icmpYes X0.here hx rfl (pc0 := 3) (pc' := 14) rfl (hb hby own_d_jdk_65_method_123_code_3) rfl (feq (by rw [own_eqn (by omega) (by omega)]; omega : ¬ ((Int32.ofNat w) = (Int32.ofNat z)))).2 (by decide) (by decide) k) ?_
  refine own_go (T' := s₁) (g' := (mkF m 15 #[rv a, iv (Int32.ofNat w), .unset] [(.int (Int32.ofNat w))])) (fun t k => XS.iloadN X0.here hx rfl (hb hby own_d_jdk_65_method_123_code_14) rfl k) ?_
  obtain ⟨T28, h28, k28, X28, e28, E28, A28, st28⟩ := newP X0 hx hZ (hw _ (List.mem_of_getElem? (i := 13) rfl)) e0 (g := (mkF m 15 #[rv a, iv (Int32.ofNat w), .unset] [(.int (Int32.ofNat w))])) rfl (hb hby own_d_jdk_65_method_123_code_15) rfl (own_nn (by omega)) (cap := 3) (by rw [own_cl (by omega)]; omega) (by decide) (by decide) (by decide)
  obtain ⟨b28, g28⟩ : ∃ z, z = h0.size := ⟨_, rfl⟩
  rw [← g28] at A28 st28
  have gn28 : n0 ≤ b28 := Nat.le_trans Z0 (Nat.le_of_eq g28.symm)
  have hz28 : n0 ≤ h28.size := Nat.le_trans Z0 E28.1
  have o28 : h0.size ≤ b28 := Nat.le_trans (Keep.refl h0 []).1 (Nat.le_of_eq g28.symm)
  have K28 := (Keep.refl h0 []).ext E28
  have c29 := V_a.ext E28
  have ne30 : a ≠ b28 := Nat.ne_of_lt (Nat.lt_of_lt_of_le V_a.lt (Nat.le_of_eq g28.symm))
  have V28 : Arv Z h28 b28 k28 .int (Int32.ofNat w) (List.replicate w (.int (0 : Int32))) (.int (0 : Int32)) := (Arv.new A28 (own_nn (by omega))).pad (pad_rep [] (.int (0 : Int32)) w)
  refine own_go (T' := T28) (g' := (mkF m 17 #[rv a, iv (Int32.ofNat w), .unset] [(.ref b28)])) (st28) ?_
  refine own_go (T' := T28) (g' := (mkF m 18 #[rv a, iv (Int32.ofNat w), rv b28] [])) (fun t k => XS.astoreN X28.here hx rfl (hb hby own_d_jdk_65_method_123_code_17) rfl rfl (l' := #[rv a, iv (Int32.ofNat w), rv b28]) rfl k) ?_
  refine own_go (T' := T28) (g' := (mkF m 19 #[rv a, iv (Int32.ofNat w), rv b28] [(.ref a)])) (fun t k => XS.aloadN X28.here hx rfl (hb hby own_d_jdk_65_method_123_code_18) rfl rfl k) ?_
  refine own_go (T' := T28) (g' := (mkF m 20 #[rv a, iv (Int32.ofNat w), rv b28] [(.int (0 : Int32)), (.ref a)])) (fun t k => XS.iconst X28.here hx rfl (hb hby own_d_jdk_65_method_123_code_19) k) ?_
  refine own_go (T' := T28) (g' := (mkF m 21 #[rv a, iv (Int32.ofNat w), rv b28] [(.ref b28), (.int (0 : Int32)), (.ref a)])) (fun t k => XS.aloadN X28.here hx rfl (hb hby own_d_jdk_65_method_123_code_20) rfl rfl k) ?_
  refine own_go (T' := T28) (g' := (mkF m 22 #[rv a, iv (Int32.ofNat w), rv b28] [(.int (0 : Int32)), (.ref b28), (.int (0 : Int32)), (.ref a)])) (fun t k => XS.iconst X28.here hx rfl (hb hby own_d_jdk_65_method_123_code_21) k) ?_
  refine own_go (T' := T28) (g' := (mkF m 23 #[rv a, iv (Int32.ofNat w), rv b28] [(.ref a), (.int (0 : Int32)), (.ref b28), (.int (0 : Int32)), (.ref a)])) (fun t k => XS.aloadN X28.here hx rfl (hb hby own_d_jdk_65_method_123_code_22) rfl rfl k) ?_
  obtain ⟨cl31, Ar31, -, Sz31, Nn31, -, -⟩ := id c29
  refine own_go (T' := T28) (g' := (mkF m 24 #[rv a, iv (Int32.ofNat w), rv b28] [(.int (Int32.ofNat z)), (.int (0 : Int32)), (.ref b28), (.int (0 : Int32)), (.ref a)])) (fun t k => X28.arraylength hx (by rw [e28]; exact Ar31.1) (State.isArrayOf_alike hZ.alike Ar31.2.1) (g := (mkF m 23 #[rv a, iv (Int32.ofNat w), rv b28] [(.ref a), (.int (0 : Int32)), (.ref b28), (.int (0 : Int32)), (.ref a)])) rfl rfl (hb hby own_d_jdk_65_method_123_code_23) _ (by rw [len_of Sz31 Nn31]; exact k)) ?_
  refine own_go (T' := T28) (g' := (mkF m 25 #[rv a, iv (Int32.ofNat w), rv b28] [(.int (Int32.ofNat w)), (.int (Int32.ofNat z)), (.int (0 : Int32)), (.ref b28), (.int (0 : Int32)), (.ref a)])) (fun t k => XS.iloadN X28.here hx rfl (hb hby own_d_jdk_65_method_123_code_24) rfl k) ?_
  obtain ⟨_, _, ⟨T32, L32, k32, n32⟩, -, X32, ⟨Lc32, hQ32, l32, y32, z32⟩, st32⟩ := Jvm.LawKit.callS X28 hx (y := (⟨"java/lang/Math", "min", "(II)I"⟩ : MethodName)) hown (mvT hZ (hw _ (List.mem_of_getElem? (i := 38) rfl))) (mvT hZ (hw _ (List.mem_of_getElem? (i := 39) rfl))) (mvT hZ (hw _ (List.mem_of_getElem? (i := 11) rfl))) (mvT hZ (hw _ (List.mem_of_getElem? (i := 40) rfl))) (by decide) (backOf (W := 4) (own_rmn l Z a0 hw [] (Int32.ofNat z) (Int32.ofNat w) h28 n0 hz28) hZ (hw _ (List.mem_of_getElem? (i := 40) rfl)) (hw _ (List.mem_of_getElem? (i := 11) rfl)) (by decide) (by decide)) (g := (mkF m 25 #[rv a, iv (Int32.ofNat w), rv b28] [(.int (Int32.ofNat w)), (.int (Int32.ofNat z)), (.int (0 : Int32)), (.ref b28), (.int (0 : Int32)), (.ref a)])) rfl (by rw [hml]; rfl) (argsL := [(.int (Int32.ofNat z)), (.int (Int32.ofNat w))]) (rest := [(.int (0 : Int32)), (.ref b28), (.int (0 : Int32)), (.ref a)]) (lenOf own_pd0 rfl) rfl (by show 2 * 0 + _ ≤ _; exact Nat.le_of_eq rfl) (hb hby own_d_jdk_65_method_123_code_25) (fun _ _ => ⟨rfl, e28, (by decide : 1 + 0 ≤ _), (by decide : 3 + 0 ≤ _)⟩)
  dsimp only [Pt.U, Pt.locs, Pt.cells, Pt.slots] at X32 l32 y32 z32 st32 hQ32
  subst l32 y32 z32
  obtain ⟨rfl, rfl, e32⟩ := hQ32
  have E32q : T32.heap = h28 := e32
  have N32 := Fr.app N0 (Fr.nil n0)
  refine own_go (T' := T32) (g' := (mkF m 28 #[rv a, iv (Int32.ofNat w), rv b28] [(.int (own_mn (Int32.ofNat z) (Int32.ofNat w))), (.int (0 : Int32)), (.ref b28), (.int (0 : Int32)), (.ref a)])) (st32) ?_
  rw [own_mnz hzw (by omega)]
  obtain ⟨T33, h33, L33, X33, e33, N33, K_33, V33q, st33⟩ := cpA X32 hx hZ hown (hw _ (List.mem_of_getElem? (i := 41) rfl)) (hw _ (List.mem_of_getElem? (i := 44) rfl)) (hw _ (List.mem_of_getElem? (i := 42) rfl)) (hw _ (List.mem_of_getElem? (i := 43) rfl)) E32q (sp := (0 : Int32)) (dp := (0 : Int32)) (nn := (Int32.ofNat z)) (us := (List.range (Int32.ofNat z).toNatClampNeg).map (fun i => vs.getD ((0 : Int32).toNatClampNeg + i) (.int (0 : Int32)))) c29 V28 (Or.inl ⟨rfl, rfl⟩) (by decide) (by decide) (own_nn (by omega)) (by rw [own_cl (by omega)]; exact Nat.le_of_eq (Nat.zero_add _)) (by rw [own_cl (by omega), own_cl (by omega)]; show 0 + z ≤ w; omega) rfl (by rw [own_cl (by omega), List.length_replicate]; show 0 + z ≤ w; omega) N32 gn28 (g := (mkF m 28 #[rv a, iv (Int32.ofNat w), rv b28] [(.int (Int32.ofNat z)), (.int (0 : Int32)), (.ref b28), (.int (0 : Int32)), (.ref a)])) rfl (by rw [hml]; rfl) rfl (hb hby own_d_jdk_65_method_123_code_28) (by decide) (W := 0) (by show 2 * 0 + _ ≤ _; exact Nat.le_of_eq rfl) (by decide)
  have V33 : Arv Z h33 b28 k28 .int (Int32.ofNat w) (own_cpl vs (.int (0 : Int32)) z w) (.int (0 : Int32)) := V33q
  have c34 := c29.keep K_33 (ninS ne30 nin0)
  have hz33 : n0 ≤ h33.size := Nat.le_trans hz28 K_33.1
  have K33 := Keep.trans K28 K_33 (allS (P := fun x => x ∈ _ ∨ h0.size ≤ x) (Or.inr o28) all0)
  refine own_go (T' := T33) (g' := (mkF m 31 #[rv a, iv (Int32.ofNat w), rv b28] [])) (st33) ?_
  refine own_go (T' := T33) (g' := (mkF m 32 #[rv a, iv (Int32.ofNat w), rv b28] [(.ref b28)])) (fun t k => XS.aloadN X33.here hx rfl (hb hby own_d_jdk_65_method_123_code_31) rfl rfl k) ?_
  exact own_ret X33 hlk hx Bd.returns rfl (Or.inr (Or.inr (Or.inr (Or.inr ⟨rfl, rfl, rfl⟩)))) (hb hby own_d_jdk_65_method_123_code_32) (by rw [e33]; exact ⟨b28, _, rfl, N33, o28, K33, _, V33, own_cpl_len vs (.int (0 : Int32)) (by omega) (by omega), fun i hi => own_cpl_get vs (.int (0 : Int32)) (by omega) hi⟩) (by decide) (by decide)

theorem own_d_jdk_65_method_124_code_0 : decode jdk_65_method_124_code 0 = .ok (.iload_n 1, 1) := by decide +kernel
theorem own_d_jdk_65_method_124_code_1 : decode jdk_65_method_124_code 1 = .ok (.aload_n 0, 1) := by decide +kernel
theorem own_d_jdk_65_method_124_code_2 : decode jdk_65_method_124_code 2 = .ok (.arraylength, 1) := by decide +kernel
theorem own_d_jdk_65_method_124_code_3 : decode jdk_65_method_124_code 3 = .ok (.if_icmp .ne 11, 3) := by decide +kernel
theorem own_d_jdk_65_method_124_code_14 : decode jdk_65_method_124_code 14 = .ok (.iload_n 1, 1) := by decide +kernel
theorem own_d_jdk_65_method_124_code_15 : decode jdk_65_method_124_code 15 = .ok (.newarray .long, 2) := by decide +kernel
theorem own_d_jdk_65_method_124_code_17 : decode jdk_65_method_124_code 17 = .ok (.astore_n 2, 1) := by decide +kernel
theorem own_d_jdk_65_method_124_code_18 : decode jdk_65_method_124_code 18 = .ok (.aload_n 0, 1) := by decide +kernel
theorem own_d_jdk_65_method_124_code_19 : decode jdk_65_method_124_code 19 = .ok (.iconst 0, 1) := by decide +kernel
theorem own_d_jdk_65_method_124_code_20 : decode jdk_65_method_124_code 20 = .ok (.aload_n 2, 1) := by decide +kernel
theorem own_d_jdk_65_method_124_code_21 : decode jdk_65_method_124_code 21 = .ok (.iconst 0, 1) := by decide +kernel
theorem own_d_jdk_65_method_124_code_22 : decode jdk_65_method_124_code 22 = .ok (.aload_n 0, 1) := by decide +kernel
theorem own_d_jdk_65_method_124_code_23 : decode jdk_65_method_124_code 23 = .ok (.arraylength, 1) := by decide +kernel
theorem own_d_jdk_65_method_124_code_24 : decode jdk_65_method_124_code 24 = .ok (.iload_n 1, 1) := by decide +kernel
theorem own_d_jdk_65_method_124_code_25 : decode jdk_65_method_124_code 25 = .ok (.invokestatic 304, 3) := by decide +kernel
theorem own_d_jdk_65_method_124_code_28 : decode jdk_65_method_124_code 28 = .ok (.invokestatic 150, 3) := by decide +kernel
theorem own_d_jdk_65_method_124_code_31 : decode jdk_65_method_124_code 31 = .ok (.aload_n 2, 1) := by decide +kernel
theorem own_d_jdk_65_method_124_code_32 : decode jdk_65_method_124_code 32 = .ok (.areturn, 1) := by decide +kernel
def Q_own_cpJ2 (Z : State) (z w : Nat) (vs : List Value) (h0 : Heap) (n0 : Nat) (v : Option Value) (h : Heap) (L : List Loc) : Prop := ∃ (b : Addr) (k : ClassId), v = some (.ref b) ∧ Fr n0 L ∧ h0.size ≤ b ∧ Keep h0 h [] ∧ ∃ vs', Arv Z h b k .long (Int32.ofNat w) vs' (.long (0 : Int64)) ∧ vs'.length = w ∧ ∀ i, i < z → vs'.getD i (.long (0 : Int64)) = vs.getD i (.long (0 : Int64))
set_option maxRecDepth 65536 in
set_option maxHeartbeats 40000000 in
theorem own_cpJ2 (l : Launch) (Z : State) (a0 : Array Value) (hw : ∀ d ∈ tables_1, d.before a0 Z = true) (ws : List Jvm.Cond) (a : Addr) (ka : ClassId) (z w : Nat) (vs : List Value) (h0 : Heap) (n0 : Nat) (Z0 : n0 ≤ h0.size) (hzw : z < w) (hwc : w ≤ 2) (V_a : Arv Z h0 a ka .long (Int32.ofNat z) vs (.long (0 : Int64))) :
    MetFree l (⟨"java/util/Arrays", "copyOf", "([JI)[J"⟩ : MethodName) (head1 (Jvm.Cond.code (⟨"java/util/Arrays", "copyOf", "([JI)[J"⟩ : MethodName) jdk_65_method_124_code 3 (some (.array .long)) :: ws) ({ frames := 1, cells := 1, slots := 2, locals := 30 } : Room)) (fun au Uu => au = #[(.ref a), (.int (Int32.ofNat w))] ∧ Z.Warmed39 Uu.vm ∧ Uu.heap = h0) (fun _ _ _ _ _ => True) (fun _ Uu ou Uw => ∃ vu Lu, ou = .returned vu ∧ Q_own_cpJ2 Z z w vs h0 n0 vu Uw.heap Lu ∧ FrameEnd Uu ou Uw Lu ({ frames := 1, cells := 1, slots := 2, locals := 30 } : Room).cells ({ frames := 1, cells := 1, slots := 2, locals := 30 } : Room).slots) := by
  refine MetFree.of_bodySF (plainFor_of_name (by first | (simp [plainName, overriddenIn]; done) | decide +kernel)) hisR ?_
  intro p e s m args below meth c s₁ Bd hml0 hP hK
  obtain ⟨rfl, hZ, hh⟩ := hP
  have hx := Bd.exec
  have hby := Bd.bytes
  have hlk := Bd.notSynchronized
  have hml : c.maxLocals = 3 := hml0
  have hown : s.vm.findClass "java/util/Arrays" = some m.cls := findClass_of_methodNamed Bd.named
  have hnm := (name_of_methodNamed Bd.named Bd.method).1
  have X0 : Stand p l e ({ frames := 1, cells := 1, slots := 2, locals := 30 } : Room) s m #[(.ref a), (.int (Int32.ofNat w))] below meth c s₁ [] 0 0 := Stand.of_body Bd
  have e0 : s₁.heap = h0 := by rw [← hh, Bd.state]; rfl
  have N0 := Fr.nil n0
  show own_Ends p e below s₁ (entryFrame m #[(.ref a), (.int (Int32.ofNat w))] 3) (fun ou Uw => ∃ vu Lu, ou = .returned vu ∧ Q_own_cpJ2 Z z w vs h0 n0 vu Uw.heap Lu ∧ FrameEnd s ou Uw Lu ({ frames := 1, cells := 1, slots := 2, locals := 30 } : Room).cells ({ frames := 1, cells := 1, slots := 2, locals := 30 } : Room).slots)
  refine own_start (g' := (mkF m 0 #[rv a, iv (Int32.ofNat w), .unset] [])) (by first | (simp [entryFrame, mkF, argsToLocals, Value.category, iv, rv]; done) | rfl) ?_
  refine own_go (T' := s₁) (g' := (mkF m 1 #[rv a, iv (Int32.ofNat w), .unset] [(.int (Int32.ofNat w))])) (fun t k => XS.iloadN X0.here hx rfl (hb hby own_d_jdk_65_method_124_code_0) rfl k) ?_
  refine own_go (T' := s₁) (g' := (mkF m 2 #[rv a, iv (Int32.ofNat w), .unset] [(.ref a), (.int (Int32.ofNat w))])) (fun t k => XS.aloadN X0.here hx rfl (hb hby own_d_jdk_65_method_124_code_1) rfl rfl k) ?_
  obtain ⟨cl39, Ar39, -, Sz39, Nn39, -, -⟩ := id V_a
  refine own_go (T' := s₁) (g' := (mkF m 3 #[rv a, iv (Int32.ofNat w), .unset] [(.int (Int32.ofNat z)), (.int (Int32.ofNat w))])) (fun t k => X0.arraylength hx (by rw [e0]; exact Ar39.1) (State.isArrayOf_alike hZ.alike Ar39.2.1) (g := (mkF m 2 #[rv a, iv (Int32.ofNat w), .unset] [(.ref a), (.int (Int32.ofNat w))])) rfl rfl (hb hby own_d_jdk_65_method_124_code_2) _ (by rw [len_of Sz39 Nn39]; exact k)) ?_
  refine own_go (T' := s₁) (g' := (mkF m 14 #[rv a, iv (Int32.ofNat w), .unset] [])) (fun t k => XS.icmpYes X0.here hx rfl (pc0 := 3) (pc' := 14) rfl (hb hby own_d_jdk_65_method_124_code_3) rfl (feq (by rw [own_eqn (by omega) (by omega)]; omega : ¬ ((Int32.ofNat w) = (Int32.ofNat z)))).2 (by decide) (by decide) k) ?_
  refine own_go (T' := s₁) (g' := (mkF m 15 #[rv a, iv (Int32.ofNat w), .unset] [(.int (Int32.ofNat w))])) (fun t k => XS.iloadN X0.here hx rfl (hb hby own_d_jdk_65_method_124_code_14) rfl k) ?_
  obtain ⟨T40, h40, k40, X40, e40, E40, A40, st40⟩ := newP X0 hx hZ (hw _ (List.mem_of_getElem? (i := 16) rfl)) e0 (g := (mkF m 15 #[rv a, iv (Int32.ofNat w), .unset] [(.int (Int32.ofNat w))])) rfl (hb hby own_d_jdk_65_method_124_code_15) rfl (own_nn (by omega)) (cap := 2) (by rw [own_cl (by omega)]; omega) (by decide) (by decide) (by decide)
  obtain ⟨b40, g40⟩ : ∃ z, z = h0.size := ⟨_, rfl⟩
  rw [← g40] at A40 st40
  have gn40 : n0 ≤ b40 := Nat.le_trans Z0 (Nat.le_of_eq g40.symm)
  have hz40 : n0 ≤ h40.size := Nat.le_trans Z0 E40.1
  have o40 : h0.size ≤ b40 := Nat.le_trans (Keep.refl h0 []).1 (Nat.le_of_eq g40.symm)
  have K40 := (Keep.refl h0 []).ext E40
  have c41 := V_a.ext E40
  have ne42 : a ≠ b40 := Nat.ne_of_lt (Nat.lt_of_lt_of_le V_a.lt (Nat.le_of_eq g40.symm))
  have V40 : Arv Z h40 b40 k40 .long (Int32.ofNat w) (List.replicate w (.long (0 : Int64))) (.long (0 : Int64)) := (Arv.new A40 (own_nn (by omega))).pad (pad_rep [] (.long (0 : Int64)) w)
  refine own_go (T' := T40) (g' := (mkF m 17 #[rv a, iv (Int32.ofNat w), .unset] [(.ref b40)])) (st40) ?_
  refine own_go (T' := T40) (g' := (mkF m 18 #[rv a, iv (Int32.ofNat w), rv b40] [])) (fun t k => XS.astoreN X40.here hx rfl (hb hby own_d_jdk_65_method_124_code_17) rfl rfl (l' := #[rv a, iv (Int32.ofNat w), rv b40]) rfl k) ?_
  refine own_go (T' := T40) (g' := (mkF m 19 #[rv a, iv (Int32.ofNat w), rv b40] [(.ref a)])) (fun t k => XS.aloadN X40.here hx rfl (hb hby own_d_jdk_65_method_124_code_18) rfl rfl k) ?_
  refine own_go (T' := T40) (g' := (mkF m 20 #[rv a, iv (Int32.ofNat w), rv b40] [(.int (0 : Int32)), (.ref a)])) (fun t k => XS.iconst X40.here hx rfl (hb hby own_d_jdk_65_method_124_code_19) k) ?_
  refine own_go (T' := T40) (g' := (mkF m 21 #[rv a, iv (Int32.ofNat w), rv b40] [(.ref b40), (.int (0 : Int32)), (.ref a)])) (fun t k => XS.aloadN X40.here hx rfl (hb hby own_d_jdk_65_method_124_code_20) rfl rfl k) ?_
  refine own_go (T' := T40) (g' := (mkF m 22 #[rv a, iv (Int32.ofNat w), rv b40] [(.int (0 : Int32)), (.ref b40), (.int (0 : Int32)), (.ref a)])) (fun t k => XS.iconst X40.here hx rfl (hb hby own_d_jdk_65_method_124_code_21) k) ?_
  refine own_go (T' := T40) (g' := (mkF m 23 #[rv a, iv (Int32.ofNat w), rv b40] [(.ref a), (.int (0 : Int32)), (.ref b40), (.int (0 : Int32)), (.ref a)])) (fun t k => XS.aloadN X40.here hx rfl (hb hby own_d_jdk_65_method_124_code_22) rfl rfl k) ?_
  obtain ⟨cl43, Ar43, -, Sz43, Nn43, -, -⟩ := id c41
  refine own_go (T' := T40) (g' := (mkF m 24 #[rv a, iv (Int32.ofNat w), rv b40] [(.int (Int32.ofNat z)), (.int (0 : Int32)), (.ref b40), (.int (0 : Int32)), (.ref a)])) (fun t k => X40.arraylength hx (by rw [e40]; exact Ar43.1) (State.isArrayOf_alike hZ.alike Ar43.2.1) (g := (mkF m 23 #[rv a, iv (Int32.ofNat w), rv b40] [(.ref a), (.int (0 : Int32)), (.ref b40), (.int (0 : Int32)), (.ref a)])) rfl rfl (hb hby own_d_jdk_65_method_124_code_23) _ (by rw [len_of Sz43 Nn43]; exact k)) ?_
  refine own_go (T' := T40) (g' := (mkF m 25 #[rv a, iv (Int32.ofNat w), rv b40] [(.int (Int32.ofNat w)), (.int (Int32.ofNat z)), (.int (0 : Int32)), (.ref b40), (.int (0 : Int32)), (.ref a)])) (fun t k => XS.iloadN X40.here hx rfl (hb hby own_d_jdk_65_method_124_code_24) rfl k) ?_
  obtain ⟨_, _, ⟨T44, L44, k44, n44⟩, -, X44, ⟨Lc44, hQ44, l44, y44, z44⟩, st44⟩ := Jvm.LawKit.callS X40 hx (y := (⟨"java/lang/Math", "min", "(II)I"⟩ : MethodName)) hown (mvT hZ (hw _ (List.mem_of_getElem? (i := 38) rfl))) (mvT hZ (hw _ (List.mem_of_getElem? (i := 39) rfl))) (mvT hZ (hw _ (List.mem_of_getElem? (i := 11) rfl))) (mvT hZ (hw _ (List.mem_of_getElem? (i := 40) rfl))) (by decide) (backOf (W := 4) (own_rmn l Z a0 hw [] (Int32.ofNat z) (Int32.ofNat w) h40 n0 hz40) hZ (hw _ (List.mem_of_getElem? (i := 40) rfl)) (hw _ (List.mem_of_getElem? (i := 11) rfl)) (by decide) (by decide)) (g := (mkF m 25 #[rv a, iv (Int32.ofNat w), rv b40] [(.int (Int32.ofNat w)), (.int (Int32.ofNat z)), (.int (0 : Int32)), (.ref b40), (.int (0 : Int32)), (.ref a)])) rfl (by rw [hml]; rfl) (argsL := [(.int (Int32.ofNat z)), (.int (Int32.ofNat w))]) (rest := [(.int (0 : Int32)), (.ref b40), (.int (0 : Int32)), (.ref a)]) (lenOf own_pd0 rfl) rfl (by show 2 * 0 + _ ≤ _; exact Nat.le_of_eq rfl) (hb hby own_d_jdk_65_method_124_code_25) (fun _ _ => ⟨rfl, e40, (by decide : 1 + 0 ≤ _), (by decide : 2 + 0 ≤ _)⟩)
  dsimp only [Pt.U, Pt.locs, Pt.cells, Pt.slots] at X44 l44 y44 z44 st44 hQ44
  subst l44 y44 z44
  obtain ⟨rfl, rfl, e44⟩ := hQ44
  have E44q : T44.heap = h40 := e44
  have N44 := Fr.app N0 (Fr.nil n0)
  refine own_go (T' := T44) (g' := (mkF m 28 #[rv a, iv (Int32.ofNat w), rv b40] [(.int (own_mn (Int32.ofNat z) (Int32.ofNat w))), (.int (0 : Int32)), (.ref b40), (.int (0 : Int32)), (.ref a)])) (st44) ?_
  rw [own_mnz hzw (by omega)]
  obtain ⟨T45, h45, L45, X45, e45, N45, K_45, V45q, st45⟩ := cpA X44 hx hZ hown (hw _ (List.mem_of_getElem? (i := 41) rfl)) (hw _ (List.mem_of_getElem? (i := 44) rfl)) (hw _ (List.mem_of_getElem? (i := 42) rfl)) (hw _ (List.mem_of_getElem? (i := 43) rfl)) E44q (sp := (0 : Int32)) (dp := (0 : Int32)) (nn := (Int32.ofNat z)) (us := (List.range (Int32.ofNat z).toNatClampNeg).map (fun i => vs.getD ((0 : Int32).toNatClampNeg + i) (.long (0 : Int64)))) c41 V40 (Or.inl ⟨rfl, rfl⟩) (by decide) (by decide) (own_nn (by omega)) (by rw [own_cl (by omega)]; exact Nat.le_of_eq (Nat.zero_add _)) (by rw [own_cl (by omega), own_cl (by omega)]; show 0 + z ≤ w; omega) rfl (by rw [own_cl (by omega), List.length_replicate]; show 0 + z ≤ w; omega) N44 gn40 (g := (mkF m 28 #[rv a, iv (Int32.ofNat w), rv b40] [(.int (Int32.ofNat z)), (.int (0 : Int32)), (.ref b40), (.int (0 : Int32)), (.ref a)])) rfl (by rw [hml]; rfl) rfl (hb hby own_d_jdk_65_method_124_code_28) (by decide) (W := 0) (by show 2 * 0 + _ ≤ _; exact Nat.le_of_eq rfl) (by decide)
  have V45 : Arv Z h45 b40 k40 .long (Int32.ofNat w) (own_cpl vs (.long (0 : Int64)) z w) (.long (0 : Int64)) := V45q
  have c46 := c41.keep K_45 (ninS ne42 nin0)
  have hz45 : n0 ≤ h45.size := Nat.le_trans hz40 K_45.1
  have K45 := Keep.trans K40 K_45 (allS (P := fun x => x ∈ _ ∨ h0.size ≤ x) (Or.inr o40) all0)
  refine own_go (T' := T45) (g' := (mkF m 31 #[rv a, iv (Int32.ofNat w), rv b40] [])) (st45) ?_
  refine own_go (T' := T45) (g' := (mkF m 32 #[rv a, iv (Int32.ofNat w), rv b40] [(.ref b40)])) (fun t k => XS.aloadN X45.here hx rfl (hb hby own_d_jdk_65_method_124_code_31) rfl rfl k) ?_
  exact own_ret X45 hlk hx Bd.returns rfl (Or.inr (Or.inr (Or.inr (Or.inr ⟨rfl, rfl, rfl⟩)))) (hb hby own_d_jdk_65_method_124_code_32) (by rw [e45]; exact ⟨b40, _, rfl, N45, o40, K45, _, V45, own_cpl_len vs (.long (0 : Int64)) (by omega) (by omega), fun i hi => own_cpl_get vs (.long (0 : Int64)) (by omega) hi⟩) (by decide) (by decide)

theorem own_pd1 : parseMethodDescriptor "([II)[I" = some ⟨[(.array .int), .int], some (.array .int)⟩ := by decide +kernel
theorem own_d_prog_111_method_2_code_0 : decode prog_111_method_2_code 0 = .ok (.aload_n 0, 1) := by decide +kernel
theorem own_d_prog_111_method_2_code_1 : decode prog_111_method_2_code 1 = .ok (.getfield 29, 3) := by decide +kernel
theorem own_d_prog_111_method_2_code_4 : decode prog_111_method_2_code 4 = .ok (.aload_n 0, 1) := by decide +kernel
theorem own_d_prog_111_method_2_code_5 : decode prog_111_method_2_code 5 = .ok (.getfield 26, 3) := by decide +kernel
theorem own_d_prog_111_method_2_code_8 : decode prog_111_method_2_code 8 = .ok (.arraylength, 1) := by decide +kernel
theorem own_d_prog_111_method_2_code_9 : decode prog_111_method_2_code 9 = .ok (.if_icmp .ne 20, 3) := by decide +kernel
theorem own_d_prog_111_method_2_code_12 : decode prog_111_method_2_code 12 = .ok (.aload_n 0, 1) := by decide +kernel
theorem own_d_prog_111_method_2_code_13 : decode prog_111_method_2_code 13 = .ok (.aload_n 0, 1) := by decide +kernel
theorem own_d_prog_111_method_2_code_14 : decode prog_111_method_2_code 14 = .ok (.getfield 26, 3) := by decide +kernel
theorem own_d_prog_111_method_2_code_17 : decode prog_111_method_2_code 17 = .ok (.iconst 2, 1) := by decide +kernel
theorem own_d_prog_111_method_2_code_18 : decode prog_111_method_2_code 18 = .ok (.aload_n 0, 1) := by decide +kernel
theorem own_d_prog_111_method_2_code_19 : decode prog_111_method_2_code 19 = .ok (.getfield 29, 3) := by decide +kernel
theorem own_d_prog_111_method_2_code_22 : decode prog_111_method_2_code 22 = .ok (.imul, 1) := by decide +kernel
theorem own_d_prog_111_method_2_code_23 : decode prog_111_method_2_code 23 = .ok (.invokestatic 33, 3) := by decide +kernel
theorem own_d_prog_111_method_2_code_26 : decode prog_111_method_2_code 26 = .ok (.putfield 26, 3) := by decide +kernel
theorem own_d_prog_111_method_2_code_29 : decode prog_111_method_2_code 29 = .ok (.aload_n 0, 1) := by decide +kernel
theorem own_d_prog_111_method_2_code_30 : decode prog_111_method_2_code 30 = .ok (.getfield 26, 3) := by decide +kernel
theorem own_d_prog_111_method_2_code_33 : decode prog_111_method_2_code 33 = .ok (.aload_n 0, 1) := by decide +kernel
theorem own_d_prog_111_method_2_code_34 : decode prog_111_method_2_code 34 = .ok (.dup, 1) := by decide +kernel
theorem own_d_prog_111_method_2_code_35 : decode prog_111_method_2_code 35 = .ok (.getfield 29, 3) := by decide +kernel
theorem own_d_prog_111_method_2_code_38 : decode prog_111_method_2_code 38 = .ok (.dup_x1, 1) := by decide +kernel
theorem own_d_prog_111_method_2_code_39 : decode prog_111_method_2_code 39 = .ok (.iconst 1, 1) := by decide +kernel
theorem own_d_prog_111_method_2_code_40 : decode prog_111_method_2_code 40 = .ok (.iadd, 1) := by decide +kernel
theorem own_d_prog_111_method_2_code_41 : decode prog_111_method_2_code 41 = .ok (.putfield 29, 3) := by decide +kernel
theorem own_d_prog_111_method_2_code_44 : decode prog_111_method_2_code 44 = .ok (.iload_n 1, 1) := by decide +kernel
theorem own_d_prog_111_method_2_code_45 : decode prog_111_method_2_code 45 = .ok (.iastore, 1) := by decide +kernel
theorem own_d_prog_111_method_2_code_46 : decode prog_111_method_2_code 46 = .ok (.return_, 1) := by decide +kernel
def Q_own_ref (Z : State) (b : Addr) (r f : Nat) (G : Nat → Int32) (h0 : Heap) (n0 : Nat) (v : Option Value) (h : Heap) (L : List Loc) : Prop := v = none ∧ Fr n0 L ∧ n0 ≤ h.size ∧ own_RB Z h n0 b r (f + 1) G
set_option maxRecDepth 65536 in
set_option maxHeartbeats 40000000 in
theorem own_ref (l : Launch) (Z : State) (a0 : Array Value) (hw : ∀ d ∈ tables_1, d.before a0 Z = true) (ws : List Jvm.Cond) (b : Addr) (p1 : Int32) (r f : Nat) (G : Nat → Int32) (h0 : Heap) (n0 : Nat) (Z0 : n0 ≤ h0.size) (hf : f ≤ 5) (RB : own_RB Z h0 n0 b r f G) :
    MetFree l (⟨"com/example/tierwright/tierwright/table/RowBounds", "endField", "(I)V"⟩ : MethodName) (head1 (Jvm.Cond.code (⟨"com/example/tierwright/tierwright/table/RowBounds", "endField", "(I)V"⟩ : MethodName) prog_111_method_2_code 2 none :: ws) ({ frames := 2, cells := 1, slots := 10, locals := 45 } : Room)) (fun au Uu => au = #[(.ref b), (.int p1)] ∧ Z.Warmed39 Uu.vm ∧ Uu.heap = h0) (fun _ _ _ _ _ => True) (fun _ Uu ou Uw => ∃ vu Lu, ou = .returned vu ∧ Q_own_ref Z b r f G h0 n0 vu Uw.heap Lu ∧ FrameEnd Uu ou Uw Lu ({ frames := 2, cells := 1, slots := 10, locals := 45 } : Room).cells ({ frames := 2, cells := 1, slots := 10, locals := 45 } : Room).slots) := by
  refine MetFree.of_bodySF (plainFor_of_name (by first | (simp [plainName, overriddenIn]; done) | decide +kernel)) hisR ?_
  intro p e s m args below meth c s₁ Bd hml0 hP hK
  obtain ⟨rfl, hZ, hh⟩ := hP
  have hx := Bd.exec
  have hby := Bd.bytes
  have hlk := Bd.notSynchronized
  have hml : c.maxLocals = 2 := hml0
  have hown : s.vm.findClass "com/example/tierwright/tierwright/table/RowBounds" = some m.cls := findClass_of_methodNamed Bd.named
  have hnm := (name_of_methodNamed Bd.named Bd.method).1
  have X0 : Stand p l e ({ frames := 2, cells := 1, slots := 10, locals := 45 } : Room) s m #[(.ref b), (.int p1)] below meth c s₁ [] 0 0 := Stand.of_body Bd
  have e0 : s₁.heap = h0 := by rw [← hh, Bd.state]; rfl
  have N0 := Fr.nil n0
  obtain ⟨aS, aL, aF, aE, kS, kL, kF, kE, zS, zE, vS, vL, vF, vE, E_b, g_b, F_s, F_l, F_f, F_e, F_r, F_n, V_S, V_L, V_F, V_E, ⟨gS, gL, gF, gE⟩, ⟨d1, d2, d3, d4, d5, d6, d7, d8, d9, d10⟩, ⟨z1, z2, z3, z4, z5, z6⟩, ⟨l1, l2, l3, l4⟩, hG⟩ := RB
  show own_Ends p e below s₁ (entryFrame m #[(.ref b), (.int p1)] 2) (fun ou Uw => ∃ vu Lu, ou = .returned vu ∧ Q_own_ref Z b r f G h0 n0 vu Uw.heap Lu ∧ FrameEnd s ou Uw Lu ({ frames := 2, cells := 1, slots := 10, locals := 45 } : Room).cells ({ frames := 2, cells := 1, slots := 10, locals := 45 } : Room).slots)
  refine own_start (g' := (mkF m 0 #[rv b, iv p1] [])) (by first | (simp [entryFrame, mkF, argsToLocals, Value.category, iv, rv]; done) | rfl) ?_
  refine own_go (T' := s₁) (g' := (mkF m 1 #[rv b, iv p1] [(.ref b)])) (fun t k => XS.aloadN X0.here hx rfl (hb hby own_d_prog_111_method_2_code_0) rfl rfl k) ?_
  obtain ⟨T51, X51, e51, st51⟩ := getF X0 hx hZ hown (host := "") (Or.inl (hw _ (List.mem_of_getElem? (i := 32) rfl))) Via.refl e0 F_n (g := (mkF m 1 #[rv b, iv p1] [(.ref b)])) rfl rfl (hb hby own_d_prog_111_method_2_code_1)
  refine own_go (T' := T51) (g' := (mkF m 4 #[rv b, iv p1] [(.int (Int32.ofNat f))])) (st51) ?_
  refine own_go (T' := T51) (g' := (mkF m 5 #[rv b, iv p1] [(.ref b), (.int (Int32.ofNat f))])) (fun t k => XS.aloadN X51.here hx rfl (hb hby own_d_prog_111_method_2_code_4) rfl rfl k) ?_
  obtain ⟨T52, X52, e52, st52⟩ := getF X51 hx hZ hown (host := "") (Or.inl (hw _ (List.mem_of_getElem? (i := 21) rfl))) Via.refl e51 F_e (g := (mkF m 5 #[rv b, iv p1] [(.ref b), (.int (Int32.ofNat f))])) rfl rfl (hb hby own_d_prog_111_method_2_code_5)
  refine own_go (T' := T52) (g' := (mkF m 8 #[rv b, iv p1] [(.ref aE), (.int (Int32.ofNat f))])) (st52) ?_
  obtain ⟨cl53, Ar53, -, Sz53, Nn53, -, -⟩ := id V_E
  refine own_go (T' := T52) (g' := (mkF m 9 #[rv b, iv p1] [(.int (Int32.ofNat zE)), (.int (Int32.ofNat f))])) (fun t k => X52.arraylength hx (by rw [e52]; exact Ar53.1) (State.isArrayOf_alike hZ.alike Ar53.2.1) (g := (mkF m 8 #[rv b, iv p1] [(.ref aE), (.int (Int32.ofNat f))])) rfl rfl (hb hby own_d_prog_111_method_2_code_8) _ (by rw [len_of Sz53 Nn53]; exact k)) ?_
  by_cases hc54 : (Int32.ofNat f) = (Int32.ofNat zE)
  · refine own_go (T' := T52) (g' := (mkF m 12 #[rv b, iv p1] [])) (fun t k => XS.icmpNo X52.here hx rfl (hb hby own_d_prog_111_method_2_code_9) rfl (teq hc54).2 k) ?_
    refine own_go (T' := T52) (g' := (mkF m 13 #[rv b, iv p1] [(.ref b)])) (fun t k => XS.aloadN X52.here hx rfl (hb hby own_d_prog_111_method_2_code_12) rfl rfl k) ?_
    refine own_go (T' := T52) (g' := (mkF m 14 #[rv b, iv p1] [(.ref b), (.ref b)])) (fun t k => XS.aloadN X52.here hx rfl (hb hby own_d_prog_111_method_2_code_13) rfl rfl k) ?_
    obtain ⟨T55, X55, e55, st55⟩ := getF X52 hx hZ hown (host := "") (Or.inl (hw _ (List.mem_of_getElem? (i := 21) rfl))) Via.refl e52 F_e (g := (mkF m 14 #[rv b, iv p1] [(.ref b), (.ref b)])) rfl rfl (hb hby own_d_prog_111_method_2_code_14)
    refine own_go (T' := T55) (g' := (mkF m 17 #[rv b, iv p1] [(.ref aE), (.ref b)])) (st55) ?_
    refine own_go (T' := T55) (g' := (mkF m 18 #[rv b, iv p1] [(.int (2 : Int32)), (.ref aE), (.ref b)])) (fun t k => XS.iconst X55.here hx rfl (hb hby own_d_prog_111_method_2_code_17) k) ?_
    refine own_go (T' := T55) (g' := (mkF m 19 #[rv b, iv p1] [(.ref b), (.int (2 : Int32)), (.ref aE), (.ref b)])) (fun t k => XS.aloadN X55.here hx rfl (hb hby own_d_prog_111_method_2_code_18) rfl rfl k) ?_
    obtain ⟨T56, X56, e56, st56⟩ := getF X55 hx hZ hown (host := "") (Or.inl (hw _ (List.mem_of_getElem? (i := 32) rfl))) Via.refl e55 F_n (g := (mkF m 19 #[rv b, iv p1] [(.ref b), (.int (2 : Int32)), (.ref aE), (.ref b)])) rfl rfl (hb hby own_d_prog_111_method_2_code_19)
    refine own_go (T' := T56) (g' := (mkF m 22 #[rv b, iv p1] [(.int (Int32.ofNat f)), (.int (2 : Int32)), (.ref aE), (.ref b)])) (st56) ?_
    refine own_go (T' := T56) (g' := (mkF m 23 #[rv b, iv p1] [(.int ((2 : Int32) * (Int32.ofNat f))), (.ref aE), (.ref b)])) (fun t k => XS.imul X56.here hx rfl (hb hby own_d_prog_111_method_2_code_22) rfl k) ?_
    have hfz : f = zE := (own_eqn (by omega) (by omega)).mp hc54
    rw [own_two (by omega)]
    obtain ⟨_, _, ⟨T57, L57, k57, n57⟩, -, X57, ⟨Lc57, hQ57, l57, y57, z57⟩, st57⟩ := Jvm.LawKit.callS X56 hx (y := (⟨"java/util/Arrays", "copyOf", "([II)[I"⟩ : MethodName)) hown (mvT hZ (hw _ (List.mem_of_getElem? (i := 34) rfl))) (mvT hZ (hw _ (List.mem_of_getElem? (i := 35) rfl))) (mvT hZ (hw _ (List.mem_of_getElem? (i := 36) rfl))) (mvT hZ (hw _ (List.mem_of_getElem? (i := 37) rfl))) (by decide) (backOf (W := 1) (own_cpI10 l Z a0 hw [] aE kE zE (2 * f) vE h0 n0 Z0 (by omega) (by omega) V_E) hZ (hw _ (List.mem_of_getElem? (i := 37) rfl)) (hw _ (List.mem_of_getElem? (i := 36) rfl)) (by decide) (by decide)) (g := (mkF m 23 #[rv b, iv p1] [(.int (Int32.ofNat (2 * f))), (.ref aE), (.ref b)])) rfl (by rw [hml]; rfl) (argsL := [(.ref aE), (.int (Int32.ofNat (2 * f)))]) (rest := [(.ref b)]) (lenOf own_pd1 rfl) rfl (by show 2 * 0 + _ ≤ _; exact Nat.le_of_eq rfl) (hb hby own_d_prog_111_method_2_code_23) (fun _ _ => ⟨rfl, e56, (by decide : 0 + 1 ≤ _), (by decide : 0 + 10 ≤ _)⟩)
    dsimp only [Pt.U, Pt.locs, Pt.cells, Pt.slots] at X57 l57 y57 z57 st57 hQ57
    subst l57 y57 z57
    obtain ⟨c_57, k_57, rfl, N57q, ob_57, K_57, vs_57, V_57, lv_57, gv_57⟩ := hQ57
    have N57 := Fr.app N0 N57q
    have nq58 : b ≠ c_57 := Nat.ne_of_lt (Nat.lt_of_lt_of_le E_b.lt ob_57)
    have nq59 : aS ≠ c_57 := Nat.ne_of_lt (Nat.lt_of_lt_of_le V_S.lt ob_57)
    have nq60 : aL ≠ c_57 := Nat.ne_of_lt (Nat.lt_of_lt_of_le V_L.lt ob_57)
    have nq61 : aF ≠ c_57 := Nat.ne_of_lt (Nat.lt_of_lt_of_le V_F.lt ob_57)
    have nq62 : aE ≠ c_57 := Nat.ne_of_lt (Nat.lt_of_lt_of_le V_E.lt ob_57)
    have gq57 : n0 ≤ c_57 := Nat.le_trans Z0 ob_57
    have c63 := E_b.keep K_57
    have c65 := F_s.keep K_57 nin0
    have c66 := F_l.keep K_57 nin0
    have c67 := F_f.keep K_57 nin0
    have c68 := F_e.keep K_57 nin0
    have c69 := F_r.keep K_57 nin0
    have c70 := F_n.keep K_57 nin0
    have c71 := V_S.keep K_57 nin0
    have c72 := V_L.keep K_57 nin0
    have c73 := V_F.keep K_57 nin0
    have c74 := V_E.keep K_57 nin0
    have hz57 : n0 ≤ T57.heap.size := Nat.le_trans Z0 K_57.1
    refine own_go (T' := T57) (g' := (mkF m 26 #[rv b, iv p1] [(.ref c_57), (.ref b)])) (st57) ?_
    obtain ⟨T89, h89, X89, e89, W89, st89⟩ := putF X57 hx hZ hown (host := "") (Or.inl (hw _ (List.mem_of_getElem? (i := 21) rfl))) Via.refl rfl c68 c63 (Or.inl (hw _ (List.mem_of_getElem? (i := 22) rfl))) (hw _ (List.mem_of_getElem? (i := 1) rfl)) (ty := (.array .int)) (by decide) rfl rfl (g := (mkF m 26 #[rv b, iv p1] [(.ref c_57), (.ref b)])) rfl rfl (hb hby own_d_prog_111_method_2_code_26)
    have hz89 : n0 ≤ h89.size := Nat.le_trans hz57 (Keep.of_wr W89).1
    have N89 := Fr.snoc X89 N57 g_b
    have c90 := c63.wr W89
    have c91 := c65.other W89 (Or.inr (slot_ne (Or.inl (hw _ (List.mem_of_getElem? (i := 15) rfl))) (Or.inl (hw _ (List.mem_of_getElem? (i := 22) rfl))) (by decide) (t := (.array .int)) (t' := (.array .int)) (by decide) (by decide)))
    have c92 := c66.other W89 (Or.inr (slot_ne (Or.inl (hw _ (List.mem_of_getElem? (i := 18) rfl))) (Or.inl (hw _ (List.mem_of_getElem? (i := 22) rfl))) (by decide) (t := (.array .long)) (t' := (.array .int)) (by decide) (by decide)))
    have c93 := c67.other W89 (Or.inr (slot_ne (Or.inl (hw _ (List.mem_of_getElem? (i := 20) rfl))) (Or.inl (hw _ (List.mem_of_getElem? (i := 22) rfl))) (by decide) (t := (.array .int)) (t' := (.array .int)) (by decide) (by decide)))
    have c94 := c68.same W89
    have c95 := c69.other W89 (Or.inr (slot_ne (Or.inl (hw _ (List.mem_of_getElem? (i := 51) rfl))) (Or.inl (hw _ (List.mem_of_getElem? (i := 22) rfl))) (by decide) (t := .int) (t' := (.array .int)) (by decide) (by decide)))
    have c96 := c70.other W89 (Or.inr (slot_ne (Or.inl (hw _ (List.mem_of_getElem? (i := 33) rfl))) (Or.inl (hw _ (List.mem_of_getElem? (i := 22) rfl))) (by decide) (t := .int) (t' := (.array .int)) (by decide) (by decide)))
    have c97 := c71.other W89 (Ne.symm d1)
    have c98 := c72.other W89 (Ne.symm d2)
    have c99 := c73.other W89 (Ne.symm d3)
    have c100 := c74.other W89 (Ne.symm d4)
    have c101 := V_57.other W89 (Ne.symm nq58)
    refine own_go (T' := T89) (g' := (mkF m 29 #[rv b, iv p1] [])) (st89) ?_
    refine own_go (T' := T89) (g' := (mkF m 30 #[rv b, iv p1] [(.ref b)])) (fun t k => XS.aloadN X89.here hx rfl (hb hby own_d_prog_111_method_2_code_29) rfl rfl k) ?_
    obtain ⟨T102, X102, e102, st102⟩ := getF X89 hx hZ hown (host := "") (Or.inl (hw _ (List.mem_of_getElem? (i := 21) rfl))) Via.refl e89 c94 (g := (mkF m 30 #[rv b, iv p1] [(.ref b)])) rfl rfl (hb hby own_d_prog_111_method_2_code_30)
    refine own_go (T' := T102) (g' := (mkF m 33 #[rv b, iv p1] [(.ref c_57)])) (st102) ?_
    refine own_go (T' := T102) (g' := (mkF m 34 #[rv b, iv p1] [(.ref b), (.ref c_57)])) (fun t k => XS.aloadN X102.here hx rfl (hb hby own_d_prog_111_method_2_code_33) rfl rfl k) ?_
    refine own_go (T' := T102) (g' := (mkF m 35 #[rv b, iv p1] [(.ref b), (.ref b), (.ref c_57)])) (fun t k => XS.dup X102.here hx rfl (hb hby own_d_prog_111_method_2_code_34) rfl rfl k) ?_
    obtain ⟨T103, X103, e103, st103⟩ := getF X102 hx hZ hown (host := "") (Or.inl (hw _ (List.mem_of_getElem? (i := 32) rfl))) Via.refl e102 c96 (g := (mkF m 35 #[rv b, iv p1] [(.ref b), (.ref b), (.ref c_57)])) rfl rfl (hb hby own_d_prog_111_method_2_code_35)
    refine own_go (T' := T103) (g' := (mkF m 38 #[rv b, iv p1] [(.int (Int32.ofNat f)), (.ref b), (.ref c_57)])) (st103) ?_
    refine own_go (T' := T103) (g' := (mkF m 39 #[rv b, iv p1] [(.int (Int32.ofNat f)), (.ref b), (.int (Int32.ofNat f)), (.ref c_57)])) (fun t k => XS.dupX1 X103.here hx rfl (hb hby own_d_prog_111_method_2_code_38) rfl rfl rfl k) ?_
    refine own_go (T' := T103) (g' := (mkF m 40 #[rv b, iv p1] [(.int (1 : Int32)), (.int (Int32.ofNat f)), (.ref b), (.int (Int32.ofNat f)), (.ref c_57)])) (fun t k => XS.iconst X103.here hx rfl (hb hby own_d_prog_111_method_2_code_39) k) ?_
    refine own_go (T' := T103) (g' := (mkF m 41 #[rv b, iv p1] [(.int ((Int32.ofNat f) + (1 : Int32))), (.ref b), (.int (Int32.ofNat f)), (.ref c_57)])) (fun t k => XS.iadd X103.here hx rfl (hb hby own_d_prog_111_method_2_code_40) rfl k) ?_
    obtain ⟨T104, h104, X104, e104, W104, st104⟩ := putF X103 hx hZ hown (host := "") (Or.inl (hw _ (List.mem_of_getElem? (i := 32) rfl))) Via.refl e103 c96 c90 (Or.inl (hw _ (List.mem_of_getElem? (i := 33) rfl))) (hw _ (List.mem_of_getElem? (i := 1) rfl)) (ty := .int) (by decide) rfl rfl (g := (mkF m 41 #[rv b, iv p1] [(.int ((Int32.ofNat f) + (1 : Int32))), (.ref b), (.int (Int32.ofNat f)), (.ref c_57)])) rfl rfl (hb hby own_d_prog_111_method_2_code_41)
    have hz104 : n0 ≤ h104.size := Nat.le_trans hz89 (Keep.of_wr W104).1
    have N104 := Fr.snoc X104 N89 g_b
    have c105 := c90.wr W104
    have c106 := c91.other W104 (Or.inr (slot_ne (Or.inl (hw _ (List.mem_of_getElem? (i := 15) rfl))) (Or.inl (hw _ (List.mem_of_getElem? (i := 33) rfl))) (by decide) (t := (.array .int)) (t' := .int) (by decide) (by decide)))
    have c107 := c92.other W104 (Or.inr (slot_ne (Or.inl (hw _ (List.mem_of_getElem? (i := 18) rfl))) (Or.inl (hw _ (List.mem_of_getElem? (i := 33) rfl))) (by decide) (t := (.array .long)) (t' := .int) (by decide) (by decide)))
    have c108 := c93.other W104 (Or.inr (slot_ne (Or.inl (hw _ (List.mem_of_getElem? (i := 20) rfl))) (Or.inl (hw _ (List.mem_of_getElem? (i := 33) rfl))) (by decide) (t := (.array .int)) (t' := .int) (by decide) (by decide)))
    have c109 := c94.other W104 (Or.inr (slot_ne (Or.inl (hw _ (List.mem_of_getElem? (i := 22) rfl))) (Or.inl (hw _ (List.mem_of_getElem? (i := 33) rfl))) (by decide) (t := (.array .int)) (t' := .int) (by decide) (by decide)))
    have c110 := c95.other W104 (Or.inr (slot_ne (Or.inl (hw _ (List.mem_of_getElem? (i := 51) rfl))) (Or.inl (hw _ (List.mem_of_getElem? (i := 33) rfl))) (by decide) (t := .int) (t' := .int) (by decide) (by decide)))
    have c111 := c96.same W104
    have c112 := c97.other W104 (Ne.symm d1)
    have c113 := c98.other W104 (Ne.symm d2)
    have c114 := c99.other W104 (Ne.symm d3)
    have c115 := c100.other W104 (Ne.symm d4)
    have c116 := c101.other W104 (Ne.symm nq58)
    refine own_go (T' := T104) (g' := (mkF m 44 #[rv b, iv p1] [(.int (Int32.ofNat f)), (.ref c_57)])) (st104) ?_
    refine own_go (T' := T104) (g' := (mkF m 45 #[rv b, iv p1] [(.int p1), (.int (Int32.ofNat f)), (.ref c_57)])) (fun t k => XS.iloadN X104.here hx rfl (hb hby own_d_prog_111_method_2_code_44) rfl k) ?_
    obtain ⟨cl117, Ar117, q117, Sz117, Nn117, Ha117, Ga117⟩ := id c116
    have hin117 : ¬ ((Int32.ofNat f) < 0 ∨ cl117.slots.size ≤ ((Int32.ofNat f)).toNatClampNeg) := inb_of Sz117 (own_inb (by omega) (by omega))
    obtain ⟨T117, h117, X117, e117, W117, st117⟩ := stI X104 hx hZ e104 Ar117 (j := (Int32.ofNat f)) hin117 (g := (mkF m 45 #[rv b, iv p1] [(.int p1), (.int (Int32.ofNat f)), (.ref c_57)])) rfl rfl (hb hby own_d_prog_111_method_2_code_45)
    have hz117 : n0 ≤ h117.size := Nat.le_trans hz104 (Keep.of_wr W117).1
    have N117 := Fr.snoc X117 N104 gq57
    have c118 := c105.wr W117
    have c119 := c106.other W117 (Or.inl nq58)
    have c120 := c107.other W117 (Or.inl nq58)
    have c121 := c108.other W117 (Or.inl nq58)
    have c122 := c109.other W117 (Or.inl nq58)
    have c123 := c110.other W117 (Or.inl nq58)
    have c124 := c111.other W117 (Or.inl nq58)
    have c125 := c112.other W117 nq59
    have c126 := c113.other W117 nq60
    have c127 := c114.other W117 nq61
    have c128 := c115.other W117 nq62
    have V117 : Arv Z h117 c_57 k_57 .int (Int32.ofNat (2 * f)) (vs_57.set f (.int p1)) (.int (0 : Int32)) := Arv.set Ar117 q117 Sz117 Nn117 Ha117 Ga117 rfl W117 f (own_cl (by omega)) (by rw [lv_57]; omega)
    refine own_go (T' := T117) (g' := (mkF m 46 #[rv b, iv p1] [])) (st117) ?_
    exact own_ret0 X117 hlk hx Bd.returns (hb hby own_d_prog_111_method_2_code_46) (by rw [e117]; exact ⟨rfl, N117, hz117, ⟨aS, aL, aF, c_57, kS, kL, kF, k_57, zS, (2 * f), vS, vL, vF, (vs_57.set f (.int p1)), c118, g_b, c119, c120, c121, c122, c123, (by rw [inc_ofNat]; exact c124), c125, c126, c127, V117, ⟨gS, gL, gF, gq57⟩, ⟨d1, d2, d3, nq58, d5, d6, nq59, d8, nq60, nq61⟩, ⟨(by omega), (by omega), (by omega), (by omega), (by omega), (by omega)⟩, ⟨l1, l2, l3, (by rw [List.length_set]; exact lv_57)⟩, hG⟩⟩) (by decide) (by decide)
  · refine own_go (T' := T52) (g' := (mkF m 29 #[rv b, iv p1] [])) (fun t k => XS.icmpYes X52.here hx rfl (pc0 := 9) (pc' := 29) rfl (hb hby own_d_prog_111_method_2_code_9) rfl (feq hc54).2 (by decide) (by decide) k) ?_
    have hfl : f < zE := by have q := hc54; rw [own_eqn (by omega) (by omega)] at q; omega
    refine own_go (T' := T52) (g' := (mkF m 30 #[rv b, iv p1] [(.ref b)])) (fun t k => XS.aloadN X52.here hx rfl (hb hby own_d_prog_111_method_2_code_29) rfl rfl k) ?_
    obtain ⟨T130, X130, e130, st130⟩ := getF X52 hx hZ hown (host := "") (Or.inl (hw _ (List.mem_of_getElem? (i := 21) rfl))) Via.refl e52 F_e (g := (mkF m 30 #[rv b, iv p1] [(.ref b)])) rfl rfl (hb hby own_d_prog_111_method_2_code_30)
    refine own_go (T' := T130) (g' := (mkF m 33 #[rv b, iv p1] [(.ref aE)])) (st130) ?_
    refine own_go (T' := T130) (g' := (mkF m 34 #[rv b, iv p1] [(.ref b), (.ref aE)])) (fun t k => XS.aloadN X130.here hx rfl (hb hby own_d_prog_111_method_2_code_33) rfl rfl k) ?_
    refine own_go (T' := T130) (g' := (mkF m 35 #[rv b, iv p1] [(.ref b), (.ref b), (.ref aE)])) (fun t k => XS.dup X130.here hx rfl (hb hby own_d_prog_111_method_2_code_34) rfl rfl k) ?_
    obtain ⟨T131, X131, e131, st131⟩ := getF X130 hx hZ hown (host := "") (Or.inl (hw _ (List.mem_of_getElem? (i := 32) rfl))) Via.refl e130 F_n (g := (mkF m 35 #[rv b, iv p1] [(.ref b), (.ref b), (.ref aE)])) rfl rfl (hb hby own_d_prog_111_method_2_code_35)
    refine own_go (T' := T131) (g' := (mkF m 38 #[rv b, iv p1] [(.int (Int32.ofNat f)), (.ref b), (.ref aE)])) (st131) ?_
    refine own_go (T' := T131) (g' := (mkF m 39 #[rv b, iv p1] [(.int (Int32.ofNat f)), (.ref b), (.int (Int32.ofNat f)), (.ref aE)])) (fun t k => XS.dupX1 X131.here hx rfl (hb hby own_d_prog_111_method_2_code_38) rfl rfl rfl k) ?_
    refine own_go (T' := T131) (g' := (mkF m 40 #[rv b, iv p1] [(.int (1 : Int32)), (.int (Int32.ofNat f)), (.ref b), (.int (Int32.ofNat f)), (.ref aE)])) (fun t k => XS.iconst X131.here hx rfl (hb hby own_d_prog_111_method_2_code_39) k) ?_
    refine own_go (T' := T131) (g' := (mkF m 41 #[rv b, iv p1] [(.int ((Int32.ofNat f) + (1 : Int32))), (.ref b), (.int (Int32.ofNat f)), (.ref aE)])) (fun t k => XS.iadd X131.here hx rfl (hb hby own_d_prog_111_method_2_code_40) rfl k) ?_
    obtain ⟨T132, h132, X132, e132, W132, st132⟩ := putF X131 hx hZ hown (host := "") (Or.inl (hw _ (List.mem_of_getElem? (i := 32) rfl))) Via.refl e131 F_n E_b (Or.inl (hw _ (List.mem_of_getElem? (i := 33) rfl))) (hw _ (List.mem_of_getElem? (i := 1) rfl)) (ty := .int) (by decide) rfl rfl (g := (mkF m 41 #[rv b, iv p1] [(.int ((Int32.ofNat f) + (1 : Int32))), (.ref b), (.int (Int32.ofNat f)), (.ref aE)])) rfl rfl (hb hby own_d_prog_111_method_2_code_41)
    have hz132 : n0 ≤ h132.size := Nat.le_trans Z0 (Keep.of_wr W132).1
    have N132 := Fr.snoc X132 N0 g_b
    have c133 := E_b.wr W132
    have c134 := F_s.other W132 (Or.inr (slot_ne (Or.inl (hw _ (List.mem_of_getElem? (i := 15) rfl))) (Or.inl (hw _ (List.mem_of_getElem? (i := 33) rfl))) (by decide) (t := (.array .int)) (t' := .int) (by decide) (by decide)))
    have c135 := F_l.other W132 (Or.inr (slot_ne (Or.inl (hw _ (List.mem_of_getElem? (i := 18) rfl))) (Or.inl (hw _ (List.mem_of_getElem? (i := 33) rfl))) (by decide) (t := (.array .long)) (t' := .int) (by decide) (by decide)))
    have c136 := F_f.other W132 (Or.inr (slot_ne (Or.inl (hw _ (List.mem_of_getElem? (i := 20) rfl))) (Or.inl (hw _ (List.mem_of_getElem? (i := 33) rfl))) (by decide) (t := (.array .int)) (t' := .int) (by decide) (by decide)))
    have c137 := F_e.other W132 (Or.inr (slot_ne (Or.inl (hw _ (List.mem_of_getElem? (i := 22) rfl))) (Or.inl (hw _ (List.mem_of_getElem? (i := 33) rfl))) (by decide) (t := (.array .int)) (t' := .int) (by decide) (by decide)))
    have c138 := F_r.other W132 (Or.inr (slot_ne (Or.inl (hw _ (List.mem_of_getElem? (i := 51) rfl))) (Or.inl (hw _ (List.mem_of_getElem? (i := 33) rfl))) (by decide) (t := .int) (t' := .int) (by decide) (by decide)))
    have c139 := F_n.same W132
    have c140 := V_S.other W132 (Ne.symm d1)
    have c141 := V_L.other W132 (Ne.symm d2)
    have c142 := V_F.other W132 (Ne.symm d3)
    have c143 := V_E.other W132 (Ne.symm d4)
    refine own_go (T' := T132) (g' := (mkF m 44 #[rv b, iv p1] [(.int (Int32.ofNat f)), (.ref aE)])) (st132) ?_
    refine own_go (T' := T132) (g' := (mkF m 45 #[rv b, iv p1] [(.int p1), (.int (Int32.ofNat f)), (.ref aE)])) (fun t k => XS.iloadN X132.here hx rfl (hb hby own_d_prog_111_method_2_code_44) rfl k) ?_
    obtain ⟨cl144, Ar144, q144, Sz144, Nn144, Ha144, Ga144⟩ := id c143
    have hin144 : ¬ ((Int32.ofNat f) < 0 ∨ cl144.slots.size ≤ ((Int32.ofNat f)).toNatClampNeg) := inb_of Sz144 (own_inb (by omega) (by omega))
    obtain ⟨T144, h144, X144, e144, W144, st144⟩ := stI X132 hx hZ e132 Ar144 (j := (Int32.ofNat f)) hin144 (g := (mkF m 45 #[rv b, iv p1] [(.int p1), (.int (Int32.ofNat f)), (.ref aE)])) rfl rfl (hb hby own_d_prog_111_method_2_code_45)
    have hz144 : n0 ≤ h144.size := Nat.le_trans hz132 (Keep.of_wr W144).1
    have N144 := Fr.snoc X144 N132 gE
    have c145 := c133.wr W144
    have c146 := c134.other W144 (Or.inl d4)
    have c147 := c135.other W144 (Or.inl d4)
    have c148 := c136.other W144 (Or.inl d4)
    have c149 := c137.other W144 (Or.inl d4)
    have c150 := c138.other W144 (Or.inl d4)
    have c151 := c139.other W144 (Or.inl d4)
    have c152 := c140.other W144 d7
    have c153 := c141.other W144 d9
    have c154 := c142.other W144 d10
    have V144 : Arv Z h144 aE kE .int (Int32.ofNat zE) (vE.set f (.int p1)) (.int (0 : Int32)) := Arv.set Ar144 q144 Sz144 Nn144 Ha144 Ga144 rfl W144 f (own_cl (by omega)) (by rw [l4]; omega)
    refine own_go (T' := T144) (g' := (mkF m 46 #[rv b, iv p1] [])) (st144) ?_
    exact own_ret0 X144 hlk hx Bd.returns (hb hby own_d_prog_111_method_2_code_46) (by rw [e144]; exact ⟨rfl, N144, hz144, ⟨aS, aL, aF, aE, kS, kL, kF, kE, zS, zE, vS, vL, vF, (vE.set f (.int p1)), c145, g_b, c146, c147, c148, c149, c150, (by rw [inc_ofNat]; exact c151), c152, c153, c154, V144, ⟨gS, gL, gF, gE⟩, ⟨d1, d2, d3, d4, d5, d6, d7, d8, d9, d10⟩, ⟨(by omega), (by omega), (by omega), (by omega), (by omega), (by omega)⟩, ⟨l1, l2, l3, (by rw [List.length_set]; exact l4)⟩, hG⟩⟩) (by decide) (by decide)

theorem own_rbx {Z : State} {h : Heap} {n0 : Nat} {b : Addr} {r f : Nat} {G : Nat → Int32} (RB : own_RB Z h n0 b r f G) : Exa Z h b "com/example/tierwright/tierwright/table/RowBounds" := by
  obtain ⟨_, _, _, _, _, _, _, _, _, _, _, _, _, _, E, _⟩ := RB; exact E

theorem own_pd2 : parseMethodDescriptor "(I)V" = some ⟨[.int], none⟩ := by decide +kernel
theorem own_d_method_3_code_0 : decode method_3_code 0 = .ok (.iload_n 1, 1) := by decide +kernel
theorem own_d_method_3_code_1 : decode method_3_code 1 = .ok (.iconst 1, 1) := by decide +kernel
theorem own_d_method_3_code_2 : decode method_3_code 2 = .ok (.if_icmp .lt 8, 3) := by decide +kernel
theorem own_d_method_3_code_5 : decode method_3_code 5 = .ok (.aload_n 0, 1) := by decide +kernel
theorem own_d_method_3_code_6 : decode method_3_code 6 = .ok (.iload_n 2, 1) := by decide +kernel
theorem own_d_method_3_code_7 : decode method_3_code 7 = .ok (.invokevirtual 33, 3) := by decide +kernel
theorem own_d_method_3_code_10 : decode method_3_code 10 = .ok (.iload_n 1, 1) := by decide +kernel
theorem own_d_method_3_code_11 : decode method_3_code 11 = .ok (.iconst 2, 1) := by decide +kernel
theorem own_d_method_3_code_12 : decode method_3_code 12 = .ok (.if_icmp .lt 8, 3) := by decide +kernel
theorem own_d_method_3_code_15 : decode method_3_code 15 = .ok (.aload_n 0, 1) := by decide +kernel
theorem own_d_method_3_code_16 : decode method_3_code 16 = .ok (.iload_n 2, 1) := by decide +kernel
theorem own_d_method_3_code_17 : decode method_3_code 17 = .ok (.invokevirtual 33, 3) := by decide +kernel
theorem own_d_method_3_code_20 : decode method_3_code 20 = .ok (.iload_n 1, 1) := by decide +kernel
theorem own_d_method_3_code_21 : decode method_3_code 21 = .ok (.iconst 3, 1) := by decide +kernel
theorem own_d_method_3_code_22 : decode method_3_code 22 = .ok (.if_icmp .lt 8, 3) := by decide +kernel
theorem own_d_method_3_code_25 : decode method_3_code 25 = .ok (.aload_n 0, 1) := by decide +kernel
theorem own_d_method_3_code_26 : decode method_3_code 26 = .ok (.iload_n 2, 1) := by decide +kernel
theorem own_d_method_3_code_27 : decode method_3_code 27 = .ok (.invokevirtual 33, 3) := by decide +kernel
theorem own_d_method_3_code_30 : decode method_3_code 30 = .ok (.return_, 1) := by decide +kernel
def Q_own_rnote (Z : State) (b : Addr) (n r f : Nat) (G : Nat → Int32) (h0 : Heap) (n0 : Nat) (v : Option Value) (h : Heap) (L : List Loc) : Prop := v = none ∧ Fr n0 L ∧ n0 ≤ h.size ∧ own_RB Z h n0 b r (f + n) G
set_option maxRecDepth 65536 in
set_option maxHeartbeats 40000000 in
theorem own_rnote (l : Launch) (Z : State) (a0 : Array Value) (hw : ∀ d ∈ tables_1, d.before a0 Z = true) (ws : List Jvm.Cond) (b : Addr) (n : Nat) (p2 : Int32) (r f : Nat) (G : Nat → Int32) (h0 : Heap) (n0 : Nat) (Z0 : n0 ≤ h0.size) (hn : n = 0 ∨ n = 1 ∨ n = 2 ∨ n = 3) (hf : f ≤ 3) (RB : own_RB Z h0 n0 b r f G) :
    MetFree l (⟨"com/example/tierwright/tierwright/table/RowBoundsFieldsPinLaw", "note", "(Lcom/example/tierwright/tierwright/table/RowBounds;II)V"⟩ : MethodName) (head1 (Jvm.Cond.code (⟨"com/example/tierwright/tierwright/table/RowBoundsFieldsPinLaw", "note", "(Lcom/example/tierwright/tierwright/table/RowBounds;II)V"⟩ : MethodName) method_3_code 3 none :: ws) ({ frames := 3, cells := 3, slots := 30, locals := 58 } : Room)) (fun au Uu => au = #[(.ref b), (.int (Int32.ofNat n)), (.int p2)] ∧ Z.Warmed39 Uu.vm ∧ Uu.heap = h0) (fun _ _ _ _ _ => True) (fun _ Uu ou Uw => ∃ vu Lu, ou = .returned vu ∧ Q_own_rnote Z b n r f G h0 n0 vu Uw.heap Lu ∧ FrameEnd Uu ou Uw Lu ({ frames := 3, cells := 3, slots := 30, locals := 58 } : Room).cells ({ frames := 3, cells := 3, slots := 30, locals := 58 } : Room).slots) := by
  refine MetFree.of_bodySF (plainFor_of_name (by first | (simp [plainName, overriddenIn]; done) | decide +kernel)) hisR ?_
  intro p e s m args below meth c s₁ Bd hml0 hP hK
  obtain ⟨rfl, hZ, hh⟩ := hP
  have hx := Bd.exec
  have hby := Bd.bytes
  have hlk := Bd.notSynchronized
  have hml : c.maxLocals = 3 := hml0
  have hown : s.vm.findClass "com/example/tierwright/tierwright/table/RowBoundsFieldsPinLaw" = some m.cls := findClass_of_methodNamed Bd.named
  have hnm := (name_of_methodNamed Bd.named Bd.method).1
  have X0 : Stand p l e ({ frames := 3, cells := 3, slots := 30, locals := 58 } : Room) s m #[(.ref b), (.int (Int32.ofNat n)), (.int p2)] below meth c s₁ [] 0 0 := Stand.of_body Bd
  have e0 : s₁.heap = h0 := by rw [← hh, Bd.state]; rfl
  have N0 := Fr.nil n0
  show own_Ends p e below s₁ (entryFrame m #[(.ref b), (.int (Int32.ofNat n)), (.int p2)] 3) (fun ou Uw => ∃ vu Lu, ou = .returned vu ∧ Q_own_rnote Z b n r f G h0 n0 vu Uw.heap Lu ∧ FrameEnd s ou Uw Lu ({ frames := 3, cells := 3, slots := 30, locals := 58 } : Room).cells ({ frames := 3, cells := 3, slots := 30, locals := 58 } : Room).slots)
  refine own_start (g' := (mkF m 0 #[rv b, iv (Int32.ofNat n), iv p2] [])) (by first | (simp [entryFrame, mkF, argsToLocals, Value.category, iv, rv]; done) | rfl) ?_
  rcases hn with rfl | rfl | rfl | rfl
  · refine own_go (T' := s₁) (g' := (mkF m 1 #[rv b, iv (0 : Int32), iv p2] [(.int (0 : Int32))])) (fun t k => XS.iloadN X0.here hx rfl (hb hby own_d_method_3_code_0) rfl k) ?_
    refine own_go (T' := s₁) (g' := (mkF m 2 #[rv b, iv (0 : Int32), iv p2] [(.int (1 : Int32)), (.int (0 : Int32))])) (fun t k => XS.iconst X0.here hx rfl (hb hby own_d_method_3_code_1) k) ?_
    refine own_go (T' := s₁) (g' := (mkF m 10 #[rv b, iv (0 : Int32), iv p2] [])) (fun t k => XS.icmpYes X0.here hx rfl (pc0 := 2) (pc' := 10) rfl (hb hby own_d_method_3_code_2) rfl (tlt (by decide : ((0 : Int32) < (1 : Int32)))).1 (by decide) (by decide) k) ?_
    refine own_go (T' := s₁) (g' := (mkF m 11 #[rv b, iv (0 : Int32), iv p2] [(.int (0 : Int32))])) (fun t k => XS.iloadN X0.here hx rfl (hb hby own_d_method_3_code_10) rfl k) ?_
    refine own_go (T' := s₁) (g' := (mkF m 12 #[rv b, iv (0 : Int32), iv p2] [(.int (2 : Int32)), (.int (0 : Int32))])) (fun t k => XS.iconst X0.here hx rfl (hb hby own_d_method_3_code_11) k) ?_
    refine own_go (T' := s₁) (g' := (mkF m 20 #[rv b, iv (0 : Int32), iv p2] [])) (fun t k => XS.icmpYes X0.here hx rfl (pc0 := 12) (pc' := 20) rfl (hb hby own_d_method_3_code_12) rfl (tlt (by decide : ((0 : Int32) < (2 : Int32)))).1 (by decide) (by decide) k) ?_
    refine own_go (T' := s₁) (g' := (mkF m 21 #[rv b, iv (0 : Int32), iv p2] [(.int (0 : Int32))])) (fun t k => XS.iloadN X0.here hx rfl (hb hby own_d_method_3_code_20) rfl k) ?_
    refine own_go (T' := s₁) (g' := (mkF m 22 #[rv b, iv (0 : Int32), iv p2] [(.int (3 : Int32)), (.int (0 : Int32))])) (fun t k => XS.iconst X0.here hx rfl (hb hby own_d_method_3_code_21) k) ?_
    refine own_go (T' := s₁) (g' := (mkF m 30 #[rv b, iv (0 : Int32), iv p2] [])) (fun t k => XS.icmpYes X0.here hx rfl (pc0 := 22) (pc' := 30) rfl (hb hby own_d_method_3_code_22) rfl (tlt (by decide : ((0 : Int32) < (3 : Int32)))).1 (by decide) (by decide) k) ?_
    exact own_ret0 X0 hlk hx Bd.returns (hb hby own_d_method_3_code_30) (by rw [e0]; exact ⟨rfl, N0, Z0, RB⟩) (by decide) (by decide)
  · refine own_go (T' := s₁) (g' := (mkF m 1 #[rv b, iv (1 : Int32), iv p2] [(.int (1 : Int32))])) (fun t k => XS.iloadN X0.here hx rfl (hb hby own_d_method_3_code_0) rfl k) ?_
    refine own_go (T' := s₁) (g' := (mkF m 2 #[rv b, iv (1 : Int32), iv p2] [(.int (1 : Int32)), (.int (1 : Int32))])) (fun t k => XS.iconst X0.here hx rfl (hb hby own_d_method_3_code_1) k) ?_
    refine own_go (T' := s₁) (g' := (mkF m 5 #[rv b, iv (1 : Int32), iv p2] [])) (fun t k => XS.icmpNo X0.here hx rfl (hb hby own_d_method_3_code_2) rfl (flt (by decide : ¬ ((1 : Int32) < (1 : Int32)))).1 k) ?_
    refine own_go (T' := s₁) (g' := (mkF m 6 #[rv b, iv (1 : Int32), iv p2] [(.ref b)])) (fun t k => XS.aloadN X0.here hx rfl (hb hby own_d_method_3_code_5) rfl rfl k) ?_
    refine own_go (T' := s₁) (g' := (mkF m 7 #[rv b, iv (1 : Int32), iv p2] [(.int p2), (.ref b)])) (fun t k => XS.iloadN X0.here hx rfl (hb hby own_d_method_3_code_6) rfl k) ?_
    obtain ⟨cq156, kq156, q156a, q156b, q156c⟩ := isOf hZ e0 (own_rbx RB)
    obtain ⟨_, _, ⟨T156, L156, k156, n156⟩, -, X156, ⟨Lc156, hQ156, l156, y156, z156⟩, st156⟩ := X0.virtualBack hx (y := (⟨"com/example/tierwright/tierwright/table/RowBounds", "endField", "(I)V"⟩ : MethodName)) (z := (⟨"com/example/tierwright/tierwright/table/RowBounds", "endField", "(I)V"⟩ : MethodName)) hown (mvT hZ (hw _ (List.mem_of_getElem? (i := 27) rfl))) (mvT hZ (hw _ (List.mem_of_getElem? (i := 28) rfl))) (notFace_of_selects (args := #[]) (mvT hZ (hw _ (List.mem_of_getElem? (i := 30) rfl)))) (mvT hZ (hw _ (List.mem_of_getElem? (i := 30) rfl))) (mvT hZ (hw _ (List.mem_of_getElem? (i := 29) rfl))) (by decide) (backOf (W := 0) (own_ref l Z a0 hw [] b p2 r f G h0 n0 Z0 (by omega) RB) hZ (hw _ (List.mem_of_getElem? (i := 31) rfl)) (hw _ (List.mem_of_getElem? (i := 2) rfl)) (by decide) (by decide)) q156a q156c (g := (mkF m 7 #[rv b, iv (1 : Int32), iv p2] [(.int p2), (.ref b)])) rfl (by rw [hml]; rfl) (Steps.refl _) (argsL := [(.int p2)]) (rest := []) (lenOf own_pd2 rfl) rfl (by show 2 * 0 + _ ≤ _; exact Nat.le_of_eq rfl) (hb hby own_d_method_3_code_7) (fun _ _ => ⟨rfl, e0, (by decide : 0 + 1 ≤ _), (by decide : 0 + 10 ≤ _)⟩)
    dsimp only [Pt.U, Pt.locs, Pt.cells, Pt.slots] at X156 l156 y156 z156 st156 hQ156
    subst l156 y156 z156
    obtain ⟨rfl, N156q, hz_156, rb_156⟩ := hQ156
    have N156 := Fr.app N0 N156q
    refine own_go (T' := T156) (g' := (mkF m 10 #[rv b, iv (1 : Int32), iv p2] [])) (fun t k => st156.trans k) ?_
    refine own_go (T' := T156) (g' := (mkF m 11 #[rv b, iv (1 : Int32), iv p2] [(.int (1 : Int32))])) (fun t k => XS.iloadN X156.here hx rfl (hb hby own_d_method_3_code_10) rfl k) ?_
    refine own_go (T' := T156) (g' := (mkF m 12 #[rv b, iv (1 : Int32), iv p2] [(.int (2 : Int32)), (.int (1 : Int32))])) (fun t k => XS.iconst X156.here hx rfl (hb hby own_d_method_3_code_11) k) ?_
    refine own_go (T' := T156) (g' := (mkF m 20 #[rv b, iv (1 : Int32), iv p2] [])) (fun t k => XS.icmpYes X156.here hx rfl (pc0 := 12) (pc' := 20) rfl (hb hby own_d_method_3_code_12) rfl (tlt (by decide : ((1 : Int32) < (2 : Int32)))).1 (by decide) (by decide) k) ?_
    refine own_go (T' := T156) (g' := (mkF m 21 #[rv b, iv (1 : Int32), iv p2] [(.int (1 : Int32))])) (fun t k => XS.iloadN X156.here hx rfl (hb hby own_d_method_3_code_20) rfl k) ?_
    refine own_go (T' := T156) (g' := (mkF m 22 #[rv b, iv (1 : Int32), iv p2] [(.int (3 : Int32)), (.int (1 : Int32))])) (fun t k => XS.iconst X156.here hx rfl (hb hby own_d_method_3_code_21) k) ?_
    refine own_go (T' := T156) (g' := (mkF m 30 #[rv b, iv (1 : Int32), iv p2] [])) (fun t k => XS.icmpYes X156.here hx rfl (pc0 := 22) (pc' := 30) rfl (hb hby own_d_method_3_code_22) rfl (tlt (by decide : ((1 : Int32) < (3 : Int32)))).1 (by decide) (by decide) k) ?_
    exact own_ret0 X156 hlk hx Bd.returns (hb hby own_d_method_3_code_30) ⟨rfl, N156, hz_156, rb_156⟩ (by decide) (by decide)
  · refine own_go (T' := s₁) (g' := (mkF m 1 #[rv b, iv (2 : Int32), iv p2] [(.int (2 : Int32))])) (fun t k => XS.iloadN X0.here hx rfl (hb hby own_d_method_3_code_0) rfl k) ?_
    refine own_go (T' := s₁) (g' := (mkF m 2 #[rv b, iv (2 : Int32), iv p2] [(.int (1 : Int32)), (.int (2 : Int32))])) (fun t k => XS.iconst X0.here hx rfl (hb hby own_d_method_3_code_1) k) ?_
    refine own_go (T' := s₁) (g' := (mkF m 5 #[rv b, iv (2 : Int32), iv p2] [])) (fun t k => XS.icmpNo X0.here hx rfl (hb hby own_d_method_3_code_2) rfl (flt (by decide : ¬ ((2 : Int32) < (1 : Int32)))).1 k) ?_
    refine own_go (T' := s₁) (g' := (mkF m 6 #[rv b, iv (2 : Int32), iv p2] [(.ref b)])) (fun t k => XS.aloadN X0.here hx rfl (hb hby own_d_method_3_code_5) rfl rfl k) ?_
    refine own_go (T' := s₁) (g' := (mkF m 7 #[rv b, iv (2 : Int32), iv p2] [(.int p2), (.ref b)])) (fun t k => XS.iloadN X0.here hx rfl (hb hby own_d_method_3_code_6) rfl k) ?_
    obtain ⟨cq157, kq157, q157a, q157b, q157c⟩ := isOf hZ e0 (own_rbx RB)
    obtain ⟨_, _, ⟨T157, L157, k157, n157⟩, -, X157, ⟨Lc157, hQ157, l157, y157, z157⟩, st157⟩ := X0.virtualBack hx (y := (⟨"com/example/tierwright/tierwright/table/RowBounds", "endField", "(I)V"⟩ : MethodName)) (z := (⟨"com/example/tierwright/tierwright/table/RowBounds", "endField", "(I)V"⟩ : MethodName)) hown (mvT hZ (hw _ (List.mem_of_getElem? (i := 27) rfl))) (mvT hZ (hw _ (List.mem_of_getElem? (i := 28) rfl))) (notFace_of_selects (args := #[]) (mvT hZ (hw _ (List.mem_of_getElem? (i := 30) rfl)))) (mvT hZ (hw _ (List.mem_of_getElem? (i := 30) rfl))) (mvT hZ (hw _ (List.mem_of_getElem? (i := 29) rfl))) (by decide) (backOf (W := 0) (own_ref l Z a0 hw [] b p2 r f G h0 n0 Z0 (by omega) RB) hZ (hw _ (List.mem_of_getElem? (i := 31) rfl)) (hw _ (List.mem_of_getElem? (i := 2) rfl)) (by decide) (by decide)) q157a q157c (g := (mkF m 7 #[rv b, iv (2 : Int32), iv p2] [(.int p2), (.ref b)])) rfl (by rw [hml]; rfl) (Steps.refl _) (argsL := [(.int p2)]) (rest := []) (lenOf own_pd2 rfl) rfl (by show 2 * 0 + _ ≤ _; exact Nat.le_of_eq rfl) (hb hby own_d_method_3_code_7) (fun _ _ => ⟨rfl, e0, (by decide : 0 + 1 ≤ _), (by decide : 0 + 10 ≤ _)⟩)
    dsimp only [Pt.U, Pt.locs, Pt.cells, Pt.slots] at X157 l157 y157 z157 st157 hQ157
    subst l157 y157 z157
    obtain ⟨rfl, N157q, hz_157, rb_157⟩ := hQ157
    have N157 := Fr.app N0 N157q
    refine own_go (T' := T157) (g' := (mkF m 10 #[rv b, iv (2 : Int32), iv p2] [])) (fun t k => st157.trans k) ?_
    refine own_go (T' := T157) (g' := (mkF m 11 #[rv b, iv (2 : Int32), iv p2] [(.int (2 : Int32))])) (fun t k => XS.iloadN X157.here hx rfl (hb hby own_d_method_3_code_10) rfl k) ?_
    refine own_go (T' := T157) (g' := (mkF m 12 #[rv b, iv (2 : Int32), iv p2] [(.int (2 : Int32)), (.int (2 : Int32))])) (fun t k => XS.iconst X157.here hx rfl (hb hby own_d_method_3_code_11) k) ?_
    refine own_go (T' := T157) (g' := (mkF m 15 #[rv b, iv (2 : Int32), iv p2] [])) (fun t k => XS.icmpNo X157.here hx rfl (hb hby own_d_method_3_code_12) rfl (flt (by decide : ¬ ((2 : Int32) < (2 : Int32)))).1 k) ?_
    refine own_go (T' := T157) (g' := (mkF m 16 #[rv b, iv (2 : Int32), iv p2] [(.ref b)])) (fun t k => XS.aloadN X157.here hx rfl (hb hby own_d_method_3_code_15) rfl rfl k) ?_
    refine own_go (T' := T157) (g' := (mkF m 17 #[rv b, iv (2 : Int32), iv p2] [(.int p2), (.ref b)])) (fun t k => XS.iloadN X157.here hx rfl (hb hby own_d_method_3_code_16) rfl k) ?_
    obtain ⟨cq158, kq158, q158a, q158b, q158c⟩ := isOf hZ rfl (own_rbx rb_157)
    obtain ⟨_, _, ⟨T158, L158, k158, n158⟩, -, X158, ⟨Lc158, hQ158, l158, y158, z158⟩, st158⟩ := X157.virtualBack hx (y := (⟨"com/example/tierwright/tierwright/table/RowBounds", "endField", "(I)V"⟩ : MethodName)) (z := (⟨"com/example/tierwright/tierwright/table/RowBounds", "endField", "(I)V"⟩ : MethodName)) hown (mvT hZ (hw _ (List.mem_of_getElem? (i := 27) rfl))) (mvT hZ (hw _ (List.mem_of_getElem? (i := 28) rfl))) (notFace_of_selects (args := #[]) (mvT hZ (hw _ (List.mem_of_getElem? (i := 30) rfl)))) (mvT hZ (hw _ (List.mem_of_getElem? (i := 30) rfl))) (mvT hZ (hw _ (List.mem_of_getElem? (i := 29) rfl))) (by decide) (backOf (W := 0) (own_ref l Z a0 hw [] b p2 r (f + 1) G T157.heap n0 hz_157 (by omega) rb_157) hZ (hw _ (List.mem_of_getElem? (i := 31) rfl)) (hw _ (List.mem_of_getElem? (i := 2) rfl)) (by decide) (by decide)) q158a q158c (g := (mkF m 17 #[rv b, iv (2 : Int32), iv p2] [(.int p2), (.ref b)])) rfl (by rw [hml]; rfl) (Steps.refl _) (argsL := [(.int p2)]) (rest := []) (lenOf own_pd2 rfl) rfl (by show 2 * 0 + _ ≤ _; exact Nat.le_of_eq rfl) (hb hby own_d_method_3_code_17) (fun _ _ => ⟨rfl, rfl, (by decide : 1 + 1 ≤ _), (by decide : 10 + 10 ≤ _)⟩)
    dsimp only [Pt.U, Pt.locs, Pt.cells, Pt.slots] at X158 l158 y158 z158 st158 hQ158
    subst l158 y158 z158
    obtain ⟨rfl, N158q, hz_158, rb_158⟩ := hQ158
    have N158 := Fr.app N157 N158q
    refine own_go (T' := T158) (g' := (mkF m 20 #[rv b, iv (2 : Int32), iv p2] [])) (fun t k => st158.trans k) ?_
    refine own_go (T' := T158) (g' := (mkF m 21 #[rv b, iv (2 : Int32), iv p2] [(.int (2 : Int32))])) (fun t k => XS.iloadN X158.here hx rfl (hb hby own_d_method_3_code_20) rfl k) ?_
    refine own_go (T' := T158) (g' := (mkF m 22 #[rv b, iv (2 : Int32), iv p2] [(.int (3 : Int32)), (.int (2 : Int32))])) (fun t k => XS.iconst X158.here hx rfl (hb hby own_d_method_3_code_21) k) ?_
    refine own_go (T' := T158) (g' := (mkF m 30 #[rv b, iv (2 : Int32), iv p2] [])) (fun t k => XS.icmpYes X158.here hx rfl (pc0 := 22) (pc' := 30) rfl (hb hby own_d_method_3_code_22) rfl (tlt (by decide : ((2 : Int32) < (3 : Int32)))).1 (by decide) (by decide) k) ?_
    exact own_ret0 X158 hlk hx Bd.returns (hb hby own_d_method_3_code_30) ⟨rfl, N158, hz_158, rb_158⟩ (by decide) (by decide)
  · refine own_go (T' := s₁) (g' := (mkF m 1 #[rv b, iv (3 : Int32), iv p2] [(.int (3 : Int32))])) (fun t k => XS.iloadN X0.here hx rfl (hb hby own_d_method_3_code_0) rfl k) ?_
    refine own_go (T' := s₁) (g' := (mkF m 2 #[rv b, iv (3 : Int32), iv p2] [(.int (1 : Int32)), (.int (3 : Int32))])) (fun t k => XS.iconst X0.here hx rfl (hb hby own_d_method_3_code_1) k) ?_
    refine own_go (T' := s₁) (g' := (mkF m 5 #[rv b, iv (3 : Int32), iv p2] [])) (fun t k => XS.icmpNo X0.here hx rfl (hb hby own_d_method_3_code_2) rfl (flt (by decide : ¬ ((3 : Int32) < (1 : Int32)))).1 k) ?_
    refine own_go (T' := s₁) (g' := (mkF m 6 #[rv b, iv (3 : Int32), iv p2] [(.ref b)])) (fun t k => XS.aloadN X0.here hx rfl (hb hby own_d_method_3_code_5) rfl rfl k) ?_
    refine own_go (T' := s₁) (g' := (mkF m 7 #[rv b, iv (3 : Int32), iv p2] [(.int p2), (.ref b)])) (fun t k => XS.iloadN X0.here hx rfl (hb hby own_d_method_3_code_6) rfl k) ?_
    obtain ⟨cq159, kq159, q159a, q159b, q159c⟩ := isOf hZ e0 (own_rbx RB)
    obtain ⟨_, _, ⟨T159, L159, k159, n159⟩, -, X159, ⟨Lc159, hQ159, l159, y159, z159⟩, st159⟩ := X0.virtualBack hx (y := (⟨"com/example/tierwright/tierwright/table/RowBounds", "endField", "(I)V"⟩ : MethodName)) (z := (⟨"com/example/tierwright/tierwright/table/RowBounds", "endField", "(I)V"⟩ : MethodName)) hown (mvT hZ (hw _ (List.mem_of_getElem? (i := 27) rfl))) (mvT hZ (hw _ (List.mem_of_getElem? (i := 28) rfl))) (notFace_of_selects (args := #[]) (mvT hZ (hw _ (List.mem_of_getElem? (i := 30) rfl)))) (mvT hZ (hw _ (List.mem_of_getElem? (i := 30) rfl))) (mvT hZ (hw _ (List.mem_of_getElem? (i := 29) rfl))) (by decide) (backOf (W := 0) (own_ref l Z a0 hw [] b p2 r f G h0 n0 Z0 (by omega) RB) hZ (hw _ (List.mem_of_getElem? (i := 31) rfl)) (hw _ (List.mem_of_getElem? (i := 2) rfl)) (by decide) (by decide)) q159a q159c (g := (mkF m 7 #[rv b, iv (3 : Int32), iv p2] [(.int p2), (.ref b)])) rfl (by rw [hml]; rfl) (Steps.refl _) (argsL := [(.int p2)]) (rest := []) (lenOf own_pd2 rfl) rfl (by show 2 * 0 + _ ≤ _; exact Nat.le_of_eq rfl) (hb hby own_d_method_3_code_7) (fun _ _ => ⟨rfl, e0, (by decide : 0 + 1 ≤ _), (by decide : 0 + 10 ≤ _)⟩)
    dsimp only [Pt.U, Pt.locs, Pt.cells, Pt.slots] at X159 l159 y159 z159 st159 hQ159
    subst l159 y159 z159
    obtain ⟨rfl, N159q, hz_159, rb_159⟩ := hQ159
    have N159 := Fr.app N0 N159q
    refine own_go (T' := T159) (g' := (mkF m 10 #[rv b, iv (3 : Int32), iv p2] [])) (fun t k => st159.trans k) ?_
    refine own_go (T' := T159) (g' := (mkF m 11 #[rv b, iv (3 : Int32), iv p2] [(.int (3 : Int32))])) (fun t k => XS.iloadN X159.here hx rfl (hb hby own_d_method_3_code_10) rfl k) ?_
    refine own_go (T' := T159) (g' := (mkF m 12 #[rv b, iv (3 : Int32), iv p2] [(.int (2 : Int32)), (.int (3 : Int32))])) (fun t k => XS.iconst X159.here hx rfl (hb hby own_d_method_3_code_11) k) ?_
    refine own_go (T' := T159) (g' := (mkF m 15 #[rv b, iv (3 : Int32), iv p2] [])) (fun t k => XS.icmpNo X159.here hx rfl (hb hby own_d_method_3_code_12) rfl (flt (by decide : ¬ ((3 : Int32) < (2 : Int32)))).1 k) ?_
    refine own_go (T' := T159) (g' := (mkF m 16 #[rv b, iv (3 : Int32), iv p2] [(.ref b)])) (fun t k => XS.aloadN X159.here hx rfl (hb hby own_d_method_3_code_15) rfl rfl k) ?_
    refine own_go (T' := T159) (g' := (mkF m 17 #[rv b, iv (3 : Int32), iv p2] [(.int p2), (.ref b)])) (fun t k => XS.iloadN X159.here hx rfl (hb hby own_d_method_3_code_16) rfl k) ?_
    obtain ⟨cq160, kq160, q160a, q160b, q160c⟩ := isOf hZ rfl (own_rbx rb_159)
    obtain ⟨_, _, ⟨T160, L160, k160, n160⟩, -, X160, ⟨Lc160, hQ160, l160, y160, z160⟩, st160⟩ := X159.virtualBack hx (y := (⟨"com/example/tierwright/tierwright/table/RowBounds", "endField", "(I)V"⟩ : MethodName)) (z := (⟨"com/example/tierwright/tierwright/table/RowBounds", "endField", "(I)V"⟩ : MethodName)) hown (mvT hZ (hw _ (List.mem_of_getElem? (i := 27) rfl))) (mvT hZ (hw _ (List.mem_of_getElem? (i := 28) rfl))) (notFace_of_selects (args := #[]) (mvT hZ (hw _ (List.mem_of_getElem? (i := 30) rfl)))) (mvT hZ (hw _ (List.mem_of_getElem? (i := 30) rfl))) (mvT hZ (hw _ (List.mem_of_getElem? (i := 29) rfl))) (by decide) (backOf (W := 0) (own_ref l Z a0 hw [] b p2 r (f + 1) G T159.heap n0 hz_159 (by omega) rb_159) hZ (hw _ (List.mem_of_getElem? (i := 31) rfl)) (hw _ (List.mem_of_getElem? (i := 2) rfl)) (by decide) (by decide)) q160a q160c (g := (mkF m 17 #[rv b, iv (3 : Int32), iv p2] [(.int p2), (.ref b)])) rfl (by rw [hml]; rfl) (Steps.refl _) (argsL := [(.int p2)]) (rest := []) (lenOf own_pd2 rfl) rfl (by show 2 * 0 + _ ≤ _; exact Nat.le_of_eq rfl) (hb hby own_d_method_3_code_17) (fun _ _ => ⟨rfl, rfl, (by decide : 1 + 1 ≤ _), (by decide : 10 + 10 ≤ _)⟩)
    dsimp only [Pt.U, Pt.locs, Pt.cells, Pt.slots] at X160 l160 y160 z160 st160 hQ160
    subst l160 y160 z160
    obtain ⟨rfl, N160q, hz_160, rb_160⟩ := hQ160
    have N160 := Fr.app N159 N160q
    refine own_go (T' := T160) (g' := (mkF m 20 #[rv b, iv (3 : Int32), iv p2] [])) (fun t k => st160.trans k) ?_
    refine own_go (T' := T160) (g' := (mkF m 21 #[rv b, iv (3 : Int32), iv p2] [(.int (3 : Int32))])) (fun t k => XS.iloadN X160.here hx rfl (hb hby own_d_method_3_code_20) rfl k) ?_
    refine own_go (T' := T160) (g' := (mkF m 22 #[rv b, iv (3 : Int32), iv p2] [(.int (3 : Int32)), (.int (3 : Int32))])) (fun t k => XS.iconst X160.here hx rfl (hb hby own_d_method_3_code_21) k) ?_
    refine own_go (T' := T160) (g' := (mkF m 25 #[rv b, iv (3 : Int32), iv p2] [])) (fun t k => XS.icmpNo X160.here hx rfl (hb hby own_d_method_3_code_22) rfl (flt (by decide : ¬ ((3 : Int32) < (3 : Int32)))).1 k) ?_
    refine own_go (T' := T160) (g' := (mkF m 26 #[rv b, iv (3 : Int32), iv p2] [(.ref b)])) (fun t k => XS.aloadN X160.here hx rfl (hb hby own_d_method_3_code_25) rfl rfl k) ?_
    refine own_go (T' := T160) (g' := (mkF m 27 #[rv b, iv (3 : Int32), iv p2] [(.int p2), (.ref b)])) (fun t k => XS.iloadN X160.here hx rfl (hb hby own_d_method_3_code_26) rfl k) ?_
    obtain ⟨cq161, kq161, q161a, q161b, q161c⟩ := isOf hZ rfl (own_rbx rb_160)
    obtain ⟨_, _, ⟨T161, L161, k161, n161⟩, -, X161, ⟨Lc161, hQ161, l161, y161, z161⟩, st161⟩ := X160.virtualBack hx (y := (⟨"com/example/tierwright/tierwright/table/RowBounds", "endField", "(I)V"⟩ : MethodName)) (z := (⟨"com/example/tierwright/tierwright/table/RowBounds", "endField", "(I)V"⟩ : MethodName)) hown (mvT hZ (hw _ (List.mem_of_getElem? (i := 27) rfl))) (mvT hZ (hw _ (List.mem_of_getElem? (i := 28) rfl))) (notFace_of_selects (args := #[]) (mvT hZ (hw _ (List.mem_of_getElem? (i := 30) rfl)))) (mvT hZ (hw _ (List.mem_of_getElem? (i := 30) rfl))) (mvT hZ (hw _ (List.mem_of_getElem? (i := 29) rfl))) (by decide) (backOf (W := 0) (own_ref l Z a0 hw [] b p2 r ((f + 1) + 1) G T160.heap n0 hz_160 (by omega) rb_160) hZ (hw _ (List.mem_of_getElem? (i := 31) rfl)) (hw _ (List.mem_of_getElem? (i := 2) rfl)) (by decide) (by decide)) q161a q161c (g := (mkF m 27 #[rv b, iv (3 : Int32), iv p2] [(.int p2), (.ref b)])) rfl (by rw [hml]; rfl) (Steps.refl _) (argsL := [(.int p2)]) (rest := []) (lenOf own_pd2 rfl) rfl (by show 2 * 0 + _ ≤ _; exact Nat.le_of_eq rfl) (hb hby own_d_method_3_code_27) (fun _ _ => ⟨rfl, rfl, (by decide : 2 + 1 ≤ _), (by decide : 20 + 10 ≤ _)⟩)
    dsimp only [Pt.U, Pt.locs, Pt.cells, Pt.slots] at X161 l161 y161 z161 st161 hQ161
    subst l161 y161 z161
    obtain ⟨rfl, N161q, hz_161, rb_161⟩ := hQ161
    have N161 := Fr.app N160 N161q
    refine own_go (T' := T161) (g' := (mkF m 30 #[rv b, iv (3 : Int32), iv p2] [])) (fun t k => st161.trans k) ?_
    exact own_ret0 X161 hlk hx Bd.returns (hb hby own_d_method_3_code_30) ⟨rfl, N161, hz_161, rb_161⟩ (by decide) (by decide)

theorem own_gset {vs : List Value} {r : Nat} {w : Int32} {G : Nat → Int32} (hl : r + 1 < vs.length) (h : ∀ i, i ≤ r → vs.getD i (.int (0 : Int32)) = .int (G i)) : ∀ i, i ≤ r + 1 → (vs.set (r + 1) (.int w)).getD i (.int (0 : Int32)) = .int (upd G (r + 1) w i) := fun i hi => by
  rw [own_setget hl]; unfold upd
  by_cases q : i = r + 1
  · rw [if_pos q, if_pos q]
  · rw [if_neg q, if_neg q]; exact h i (by omega)

theorem own_pd3 : parseMethodDescriptor "([JI)[J" = some ⟨[(.array .long), .int], some (.array .long)⟩ := by decide +kernel
theorem own_d_prog_111_method_3_code_0 : decode prog_111_method_3_code 0 = .ok (.aload_n 0, 1) := by decide +kernel
theorem own_d_prog_111_method_3_code_1 : decode prog_111_method_3_code 1 = .ok (.getfield 39, 3) := by decide +kernel
theorem own_d_prog_111_method_3_code_4 : decode prog_111_method_3_code 4 = .ok (.aload_n 0, 1) := by decide +kernel
theorem own_d_prog_111_method_3_code_5 : decode prog_111_method_3_code 5 = .ok (.getfield 13, 3) := by decide +kernel
theorem own_d_prog_111_method_3_code_8 : decode prog_111_method_3_code 8 = .ok (.arraylength, 1) := by decide +kernel
theorem own_d_prog_111_method_3_code_9 : decode prog_111_method_3_code 9 = .ok (.if_icmp .ne 56, 3) := by decide +kernel
theorem own_d_prog_111_method_3_code_12 : decode prog_111_method_3_code 12 = .ok (.aload_n 0, 1) := by decide +kernel
theorem own_d_prog_111_method_3_code_13 : decode prog_111_method_3_code 13 = .ok (.aload_n 0, 1) := by decide +kernel
theorem own_d_prog_111_method_3_code_14 : decode prog_111_method_3_code 14 = .ok (.getfield 13, 3) := by decide +kernel
theorem own_d_prog_111_method_3_code_17 : decode prog_111_method_3_code 17 = .ok (.iconst 2, 1) := by decide +kernel
theorem own_d_prog_111_method_3_code_18 : decode prog_111_method_3_code 18 = .ok (.aload_n 0, 1) := by decide +kernel
theorem own_d_prog_111_method_3_code_19 : decode prog_111_method_3_code 19 = .ok (.getfield 39, 3) := by decide +kernel
theorem own_d_prog_111_method_3_code_22 : decode prog_111_method_3_code 22 = .ok (.imul, 1) := by decide +kernel
theorem own_d_prog_111_method_3_code_23 : decode prog_111_method_3_code 23 = .ok (.invokestatic 33, 3) := by decide +kernel
theorem own_d_prog_111_method_3_code_26 : decode prog_111_method_3_code 26 = .ok (.putfield 13, 3) := by decide +kernel
theorem own_d_prog_111_method_3_code_29 : decode prog_111_method_3_code 29 = .ok (.aload_n 0, 1) := by decide +kernel
theorem own_d_prog_111_method_3_code_30 : decode prog_111_method_3_code 30 = .ok (.aload_n 0, 1) := by decide +kernel
theorem own_d_prog_111_method_3_code_31 : decode prog_111_method_3_code 31 = .ok (.getfield 19, 3) := by decide +kernel
theorem own_d_prog_111_method_3_code_34 : decode prog_111_method_3_code 34 = .ok (.iconst 2, 1) := by decide +kernel
theorem own_d_prog_111_method_3_code_35 : decode prog_111_method_3_code 35 = .ok (.aload_n 0, 1) := by decide +kernel
theorem own_d_prog_111_method_3_code_36 : decode prog_111_method_3_code 36 = .ok (.getfield 39, 3) := by decide +kernel
theorem own_d_prog_111_method_3_code_39 : decode prog_111_method_3_code 39 = .ok (.imul, 1) := by decide +kernel
theorem own_d_prog_111_method_3_code_40 : decode prog_111_method_3_code 40 = .ok (.invokestatic 42, 3) := by decide +kernel
theorem own_d_prog_111_method_3_code_43 : decode prog_111_method_3_code 43 = .ok (.putfield 19, 3) := by decide +kernel
theorem own_d_prog_111_method_3_code_46 : decode prog_111_method_3_code 46 = .ok (.aload_n 0, 1) := by decide +kernel
theorem own_d_prog_111_method_3_code_47 : decode prog_111_method_3_code 47 = .ok (.aload_n 0, 1) := by decide +kernel
theorem own_d_prog_111_method_3_code_48 : decode prog_111_method_3_code 48 = .ok (.getfield 23, 3) := by decide +kernel
theorem own_d_prog_111_method_3_code_51 : decode prog_111_method_3_code 51 = .ok (.iconst 2, 1) := by decide +kernel
theorem own_d_prog_111_method_3_code_52 : decode prog_111_method_3_code 52 = .ok (.aload_n 0, 1) := by decide +kernel
theorem own_d_prog_111_method_3_code_53 : decode prog_111_method_3_code 53 = .ok (.getfield 39, 3) := by decide +kernel
theorem own_d_prog_111_method_3_code_56 : decode prog_111_method_3_code 56 = .ok (.imul, 1) := by decide +kernel
theorem own_d_prog_111_method_3_code_57 : decode prog_111_method_3_code 57 = .ok (.iconst 1, 1) := by decide +kernel
theorem own_d_prog_111_method_3_code_58 : decode prog_111_method_3_code 58 = .ok (.iadd, 1) := by decide +kernel
theorem own_d_prog_111_method_3_code_59 : decode prog_111_method_3_code 59 = .ok (.invokestatic 33, 3) := by decide +kernel
theorem own_d_prog_111_method_3_code_62 : decode prog_111_method_3_code 62 = .ok (.putfield 23, 3) := by decide +kernel
theorem own_d_prog_111_method_3_code_65 : decode prog_111_method_3_code 65 = .ok (.aload_n 0, 1) := by decide +kernel
theorem own_d_prog_111_method_3_code_66 : decode prog_111_method_3_code 66 = .ok (.getfield 13, 3) := by decide +kernel
theorem own_d_prog_111_method_3_code_69 : decode prog_111_method_3_code 69 = .ok (.aload_n 0, 1) := by decide +kernel
theorem own_d_prog_111_method_3_code_70 : decode prog_111_method_3_code 70 = .ok (.getfield 39, 3) := by decide +kernel
theorem own_d_prog_111_method_3_code_73 : decode prog_111_method_3_code 73 = .ok (.iload_n 1, 1) := by decide +kernel
theorem own_d_prog_111_method_3_code_74 : decode prog_111_method_3_code 74 = .ok (.iastore, 1) := by decide +kernel
theorem own_d_prog_111_method_3_code_75 : decode prog_111_method_3_code 75 = .ok (.aload_n 0, 1) := by decide +kernel
theorem own_d_prog_111_method_3_code_76 : decode prog_111_method_3_code 76 = .ok (.getfield 19, 3) := by decide +kernel
theorem own_d_prog_111_method_3_code_79 : decode prog_111_method_3_code 79 = .ok (.aload_n 0, 1) := by decide +kernel
theorem own_d_prog_111_method_3_code_80 : decode prog_111_method_3_code 80 = .ok (.getfield 39, 3) := by decide +kernel
theorem own_d_prog_111_method_3_code_83 : decode prog_111_method_3_code 83 = .ok (.lload_n 2, 1) := by decide +kernel
theorem own_d_prog_111_method_3_code_84 : decode prog_111_method_3_code 84 = .ok (.lastore, 1) := by decide +kernel
theorem own_d_prog_111_method_3_code_85 : decode prog_111_method_3_code 85 = .ok (.aload_n 0, 1) := by decide +kernel
theorem own_d_prog_111_method_3_code_86 : decode prog_111_method_3_code 86 = .ok (.dup, 1) := by decide +kernel
theorem own_d_prog_111_method_3_code_87 : decode prog_111_method_3_code 87 = .ok (.getfield 39, 3) := by decide +kernel
theorem own_d_prog_111_method_3_code_90 : decode prog_111_method_3_code 90 = .ok (.iconst 1, 1) := by decide +kernel
theorem own_d_prog_111_method_3_code_91 : decode prog_111_method_3_code 91 = .ok (.iadd, 1) := by decide +kernel
theorem own_d_prog_111_method_3_code_92 : decode prog_111_method_3_code 92 = .ok (.putfield 39, 3) := by decide +kernel
theorem own_d_prog_111_method_3_code_95 : decode prog_111_method_3_code 95 = .ok (.aload_n 0, 1) := by decide +kernel
theorem own_d_prog_111_method_3_code_96 : decode prog_111_method_3_code 96 = .ok (.getfield 23, 3) := by decide +kernel
theorem own_d_prog_111_method_3_code_99 : decode prog_111_method_3_code 99 = .ok (.aload_n 0, 1) := by decide +kernel
theorem own_d_prog_111_method_3_code_100 : decode prog_111_method_3_code 100 = .ok (.getfield 39, 3) := by decide +kernel
theorem own_d_prog_111_method_3_code_103 : decode prog_111_method_3_code 103 = .ok (.aload_n 0, 1) := by decide +kernel
theorem own_d_prog_111_method_3_code_104 : decode prog_111_method_3_code 104 = .ok (.getfield 29, 3) := by decide +kernel
theorem own_d_prog_111_method_3_code_107 : decode prog_111_method_3_code 107 = .ok (.iastore, 1) := by decide +kernel
theorem own_d_prog_111_method_3_code_108 : decode prog_111_method_3_code 108 = .ok (.return_, 1) := by decide +kernel
def Q_own_rer (Z : State) (b : Addr) (r f : Nat) (G : Nat → Int32) (h0 : Heap) (n0 : Nat) (v : Option Value) (h : Heap) (L : List Loc) : Prop := v = none ∧ Fr n0 L ∧ n0 ≤ h.size ∧ own_RB Z h n0 b (r + 1) f (upd G (r + 1) (Int32.ofNat f))
set_option maxRecDepth 65536 in
set_option maxHeartbeats 40000000 in
theorem own_rer (l : Launch) (Z : State) (a0 : Array Value) (hw : ∀ d ∈ tables_1, d.before a0 Z = true) (ws : List Jvm.Cond) (b : Addr) (p1 : Int32) (q2 : Int64) (r f : Nat) (G : Nat → Int32) (h0 : Heap) (n0 : Nat) (Z0 : n0 ≤ h0.size) (hr : r ≤ 1) (RB : own_RB Z h0 n0 b r f G) :
    MetFree l (⟨"com/example/tierwright/tierwright/table/RowBounds", "endRow", "(IJ)V"⟩ : MethodName) (head1 (Jvm.Cond.code (⟨"com/example/tierwright/tierwright/table/RowBounds", "endRow", "(IJ)V"⟩ : MethodName) prog_111_method_3_code 4 none :: ws) ({ frames := 2, cells := 3, slots := 7, locals := 45 } : Room)) (fun au Uu => au = #[(.ref b), (.int p1), (.long q2)] ∧ Z.Warmed39 Uu.vm ∧ Uu.heap = h0) (fun _ _ _ _ _ => True) (fun _ Uu ou Uw => ∃ vu Lu, ou = .returned vu ∧ Q_own_rer Z b r f G h0 n0 vu Uw.heap Lu ∧ FrameEnd Uu ou Uw Lu ({ frames := 2, cells := 3, slots := 7, locals := 45 } : Room).cells ({ frames := 2, cells := 3, slots := 7, locals := 45 } : Room).slots) := by
  refine MetFree.of_bodySF (plainFor_of_name (by first | (simp [plainName, overriddenIn]; done) | decide +kernel)) hisR ?_
  intro p e s m args below meth c s₁ Bd hml0 hP hK
  obtain ⟨rfl, hZ, hh⟩ := hP
  have hx := Bd.exec
  have hby := Bd.bytes
  have hlk := Bd.notSynchronized
  have hml : c.maxLocals = 4 := hml0
  have hown : s.vm.findClass "com/example/tierwright/tierwright/table/RowBounds" = some m.cls := findClass_of_methodNamed Bd.named
  have hnm := (name_of_methodNamed Bd.named Bd.method).1
  have X0 : Stand p l e ({ frames := 2, cells := 3, slots := 7, locals := 45 } : Room) s m #[(.ref b), (.int p1), (.long q2)] below meth c s₁ [] 0 0 := Stand.of_body Bd
  have e0 : s₁.heap = h0 := by rw [← hh, Bd.state]; rfl
  have N0 := Fr.nil n0
  obtain ⟨aS, aL, aF, aE, kS, kL, kF, kE, zS, zE, vS, vL, vF, vE, E_b, g_b, F_s, F_l, F_f, F_e, F_r, F_n, V_S, V_L, V_F, V_E, ⟨gS, gL, gF, gE⟩, ⟨d1, d2, d3, d4, d5, d6, d7, d8, d9, d10⟩, ⟨z1, z2, z3, z4, z5, z6⟩, ⟨l1, l2, l3, l4⟩, hG⟩ := RB
  show own_Ends p e below s₁ (entryFrame m #[(.ref b), (.int p1), (.long q2)] 4) (fun ou Uw => ∃ vu Lu, ou = .returned vu ∧ Q_own_rer Z b r f G h0 n0 vu Uw.heap Lu ∧ FrameEnd s ou Uw Lu ({ frames := 2, cells := 3, slots := 7, locals := 45 } : Room).cells ({ frames := 2, cells := 3, slots := 7, locals := 45 } : Room).slots)
  refine own_start (g' := (mkF m 0 #[rv b, iv p1, .val (.long q2), .second] [])) (by first | (simp [entryFrame, mkF, argsToLocals, Value.category, iv, rv]; done) | rfl) ?_
  refine own_go (T' := s₁) (g' := (mkF m 1 #[rv b, iv p1, .val (.long q2), .second] [(.ref b)])) (fun t k => XS.aloadN X0.here hx rfl (hb hby own_d_prog_111_method_3_code_0) rfl rfl k) ?_
  obtain ⟨T162, X162, e162, st162⟩ := getF X0 hx hZ hown (host := "") (Or.inl (hw _ (List.mem_of_getElem? (i := 50) rfl))) Via.refl e0 F_r (g := (mkF m 1 #[rv b, iv p1, .val (.long q2), .second] [(.ref b)])) rfl rfl (hb hby own_d_prog_111_method_3_code_1)
  refine own_go (T' := T162) (g' := (mkF m 4 #[rv b, iv p1, .val (.long q2), .second] [(.int (Int32.ofNat r))])) (st162) ?_
  refine own_go (T' := T162) (g' := (mkF m 5 #[rv b, iv p1, .val (.long q2), .second] [(.ref b), (.int (Int32.ofNat r))])) (fun t k => XS.aloadN X162.here hx rfl (hb hby own_d_prog_111_method_3_code_4) rfl rfl k) ?_
  obtain ⟨T163, X163, e163, st163⟩ := getF X162 hx hZ hown (host := "") (Or.inl (hw _ (List.mem_of_getElem? (i := 14) rfl))) Via.refl e162 F_s (g := (mkF m 5 #[rv b, iv p1, .val (.long q2), .second] [(.ref b), (.int (Int32.ofNat r))])) rfl rfl (hb hby own_d_prog_111_method_3_code_5)
  refine own_go (T' := T163) (g' := (mkF m 8 #[rv b, iv p1, .val (.long q2), .second] [(.ref aS), (.int (Int32.ofNat r))])) (st163) ?_
  obtain ⟨cl164, Ar164, -, Sz164, Nn164, -, -⟩ := id V_S
  refine own_go (T' := T163) (g' := (mkF m 9 #[rv b, iv p1, .val (.long q2), .second] [(.int (Int32.ofNat zS)), (.int (Int32.ofNat r))])) (fun t k => X163.arraylength hx (by rw [e163]; exact Ar164.1) (State.isArrayOf_alike hZ.alike Ar164.2.1) (g := (mkF m 8 #[rv b, iv p1, .val (.long q2), .second] [(.ref aS), (.int (Int32.ofNat r))])) rfl rfl (hb hby own_d_prog_111_method_3_code_8) _ (by rw [len_of Sz164 Nn164]; exact k)) ?_
  by_cases hc165 : (Int32.ofNat r) = (Int32.ofNat zS)
  · refine own_go (T' := T163) (g' := (mkF m 12 #[rv b, iv p1, .val (.long q2), .second] [])) (fun t k => XS.icmpNo X163.here hx rfl (hb hby own_d_prog_111_method_3_code_9) rfl (teq hc165).2 k) ?_
    have hrz : r = zS := (own_eqn (by omega) (by omega)).mp hc165
    refine own_go (T' := T163) (g' := (mkF m 13 #[rv b, iv p1, .val (.long q2), .second] [(.ref b)])) (fun t k => XS.aloadN X163.here hx rfl (hb hby own_d_prog_111_method_3_code_12) rfl rfl k) ?_
    refine own_go (T' := T163) (g' := (mkF m 14 #[rv b, iv p1, .val (.long q2), .second] [(.ref b), (.ref b)])) (fun t k => XS.aloadN X163.here hx rfl (hb hby own_d_prog_111_method_3_code_13) rfl rfl k) ?_
    obtain ⟨T166, X166, e166, st166⟩ := getF X163 hx hZ hown (host := "") (Or.inl (hw _ (List.mem_of_getElem? (i := 14) rfl))) Via.refl e163 F_s (g := (mkF m 14 #[rv b, iv p1, .val (.long q2), .second] [(.ref b), (.ref b)])) rfl rfl (hb hby own_d_prog_111_method_3_code_14)
    refine own_go (T' := T166) (g' := (mkF m 17 #[rv b, iv p1, .val (.long q2), .second] [(.ref aS), (.ref b)])) (st166) ?_
    refine own_go (T' := T166) (g' := (mkF m 18 #[rv b, iv p1, .val (.long q2), .second] [(.int (2 : Int32)), (.ref aS), (.ref b)])) (fun t k => XS.iconst X166.here hx rfl (hb hby own_d_prog_111_method_3_code_17) k) ?_
    refine own_go (T' := T166) (g' := (mkF m 19 #[rv b, iv p1, .val (.long q2), .second] [(.ref b), (.int (2 : Int32)), (.ref aS), (.ref b)])) (fun t k => XS.aloadN X166.here hx rfl (hb hby own_d_prog_111_method_3_code_18) rfl rfl k) ?_
    obtain ⟨T167, X167, e167, st167⟩ := getF X166 hx hZ hown (host := "") (Or.inl (hw _ (List.mem_of_getElem? (i := 50) rfl))) Via.refl e166 F_r (g := (mkF m 19 #[rv b, iv p1, .val (.long q2), .second] [(.ref b), (.int (2 : Int32)), (.ref aS), (.ref b)])) rfl rfl (hb hby own_d_prog_111_method_3_code_19)
    refine own_go (T' := T167) (g' := (mkF m 22 #[rv b, iv p1, .val (.long q2), .second] [(.int (Int32.ofNat r)), (.int (2 : Int32)), (.ref aS), (.ref b)])) (st167) ?_
    refine own_go (T' := T167) (g' := (mkF m 23 #[rv b, iv p1, .val (.long q2), .second] [(.int ((2 : Int32) * (Int32.ofNat r))), (.ref aS), (.ref b)])) (fun t k => XS.imul X167.here hx rfl (hb hby own_d_prog_111_method_3_code_22) rfl k) ?_
    rw [own_two (by omega)]
    obtain ⟨_, _, ⟨T168, L168, k168, n168⟩, -, X168, ⟨Lc168, hQ168, l168, y168, z168⟩, st168⟩ := Jvm.LawKit.callS X167 hx (y := (⟨"java/util/Arrays", "copyOf", "([II)[I"⟩ : MethodName)) hown (mvT hZ (hw _ (List.mem_of_getElem? (i := 34) rfl))) (mvT hZ (hw _ (List.mem_of_getElem? (i := 35) rfl))) (mvT hZ (hw _ (List.mem_of_getElem? (i := 36) rfl))) (mvT hZ (hw _ (List.mem_of_getElem? (i := 37) rfl))) (by decide) (backOf (W := 1) (own_cpI2 l Z a0 hw [] aS kS zS (2 * r) vS h0 n0 Z0 (by omega) (by omega) V_S) hZ (hw _ (List.mem_of_getElem? (i := 37) rfl)) (hw _ (List.mem_of_getElem? (i := 36) rfl)) (by decide) (by decide)) (g := (mkF m 23 #[rv b, iv p1, .val (.long q2), .second] [(.int (Int32.ofNat (2 * r))), (.ref aS), (.ref b)])) rfl (by rw [hml]; rfl) (argsL := [(.ref aS), (.int (Int32.ofNat (2 * r)))]) (rest := [(.ref b)]) (lenOf own_pd1 rfl) rfl (by show 2 * 0 + _ ≤ _; exact Nat.le_of_eq rfl) (hb hby own_d_prog_111_method_3_code_23) (fun _ _ => ⟨rfl, e167, (by decide : 0 + 1 ≤ _), (by decide : 0 + 2 ≤ _)⟩)
    dsimp only [Pt.U, Pt.locs, Pt.cells, Pt.slots] at X168 l168 y168 z168 st168 hQ168
    subst l168 y168 z168
    obtain ⟨c_168, k_168, rfl, N168q, ob_168, K_168, vs_168, V_168, lv_168, gv_168⟩ := hQ168
    have N168 := Fr.app N0 N168q
    have nq169 : b ≠ c_168 := Nat.ne_of_lt (Nat.lt_of_lt_of_le E_b.lt ob_168)
    have nq170 : aS ≠ c_168 := Nat.ne_of_lt (Nat.lt_of_lt_of_le V_S.lt ob_168)
    have nq171 : aL ≠ c_168 := Nat.ne_of_lt (Nat.lt_of_lt_of_le V_L.lt ob_168)
    have nq172 : aF ≠ c_168 := Nat.ne_of_lt (Nat.lt_of_lt_of_le V_F.lt ob_168)
    have nq173 : aE ≠ c_168 := Nat.ne_of_lt (Nat.lt_of_lt_of_le V_E.lt ob_168)
    have gq168 : n0 ≤ c_168 := Nat.le_trans Z0 ob_168
    have c174 := E_b.keep K_168
    have c176 := F_s.keep K_168 nin0
    have c177 := F_l.keep K_168 nin0
    have c178 := F_f.keep K_168 nin0
    have c179 := F_e.keep K_168 nin0
    have c180 := F_r.keep K_168 nin0
    have c181 := F_n.keep K_168 nin0
    have c182 := V_S.keep K_168 nin0
    have c183 := V_L.keep K_168 nin0
    have c184 := V_F.keep K_168 nin0
    have c185 := V_E.keep K_168 nin0
    have hz168 : n0 ≤ T168.heap.size := Nat.le_trans Z0 K_168.1
    refine own_go (T' := T168) (g' := (mkF m 26 #[rv b, iv p1, .val (.long q2), .second] [(.ref c_168), (.ref b)])) (st168) ?_
    obtain ⟨T200, h200, X200, e200, W200, st200⟩ := putF X168 hx hZ hown (host := "") (Or.inl (hw _ (List.mem_of_getElem? (i := 14) rfl))) Via.refl rfl c176 c174 (Or.inl (hw _ (List.mem_of_getElem? (i := 15) rfl))) (hw _ (List.mem_of_getElem? (i := 1) rfl)) (ty := (.array .int)) (by decide) rfl rfl (g := (mkF m 26 #[rv b, iv p1, .val (.long q2), .second] [(.ref c_168), (.ref b)])) rfl rfl (hb hby own_d_prog_111_method_3_code_26)
    have hz200 : n0 ≤ h200.size := Nat.le_trans hz168 (Keep.of_wr W200).1
    have N200 := Fr.snoc X200 N168 g_b
    have c201 := c174.wr W200
    have c202 := c176.same W200
    have c203 := c177.other W200 (Or.inr (slot_ne (Or.inl (hw _ (List.mem_of_getElem? (i := 18) rfl))) (Or.inl (hw _ (List.mem_of_getElem? (i := 15) rfl))) (by decide) (t := (.array .long)) (t' := (.array .int)) (by decide) (by decide)))
    have c204 := c178.other W200 (Or.inr (slot_ne (Or.inl (hw _ (List.mem_of_getElem? (i := 20) rfl))) (Or.inl (hw _ (List.mem_of_getElem? (i := 15) rfl))) (by decide) (t := (.array .int)) (t' := (.array .int)) (by decide) (by decide)))
    have c205 := c179.other W200 (Or.inr (slot_ne (Or.inl (hw _ (List.mem_of_getElem? (i := 22) rfl))) (Or.inl (hw _ (List.mem_of_getElem? (i := 15) rfl))) (by decide) (t := (.array .int)) (t' := (.array .int)) (by decide) (by decide)))
    have c206 := c180.other W200 (Or.inr (slot_ne (Or.inl (hw _ (List.mem_of_getElem? (i := 51) rfl))) (Or.inl (hw _ (List.mem_of_getElem? (i := 15) rfl))) (by decide) (t := .int) (t' := (.array .int)) (by decide) (by decide)))
    have c207 := c181.other W200 (Or.inr (slot_ne (Or.inl (hw _ (List.mem_of_getElem? (i := 33) rfl))) (Or.inl (hw _ (List.mem_of_getElem? (i := 15) rfl))) (by decide) (t := .int) (t' := (.array .int)) (by decide) (by decide)))
    have c208 := c182.other W200 (Ne.symm d1)
    have c209 := c183.other W200 (Ne.symm d2)
    have c210 := c184.other W200 (Ne.symm d3)
    have c211 := c185.other W200 (Ne.symm d4)
    have c212 := V_168.other W200 (Ne.symm nq169)
    refine own_go (T' := T200) (g' := (mkF m 29 #[rv b, iv p1, .val (.long q2), .second] [])) (st200) ?_
    refine own_go (T' := T200) (g' := (mkF m 30 #[rv b, iv p1, .val (.long q2), .second] [(.ref b)])) (fun t k => XS.aloadN X200.here hx rfl (hb hby own_d_prog_111_method_3_code_29) rfl rfl k) ?_
    refine own_go (T' := T200) (g' := (mkF m 31 #[rv b, iv p1, .val (.long q2), .second] [(.ref b), (.ref b)])) (fun t k => XS.aloadN X200.here hx rfl (hb hby own_d_prog_111_method_3_code_30) rfl rfl k) ?_
    obtain ⟨T213, X213, e213, st213⟩ := getF X200 hx hZ hown (host := "") (Or.inl (hw _ (List.mem_of_getElem? (i := 17) rfl))) Via.refl e200 c203 (g := (mkF m 31 #[rv b, iv p1, .val (.long q2), .second] [(.ref b), (.ref b)])) rfl rfl (hb hby own_d_prog_111_method_3_code_31)
    refine own_go (T' := T213) (g' := (mkF m 34 #[rv b, iv p1, .val (.long q2), .second] [(.ref aL), (.ref b)])) (st213) ?_
    refine own_go (T' := T213) (g' := (mkF m 35 #[rv b, iv p1, .val (.long q2), .second] [(.int (2 : Int32)), (.ref aL), (.ref b)])) (fun t k => XS.iconst X213.here hx rfl (hb hby own_d_prog_111_method_3_code_34) k) ?_
    refine own_go (T' := T213) (g' := (mkF m 36 #[rv b, iv p1, .val (.long q2), .second] [(.ref b), (.int (2 : Int32)), (.ref aL), (.ref b)])) (fun t k => XS.aloadN X213.here hx rfl (hb hby own_d_prog_111_method_3_code_35) rfl rfl k) ?_
    obtain ⟨T214, X214, e214, st214⟩ := getF X213 hx hZ hown (host := "") (Or.inl (hw _ (List.mem_of_getElem? (i := 50) rfl))) Via.refl e213 c206 (g := (mkF m 36 #[rv b, iv p1, .val (.long q2), .second] [(.ref b), (.int (2 : Int32)), (.ref aL), (.ref b)])) rfl rfl (hb hby own_d_prog_111_method_3_code_36)
    refine own_go (T' := T214) (g' := (mkF m 39 #[rv b, iv p1, .val (.long q2), .second] [(.int (Int32.ofNat r)), (.int (2 : Int32)), (.ref aL), (.ref b)])) (st214) ?_
    refine own_go (T' := T214) (g' := (mkF m 40 #[rv b, iv p1, .val (.long q2), .second] [(.int ((2 : Int32) * (Int32.ofNat r))), (.ref aL), (.ref b)])) (fun t k => XS.imul X214.here hx rfl (hb hby own_d_prog_111_method_3_code_39) rfl k) ?_
    rw [own_two (by omega)]
    obtain ⟨_, _, ⟨T215, L215, k215, n215⟩, -, X215, ⟨Lc215, hQ215, l215, y215, z215⟩, st215⟩ := Jvm.LawKit.callS X214 hx (y := (⟨"java/util/Arrays", "copyOf", "([JI)[J"⟩ : MethodName)) hown (mvT hZ (hw _ (List.mem_of_getElem? (i := 52) rfl))) (mvT hZ (hw _ (List.mem_of_getElem? (i := 53) rfl))) (mvT hZ (hw _ (List.mem_of_getElem? (i := 36) rfl))) (mvT hZ (hw _ (List.mem_of_getElem? (i := 54) rfl))) (by decide) (backOf (W := 1) (own_cpJ2 l Z a0 hw [] aL kL zS (2 * r) vL h200 n0 hz200 (by omega) (by omega) c209) hZ (hw _ (List.mem_of_getElem? (i := 54) rfl)) (hw _ (List.mem_of_getElem? (i := 36) rfl)) (by decide) (by decide)) (g := (mkF m 40 #[rv b, iv p1, .val (.long q2), .second] [(.int (Int32.ofNat (2 * r))), (.ref aL), (.ref b)])) rfl (by rw [hml]; rfl) (argsL := [(.ref aL), (.int (Int32.ofNat (2 * r)))]) (rest := [(.ref b)]) (lenOf own_pd3 rfl) rfl (by show 2 * 0 + _ ≤ _; exact Nat.le_of_eq rfl) (hb hby own_d_prog_111_method_3_code_40) (fun _ _ => ⟨rfl, e214, (by decide : 1 + 1 ≤ _), (by decide : 2 + 2 ≤ _)⟩)
    dsimp only [Pt.U, Pt.locs, Pt.cells, Pt.slots] at X215 l215 y215 z215 st215 hQ215
    subst l215 y215 z215
    obtain ⟨c_215, k_215, rfl, N215q, ob_215, K_215, vs_215, V_215, lv_215, gv_215⟩ := hQ215
    have N215 := Fr.app N200 N215q
    have nq216 : b ≠ c_215 := Nat.ne_of_lt (Nat.lt_of_lt_of_le c201.lt ob_215)
    have nq217 : aS ≠ c_215 := Nat.ne_of_lt (Nat.lt_of_lt_of_le c208.lt ob_215)
    have nq218 : aL ≠ c_215 := Nat.ne_of_lt (Nat.lt_of_lt_of_le c209.lt ob_215)
    have nq219 : aF ≠ c_215 := Nat.ne_of_lt (Nat.lt_of_lt_of_le c210.lt ob_215)
    have nq220 : aE ≠ c_215 := Nat.ne_of_lt (Nat.lt_of_lt_of_le c211.lt ob_215)
    have nq221 : c_168 ≠ c_215 := Nat.ne_of_lt (Nat.lt_of_lt_of_le c212.lt ob_215)
    have gq215 : n0 ≤ c_215 := Nat.le_trans hz200 ob_215
    have c222 := c201.keep K_215
    have c224 := c202.keep K_215 nin0
    have c225 := c203.keep K_215 nin0
    have c226 := c204.keep K_215 nin0
    have c227 := c205.keep K_215 nin0
    have c228 := c206.keep K_215 nin0
    have c229 := c207.keep K_215 nin0
    have c230 := c208.keep K_215 nin0
    have c231 := c209.keep K_215 nin0
    have c232 := c210.keep K_215 nin0
    have c233 := c211.keep K_215 nin0
    have c254 := c212.keep K_215 nin0
    have hz215 : n0 ≤ T215.heap.size := Nat.le_trans hz200 K_215.1
    refine own_go (T' := T215) (g' := (mkF m 43 #[rv b, iv p1, .val (.long q2), .second] [(.ref c_215), (.ref b)])) (st215) ?_
    obtain ⟨T255, h255, X255, e255, W255, st255⟩ := putF X215 hx hZ hown (host := "") (Or.inl (hw _ (List.mem_of_getElem? (i := 17) rfl))) Via.refl rfl c225 c222 (Or.inl (hw _ (List.mem_of_getElem? (i := 18) rfl))) (hw _ (List.mem_of_getElem? (i := 1) rfl)) (ty := (.array .long)) (by decide) rfl rfl (g := (mkF m 43 #[rv b, iv p1, .val (.long q2), .second] [(.ref c_215), (.ref b)])) rfl rfl (hb hby own_d_prog_111_method_3_code_43)
    have hz255 : n0 ≤ h255.size := Nat.le_trans hz215 (Keep.of_wr W255).1
    have N255 := Fr.snoc X255 N215 g_b
    have c256 := c222.wr W255
    have c257 := c224.other W255 (Or.inr (slot_ne (Or.inl (hw _ (List.mem_of_getElem? (i := 15) rfl))) (Or.inl (hw _ (List.mem_of_getElem? (i := 18) rfl))) (by decide) (t := (.array .int)) (t' := (.array .long)) (by decide) (by decide)))
    have c258 := c225.same W255
    have c259 := c226.other W255 (Or.inr (slot_ne (Or.inl (hw _ (List.mem_of_getElem? (i := 20) rfl))) (Or.inl (hw _ (List.mem_of_getElem? (i := 18) rfl))) (by decide) (t := (.array .int)) (t' := (.array .long)) (by decide) (by decide)))
    have c260 := c227.other W255 (Or.inr (slot_ne (Or.inl (hw _ (List.mem_of_getElem? (i := 22) rfl))) (Or.inl (hw _ (List.mem_of_getElem? (i := 18) rfl))) (by decide) (t := (.array .int)) (t' := (.array .long)) (by decide) (by decide)))
    have c261 := c228.other W255 (Or.inr (slot_ne (Or.inl (hw _ (List.mem_of_getElem? (i := 51) rfl))) (Or.inl (hw _ (List.mem_of_getElem? (i := 18) rfl))) (by decide) (t := .int) (t' := (.array .long)) (by decide) (by decide)))
    have c262 := c229.other W255 (Or.inr (slot_ne (Or.inl (hw _ (List.mem_of_getElem? (i := 33) rfl))) (Or.inl (hw _ (List.mem_of_getElem? (i := 18) rfl))) (by decide) (t := .int) (t' := (.array .long)) (by decide) (by decide)))
    have c263 := c230.other W255 (Ne.symm d1)
    have c264 := c231.other W255 (Ne.symm d2)
    have c265 := c232.other W255 (Ne.symm d3)
    have c266 := c233.other W255 (Ne.symm d4)
    have c267 := c254.other W255 (Ne.symm nq169)
    have c268 := V_215.other W255 (Ne.symm nq216)
    refine own_go (T' := T255) (g' := (mkF m 46 #[rv b, iv p1, .val (.long q2), .second] [])) (st255) ?_
    refine own_go (T' := T255) (g' := (mkF m 47 #[rv b, iv p1, .val (.long q2), .second] [(.ref b)])) (fun t k => XS.aloadN X255.here hx rfl (hb hby own_d_prog_111_method_3_code_46) rfl rfl k) ?_
    refine own_go (T' := T255) (g' := (mkF m 48 #[rv b, iv p1, .val (.long q2), .second] [(.ref b), (.ref b)])) (fun t k => XS.aloadN X255.here hx rfl (hb hby own_d_prog_111_method_3_code_47) rfl rfl k) ?_
    obtain ⟨T269, X269, e269, st269⟩ := getF X255 hx hZ hown (host := "") (Or.inl (hw _ (List.mem_of_getElem? (i := 19) rfl))) Via.refl e255 c259 (g := (mkF m 48 #[rv b, iv p1, .val (.long q2), .second] [(.ref b), (.ref b)])) rfl rfl (hb hby own_d_prog_111_method_3_code_48)
    refine own_go (T' := T269) (g' := (mkF m 51 #[rv b, iv p1, .val (.long q2), .second] [(.ref aF), (.ref b)])) (st269) ?_
    refine own_go (T' := T269) (g' := (mkF m 52 #[rv b, iv p1, .val (.long q2), .second] [(.int (2 : Int32)), (.ref aF), (.ref b)])) (fun t k => XS.iconst X269.here hx rfl (hb hby own_d_prog_111_method_3_code_51) k) ?_
    refine own_go (T' := T269) (g' := (mkF m 53 #[rv b, iv p1, .val (.long q2), .second] [(.ref b), (.int (2 : Int32)), (.ref aF), (.ref b)])) (fun t k => XS.aloadN X269.here hx rfl (hb hby own_d_prog_111_method_3_code_52) rfl rfl k) ?_
    obtain ⟨T270, X270, e270, st270⟩ := getF X269 hx hZ hown (host := "") (Or.inl (hw _ (List.mem_of_getElem? (i := 50) rfl))) Via.refl e269 c261 (g := (mkF m 53 #[rv b, iv p1, .val (.long q2), .second] [(.ref b), (.int (2 : Int32)), (.ref aF), (.ref b)])) rfl rfl (hb hby own_d_prog_111_method_3_code_53)
    refine own_go (T' := T270) (g' := (mkF m 56 #[rv b, iv p1, .val (.long q2), .second] [(.int (Int32.ofNat r)), (.int (2 : Int32)), (.ref aF), (.ref b)])) (st270) ?_
    refine own_go (T' := T270) (g' := (mkF m 57 #[rv b, iv p1, .val (.long q2), .second] [(.int ((2 : Int32) * (Int32.ofNat r))), (.ref aF), (.ref b)])) (fun t k => XS.imul X270.here hx rfl (hb hby own_d_prog_111_method_3_code_56) rfl k) ?_
    refine own_go (T' := T270) (g' := (mkF m 58 #[rv b, iv p1, .val (.long q2), .second] [(.int (1 : Int32)), (.int ((2 : Int32) * (Int32.ofNat r))), (.ref aF), (.ref b)])) (fun t k => XS.iconst X270.here hx rfl (hb hby own_d_prog_111_method_3_code_57) k) ?_
    refine own_go (T' := T270) (g' := (mkF m 59 #[rv b, iv p1, .val (.long q2), .second] [(.int (((2 : Int32) * (Int32.ofNat r)) + (1 : Int32))), (.ref aF), (.ref b)])) (fun t k => XS.iadd X270.here hx rfl (hb hby own_d_prog_111_method_3_code_58) rfl k) ?_
    rw [own_two (by omega), ← inc_ofNat]
    obtain ⟨_, _, ⟨T271, L271, k271, n271⟩, -, X271, ⟨Lc271, hQ271, l271, y271, z271⟩, st271⟩ := Jvm.LawKit.callS X270 hx (y := (⟨"java/util/Arrays", "copyOf", "([II)[I"⟩ : MethodName)) hown (mvT hZ (hw _ (List.mem_of_getElem? (i := 34) rfl))) (mvT hZ (hw _ (List.mem_of_getElem? (i := 35) rfl))) (mvT hZ (hw _ (List.mem_of_getElem? (i := 36) rfl))) (mvT hZ (hw _ (List.mem_of_getElem? (i := 37) rfl))) (by decide) (backOf (W := 1) (own_cpI3 l Z a0 hw [] aF kF (zS + 1) (2 * r + 1) vF h255 n0 hz255 (by omega) (by omega) c265) hZ (hw _ (List.mem_of_getElem? (i := 37) rfl)) (hw _ (List.mem_of_getElem? (i := 36) rfl)) (by decide) (by decide)) (g := (mkF m 59 #[rv b, iv p1, .val (.long q2), .second] [(.int (Int32.ofNat (2 * r + 1))), (.ref aF), (.ref b)])) rfl (by rw [hml]; rfl) (argsL := [(.ref aF), (.int (Int32.ofNat (2 * r + 1)))]) (rest := [(.ref b)]) (lenOf own_pd1 rfl) rfl (by show 2 * 0 + _ ≤ _; exact Nat.le_of_eq rfl) (hb hby own_d_prog_111_method_3_code_59) (fun _ _ => ⟨rfl, e270, (by decide : 2 + 1 ≤ _), (by decide : 4 + 3 ≤ _)⟩)
    dsimp only [Pt.U, Pt.locs, Pt.cells, Pt.slots] at X271 l271 y271 z271 st271 hQ271
    subst l271 y271 z271
    obtain ⟨c_271, k_271, rfl, N271q, ob_271, K_271, vs_271, V_271, lv_271, gv_271⟩ := hQ271
    have N271 := Fr.app N255 N271q
    have nq272 : b ≠ c_271 := Nat.ne_of_lt (Nat.lt_of_lt_of_le c256.lt ob_271)
    have nq273 : aS ≠ c_271 := Nat.ne_of_lt (Nat.lt_of_lt_of_le c263.lt ob_271)
    have nq274 : aL ≠ c_271 := Nat.ne_of_lt (Nat.lt_of_lt_of_le c264.lt ob_271)
    have nq275 : aF ≠ c_271 := Nat.ne_of_lt (Nat.lt_of_lt_of_le c265.lt ob_271)
    have nq276 : aE ≠ c_271 := Nat.ne_of_lt (Nat.lt_of_lt_of_le c266.lt ob_271)
    have nq277 : c_168 ≠ c_271 := Nat.ne_of_lt (Nat.lt_of_lt_of_le c267.lt ob_271)
    have nq278 : c_215 ≠ c_271 := Nat.ne_of_lt (Nat.lt_of_lt_of_le c268.lt ob_271)
    have gq271 : n0 ≤ c_271 := Nat.le_trans hz255 ob_271
    have c279 := c256.keep K_271
    have c281 := c257.keep K_271 nin0
    have c282 := c258.keep K_271 nin0
    have c283 := c259.keep K_271 nin0
    have c284 := c260.keep K_271 nin0
    have c285 := c261.keep K_271 nin0
    have c286 := c262.keep K_271 nin0
    have c287 := c263.keep K_271 nin0
    have c288 := c264.keep K_271 nin0
    have c289 := c265.keep K_271 nin0
    have c290 := c266.keep K_271 nin0
    have c311 := c267.keep K_271 nin0
    have c319 := c268.keep K_271 nin0
    have hz271 : n0 ≤ T271.heap.size := Nat.le_trans hz255 K_271.1
    refine own_go (T' := T271) (g' := (mkF m 62 #[rv b, iv p1, .val (.long q2), .second] [(.ref c_271), (.ref b)])) (st271) ?_
    obtain ⟨T320, h320, X320, e320, W320, st320⟩ := putF X271 hx hZ hown (host := "") (Or.inl (hw _ (List.mem_of_getElem? (i := 19) rfl))) Via.refl rfl c283 c279 (Or.inl (hw _ (List.mem_of_getElem? (i := 20) rfl))) (hw _ (List.mem_of_getElem? (i := 1) rfl)) (ty := (.array .int)) (by decide) rfl rfl (g := (mkF m 62 #[rv b, iv p1, .val (.long q2), .second] [(.ref c_271), (.ref b)])) rfl rfl (hb hby own_d_prog_111_method_3_code_62)
    have hz320 : n0 ≤ h320.size := Nat.le_trans hz271 (Keep.of_wr W320).1
    have N320 := Fr.snoc X320 N271 g_b
    have c321 := c279.wr W320
    have c322 := c281.other W320 (Or.inr (slot_ne (Or.inl (hw _ (List.mem_of_getElem? (i := 15) rfl))) (Or.inl (hw _ (List.mem_of_getElem? (i := 20) rfl))) (by decide) (t := (.array .int)) (t' := (.array .int)) (by decide) (by decide)))
    have c323 := c282.other W320 (Or.inr (slot_ne (Or.inl (hw _ (List.mem_of_getElem? (i := 18) rfl))) (Or.inl (hw _ (List.mem_of_getElem? (i := 20) rfl))) (by decide) (t := (.array .long)) (t' := (.array .int)) (by decide) (by decide)))
    have c324 := c283.same W320
    have c325 := c284.other W320 (Or.inr (slot_ne (Or.inl (hw _ (List.mem_of_getElem? (i := 22) rfl))) (Or.inl (hw _ (List.mem_of_getElem? (i := 20) rfl))) (by decide) (t := (.array .int)) (t' := (.array .int)) (by decide) (by decide)))
    have c326 := c285.other W320 (Or.inr (slot_ne (Or.inl (hw _ (List.mem_of_getElem? (i := 51) rfl))) (Or.inl (hw _ (List.mem_of_getElem? (i := 20) rfl))) (by decide) (t := .int) (t' := (.array .int)) (by decide) (by decide)))
    have c327 := c286.other W320 (Or.inr (slot_ne (Or.inl (hw _ (List.mem_of_getElem? (i := 33) rfl))) (Or.inl (hw _ (List.mem_of_getElem? (i := 20) rfl))) (by decide) (t := .int) (t' := (.array .int)) (by decide) (by decide)))
    have c328 := c287.other W320 (Ne.symm d1)
    have c329 := c288.other W320 (Ne.symm d2)
    have c330 := c289.other W320 (Ne.symm d3)
    have c331 := c290.other W320 (Ne.symm d4)
    have c332 := c311.other W320 (Ne.symm nq169)
    have c333 := c319.other W320 (Ne.symm nq216)
    have c334 := V_271.other W320 (Ne.symm nq272)
    refine own_go (T' := T320) (g' := (mkF m 65 #[rv b, iv p1, .val (.long q2), .second] [])) (st320) ?_
    refine own_go (T' := T320) (g' := (mkF m 66 #[rv b, iv p1, .val (.long q2), .second] [(.ref b)])) (fun t k => XS.aloadN X320.here hx rfl (hb hby own_d_prog_111_method_3_code_65) rfl rfl k) ?_
    obtain ⟨T335, X335, e335, st335⟩ := getF X320 hx hZ hown (host := "") (Or.inl (hw _ (List.mem_of_getElem? (i := 14) rfl))) Via.refl e320 c322 (g := (mkF m 66 #[rv b, iv p1, .val (.long q2), .second] [(.ref b)])) rfl rfl (hb hby own_d_prog_111_method_3_code_66)
    refine own_go (T' := T335) (g' := (mkF m 69 #[rv b, iv p1, .val (.long q2), .second] [(.ref c_168)])) (st335) ?_
    refine own_go (T' := T335) (g' := (mkF m 70 #[rv b, iv p1, .val (.long q2), .second] [(.ref b), (.ref c_168)])) (fun t k => XS.aloadN X335.here hx rfl (hb hby own_d_prog_111_method_3_code_69) rfl rfl k) ?_
    obtain ⟨T336, X336, e336, st336⟩ := getF X335 hx hZ hown (host := "") (Or.inl (hw _ (List.mem_of_getElem? (i := 50) rfl))) Via.refl e335 c326 (g := (mkF m 70 #[rv b, iv p1, .val (.long q2), .second] [(.ref b), (.ref c_168)])) rfl rfl (hb hby own_d_prog_111_method_3_code_70)
    refine own_go (T' := T336) (g' := (mkF m 73 #[rv b, iv p1, .val (.long q2), .second] [(.int (Int32.ofNat r)), (.ref c_168)])) (st336) ?_
    refine own_go (T' := T336) (g' := (mkF m 74 #[rv b, iv p1, .val (.long q2), .second] [(.int p1), (.int (Int32.ofNat r)), (.ref c_168)])) (fun t k => XS.iloadN X336.here hx rfl (hb hby own_d_prog_111_method_3_code_73) rfl k) ?_
    obtain ⟨cl337, Ar337, q337, Sz337, Nn337, Ha337, Ga337⟩ := id c332
    have hin337 : ¬ ((Int32.ofNat r) < 0 ∨ cl337.slots.size ≤ ((Int32.ofNat r)).toNatClampNeg) := inb_of Sz337 (own_inb (by omega) (by omega))
    obtain ⟨T337, h337, X337, e337, W337, st337⟩ := stI X336 hx hZ e336 Ar337 (j := (Int32.ofNat r)) hin337 (g := (mkF m 74 #[rv b, iv p1, .val (.long q2), .second] [(.int p1), (.int (Int32.ofNat r)), (.ref c_168)])) rfl rfl (hb hby own_d_prog_111_method_3_code_74)
    have hz337 : n0 ≤ h337.size := Nat.le_trans hz320 (Keep.of_wr W337).1
    have N337 := Fr.snoc X337 N320 gq168
    have c338 := c321.wr W337
    have c339 := c322.other W337 (Or.inl nq169)
    have c340 := c323.other W337 (Or.inl nq169)
    have c341 := c324.other W337 (Or.inl nq169)
    have c342 := c325.other W337 (Or.inl nq169)
    have c343 := c326.other W337 (Or.inl nq169)
    have c344 := c327.other W337 (Or.inl nq169)
    have c345 := c328.other W337 nq170
    have c346 := c329.other W337 nq171
    have c347 := c330.other W337 nq172
    have c348 := c331.other W337 nq173
    have c350 := c333.other W337 (Ne.symm nq221)
    have c351 := c334.other W337 (Ne.symm nq277)
    have V337 : Arv Z h337 c_168 k_168 .int (Int32.ofNat (2 * r)) (vs_168.set r (.int p1)) (.int (0 : Int32)) := Arv.set Ar337 q337 Sz337 Nn337 Ha337 Ga337 rfl W337 r (own_cl (by omega)) (by rw [lv_168]; omega)
    refine own_go (T' := T337) (g' := (mkF m 75 #[rv b, iv p1, .val (.long q2), .second] [])) (st337) ?_
    refine own_go (T' := T337) (g' := (mkF m 76 #[rv b, iv p1, .val (.long q2), .second] [(.ref b)])) (fun t k => XS.aloadN X337.here hx rfl (hb hby own_d_prog_111_method_3_code_75) rfl rfl k) ?_
    obtain ⟨T352, X352, e352, st352⟩ := getF X337 hx hZ hown (host := "") (Or.inl (hw _ (List.mem_of_getElem? (i := 17) rfl))) Via.refl e337 c340 (g := (mkF m 76 #[rv b, iv p1, .val (.long q2), .second] [(.ref b)])) rfl rfl (hb hby own_d_prog_111_method_3_code_76)
    refine own_go (T' := T352) (g' := (mkF m 79 #[rv b, iv p1, .val (.long q2), .second] [(.ref c_215)])) (st352) ?_
    refine own_go (T' := T352) (g' := (mkF m 80 #[rv b, iv p1, .val (.long q2), .second] [(.ref b), (.ref c_215)])) (fun t k => XS.aloadN X352.here hx rfl (hb hby own_d_prog_111_method_3_code_79) rfl rfl k) ?_
    obtain ⟨T353, X353, e353, st353⟩ := getF X352 hx hZ hown (host := "") (Or.inl (hw _ (List.mem_of_getElem? (i := 50) rfl))) Via.refl e352 c343 (g := (mkF m 80 #[rv b, iv p1, .val (.long q2), .second] [(.ref b), (.ref c_215)])) rfl rfl (hb hby own_d_prog_111_method_3_code_80)
    refine own_go (T' := T353) (g' := (mkF m 83 #[rv b, iv p1, .val (.long q2), .second] [(.int (Int32.ofNat r)), (.ref c_215)])) (st353) ?_
    refine own_go (T' := T353) (g' := (mkF m 84 #[rv b, iv p1, .val (.long q2), .second] [(.long q2), (.int (Int32.ofNat r)), (.ref c_215)])) (fun t k => XS.lloadN X353.here hx rfl (hb hby own_d_prog_111_method_3_code_83) rfl k) ?_
    obtain ⟨cl354, Ar354, q354, Sz354, Nn354, Ha354, Ga354⟩ := id c350
    have hin354 : ¬ ((Int32.ofNat r) < 0 ∨ cl354.slots.size ≤ ((Int32.ofNat r)).toNatClampNeg) := inb_of Sz354 (own_inb (by omega) (by omega))
    obtain ⟨T354, h354, X354, e354, W354, st354⟩ := stJ X353 hx hZ e353 Ar354 (j := (Int32.ofNat r)) hin354 (g := (mkF m 84 #[rv b, iv p1, .val (.long q2), .second] [(.long q2), (.int (Int32.ofNat r)), (.ref c_215)])) rfl rfl (hb hby own_d_prog_111_method_3_code_84)
    have hz354 : n0 ≤ h354.size := Nat.le_trans hz337 (Keep.of_wr W354).1
    have N354 := Fr.snoc X354 N337 gq215
    have c355 := c338.wr W354
    have c356 := c339.other W354 (Or.inl nq216)
    have c357 := c340.other W354 (Or.inl nq216)
    have c358 := c341.other W354 (Or.inl nq216)
    have c359 := c342.other W354 (Or.inl nq216)
    have c360 := c343.other W354 (Or.inl nq216)
    have c361 := c344.other W354 (Or.inl nq216)
    have c362 := c345.other W354 nq217
    have c363 := c346.other W354 nq218
    have c364 := c347.other W354 nq219
    have c365 := c348.other W354 nq220
    have c366 := V337.other W354 nq221
    have c368 := c351.other W354 (Ne.symm nq278)
    have V354 : Arv Z h354 c_215 k_215 .long (Int32.ofNat (2 * r)) (vs_215.set r (.long q2)) (.long (0 : Int64)) := Arv.set Ar354 q354 Sz354 Nn354 Ha354 Ga354 rfl W354 r (own_cl (by omega)) (by rw [lv_215]; omega)
    refine own_go (T' := T354) (g' := (mkF m 85 #[rv b, iv p1, .val (.long q2), .second] [])) (st354) ?_
    refine own_go (T' := T354) (g' := (mkF m 86 #[rv b, iv p1, .val (.long q2), .second] [(.ref b)])) (fun t k => XS.aloadN X354.here hx rfl (hb hby own_d_prog_111_method_3_code_85) rfl rfl k) ?_
    refine own_go (T' := T354) (g' := (mkF m 87 #[rv b, iv p1, .val (.long q2), .second] [(.ref b), (.ref b)])) (fun t k => XS.dup X354.here hx rfl (hb hby own_d_prog_111_method_3_code_86) rfl rfl k) ?_
    obtain ⟨T369, X369, e369, st369⟩ := getF X354 hx hZ hown (host := "") (Or.inl (hw _ (List.mem_of_getElem? (i := 50) rfl))) Via.refl e354 c360 (g := (mkF m 87 #[rv b, iv p1, .val (.long q2), .second] [(.ref b), (.ref b)])) rfl rfl (hb hby own_d_prog_111_method_3_code_87)
    refine own_go (T' := T369) (g' := (mkF m 90 #[rv b, iv p1, .val (.long q2), .second] [(.int (Int32.ofNat r)), (.ref b)])) (st369) ?_
    refine own_go (T' := T369) (g' := (mkF m 91 #[rv b, iv p1, .val (.long q2), .second] [(.int (1 : Int32)), (.int (Int32.ofNat r)), (.ref b)])) (fun t k => XS.iconst X369.here hx rfl (hb hby own_d_prog_111_method_3_code_90) k) ?_
    refine own_go (T' := T369) (g' := (mkF m 92 #[rv b, iv p1, .val (.long q2), .second] [(.int ((Int32.ofNat r) + (1 : Int32))), (.ref b)])) (fun t k => XS.iadd X369.here hx rfl (hb hby own_d_prog_111_method_3_code_91) rfl k) ?_
    obtain ⟨T370, h370, X370, e370, W370, st370⟩ := putF X369 hx hZ hown (host := "") (Or.inl (hw _ (List.mem_of_getElem? (i := 50) rfl))) Via.refl e369 c360 c355 (Or.inl (hw _ (List.mem_of_getElem? (i := 51) rfl))) (hw _ (List.mem_of_getElem? (i := 1) rfl)) (ty := .int) (by decide) rfl rfl (g := (mkF m 92 #[rv b, iv p1, .val (.long q2), .second] [(.int ((Int32.ofNat r) + (1 : Int32))), (.ref b)])) rfl rfl (hb hby own_d_prog_111_method_3_code_92)
    have hz370 : n0 ≤ h370.size := Nat.le_trans hz354 (Keep.of_wr W370).1
    have N370 := Fr.snoc X370 N354 g_b
    have c371 := c355.wr W370
    have c372 := c356.other W370 (Or.inr (slot_ne (Or.inl (hw _ (List.mem_of_getElem? (i := 15) rfl))) (Or.inl (hw _ (List.mem_of_getElem? (i := 51) rfl))) (by decide) (t := (.array .int)) (t' := .int) (by decide) (by decide)))
    have c373 := c357.other W370 (Or.inr (slot_ne (Or.inl (hw _ (List.mem_of_getElem? (i := 18) rfl))) (Or.inl (hw _ (List.mem_of_getElem? (i := 51) rfl))) (by decide) (t := (.array .long)) (t' := .int) (by decide) (by decide)))
    have c374 := c358.other W370 (Or.inr (slot_ne (Or.inl (hw _ (List.mem_of_getElem? (i := 20) rfl))) (Or.inl (hw _ (List.mem_of_getElem? (i := 51) rfl))) (by decide) (t := (.array .int)) (t' := .int) (by decide) (by decide)))
    have c375 := c359.other W370 (Or.inr (slot_ne (Or.inl (hw _ (List.mem_of_getElem? (i := 22) rfl))) (Or.inl (hw _ (List.mem_of_getElem? (i := 51) rfl))) (by decide) (t := (.array .int)) (t' := .int) (by decide) (by decide)))
    have c376 := c360.same W370
    have c377 := c361.other W370 (Or.inr (slot_ne (Or.inl (hw _ (List.mem_of_getElem? (i := 33) rfl))) (Or.inl (hw _ (List.mem_of_getElem? (i := 51) rfl))) (by decide) (t := .int) (t' := .int) (by decide) (by decide)))
    have c378 := c362.other W370 (Ne.symm d1)
    have c379 := c363.other W370 (Ne.symm d2)
    have c380 := c364.other W370 (Ne.symm d3)
    have c381 := c365.other W370 (Ne.symm d4)
    have c382 := c366.other W370 (Ne.symm nq169)
    have c383 := V354.other W370 (Ne.symm nq216)
    have c384 := c368.other W370 (Ne.symm nq272)
    refine own_go (T' := T370) (g' := (mkF m 95 #[rv b, iv p1, .val (.long q2), .second] [])) (st370) ?_
    refine own_go (T' := T370) (g' := (mkF m 96 #[rv b, iv p1, .val (.long q2), .second] [(.ref b)])) (fun t k => XS.aloadN X370.here hx rfl (hb hby own_d_prog_111_method_3_code_95) rfl rfl k) ?_
    obtain ⟨T385, X385, e385, st385⟩ := getF X370 hx hZ hown (host := "") (Or.inl (hw _ (List.mem_of_getElem? (i := 19) rfl))) Via.refl e370 c374 (g := (mkF m 96 #[rv b, iv p1, .val (.long q2), .second] [(.ref b)])) rfl rfl (hb hby own_d_prog_111_method_3_code_96)
    refine own_go (T' := T385) (g' := (mkF m 99 #[rv b, iv p1, .val (.long q2), .second] [(.ref c_271)])) (st385) ?_
    refine own_go (T' := T385) (g' := (mkF m 100 #[rv b, iv p1, .val (.long q2), .second] [(.ref b), (.ref c_271)])) (fun t k => XS.aloadN X385.here hx rfl (hb hby own_d_prog_111_method_3_code_99) rfl rfl k) ?_
    obtain ⟨T386, X386, e386, st386⟩ := getF X385 hx hZ hown (host := "") (Or.inl (hw _ (List.mem_of_getElem? (i := 50) rfl))) Via.refl e385 c376 (g := (mkF m 100 #[rv b, iv p1, .val (.long q2), .second] [(.ref b), (.ref c_271)])) rfl rfl (hb hby own_d_prog_111_method_3_code_100)
    refine own_go (T' := T386) (g' := (mkF m 103 #[rv b, iv p1, .val (.long q2), .second] [(.int ((Int32.ofNat r) + (1 : Int32))), (.ref c_271)])) (st386) ?_
    rw [← inc_ofNat]
    refine own_go (T' := T386) (g' := (mkF m 104 #[rv b, iv p1, .val (.long q2), .second] [(.ref b), (.int (Int32.ofNat (r + 1))), (.ref c_271)])) (fun t k => XS.aloadN X386.here hx rfl (hb hby own_d_prog_111_method_3_code_103) rfl rfl k) ?_
    obtain ⟨T387, X387, e387, st387⟩ := getF X386 hx hZ hown (host := "") (Or.inl (hw _ (List.mem_of_getElem? (i := 32) rfl))) Via.refl e386 c377 (g := (mkF m 104 #[rv b, iv p1, .val (.long q2), .second] [(.ref b), (.int (Int32.ofNat (r + 1))), (.ref c_271)])) rfl rfl (hb hby own_d_prog_111_method_3_code_104)
    refine own_go (T' := T387) (g' := (mkF m 107 #[rv b, iv p1, .val (.long q2), .second] [(.int (Int32.ofNat f)), (.int (Int32.ofNat (r + 1))), (.ref c_271)])) (st387) ?_
    obtain ⟨cl388, Ar388, q388, Sz388, Nn388, Ha388, Ga388⟩ := id c384
    have hin388 : ¬ ((Int32.ofNat (r + 1)) < 0 ∨ cl388.slots.size ≤ ((Int32.ofNat (r + 1))).toNatClampNeg) := inb_of Sz388 (own_inb (by omega) (by omega))
    obtain ⟨T388, h388, X388, e388, W388, st388⟩ := stI X387 hx hZ e387 Ar388 (j := (Int32.ofNat (r + 1))) hin388 (g := (mkF m 107 #[rv b, iv p1, .val (.long q2), .second] [(.int (Int32.ofNat f)), (.int (Int32.ofNat (r + 1))), (.ref c_271)])) rfl rfl (hb hby own_d_prog_111_method_3_code_107)
    have hz388 : n0 ≤ h388.size := Nat.le_trans hz370 (Keep.of_wr W388).1
    have N388 := Fr.snoc X388 N370 gq271
    have c389 := c371.wr W388
    have c390 := c372.other W388 (Or.inl nq272)
    have c391 := c373.other W388 (Or.inl nq272)
    have c392 := c374.other W388 (Or.inl nq272)
    have c393 := c375.other W388 (Or.inl nq272)
    have c394 := c376.other W388 (Or.inl nq272)
    have c395 := c377.other W388 (Or.inl nq272)
    have c396 := c378.other W388 nq273
    have c397 := c379.other W388 nq274
    have c398 := c380.other W388 nq275
    have c399 := c381.other W388 nq276
    have c400 := c382.other W388 nq277
    have c401 := c383.other W388 nq278
    have V388 : Arv Z h388 c_271 k_271 .int (Int32.ofNat (2 * r + 1)) (vs_271.set (r + 1) (.int (Int32.ofNat f))) (.int (0 : Int32)) := Arv.set Ar388 q388 Sz388 Nn388 Ha388 Ga388 rfl W388 (r + 1) (own_cl (by omega)) (by rw [lv_271]; omega)
    refine own_go (T' := T388) (g' := (mkF m 108 #[rv b, iv p1, .val (.long q2), .second] [])) (st388) ?_
    exact own_ret0 X388 hlk hx Bd.returns (hb hby own_d_prog_111_method_3_code_108) (by rw [e388]; exact ⟨rfl, N388, hz388, ⟨c_168, c_215, c_271, aE, k_168, k_215, k_271, kE, (2 * r), zE, (vs_168.set r (.int p1)), (vs_215.set r (.long q2)), (vs_271.set (r + 1) (.int (Int32.ofNat f))), vE, c389, g_b, c390, c391, c392, c393, (by rw [inc_ofNat]; exact c394), c395, c400, c401, V388, c399, ⟨gq168, gq215, gq271, gE⟩, ⟨nq169, nq216, nq272, d4, nq221, nq277, (Ne.symm nq173), nq278, (Ne.symm nq220), (Ne.symm nq276)⟩, ⟨(by omega), (by omega), (by omega), (by omega), (by omega), (by omega)⟩, ⟨(by rw [List.length_set]; exact lv_168), (by rw [List.length_set]; exact lv_215), (by rw [List.length_set]; exact lv_271), l4⟩, (own_gset (by rw [lv_271]; omega) (fun i hi => by rw [gv_271 i (by omega)]; exact hG i (by omega)))⟩⟩) (by decide) (by decide)
  · refine own_go (T' := T163) (g' := (mkF m 65 #[rv b, iv p1, .val (.long q2), .second] [])) (fun t k => XS.icmpYes X163.here hx rfl (pc0 := 9) (pc' := 65) rfl (hb hby own_d_prog_111_method_3_code_9) rfl (feq hc165).2 (by decide) (by decide) k) ?_
    have hrl : r < zS := by have q := hc165; rw [own_eqn (by omega) (by omega)] at q; omega
    refine own_go (T' := T163) (g' := (mkF m 66 #[rv b, iv p1, .val (.long q2), .second] [(.ref b)])) (fun t k => XS.aloadN X163.here hx rfl (hb hby own_d_prog_111_method_3_code_65) rfl rfl k) ?_
    obtain ⟨T403, X403, e403, st403⟩ := getF X163 hx hZ hown (host := "") (Or.inl (hw _ (List.mem_of_getElem? (i := 14) rfl))) Via.refl e163 F_s (g := (mkF m 66 #[rv b, iv p1, .val (.long q2), .second] [(.ref b)])) rfl rfl (hb hby own_d_prog_111_method_3_code_66)
    refine own_go (T' := T403) (g' := (mkF m 69 #[rv b, iv p1, .val (.long q2), .second] [(.ref aS)])) (st403) ?_
    refine own_go (T' := T403) (g' := (mkF m 70 #[rv b, iv p1, .val (.long q2), .second] [(.ref b), (.ref aS)])) (fun t k => XS.aloadN X403.here hx rfl (hb hby own_d_prog_111_method_3_code_69) rfl rfl k) ?_
    obtain ⟨T404, X404, e404, st404⟩ := getF X403 hx hZ hown (host := "") (Or.inl (hw _ (List.mem_of_getElem? (i := 50) rfl))) Via.refl e403 F_r (g := (mkF m 70 #[rv b, iv p1, .val (.long q2), .second] [(.ref b), (.ref aS)])) rfl rfl (hb hby own_d_prog_111_method_3_code_70)
    refine own_go (T' := T404) (g' := (mkF m 73 #[rv b, iv p1, .val (.long q2), .second] [(.int (Int32.ofNat r)), (.ref aS)])) (st404) ?_
    refine own_go (T' := T404) (g' := (mkF m 74 #[rv b, iv p1, .val (.long q2), .second] [(.int p1), (.int (Int32.ofNat r)), (.ref aS)])) (fun t k => XS.iloadN X404.here hx rfl (hb hby own_d_prog_111_method_3_code_73) rfl k) ?_
    obtain ⟨cl405, Ar405, q405, Sz405, Nn405, Ha405, Ga405⟩ := id V_S
    have hin405 : ¬ ((Int32.ofNat r) < 0 ∨ cl405.slots.size ≤ ((Int32.ofNat r)).toNatClampNeg) := inb_of Sz405 (own_inb (by omega) (by omega))
    obtain ⟨T405, h405, X405, e405, W405, st405⟩ := stI X404 hx hZ e404 Ar405 (j := (Int32.ofNat r)) hin405 (g := (mkF m 74 #[rv b, iv p1, .val (.long q2), .second] [(.int p1), (.int (Int32.ofNat r)), (.ref aS)])) rfl rfl (hb hby own_d_prog_111_method_3_code_74)
    have hz405 : n0 ≤ h405.size := Nat.le_trans Z0 (Keep.of_wr W405).1
    have N405 := Fr.snoc X405 N0 gS
    have c406 := E_b.wr W405
    have c407 := F_s.other W405 (Or.inl d1)
    have c408 := F_l.other W405 (Or.inl d1)
    have c409 := F_f.other W405 (Or.inl d1)
    have c410 := F_e.other W405 (Or.inl d1)
    have c411 := F_r.other W405 (Or.inl d1)
    have c412 := F_n.other W405 (Or.inl d1)
    have c414 := V_L.other W405 (Ne.symm d5)
    have c415 := V_F.other W405 (Ne.symm d6)
    have c416 := V_E.other W405 (Ne.symm d7)
    have V405 : Arv Z h405 aS kS .int (Int32.ofNat zS) (vS.set r (.int p1)) (.int (0 : Int32)) := Arv.set Ar405 q405 Sz405 Nn405 Ha405 Ga405 rfl W405 r (own_cl (by omega)) (by rw [l1]; omega)
    refine own_go (T' := T405) (g' := (mkF m 75 #[rv b, iv p1, .val (.long q2), .second] [])) (st405) ?_
    refine own_go (T' := T405) (g' := (mkF m 76 #[rv b, iv p1, .val (.long q2), .second] [(.ref b)])) (fun t k => XS.aloadN X405.here hx rfl (hb hby own_d_prog_111_method_3_code_75) rfl rfl k) ?_
    obtain ⟨T417, X417, e417, st417⟩ := getF X405 hx hZ hown (host := "") (Or.inl (hw _ (List.mem_of_getElem? (i := 17) rfl))) Via.refl e405 c408 (g := (mkF m 76 #[rv b, iv p1, .val (.long q2), .second] [(.ref b)])) rfl rfl (hb hby own_d_prog_111_method_3_code_76)
    refine own_go (T' := T417) (g' := (mkF m 79 #[rv b, iv p1, .val (.long q2), .second] [(.ref aL)])) (st417) ?_
    refine own_go (T' := T417) (g' := (mkF m 80 #[rv b, iv p1, .val (.long q2), .second] [(.ref b), (.ref aL)])) (fun t k => XS.aloadN X417.here hx rfl (hb hby own_d_prog_111_method_3_code_79) rfl rfl k) ?_
    obtain ⟨T418, X418, e418, st418⟩ := getF X417 hx hZ hown (host := "") (Or.inl (hw _ (List.mem_of_getElem? (i := 50) rfl))) Via.refl e417 c411 (g := (mkF m 80 #[rv b, iv p1, .val (.long q2), .second] [(.ref b), (.ref aL)])) rfl rfl (hb hby own_d_prog_111_method_3_code_80)
    refine own_go (T' := T418) (g' := (mkF m 83 #[rv b, iv p1, .val (.long q2), .second] [(.int (Int32.ofNat r)), (.ref aL)])) (st418) ?_
    refine own_go (T' := T418) (g' := (mkF m 84 #[rv b, iv p1, .val (.long q2), .second] [(.long q2), (.int (Int32.ofNat r)), (.ref aL)])) (fun t k => XS.lloadN X418.here hx rfl (hb hby own_d_prog_111_method_3_code_83) rfl k) ?_
    obtain ⟨cl419, Ar419, q419, Sz419, Nn419, Ha419, Ga419⟩ := id c414
    have hin419 : ¬ ((Int32.ofNat r) < 0 ∨ cl419.slots.size ≤ ((Int32.ofNat r)).toNatClampNeg) := inb_of Sz419 (own_inb (by omega) (by omega))
    obtain ⟨T419, h419, X419, e419, W419, st419⟩ := stJ X418 hx hZ e418 Ar419 (j := (Int32.ofNat r)) hin419 (g := (mkF m 84 #[rv b, iv p1, .val (.long q2), .second] [(.long q2), (.int (Int32.ofNat r)), (.ref aL)])) rfl rfl (hb hby own_d_prog_111_method_3_code_84)
    have hz419 : n0 ≤ h419.size := Nat.le_trans hz405 (Keep.of_wr W419).1
    have N419 := Fr.snoc X419 N405 gL
    have c420 := c406.wr W419
    have c421 := c407.other W419 (Or.inl d2)
    have c422 := c408.other W419 (Or.inl d2)
    have c423 := c409.other W419 (Or.inl d2)
    have c424 := c410.other W419 (Or.inl d2)
    have c425 := c411.other W419 (Or.inl d2)
    have c426 := c412.other W419 (Or.inl d2)
    have c427 := V405.other W419 d5
    have c429 := c415.other W419 (Ne.symm d8)
    have c430 := c416.other W419 (Ne.symm d9)
    have V419 : Arv Z h419 aL kL .long (Int32.ofNat zS) (vL.set r (.long q2)) (.long (0 : Int64)) := Arv.set Ar419 q419 Sz419 Nn419 Ha419 Ga419 rfl W419 r (own_cl (by omega)) (by rw [l2]; omega)
    refine own_go (T' := T419) (g' := (mkF m 85 #[rv b, iv p1, .val (.long q2), .second] [])) (st419) ?_
    refine own_go (T' := T419) (g' := (mkF m 86 #[rv b, iv p1, .val (.long q2), .second] [(.ref b)])) (fun t k => XS.aloadN X419.here hx rfl (hb hby own_d_prog_111_method_3_code_85) rfl rfl k) ?_
    refine own_go (T' := T419) (g' := (mkF m 87 #[rv b, iv p1, .val (.long q2), .second] [(.ref b), (.ref b)])) (fun t k => XS.dup X419.here hx rfl (hb hby own_d_prog_111_method_3_code_86) rfl rfl k) ?_
    obtain ⟨T431, X431, e431, st431⟩ := getF X419 hx hZ hown (host := "") (Or.inl (hw _ (List.mem_of_getElem? (i := 50) rfl))) Via.refl e419 c425 (g := (mkF m 87 #[rv b, iv p1, .val (.long q2), .second] [(.ref b), (.ref b)])) rfl rfl (hb hby own_d_prog_111_method_3_code_87)
    refine own_go (T' := T431) (g' := (mkF m 90 #[rv b, iv p1, .val (.long q2), .second] [(.int (Int32.ofNat r)), (.ref b)])) (st431) ?_
    refine own_go (T' := T431) (g' := (mkF m 91 #[rv b, iv p1, .val (.long q2), .second] [(.int (1 : Int32)), (.int (Int32.ofNat r)), (.ref b)])) (fun t k => XS.iconst X431.here hx rfl (hb hby own_d_prog_111_method_3_code_90) k) ?_
    refine own_go (T' := T431) (g' := (mkF m 92 #[rv b, iv p1, .val (.long q2), .second] [(.int ((Int32.ofNat r) + (1 : Int32))), (.ref b)])) (fun t k => XS.iadd X431.here hx rfl (hb hby own_d_prog_111_method_3_code_91) rfl k) ?_
    obtain ⟨T432, h432, X432, e432, W432, st432⟩ := putF X431 hx hZ hown (host := "") (Or.inl (hw _ (List.mem_of_getElem? (i := 50) rfl))) Via.refl e431 c425 c420 (Or.inl (hw _ (List.mem_of_getElem? (i := 51) rfl))) (hw _ (List.mem_of_getElem? (i := 1) rfl)) (ty := .int) (by decide) rfl rfl (g := (mkF m 92 #[rv b, iv p1, .val (.long q2), .second] [(.int ((Int32.ofNat r) + (1 : Int32))), (.ref b)])) rfl rfl (hb hby own_d_prog_111_method_3_code_92)
    have hz432 : n0 ≤ h432.size := Nat.le_trans hz419 (Keep.of_wr W432).1
    have N432 := Fr.snoc X432 N419 g_b
    have c433 := c420.wr W432
    have c434 := c421.other W432 (Or.inr (slot_ne (Or.inl (hw _ (List.mem_of_getElem? (i := 15) rfl))) (Or.inl (hw _ (List.mem_of_getElem? (i := 51) rfl))) (by decide) (t := (.array .int)) (t' := .int) (by decide) (by decide)))
    have c435 := c422.other W432 (Or.inr (slot_ne (Or.inl (hw _ (List.mem_of_getElem? (i := 18) rfl))) (Or.inl (hw _ (List.mem_of_getElem? (i := 51) rfl))) (by decide) (t := (.array .long)) (t' := .int) (by decide) (by decide)))
    have c436 := c423.other W432 (Or.inr (slot_ne (Or.inl (hw _ (List.mem_of_getElem? (i := 20) rfl))) (Or.inl (hw _ (List.mem_of_getElem? (i := 51) rfl))) (by decide) (t := (.array .int)) (t' := .int) (by decide) (by decide)))
    have c437 := c424.other W432 (Or.inr (slot_ne (Or.inl (hw _ (List.mem_of_getElem? (i := 22) rfl))) (Or.inl (hw _ (List.mem_of_getElem? (i := 51) rfl))) (by decide) (t := (.array .int)) (t' := .int) (by decide) (by decide)))
    have c438 := c425.same W432
    have c439 := c426.other W432 (Or.inr (slot_ne (Or.inl (hw _ (List.mem_of_getElem? (i := 33) rfl))) (Or.inl (hw _ (List.mem_of_getElem? (i := 51) rfl))) (by decide) (t := .int) (t' := .int) (by decide) (by decide)))
    have c440 := c427.other W432 (Ne.symm d1)
    have c441 := V419.other W432 (Ne.symm d2)
    have c442 := c429.other W432 (Ne.symm d3)
    have c443 := c430.other W432 (Ne.symm d4)
    refine own_go (T' := T432) (g' := (mkF m 95 #[rv b, iv p1, .val (.long q2), .second] [])) (st432) ?_
    refine own_go (T' := T432) (g' := (mkF m 96 #[rv b, iv p1, .val (.long q2), .second] [(.ref b)])) (fun t k => XS.aloadN X432.here hx rfl (hb hby own_d_prog_111_method_3_code_95) rfl rfl k) ?_
    obtain ⟨T444, X444, e444, st444⟩ := getF X432 hx hZ hown (host := "") (Or.inl (hw _ (List.mem_of_getElem? (i := 19) rfl))) Via.refl e432 c436 (g := (mkF m 96 #[rv b, iv p1, .val (.long q2), .second] [(.ref b)])) rfl rfl (hb hby own_d_prog_111_method_3_code_96)
    refine own_go (T' := T444) (g' := (mkF m 99 #[rv b, iv p1, .val (.long q2), .second] [(.ref aF)])) (st444) ?_
    refine own_go (T' := T444) (g' := (mkF m 100 #[rv b, iv p1, .val (.long q2), .second] [(.ref b), (.ref aF)])) (fun t k => XS.aloadN X444.here hx rfl (hb hby own_d_prog_111_method_3_code_99) rfl rfl k) ?_
    obtain ⟨T445, X445, e445, st445⟩ := getF X444 hx hZ hown (host := "") (Or.inl (hw _ (List.mem_of_getElem? (i := 50) rfl))) Via.refl e444 c438 (g := (mkF m 100 #[rv b, iv p1, .val (.long q2), .second] [(.ref b), (.ref aF)])) rfl rfl (hb hby own_d_prog_111_method_3_code_100)
    refine own_go (T' := T445) (g' := (mkF m 103 #[rv b, iv p1, .val (.long q2), .second] [(.int ((Int32.ofNat r) + (1 : Int32))), (.ref aF)])) (st445) ?_
    rw [← inc_ofNat]
    refine own_go (T' := T445) (g' := (mkF m 104 #[rv b, iv p1, .val (.long q2), .second] [(.ref b), (.int (Int32.ofNat (r + 1))), (.ref aF)])) (fun t k => XS.aloadN X445.here hx rfl (hb hby own_d_prog_111_method_3_code_103) rfl rfl k) ?_
    obtain ⟨T446, X446, e446, st446⟩ := getF X445 hx hZ hown (host := "") (Or.inl (hw _ (List.mem_of_getElem? (i := 32) rfl))) Via.refl e445 c439 (g := (mkF m 104 #[rv b, iv p1, .val (.long q2), .second] [(.ref b), (.int (Int32.ofNat (r + 1))), (.ref aF)])) rfl rfl (hb hby own_d_prog_111_method_3_code_104)
    refine own_go (T' := T446) (g' := (mkF m 107 #[rv b, iv p1, .val (.long q2), .second] [(.int (Int32.ofNat f)), (.int (Int32.ofNat (r + 1))), (.ref aF)])) (st446) ?_
    obtain ⟨cl447, Ar447, q447, Sz447, Nn447, Ha447, Ga447⟩ := id c442
    have hin447 : ¬ ((Int32.ofNat (r + 1)) < 0 ∨ cl447.slots.size ≤ ((Int32.ofNat (r + 1))).toNatClampNeg) := inb_of Sz447 (own_inb (by omega) (by omega))
    obtain ⟨T447, h447, X447, e447, W447, st447⟩ := stI X446 hx hZ e446 Ar447 (j := (Int32.ofNat (r + 1))) hin447 (g := (mkF m 107 #[rv b, iv p1, .val (.long q2), .second] [(.int (Int32.ofNat f)), (.int (Int32.ofNat (r + 1))), (.ref aF)])) rfl rfl (hb hby own_d_prog_111_method_3_code_107)
    have hz447 : n0 ≤ h447.size := Nat.le_trans hz432 (Keep.of_wr W447).1
    have N447 := Fr.snoc X447 N432 gF
    have c448 := c433.wr W447
    have c449 := c434.other W447 (Or.inl d3)
    have c450 := c435.other W447 (Or.inl d3)
    have c451 := c436.other W447 (Or.inl d3)
    have c452 := c437.other W447 (Or.inl d3)
    have c453 := c438.other W447 (Or.inl d3)
    have c454 := c439.other W447 (Or.inl d3)
    have c455 := c440.other W447 d6
    have c456 := c441.other W447 d8
    have c458 := c443.other W447 (Ne.symm d10)
    have V447 : Arv Z h447 aF kF .int (Int32.ofNat (zS + 1)) (vF.set (r + 1) (.int (Int32.ofNat f))) (.int (0 : Int32)) := Arv.set Ar447 q447 Sz447 Nn447 Ha447 Ga447 rfl W447 (r + 1) (own_cl (by omega)) (by rw [l3]; omega)
    refine own_go (T' := T447) (g' := (mkF m 108 #[rv b, iv p1, .val (.long q2), .second] [])) (st447) ?_
    exact own_ret0 X447 hlk hx Bd.returns (hb hby own_d_prog_111_method_3_code_108) (by rw [e447]; exact ⟨rfl, N447, hz447, ⟨aS, aL, aF, aE, kS, kL, kF, kE, zS, zE, (vS.set r (.int p1)), (vL.set r (.long q2)), (vF.set (r + 1) (.int (Int32.ofNat f))), vE, c448, g_b, c449, c450, c451, c452, (by rw [inc_ofNat]; exact c453), c454, c455, c456, V447, c458, ⟨gS, gL, gF, gE⟩, ⟨d1, d2, d3, d4, d5, d6, d7, d8, d9, d10⟩, ⟨(by omega), (by omega), (by omega), (by omega), (by omega), (by omega)⟩, ⟨(by rw [List.length_set]; exact l1), (by rw [List.length_set]; exact l2), (by rw [List.length_set]; exact l3), l4⟩, (own_gset (by rw [l3]; omega) (fun i hi => hG i (by omega)))⟩⟩) (by decide) (by decide)

theorem own_d_prog_111_method_4_code_0 : decode prog_111_method_4_code 0 = .ok (.aload_n 0, 1) := by decide +kernel
theorem own_d_prog_111_method_4_code_1 : decode prog_111_method_4_code 1 = .ok (.aload_n 0, 1) := by decide +kernel
theorem own_d_prog_111_method_4_code_2 : decode prog_111_method_4_code 2 = .ok (.getfield 23, 3) := by decide +kernel
theorem own_d_prog_111_method_4_code_5 : decode prog_111_method_4_code 5 = .ok (.aload_n 0, 1) := by decide +kernel
theorem own_d_prog_111_method_4_code_6 : decode prog_111_method_4_code 6 = .ok (.getfield 39, 3) := by decide +kernel
theorem own_d_prog_111_method_4_code_9 : decode prog_111_method_4_code 9 = .ok (.iaload, 1) := by decide +kernel
theorem own_d_prog_111_method_4_code_10 : decode prog_111_method_4_code 10 = .ok (.putfield 29, 3) := by decide +kernel
theorem own_d_prog_111_method_4_code_13 : decode prog_111_method_4_code 13 = .ok (.return_, 1) := by decide +kernel
def Q_own_rdr (Z : State) (b : Addr) (r g : Nat) (G : Nat → Int32) (h0 : Heap) (n0 : Nat) (v : Option Value) (h : Heap) (L : List Loc) : Prop := v = none ∧ Fr n0 L ∧ n0 ≤ h.size ∧ own_RB Z h n0 b r g G
set_option maxRecDepth 65536 in
set_option maxHeartbeats 40000000 in
theorem own_rdr (l : Launch) (Z : State) (a0 : Array Value) (hw : ∀ d ∈ tables_1, d.before a0 Z = true) (ws : List Jvm.Cond) (b : Addr) (r f g : Nat) (G : Nat → Int32) (h0 : Heap) (n0 : Nat) (Z0 : n0 ≤ h0.size) (hg : G r = Int32.ofNat g) (hgf : g ≤ f) (RB : own_RB Z h0 n0 b r f G) :
    MetFree l (⟨"com/example/tierwright/tierwright/table/RowBounds", "dropRow", "()V"⟩ : MethodName) (head1 (Jvm.Cond.code (⟨"com/example/tierwright/tierwright/table/RowBounds", "dropRow", "()V"⟩ : MethodName) prog_111_method_4_code 1 none :: ws) ({ frames := 0, cells := 0, slots := 0, locals := 0 } : Room)) (fun au Uu => au = #[(.ref b)] ∧ Z.Warmed39 Uu.vm ∧ Uu.heap = h0) (fun _ _ _ _ _ => True) (fun _ Uu ou Uw => ∃ vu Lu, ou = .returned vu ∧ Q_own_rdr Z b r g G h0 n0 vu Uw.heap Lu ∧ FrameEnd Uu ou Uw Lu ({ frames := 0, cells := 0, slots := 0, locals := 0 } : Room).cells ({ frames := 0, cells := 0, slots := 0, locals := 0 } : Room).slots) := by
  refine MetFree.of_bodySF (plainFor_of_name (by first | (simp [plainName, overriddenIn]; done) | decide +kernel)) hisR ?_
  intro p e s m args below meth c s₁ Bd hml0 hP hK
  obtain ⟨rfl, hZ, hh⟩ := hP
  have hx := Bd.exec
  have hby := Bd.bytes
  have hlk := Bd.notSynchronized
  have hml : c.maxLocals = 1 := hml0
  have hown : s.vm.findClass "com/example/tierwright/tierwright/table/RowBounds" = some m.cls := findClass_of_methodNamed Bd.named
  have hnm := (name_of_methodNamed Bd.named Bd.method).1
  have X0 : Stand p l e ({ frames := 0, cells := 0, slots := 0, locals := 0 } : Room) s m #[(.ref b)] below meth c s₁ [] 0 0 := Stand.of_body Bd
  have e0 : s₁.heap = h0 := by rw [← hh, Bd.state]; rfl
  have N0 := Fr.nil n0
  obtain ⟨aS, aL, aF, aE, kS, kL, kF, kE, zS, zE, vS, vL, vF, vE, E_b, g_b, F_s, F_l, F_f, F_e, F_r, F_n, V_S, V_L, V_F, V_E, ⟨gS, gL, gF, gE⟩, ⟨d1, d2, d3, d4, d5, d6, d7, d8, d9, d10⟩, ⟨z1, z2, z3, z4, z5, z6⟩, ⟨l1, l2, l3, l4⟩, hG⟩ := RB
  show own_Ends p e below s₁ (entryFrame m #[(.ref b)] 1) (fun ou Uw => ∃ vu Lu, ou = .returned vu ∧ Q_own_rdr Z b r g G h0 n0 vu Uw.heap Lu ∧ FrameEnd s ou Uw Lu ({ frames := 0, cells := 0, slots := 0, locals := 0 } : Room).cells ({ frames := 0, cells := 0, slots := 0, locals := 0 } : Room).slots)
  refine own_start (g' := (mkF m 0 #[rv b] [])) (by first | (simp [entryFrame, mkF, argsToLocals, Value.category, iv, rv]; done) | rfl) ?_
  refine own_go (T' := s₁) (g' := (mkF m 1 #[rv b] [(.ref b)])) (fun t k => XS.aloadN X0.here hx rfl (hb hby own_d_prog_111_method_4_code_0) rfl rfl k) ?_
  refine own_go (T' := s₁) (g' := (mkF m 2 #[rv b] [(.ref b), (.ref b)])) (fun t k => XS.aloadN X0.here hx rfl (hb hby own_d_prog_111_method_4_code_1) rfl rfl k) ?_
  obtain ⟨T459, X459, e459, st459⟩ := getF X0 hx hZ hown (host := "") (Or.inl (hw _ (List.mem_of_getElem? (i := 19) rfl))) Via.refl e0 F_f (g := (mkF m 2 #[rv b] [(.ref b), (.ref b)])) rfl rfl (hb hby own_d_prog_111_method_4_code_2)
  refine own_go (T' := T459) (g' := (mkF m 5 #[rv b] [(.ref aF), (.ref b)])) (st459) ?_
  refine own_go (T' := T459) (g' := (mkF m 6 #[rv b] [(.ref b), (.ref aF), (.ref b)])) (fun t k => XS.aloadN X459.here hx rfl (hb hby own_d_prog_111_method_4_code_5) rfl rfl k) ?_
  obtain ⟨T460, X460, e460, st460⟩ := getF X459 hx hZ hown (host := "") (Or.inl (hw _ (List.mem_of_getElem? (i := 50) rfl))) Via.refl e459 F_r (g := (mkF m 6 #[rv b] [(.ref b), (.ref aF), (.ref b)])) rfl rfl (hb hby own_d_prog_111_method_4_code_6)
  refine own_go (T' := T460) (g' := (mkF m 9 #[rv b] [(.int (Int32.ofNat r)), (.ref aF), (.ref b)])) (st460) ?_
  obtain ⟨cl461, Ar461, -, Sz461, Nn461, Ha461, -⟩ := id V_F
  have hin461 : ¬ ((Int32.ofNat r) < 0 ∨ cl461.slots.size ≤ ((Int32.ofNat r)).toNatClampNeg) := inb_of Sz461 (own_inb (by omega) (by omega))
  have hat461 : cl461.slots[((Int32.ofNat r)).toNatClampNeg]? = some (.int (Int32.ofNat g)) := Ha461.at hin461 (by rw [own_cl (by omega), hG r (Nat.le_refl r), hg])
  refine own_go (T' := T460) (g' := (mkF m 10 #[rv b] [(.int (Int32.ofNat g)), (.ref b)])) (fun t k => X460.iaload hx (j := (Int32.ofNat r)) (v := (.int (Int32.ofNat g))) (by rw [e460]; exact Ar461.1) (State.isArrayOf_alike hZ.alike Ar461.2.1) Ar461.2.2 hin461 hat461 (g := (mkF m 9 #[rv b] [(.int (Int32.ofNat r)), (.ref aF), (.ref b)])) rfl rfl (hb hby own_d_prog_111_method_4_code_9) _ k) ?_
  obtain ⟨T462, h462, X462, e462, W462, st462⟩ := putF X460 hx hZ hown (host := "") (Or.inl (hw _ (List.mem_of_getElem? (i := 32) rfl))) Via.refl e460 F_n E_b (Or.inl (hw _ (List.mem_of_getElem? (i := 33) rfl))) (hw _ (List.mem_of_getElem? (i := 1) rfl)) (ty := .int) (by decide) rfl rfl (g := (mkF m 10 #[rv b] [(.int (Int32.ofNat g)), (.ref b)])) rfl rfl (hb hby own_d_prog_111_method_4_code_10)
  have hz462 : n0 ≤ h462.size := Nat.le_trans Z0 (Keep.of_wr W462).1
  have N462 := Fr.snoc X462 N0 g_b
  have c463 := E_b.wr W462
  have c464 := F_s.other W462 (Or.inr (slot_ne (Or.inl (hw _ (List.mem_of_getElem? (i := 15) rfl))) (Or.inl (hw _ (List.mem_of_getElem? (i := 33) rfl))) (by decide) (t := (.array .int)) (t' := .int) (by decide) (by decide)))
  have c465 := F_l.other W462 (Or.inr (slot_ne (Or.inl (hw _ (List.mem_of_getElem? (i := 18) rfl))) (Or.inl (hw _ (List.mem_of_getElem? (i := 33) rfl))) (by decide) (t := (.array .long)) (t' := .int) (by decide) (by decide)))
  have c466 := F_f.other W462 (Or.inr (slot_ne (Or.inl (hw _ (List.mem_of_getElem? (i := 20) rfl))) (Or.inl (hw _ (List.mem_of_getElem? (i := 33) rfl))) (by decide) (t := (.array .int)) (t' := .int) (by decide) (by decide)))
  have c467 := F_e.other W462 (Or.inr (slot_ne (Or.inl (hw _ (List.mem_of_getElem? (i := 22) rfl))) (Or.inl (hw _ (List.mem_of_getElem? (i := 33) rfl))) (by decide) (t := (.array .int)) (t' := .int) (by decide) (by decide)))
  have c468 := F_r.other W462 (Or.inr (slot_ne (Or.inl (hw _ (List.mem_of_getElem? (i := 51) rfl))) (Or.inl (hw _ (List.mem_of_getElem? (i := 33) rfl))) (by decide) (t := .int) (t' := .int) (by decide) (by decide)))
  have c469 := F_n.same W462
  have c470 := V_S.other W462 (Ne.symm d1)
  have c471 := V_L.other W462 (Ne.symm d2)
  have c472 := V_F.other W462 (Ne.symm d3)
  have c473 := V_E.other W462 (Ne.symm d4)
  refine own_go (T' := T462) (g' := (mkF m 13 #[rv b] [])) (st462) ?_
  exact own_ret0 X462 hlk hx Bd.returns (hb hby own_d_prog_111_method_4_code_13) (by rw [e462]; exact ⟨rfl, N462, hz462, ⟨aS, aL, aF, aE, kS, kL, kF, kE, zS, zE, vS, vL, vF, vE, c463, g_b, c464, c465, c466, c467, c468, c469, c470, c471, c472, c473, ⟨gS, gL, gF, gE⟩, ⟨d1, d2, d3, d4, d5, d6, d7, d8, d9, d10⟩, ⟨(by omega), (by omega), (by omega), (by omega), (by omega), (by omega)⟩, ⟨l1, l2, l3, l4⟩, hG⟩⟩) (by decide) (by decide)

theorem own_d_prog_111_method_6_code_0 : decode prog_111_method_6_code 0 = .ok (.aload_n 0, 1) := by decide +kernel
theorem own_d_prog_111_method_6_code_1 : decode prog_111_method_6_code 1 = .ok (.getfield 39, 3) := by decide +kernel
theorem own_d_prog_111_method_6_code_4 : decode prog_111_method_6_code 4 = .ok (.ireturn, 1) := by decide +kernel
def Q_own_rro (r : Nat) (h0 : Heap) (n0 : Nat) (v : Option Value) (h : Heap) (L : List Loc) : Prop := v = some (.int (Int32.ofNat r)) ∧ L = [] ∧ h = h0
set_option maxRecDepth 65536 in
set_option maxHeartbeats 40000000 in
theorem own_rro (l : Launch) (Z : State) (a0 : Array Value) (hw : ∀ d ∈ tables_1, d.before a0 Z = true) (ws : List Jvm.Cond) (b : Addr) (r f : Nat) (G : Nat → Int32) (h0 : Heap) (n0 : Nat) (Z0 : n0 ≤ h0.size) (RB : own_RB Z h0 n0 b r f G) :
    MetFree l (⟨"com/example/tierwright/tierwright/table/RowBounds", "rows", "()I"⟩ : MethodName) (head1 (Jvm.Cond.code (⟨"com/example/tierwright/tierwright/table/RowBounds", "rows", "()I"⟩ : MethodName) prog_111_method_6_code 1 (some .int) :: ws) ({ frames := 0, cells := 0, slots := 0, locals := 0 } : Room)) (fun au Uu => au = #[(.ref b)] ∧ Z.Warmed39 Uu.vm ∧ Uu.heap = h0) (fun _ _ _ _ _ => True) (fun _ Uu ou Uw => ∃ vu Lu, ou = .returned vu ∧ Q_own_rro r h0 n0 vu Uw.heap Lu ∧ FrameEnd Uu ou Uw Lu ({ frames := 0, cells := 0, slots := 0, locals := 0 } : Room).cells ({ frames := 0, cells := 0, slots := 0, locals := 0 } : Room).slots) := by
  refine MetFree.of_bodySF (plainFor_of_name (by first | (simp [plainName, overriddenIn]; done) | decide +kernel)) hisR ?_
  intro p e s m args below meth c s₁ Bd hml0 hP hK
  obtain ⟨rfl, hZ, hh⟩ := hP
  have hx := Bd.exec
  have hby := Bd.bytes
  have hlk := Bd.notSynchronized
  have hml : c.maxLocals = 1 := hml0
  have hown : s.vm.findClass "com/example/tierwright/tierwright/table/RowBounds" = some m.cls := findClass_of_methodNamed Bd.named
  have hnm := (name_of_methodNamed Bd.named Bd.method).1
  have X0 : Stand p l e ({ frames := 0, cells := 0, slots := 0, locals := 0 } : Room) s m #[(.ref b)] below meth c s₁ [] 0 0 := Stand.of_body Bd
  have e0 : s₁.heap = h0 := by rw [← hh, Bd.state]; rfl
  have N0 := Fr.nil n0
  obtain ⟨aS, aL, aF, aE, kS, kL, kF, kE, zS, zE, vS, vL, vF, vE, E_b, g_b, F_s, F_l, F_f, F_e, F_r, F_n, V_S, V_L, V_F, V_E, ⟨gS, gL, gF, gE⟩, ⟨d1, d2, d3, d4, d5, d6, d7, d8, d9, d10⟩, ⟨z1, z2, z3, z4, z5, z6⟩, ⟨l1, l2, l3, l4⟩, hG⟩ := RB
  show own_Ends p e below s₁ (entryFrame m #[(.ref b)] 1) (fun ou Uw => ∃ vu Lu, ou = .returned vu ∧ Q_own_rro r h0 n0 vu Uw.heap Lu ∧ FrameEnd s ou Uw Lu ({ frames := 0, cells := 0, slots := 0, locals := 0 } : Room).cells ({ frames := 0, cells := 0, slots := 0, locals := 0 } : Room).slots)
  refine own_start (g' := (mkF m 0 #[rv b] [])) (by first | (simp [entryFrame, mkF, argsToLocals, Value.category, iv, rv]; done) | rfl) ?_
  refine own_go (T' := s₁) (g' := (mkF m 1 #[rv b] [(.ref b)])) (fun t k => XS.aloadN X0.here hx rfl (hb hby own_d_prog_111_method_6_code_0) rfl rfl k) ?_
  obtain ⟨T474, X474, e474, st474⟩ := getF X0 hx hZ hown (host := "") (Or.inl (hw _ (List.mem_of_getElem? (i := 50) rfl))) Via.refl e0 F_r (g := (mkF m 1 #[rv b] [(.ref b)])) rfl rfl (hb hby own_d_prog_111_method_6_code_1)
  refine own_go (T' := T474) (g' := (mkF m 4 #[rv b] [(.int (Int32.ofNat r))])) (st474) ?_
  exact own_ret X474 hlk hx Bd.returns rfl (Or.inl ⟨rfl, Or.inl rfl, _, rfl⟩) (hb hby own_d_prog_111_method_6_code_4) ⟨rfl, rfl, e474⟩ (by decide) (by decide)

theorem own_d_prog_111_method_9_code_0 : decode prog_111_method_9_code 0 = .ok (.aload_n 0, 1) := by decide +kernel
theorem own_d_prog_111_method_9_code_1 : decode prog_111_method_9_code 1 = .ok (.getfield 23, 3) := by decide +kernel
theorem own_d_prog_111_method_9_code_4 : decode prog_111_method_9_code 4 = .ok (.iload_n 1, 1) := by decide +kernel
theorem own_d_prog_111_method_9_code_5 : decode prog_111_method_9_code 5 = .ok (.iconst 1, 1) := by decide +kernel
theorem own_d_prog_111_method_9_code_6 : decode prog_111_method_9_code 6 = .ok (.iadd, 1) := by decide +kernel
theorem own_d_prog_111_method_9_code_7 : decode prog_111_method_9_code 7 = .ok (.iaload, 1) := by decide +kernel
theorem own_d_prog_111_method_9_code_8 : decode prog_111_method_9_code 8 = .ok (.aload_n 0, 1) := by decide +kernel
theorem own_d_prog_111_method_9_code_9 : decode prog_111_method_9_code 9 = .ok (.getfield 23, 3) := by decide +kernel
theorem own_d_prog_111_method_9_code_12 : decode prog_111_method_9_code 12 = .ok (.iload_n 1, 1) := by decide +kernel
theorem own_d_prog_111_method_9_code_13 : decode prog_111_method_9_code 13 = .ok (.iaload, 1) := by decide +kernel
theorem own_d_prog_111_method_9_code_14 : decode prog_111_method_9_code 14 = .ok (.isub, 1) := by decide +kernel
theorem own_d_prog_111_method_9_code_15 : decode prog_111_method_9_code 15 = .ok (.ireturn, 1) := by decide +kernel
def Q_own_rfi0 (G : Nat → Int32) (h0 : Heap) (n0 : Nat) (v : Option Value) (h : Heap) (L : List Loc) : Prop := v = some (.int (G 1 - G 0)) ∧ L = [] ∧ h = h0
set_option maxRecDepth 65536 in
set_option maxHeartbeats 40000000 in
theorem own_rfi0 (l : Launch) (Z : State) (a0 : Array Value) (hw : ∀ d ∈ tables_1, d.before a0 Z = true) (ws : List Jvm.Cond) (b : Addr) (r f : Nat) (G : Nat → Int32) (h0 : Heap) (n0 : Nat) (Z0 : n0 ≤ h0.size) (hr : 1 ≤ r) (RB : own_RB Z h0 n0 b r f G) :
    MetFree l (⟨"com/example/tierwright/tierwright/table/RowBounds", "fields", "(I)I"⟩ : MethodName) (head1 (Jvm.Cond.code (⟨"com/example/tierwright/tierwright/table/RowBounds", "fields", "(I)I"⟩ : MethodName) prog_111_method_9_code 2 (some .int) :: ws) ({ frames := 0, cells := 0, slots := 0, locals := 0 } : Room)) (fun au Uu => au = #[(.ref b), (.int (0 : Int32))] ∧ Z.Warmed39 Uu.vm ∧ Uu.heap = h0) (fun _ _ _ _ _ => True) (fun _ Uu ou Uw => ∃ vu Lu, ou = .returned vu ∧ Q_own_rfi0 G h0 n0 vu Uw.heap Lu ∧ FrameEnd Uu ou Uw Lu ({ frames := 0, cells := 0, slots := 0, locals := 0 } : Room).cells ({ frames := 0, cells := 0, slots := 0, locals := 0 } : Room).slots) := by
  refine MetFree.of_bodySF (plainFor_of_name (by first | (simp [plainName, overriddenIn]; done) | decide +kernel)) hisR ?_
  intro p e s m args below meth c s₁ Bd hml0 hP hK
  obtain ⟨rfl, hZ, hh⟩ := hP
  have hx := Bd.exec
  have hby := Bd.bytes
  have hlk := Bd.notSynchronized
  have hml : c.maxLocals = 2 := hml0
  have hown : s.vm.findClass "com/example/tierwright/tierwright/table/RowBounds" = some m.cls := findClass_of_methodNamed Bd.named
  have hnm := (name_of_methodNamed Bd.named Bd.method).1
  have X0 : Stand p l e ({ frames := 0, cells := 0, slots := 0, locals := 0 } : Room) s m #[(.ref b), (.int (0 : Int32))] below meth c s₁ [] 0 0 := Stand.of_body Bd
  have e0 : s₁.heap = h0 := by rw [← hh, Bd.state]; rfl
  have N0 := Fr.nil n0
  obtain ⟨aS, aL, aF, aE, kS, kL, kF, kE, zS, zE, vS, vL, vF, vE, E_b, g_b, F_s, F_l, F_f, F_e, F_r, F_n, V_S, V_L, V_F, V_E, ⟨gS, gL, gF, gE⟩, ⟨d1, d2, d3, d4, d5, d6, d7, d8, d9, d10⟩, ⟨z1, z2, z3, z4, z5, z6⟩, ⟨l1, l2, l3, l4⟩, hG⟩ := RB
  show own_Ends p e below s₁ (entryFrame m #[(.ref b), (.int (0 : Int32))] 2) (fun ou Uw => ∃ vu Lu, ou = .returned vu ∧ Q_own_rfi0 G h0 n0 vu Uw.heap Lu ∧ FrameEnd s ou Uw Lu ({ frames := 0, cells := 0, slots := 0, locals := 0 } : Room).cells ({ frames := 0, cells := 0, slots := 0, locals := 0 } : Room).slots)
  refine own_start (g' := (mkF m 0 #[rv b, iv (0 : Int32)] [])) (by first | (simp [entryFrame, mkF, argsToLocals, Value.category, iv, rv]; done) | rfl) ?_
  refine own_go (T' := s₁) (g' := (mkF m 1 #[rv b, iv (0 : Int32)] [(.ref b)])) (fun t k => XS.aloadN X0.here hx rfl (hb hby own_d_prog_111_method_9_code_0) rfl rfl k) ?_
  obtain ⟨T475, X475, e475, st475⟩ := getF X0 hx hZ hown (host := "") (Or.inl (hw _ (List.mem_of_getElem? (i := 19) rfl))) Via.refl e0 F_f (g := (mkF m 1 #[rv b, iv (0 : Int32)] [(.ref b)])) rfl rfl (hb hby own_d_prog_111_method_9_code_1)
  refine own_go (T' := T475) (g' := (mkF m 4 #[rv b, iv (0 : Int32)] [(.ref aF)])) (st475) ?_
  refine own_go (T' := T475) (g' := (mkF m 5 #[rv b, iv (0 : Int32)] [(.int (0 : Int32)), (.ref aF)])) (fun t k => XS.iloadN X475.here hx rfl (hb hby own_d_prog_111_method_9_code_4) rfl k) ?_
  refine own_go (T' := T475) (g' := (mkF m 6 #[rv b, iv (0 : Int32)] [(.int (1 : Int32)), (.int (0 : Int32)), (.ref aF)])) (fun t k => XS.iconst X475.here hx rfl (hb hby own_d_prog_111_method_9_code_5) k) ?_
  refine own_go (T' := T475) (g' := (mkF m 7 #[rv b, iv (0 : Int32)] [(.int (1 : Int32)), (.ref aF)])) (fun t k => XS.iadd X475.here hx rfl (hb hby own_d_prog_111_method_9_code_6) rfl k) ?_
  obtain ⟨cl476, Ar476, -, Sz476, Nn476, Ha476, -⟩ := id V_F
  have hin476 : ¬ ((1 : Int32) < 0 ∨ cl476.slots.size ≤ ((1 : Int32)).toNatClampNeg) := inb_of Sz476 (own_inb (i := 1) (by omega) (by omega))
  have hat476 : cl476.slots[((1 : Int32)).toNatClampNeg]? = some (.int (G 1)) := Ha476.at hin476 (hG 1 (by omega))
  refine own_go (T' := T475) (g' := (mkF m 8 #[rv b, iv (0 : Int32)] [(.int (G 1))])) (fun t k => X475.iaload hx (j := (1 : Int32)) (v := (.int (G 1))) (by rw [e475]; exact Ar476.1) (State.isArrayOf_alike hZ.alike Ar476.2.1) Ar476.2.2 hin476 hat476 (g := (mkF m 7 #[rv b, iv (0 : Int32)] [(.int (1 : Int32)), (.ref aF)])) rfl rfl (hb hby own_d_prog_111_method_9_code_7) _ k) ?_
  refine own_go (T' := T475) (g' := (mkF m 9 #[rv b, iv (0 : Int32)] [(.ref b), (.int (G 1))])) (fun t k => XS.aloadN X475.here hx rfl (hb hby own_d_prog_111_method_9_code_8) rfl rfl k) ?_
  obtain ⟨T477, X477, e477, st477⟩ := getF X475 hx hZ hown (host := "") (Or.inl (hw _ (List.mem_of_getElem? (i := 19) rfl))) Via.refl e475 F_f (g := (mkF m 9 #[rv b, iv (0 : Int32)] [(.ref b), (.int (G 1))])) rfl rfl (hb hby own_d_prog_111_method_9_code_9)
  refine own_go (T' := T477) (g' := (mkF m 12 #[rv b, iv (0 : Int32)] [(.ref aF), (.int (G 1))])) (st477) ?_
  refine own_go (T' := T477) (g' := (mkF m 13 #[rv b, iv (0 : Int32)] [(.int (0 : Int32)), (.ref aF), (.int (G 1))])) (fun t k => XS.iloadN X477.here hx rfl (hb hby own_d_prog_111_method_9_code_12) rfl k) ?_
  obtain ⟨cl478, Ar478, -, Sz478, Nn478, Ha478, -⟩ := id V_F
  have hin478 : ¬ ((0 : Int32) < 0 ∨ cl478.slots.size ≤ ((0 : Int32)).toNatClampNeg) := inb_of Sz478 (own_inb (i := 0) (by omega) (by omega))
  have hat478 : cl478.slots[((0 : Int32)).toNatClampNeg]? = some (.int (G 0)) := Ha478.at hin478 (hG 0 (by omega))
  refine own_go (T' := T477) (g' := (mkF m 14 #[rv b, iv (0 : Int32)] [(.int (G 0)), (.int (G 1))])) (fun t k => X477.iaload hx (j := (0 : Int32)) (v := (.int (G 0))) (by rw [e477]; exact Ar478.1) (State.isArrayOf_alike hZ.alike Ar478.2.1) Ar478.2.2 hin478 hat478 (g := (mkF m 13 #[rv b, iv (0 : Int32)] [(.int (0 : Int32)), (.ref aF), (.int (G 1))])) rfl rfl (hb hby own_d_prog_111_method_9_code_13) _ k) ?_
  refine own_go (T' := T477) (g' := (mkF m 15 #[rv b, iv (0 : Int32)] [(.int ((G 1) - (G 0)))])) (fun t k => XS.isub X477.here hx rfl (hb hby own_d_prog_111_method_9_code_14) rfl k) ?_
  exact own_ret X477 hlk hx Bd.returns rfl (Or.inl ⟨rfl, Or.inl rfl, _, rfl⟩) (hb hby own_d_prog_111_method_9_code_15) ⟨rfl, rfl, e477⟩ (by decide) (by decide)

def Q_own_rfi1 (G : Nat → Int32) (h0 : Heap) (n0 : Nat) (v : Option Value) (h : Heap) (L : List Loc) : Prop := v = some (.int (G 2 - G 1)) ∧ L = [] ∧ h = h0
set_option maxRecDepth 65536 in
set_option maxHeartbeats 40000000 in
theorem own_rfi1 (l : Launch) (Z : State) (a0 : Array Value) (hw : ∀ d ∈ tables_1, d.before a0 Z = true) (ws : List Jvm.Cond) (b : Addr) (r f : Nat) (G : Nat → Int32) (h0 : Heap) (n0 : Nat) (Z0 : n0 ≤ h0.size) (hr : 2 ≤ r) (RB : own_RB Z h0 n0 b r f G) :
    MetFree l (⟨"com/example/tierwright/tierwright/table/RowBounds", "fields", "(I)I"⟩ : MethodName) (head1 (Jvm.Cond.code (⟨"com/example/tierwright/tierwright/table/RowBounds", "fields", "(I)I"⟩ : MethodName) prog_111_method_9_code 2 (some .int) :: ws) ({ frames := 0, cells := 0, slots := 0, locals := 0 } : Room)) (fun au Uu => au = #[(.ref b), (.int (1 : Int32))] ∧ Z.Warmed39 Uu.vm ∧ Uu.heap = h0) (fun _ _ _ _ _ => True) (fun _ Uu ou Uw => ∃ vu Lu, ou = .returned vu ∧ Q_own_rfi1 G h0 n0 vu Uw.heap Lu ∧ FrameEnd Uu ou Uw Lu ({ frames := 0, cells := 0, slots := 0, locals := 0 } : Room).cells ({ frames := 0, cells := 0, slots := 0, locals := 0 } : Room).slots) := by
  refine MetFree.of_bodySF (plainFor_of_name (by first | (simp [plainName, overriddenIn]; done) | decide +kernel)) hisR ?_
  intro p e s m args below meth c s₁ Bd hml0 hP hK
  obtain ⟨rfl, hZ, hh⟩ := hP
  have hx := Bd.exec
  have hby := Bd.bytes
  have hlk := Bd.notSynchronized
  have hml : c.maxLocals = 2 := hml0
  have hown : s.vm.findClass "com/example/tierwright/tierwright/table/RowBounds" = some m.cls := findClass_of_methodNamed Bd.named
  have hnm := (name_of_methodNamed Bd.named Bd.method).1
  have X0 : Stand p l e ({ frames := 0, cells := 0, slots := 0, locals := 0 } : Room) s m #[(.ref b), (.int (1 : Int32))] below meth c s₁ [] 0 0 := Stand.of_body Bd
  have e0 : s₁.heap = h0 := by rw [← hh, Bd.state]; rfl
  have N0 := Fr.nil n0
  obtain ⟨aS, aL, aF, aE, kS, kL, kF, kE, zS, zE, vS, vL, vF, vE, E_b, g_b, F_s, F_l, F_f, F_e, F_r, F_n, V_S, V_L, V_F, V_E, ⟨gS, gL, gF, gE⟩, ⟨d1, d2, d3, d4, d5, d6, d7, d8, d9, d10⟩, ⟨z1, z2, z3, z4, z5, z6⟩, ⟨l1, l2, l3, l4⟩, hG⟩ := RB
  show own_Ends p e below s₁ (entryFrame m #[(.ref b), (.int (1 : Int32))] 2) (fun ou Uw => ∃ vu Lu, ou = .returned vu ∧ Q_own_rfi1 G h0 n0 vu Uw.heap Lu ∧ FrameEnd s ou Uw Lu ({ frames := 0, cells := 0, slots := 0, locals := 0 } : Room).cells ({ frames := 0, cells := 0, slots := 0, locals := 0 } : Room).slots)
  refine own_start (g' := (mkF m 0 #[rv b, iv (1 : Int32)] [])) (by first | (simp [entryFrame, mkF, argsToLocals, Value.category, iv, rv]; done) | rfl) ?_
  refine own_go (T' := s₁) (g' := (mkF m 1 #[rv b, iv (1 : Int32)] [(.ref b)])) (fun t k => XS.aloadN X0.here hx rfl (hb hby own_d_prog_111_method_9_code_0) rfl rfl k) ?_
  obtain ⟨T479, X479, e479, st479⟩ := getF X0 hx hZ hown (host := "") (Or.inl (hw _ (List.mem_of_getElem? (i := 19) rfl))) Via.refl e0 F_f (g := (mkF m 1 #[rv b, iv (1 : Int32)] [(.ref b)])) rfl rfl (hb hby own_d_prog_111_method_9_code_1)
  refine own_go (T' := T479) (g' := (mkF m 4 #[rv b, iv (1 : Int32)] [(.ref aF)])) (st479) ?_
  refine own_go (T' := T479) (g' := (mkF m 5 #[rv b, iv (1 : Int32)] [(.int (1 : Int32)), (.ref aF)])) (fun t k => XS.iloadN X479.here hx rfl (hb hby own_d_prog_111_method_9_code_4) rfl k) ?_
  refine own_go (T' := T479) (g' := (mkF m 6 #[rv b, iv (1 : Int32)] [(.int (1 : Int32)), (.int (1 : Int32)), (.ref aF)])) (fun t k => XS.iconst X479.here hx rfl (hb hby own_d_prog_111_method_9_code_5) k) ?_
  refine own_go (T' := T479) (g' := (mkF m 7 #[rv b, iv (1 : Int32)] [(.int (2 : Int32)), (.ref aF)])) (fun t k => XS.iadd X479.here hx rfl (hb hby own_d_prog_111_method_9_code_6) rfl k) ?_
  obtain ⟨cl480, Ar480, -, Sz480, Nn480, Ha480, -⟩ := id V_F
  have hin480 : ¬ ((2 : Int32) < 0 ∨ cl480.slots.size ≤ ((2 : Int32)).toNatClampNeg) := inb_of Sz480 (own_inb (i := 2) (by omega) (by omega))
  have hat480 : cl480.slots[((2 : Int32)).toNatClampNeg]? = some (.int (G 2)) := Ha480.at hin480 (hG 2 (by omega))
  refine own_go (T' := T479) (g' := (mkF m 8 #[rv b, iv (1 : Int32)] [(.int (G 2))])) (fun t k => X479.iaload hx (j := (2 : Int32)) (v := (.int (G 2))) (by rw [e479]; exact Ar480.1) (State.isArrayOf_alike hZ.alike Ar480.2.1) Ar480.2.2 hin480 hat480 (g := (mkF m 7 #[rv b, iv (1 : Int32)] [(.int (2 : Int32)), (.ref aF)])) rfl rfl (hb hby own_d_prog_111_method_9_code_7) _ k) ?_
  refine own_go (T' := T479) (g' := (mkF m 9 #[rv b, iv (1 : Int32)] [(.ref b), (.int (G 2))])) (fun t k => XS.aloadN X479.here hx rfl (hb hby own_d_prog_111_method_9_code_8) rfl rfl k) ?_
  obtain ⟨T481, X481, e481, st481⟩ := getF X479 hx hZ hown (host := "") (Or.inl (hw _ (List.mem_of_getElem? (i := 19) rfl))) Via.refl e479 F_f (g := (mkF m 9 #[rv b, iv (1 : Int32)] [(.ref b), (.int (G 2))])) rfl rfl (hb hby own_d_prog_111_method_9_code_9)
  refine own_go (T' := T481) (g' := (mkF m 12 #[rv b, iv (1 : Int32)] [(.ref aF), (.int (G 2))])) (st481) ?_
  refine own_go (T' := T481) (g' := (mkF m 13 #[rv b, iv (1 : Int32)] [(.int (1 : Int32)), (.ref aF), (.int (G 2))])) (fun t k => XS.iloadN X481.here hx rfl (hb hby own_d_prog_111_method_9_code_12) rfl k) ?_
  obtain ⟨cl482, Ar482, -, Sz482, Nn482, Ha482, -⟩ := id V_F
  have hin482 : ¬ ((1 : Int32) < 0 ∨ cl482.slots.size ≤ ((1 : Int32)).toNatClampNeg) := inb_of Sz482 (own_inb (i := 1) (by omega) (by omega))
  have hat482 : cl482.slots[((1 : Int32)).toNatClampNeg]? = some (.int (G 1)) := Ha482.at hin482 (hG 1 (by omega))
  refine own_go (T' := T481) (g' := (mkF m 14 #[rv b, iv (1 : Int32)] [(.int (G 1)), (.int (G 2))])) (fun t k => X481.iaload hx (j := (1 : Int32)) (v := (.int (G 1))) (by rw [e481]; exact Ar482.1) (State.isArrayOf_alike hZ.alike Ar482.2.1) Ar482.2.2 hin482 hat482 (g := (mkF m 13 #[rv b, iv (1 : Int32)] [(.int (1 : Int32)), (.ref aF), (.int (G 2))])) rfl rfl (hb hby own_d_prog_111_method_9_code_13) _ k) ?_
  refine own_go (T' := T481) (g' := (mkF m 15 #[rv b, iv (1 : Int32)] [(.int ((G 2) - (G 1)))])) (fun t k => XS.isub X481.here hx rfl (hb hby own_d_prog_111_method_9_code_14) rfl k) ?_
  exact own_ret X481 hlk hx Bd.returns rfl (Or.inl ⟨rfl, Or.inl rfl, _, rfl⟩) (hb hby own_d_prog_111_method_9_code_15) ⟨rfl, rfl, e481⟩ (by decide) (by decide)

theorem own_rep0 {N i : Nat} (h : i < N) : (List.replicate N (Value.int 0)).getD i (.int (0 : Int32)) = .int ((fun _ => 0 : Nat → Int32) i) := by
  simp [List.getD_eq_getElem?_getD, List.getElem?_replicate, h]

theorem own_d_prog_111_method_1_code_0 : decode prog_111_method_1_code 0 = .ok (.aload_n 0, 1) := by decide +kernel
theorem own_d_prog_111_method_1_code_1 : decode prog_111_method_1_code 1 = .ok (.invokespecial 1, 3) := by decide +kernel
theorem own_d_prog_111_method_1_code_4 : decode prog_111_method_1_code 4 = .ok (.aload_n 0, 1) := by decide +kernel
theorem own_d_prog_111_method_1_code_5 : decode prog_111_method_1_code 5 = .ok (.iload_n 1, 1) := by decide +kernel
theorem own_d_prog_111_method_1_code_6 : decode prog_111_method_1_code 6 = .ok (.iconst 1, 1) := by decide +kernel
theorem own_d_prog_111_method_1_code_7 : decode prog_111_method_1_code 7 = .ok (.invokestatic 7, 3) := by decide +kernel
theorem own_d_prog_111_method_1_code_10 : decode prog_111_method_1_code 10 = .ok (.newarray .int, 2) := by decide +kernel
theorem own_d_prog_111_method_1_code_12 : decode prog_111_method_1_code 12 = .ok (.putfield 13, 3) := by decide +kernel
theorem own_d_prog_111_method_1_code_15 : decode prog_111_method_1_code 15 = .ok (.aload_n 0, 1) := by decide +kernel
theorem own_d_prog_111_method_1_code_16 : decode prog_111_method_1_code 16 = .ok (.aload_n 0, 1) := by decide +kernel
theorem own_d_prog_111_method_1_code_17 : decode prog_111_method_1_code 17 = .ok (.getfield 13, 3) := by decide +kernel
theorem own_d_prog_111_method_1_code_20 : decode prog_111_method_1_code 20 = .ok (.arraylength, 1) := by decide +kernel
theorem own_d_prog_111_method_1_code_21 : decode prog_111_method_1_code 21 = .ok (.newarray .long, 2) := by decide +kernel
theorem own_d_prog_111_method_1_code_23 : decode prog_111_method_1_code 23 = .ok (.putfield 19, 3) := by decide +kernel
theorem own_d_prog_111_method_1_code_26 : decode prog_111_method_1_code 26 = .ok (.aload_n 0, 1) := by decide +kernel
theorem own_d_prog_111_method_1_code_27 : decode prog_111_method_1_code 27 = .ok (.aload_n 0, 1) := by decide +kernel
theorem own_d_prog_111_method_1_code_28 : decode prog_111_method_1_code 28 = .ok (.getfield 13, 3) := by decide +kernel
theorem own_d_prog_111_method_1_code_31 : decode prog_111_method_1_code 31 = .ok (.arraylength, 1) := by decide +kernel
theorem own_d_prog_111_method_1_code_32 : decode prog_111_method_1_code 32 = .ok (.iconst 1, 1) := by decide +kernel
theorem own_d_prog_111_method_1_code_33 : decode prog_111_method_1_code 33 = .ok (.iadd, 1) := by decide +kernel
theorem own_d_prog_111_method_1_code_34 : decode prog_111_method_1_code 34 = .ok (.newarray .int, 2) := by decide +kernel
theorem own_d_prog_111_method_1_code_36 : decode prog_111_method_1_code 36 = .ok (.putfield 23, 3) := by decide +kernel
theorem own_d_prog_111_method_1_code_39 : decode prog_111_method_1_code 39 = .ok (.aload_n 0, 1) := by decide +kernel
theorem own_d_prog_111_method_1_code_40 : decode prog_111_method_1_code 40 = .ok (.iload_n 2, 1) := by decide +kernel
theorem own_d_prog_111_method_1_code_41 : decode prog_111_method_1_code 41 = .ok (.iconst 1, 1) := by decide +kernel
theorem own_d_prog_111_method_1_code_42 : decode prog_111_method_1_code 42 = .ok (.invokestatic 7, 3) := by decide +kernel
theorem own_d_prog_111_method_1_code_45 : decode prog_111_method_1_code 45 = .ok (.newarray .int, 2) := by decide +kernel
theorem own_d_prog_111_method_1_code_47 : decode prog_111_method_1_code 47 = .ok (.putfield 26, 3) := by decide +kernel
theorem own_d_prog_111_method_1_code_50 : decode prog_111_method_1_code 50 = .ok (.return_, 1) := by decide +kernel
def Q_own_rinit (Z : State) (b : Addr) (h0 : Heap) (n0 : Nat) (v : Option Value) (h : Heap) (L : List Loc) : Prop := v = none ∧ Fr n0 L ∧ n0 ≤ h.size ∧ own_RB Z h n0 b 0 0 (fun _ => 0)
set_option maxRecDepth 65536 in
set_option maxHeartbeats 40000000 in
theorem own_rinit (l : Launch) (Z : State) (a0 : Array Value) (hw : ∀ d ∈ tables_1, d.before a0 Z = true) (ws : List Jvm.Cond) (b : Addr) (c1 c2 : Nat) (h0 : Heap) (n0 : Nat) (Z0 : n0 ≤ h0.size) (hc1 : c1 ≤ 3) (hc2 : c2 ≤ 7) (E_b : Exa Z h0 b "com/example/tierwright/tierwright/table/RowBounds") (g_b : n0 ≤ b) (F_starts : Fld Z h0 b "com/example/tierwright/tierwright/table/RowBounds" "starts" "[I" .null) (F_lines : Fld Z h0 b "com/example/tierwright/tierwright/table/RowBounds" "lines" "[J" .null) (F_firstEnds : Fld Z h0 b "com/example/tierwright/tierwright/table/RowBounds" "firstEnds" "[I" .null) (F_ends : Fld Z h0 b "com/example/tierwright/tierwright/table/RowBounds" "ends" "[I" .null) (F_rows : Fld Z h0 b "com/example/tierwright/tierwright/table/RowBounds" "rows" "I" (.int (0 : Int32))) (F_fields : Fld Z h0 b "com/example/tierwright/tierwright/table/RowBounds" "fields" "I" (.int (0 : Int32))) :
    MetFree l (⟨"com/example/tierwright/tierwright/table/RowBounds", "<init>", "(II)V"⟩ : MethodName) (head1 (Jvm.Cond.code (⟨"com/example/tierwright/tierwright/table/RowBounds", "<init>", "(II)V"⟩ : MethodName) prog_111_method_1_code 3 none :: ws) ({ frames := 1, cells := 4, slots := 17, locals := 15 } : Room)) (fun au Uu => au = #[(.ref b), (.int (Int32.ofNat c1)), (.int (Int32.ofNat c2))] ∧ Z.Warmed39 Uu.vm ∧ Uu.heap = h0) (fun _ _ _ _ _ => True) (fun _ Uu ou Uw => ∃ vu Lu, ou = .returned vu ∧ Q_own_rinit Z b h0 n0 vu Uw.heap Lu ∧ FrameEnd Uu ou Uw Lu ({ frames := 1, cells := 4, slots := 17, locals := 15 } : Room).cells ({ frames := 1, cells := 4, slots := 17, locals := 15 } : Room).slots) := by
  refine MetFree.of_bodySF (plainFor_of_name (by first | (simp [plainName, overriddenIn]; done) | decide +kernel)) hisR ?_
  intro p e s m args below meth c s₁ Bd hml0 hP hK
  obtain ⟨rfl, hZ, hh⟩ := hP
  have hx := Bd.exec
  have hby := Bd.bytes
  have hlk := Bd.notSynchronized
  have hml : c.maxLocals = 3 := hml0
  have hown : s.vm.findClass "com/example/tierwright/tierwright/table/RowBounds" = some m.cls := findClass_of_methodNamed Bd.named
  have hnm := (name_of_methodNamed Bd.named Bd.method).1
  have X0 : Stand p l e ({ frames := 1, cells := 4, slots := 17, locals := 15 } : Room) s m #[(.ref b), (.int (Int32.ofNat c1)), (.int (Int32.ofNat c2))] below meth c s₁ [] 0 0 := Stand.of_body Bd
  have e0 : s₁.heap = h0 := by rw [← hh, Bd.state]; rfl
  have N0 := Fr.nil n0
  show own_Ends p e below s₁ (entryFrame m #[(.ref b), (.int (Int32.ofNat c1)), (.int (Int32.ofNat c2))] 3) (fun ou Uw => ∃ vu Lu, ou = .returned vu ∧ Q_own_rinit Z b h0 n0 vu Uw.heap Lu ∧ FrameEnd s ou Uw Lu ({ frames := 1, cells := 4, slots := 17, locals := 15 } : Room).cells ({ frames := 1, cells := 4, slots := 17, locals := 15 } : Room).slots)
  refine own_start (g' := (mkF m 0 #[rv b, iv (Int32.ofNat c1), iv (Int32.ofNat c2)] [])) (by first | (simp [entryFrame, mkF, argsToLocals, Value.category, iv, rv]; done) | rfl) ?_
  refine own_go (T' := s₁) (g' := (mkF m 1 #[rv b, iv (Int32.ofNat c1), iv (Int32.ofNat c2)] [(.ref b)])) (fun t k => XS.aloadN X0.here hx rfl (hb hby own_d_prog_111_method_1_code_0) rfl rfl k) ?_
  obtain ⟨T483, X483, e483, st483⟩ := initO X0 hx hZ hown (hw _ (List.mem_of_getElem? (i := 6) rfl)) (hw _ (List.mem_of_getElem? (i := 7) rfl)) (hw _ (List.mem_of_getElem? (i := 8) rfl)) e0 (g := (mkF m 1 #[rv b, iv (Int32.ofNat c1), iv (Int32.ofNat c2)] [(.ref b)])) rfl (by rw [hml]; rfl) rfl (hb hby own_d_prog_111_method_1_code_1) (by decide) (W := 0) (by show 2 * 0 + _ ≤ _; exact Nat.le_of_eq rfl) (by decide)
  refine own_go (T' := T483) (g' := (mkF m 4 #[rv b, iv (Int32.ofNat c1), iv (Int32.ofNat c2)] [])) (st483) ?_
  refine own_go (T' := T483) (g' := (mkF m 5 #[rv b, iv (Int32.ofNat c1), iv (Int32.ofNat c2)] [(.ref b)])) (fun t k => XS.aloadN X483.here hx rfl (hb hby own_d_prog_111_method_1_code_4) rfl rfl k) ?_
  refine own_go (T' := T483) (g' := (mkF m 6 #[rv b, iv (Int32.ofNat c1), iv (Int32.ofNat c2)] [(.int (Int32.ofNat c1)), (.ref b)])) (fun t k => XS.iloadN X483.here hx rfl (hb hby own_d_prog_111_method_1_code_5) rfl k) ?_
  refine own_go (T' := T483) (g' := (mkF m 7 #[rv b, iv (Int32.ofNat c1), iv (Int32.ofNat c2)] [(.int (1 : Int32)), (.int (Int32.ofNat c1)), (.ref b)])) (fun t k => XS.iconst X483.here hx rfl (hb hby own_d_prog_111_method_1_code_6) k) ?_
  obtain ⟨_, _, ⟨T484, L484, k484, n484⟩, -, X484, ⟨Lc484, hQ484, l484, y484, z484⟩, st484⟩ := Jvm.LawKit.callS X483 hx (y := (⟨"java/lang/Math", "max", "(II)I"⟩ : MethodName)) hown (mvT hZ (hw _ (List.mem_of_getElem? (i := 9) rfl))) (mvT hZ (hw _ (List.mem_of_getElem? (i := 10) rfl))) (mvT hZ (hw _ (List.mem_of_getElem? (i := 11) rfl))) (mvT hZ (hw _ (List.mem_of_getElem? (i := 12) rfl))) (by decide) (backOf (W := 1) (own_rmx l Z a0 hw [] (Int32.ofNat c1) (1 : Int32) h0 n0 Z0) hZ (hw _ (List.mem_of_getElem? (i := 12) rfl)) (hw _ (List.mem_of_getElem? (i := 11) rfl)) (by decide) (by decide)) (g := (mkF m 7 #[rv b, iv (Int32.ofNat c1), iv (Int32.ofNat c2)] [(.int (1 : Int32)), (.int (Int32.ofNat c1)), (.ref b)])) rfl (by rw [hml]; rfl) (argsL := [(.int (Int32.ofNat c1)), (.int (1 : Int32))]) (rest := [(.ref b)]) (lenOf own_pd0 rfl) rfl (by show 2 * 0 + _ ≤ _; exact Nat.le_of_eq rfl) (hb hby own_d_prog_111_method_1_code_7) (fun _ _ => ⟨rfl, e483, (by decide : 0 + 0 ≤ _), (by decide : 0 + 0 ≤ _)⟩)
  dsimp only [Pt.U, Pt.locs, Pt.cells, Pt.slots] at X484 l484 y484 z484 st484 hQ484
  subst l484 y484 z484
  obtain ⟨rfl, rfl, e484⟩ := hQ484
  have E484q : T484.heap = h0 := e484
  have N484 := Fr.app N0 (Fr.nil n0)
  refine own_go (T' := T484) (g' := (mkF m 10 #[rv b, iv (Int32.ofNat c1), iv (Int32.ofNat c2)] [(.int (own_mx (Int32.ofNat c1) (1 : Int32))), (.ref b)])) (st484) ?_
  rw [own_mxn (by omega)]
  obtain ⟨T485, h485, k485, X485, e485, E485, A485, st485⟩ := newP X484 hx hZ (hw _ (List.mem_of_getElem? (i := 13) rfl)) E484q (g := (mkF m 10 #[rv b, iv (Int32.ofNat c1), iv (Int32.ofNat c2)] [(.int (Int32.ofNat (max c1 1))), (.ref b)])) rfl (hb hby own_d_prog_111_method_1_code_10) rfl (own_nn (by omega)) (cap := 3) (by rw [own_cl (by omega)]; omega) (by decide) (by decide) (by decide)
  obtain ⟨b485, g485⟩ : ∃ z, z = h0.size := ⟨_, rfl⟩
  rw [← g485] at A485 st485
  have gn485 : n0 ≤ b485 := Nat.le_trans Z0 (Nat.le_of_eq g485.symm)
  have hz485 : n0 ≤ h485.size := Nat.le_trans Z0 E485.1
  have c486 := E_b.ext E485
  have ne487 : b ≠ b485 := Nat.ne_of_lt (Nat.lt_of_lt_of_le E_b.lt (Nat.le_of_eq g485.symm))
  have c488 := F_starts.ext E485
  have c489 := F_lines.ext E485
  have c490 := F_firstEnds.ext E485
  have c491 := F_ends.ext E485
  have c492 := F_rows.ext E485
  have c493 := F_fields.ext E485
  have V485 : Arv Z h485 b485 k485 .int (Int32.ofNat (max c1 1)) (List.replicate (max c1 1) (.int (0 : Int32))) (.int (0 : Int32)) := (Arv.new A485 (own_nn (by omega))).pad (pad_rep [] (.int (0 : Int32)) (max c1 1))
  refine own_go (T' := T485) (g' := (mkF m 12 #[rv b, iv (Int32.ofNat c1), iv (Int32.ofNat c2)] [(.ref b485), (.ref b)])) (st485) ?_
  obtain ⟨T494, h494, X494, e494, W494, st494⟩ := putF X485 hx hZ hown (host := "") (Or.inl (hw _ (List.mem_of_getElem? (i := 14) rfl))) Via.refl e485 c488 c486 (Or.inl (hw _ (List.mem_of_getElem? (i := 15) rfl))) (hw _ (List.mem_of_getElem? (i := 1) rfl)) (ty := (.array .int)) (by decide) rfl rfl (g := (mkF m 12 #[rv b, iv (Int32.ofNat c1), iv (Int32.ofNat c2)] [(.ref b485), (.ref b)])) rfl rfl (hb hby own_d_prog_111_method_1_code_12)
  have hz494 : n0 ≤ h494.size := Nat.le_trans hz485 (Keep.of_wr W494).1
  have N494 := Fr.snoc X494 N484 g_b
  have c495 := c486.wr W494
  have c496 := c488.same W494
  have c497 := c489.other W494 (Or.inr (slot_ne (Or.inl (hw _ (List.mem_of_getElem? (i := 18) rfl))) (Or.inl (hw _ (List.mem_of_getElem? (i := 15) rfl))) (by decide) (t := (.array .long)) (t' := (.array .int)) (by decide) (by decide)))
  have c498 := c490.other W494 (Or.inr (slot_ne (Or.inl (hw _ (List.mem_of_getElem? (i := 20) rfl))) (Or.inl (hw _ (List.mem_of_getElem? (i := 15) rfl))) (by decide) (t := (.array .int)) (t' := (.array .int)) (by decide) (by decide)))
  have c499 := c491.other W494 (Or.inr (slot_ne (Or.inl (hw _ (List.mem_of_getElem? (i := 22) rfl))) (Or.inl (hw _ (List.mem_of_getElem? (i := 15) rfl))) (by decide) (t := (.array .int)) (t' := (.array .int)) (by decide) (by decide)))
  have c500 := c492.other W494 (Or.inr (slot_ne (Or.inl (hw _ (List.mem_of_getElem? (i := 51) rfl))) (Or.inl (hw _ (List.mem_of_getElem? (i := 15) rfl))) (by decide) (t := .int) (t' := (.array .int)) (by decide) (by decide)))
  have c501 := c493.other W494 (Or.inr (slot_ne (Or.inl (hw _ (List.mem_of_getElem? (i := 33) rfl))) (Or.inl (hw _ (List.mem_of_getElem? (i := 15) rfl))) (by decide) (t := .int) (t' := (.array .int)) (by decide) (by decide)))
  have c502 := V485.other W494 (Ne.symm ne487)
  refine own_go (T' := T494) (g' := (mkF m 15 #[rv b, iv (Int32.ofNat c1), iv (Int32.ofNat c2)] [])) (st494) ?_
  refine own_go (T' := T494) (g' := (mkF m 16 #[rv b, iv (Int32.ofNat c1), iv (Int32.ofNat c2)] [(.ref b)])) (fun t k => XS.aloadN X494.here hx rfl (hb hby own_d_prog_111_method_1_code_15) rfl rfl k) ?_
  refine own_go (T' := T494) (g' := (mkF m 17 #[rv b, iv (Int32.ofNat c1), iv (Int32.ofNat c2)] [(.ref b), (.ref b)])) (fun t k => XS.aloadN X494.here hx rfl (hb hby own_d_prog_111_method_1_code_16) rfl rfl k) ?_
  obtain ⟨T503, X503, e503, st503⟩ := getF X494 hx hZ hown (host := "") (Or.inl (hw _ (List.mem_of_getElem? (i := 14) rfl))) Via.refl e494 c496 (g := (mkF m 17 #[rv b, iv (Int32.ofNat c1), iv (Int32.ofNat c2)] [(.ref b), (.ref b)])) rfl rfl (hb hby own_d_prog_111_method_1_code_17)
  refine own_go (T' := T503) (g' := (mkF m 20 #[rv b, iv (Int32.ofNat c1), iv (Int32.ofNat c2)] [(.ref b485), (.ref b)])) (st503) ?_
  obtain ⟨cl504, Ar504, -, Sz504, Nn504, -, -⟩ := id c502
  refine own_go (T' := T503) (g' := (mkF m 21 #[rv b, iv (Int32.ofNat c1), iv (Int32.ofNat c2)] [(.int (Int32.ofNat (max c1 1))), (.ref b)])) (fun t k => X503.arraylength hx (by rw [e503]; exact Ar504.1) (State.isArrayOf_alike hZ.alike Ar504.2.1) (g := (mkF m 20 #[rv b, iv (Int32.ofNat c1), iv (Int32.ofNat c2)] [(.ref b485), (.ref b)])) rfl rfl (hb hby own_d_prog_111_method_1_code_20) _ (by rw [len_of Sz504 Nn504]; exact k)) ?_
  obtain ⟨T505, h505, k505, X505, e505, E505, A505, st505⟩ := newP X503 hx hZ (hw _ (List.mem_of_getElem? (i := 16) rfl)) e503 (g := (mkF m 21 #[rv b, iv (Int32.ofNat c1), iv (Int32.ofNat c2)] [(.int (Int32.ofNat (max c1 1))), (.ref b)])) rfl (hb hby own_d_prog_111_method_1_code_21) rfl (own_nn (by omega)) (cap := 3) (by rw [own_cl (by omega)]; omega) (by decide) (by decide) (by decide)
  obtain ⟨b505, g505⟩ : ∃ z, z = h494.size := ⟨_, rfl⟩
  rw [← g505] at A505 st505
  have gn505 : n0 ≤ b505 := Nat.le_trans hz494 (Nat.le_of_eq g505.symm)
  have hz505 : n0 ≤ h505.size := Nat.le_trans hz494 E505.1
  have c506 := c495.ext E505
  have ne507 : b ≠ b505 := Nat.ne_of_lt (Nat.lt_of_lt_of_le c495.lt (Nat.le_of_eq g505.symm))
  have c508 := c496.ext E505
  have c509 := c497.ext E505
  have c510 := c498.ext E505
  have c511 := c499.ext E505
  have c512 := c500.ext E505
  have c513 := c501.ext E505
  have c514 := c502.ext E505
  have ne515 : b485 ≠ b505 := Nat.ne_of_lt (Nat.lt_of_lt_of_le c502.lt (Nat.le_of_eq g505.symm))
  have V505 : Arv Z h505 b505 k505 .long (Int32.ofNat (max c1 1)) (List.replicate (max c1 1) (.long (0 : Int64))) (.long (0 : Int64)) := (Arv.new A505 (own_nn (by omega))).pad (pad_rep [] (.long (0 : Int64)) (max c1 1))
  refine own_go (T' := T505) (g' := (mkF m 23 #[rv b, iv (Int32.ofNat c1), iv (Int32.ofNat c2)] [(.ref b505), (.ref b)])) (st505) ?_
  obtain ⟨T516, h516, X516, e516, W516, st516⟩ := putF X505 hx hZ hown (host := "") (Or.inl (hw _ (List.mem_of_getElem? (i := 17) rfl))) Via.refl e505 c509 c506 (Or.inl (hw _ (List.mem_of_getElem? (i := 18) rfl))) (hw _ (List.mem_of_getElem? (i := 1) rfl)) (ty := (.array .long)) (by decide) rfl rfl (g := (mkF m 23 #[rv b, iv (Int32.ofNat c1), iv (Int32.ofNat c2)] [(.ref b505), (.ref b)])) rfl rfl (hb hby own_d_prog_111_method_1_code_23)
  have hz516 : n0 ≤ h516.size := Nat.le_trans hz505 (Keep.of_wr W516).1
  have N516 := Fr.snoc X516 N494 g_b
  have c517 := c506.wr W516
  have c518 := c508.other W516 (Or.inr (slot_ne (Or.inl (hw _ (List.mem_of_getElem? (i := 15) rfl))) (Or.inl (hw _ (List.mem_of_getElem? (i := 18) rfl))) (by decide) (t := (.array .int)) (t' := (.array .long)) (by decide) (by decide)))
  have c519 := c509.same W516
  have c520 := c510.other W516 (Or.inr (slot_ne (Or.inl (hw _ (List.mem_of_getElem? (i := 20) rfl))) (Or.inl (hw _ (List.mem_of_getElem? (i := 18) rfl))) (by decide) (t := (.array .int)) (t' := (.array .long)) (by decide) (by decide)))
  have c521 := c511.other W516 (Or.inr (slot_ne (Or.inl (hw _ (List.mem_of_getElem? (i := 22) rfl))) (Or.inl (hw _ (List.mem_of_getElem? (i := 18) rfl))) (by decide) (t := (.array .int)) (t' := (.array .long)) (by decide) (by decide)))
  have c522 := c512.other W516 (Or.inr (slot_ne (Or.inl (hw _ (List.mem_of_getElem? (i := 51) rfl))) (Or.inl (hw _ (List.mem_of_getElem? (i := 18) rfl))) (by decide) (t := .int) (t' := (.array .long)) (by decide) (by decide)))
  have c523 := c513.other W516 (Or.inr (slot_ne (Or.inl (hw _ (List.mem_of_getElem? (i := 33) rfl))) (Or.inl (hw _ (List.mem_of_getElem? (i := 18) rfl))) (by decide) (t := .int) (t' := (.array .long)) (by decide) (by decide)))
  have c524 := c514.other W516 (Ne.symm ne487)
  have c525 := V505.other W516 (Ne.symm ne507)
  refine own_go (T' := T516) (g' := (mkF m 26 #[rv b, iv (Int32.ofNat c1), iv (Int32.ofNat c2)] [])) (st516) ?_
  refine own_go (T' := T516) (g' := (mkF m 27 #[rv b, iv (Int32.ofNat c1), iv (Int32.ofNat c2)] [(.ref b)])) (fun t k => XS.aloadN X516.here hx rfl (hb hby own_d_prog_111_method_1_code_26) rfl rfl k) ?_
  refine own_go (T' := T516) (g' := (mkF m 28 #[rv b, iv (Int32.ofNat c1), iv (Int32.ofNat c2)] [(.ref b), (.ref b)])) (fun t k => XS.aloadN X516.here hx rfl (hb hby own_d_prog_111_method_1_code_27) rfl rfl k) ?_
  obtain ⟨T526, X526, e526, st526⟩ := getF X516 hx hZ hown (host := "") (Or.inl (hw _ (List.mem_of_getElem? (i := 14) rfl))) Via.refl e516 c518 (g := (mkF m 28 #[rv b, iv (Int32.ofNat c1), iv (Int32.ofNat c2)] [(.ref b), (.ref b)])) rfl rfl (hb hby own_d_prog_111_method_1_code_28)
  refine own_go (T' := T526) (g' := (mkF m 31 #[rv b, iv (Int32.ofNat c1), iv (Int32.ofNat c2)] [(.ref b485), (.ref b)])) (st526) ?_
  obtain ⟨cl527, Ar527, -, Sz527, Nn527, -, -⟩ := id c524
  refine own_go (T' := T526) (g' := (mkF m 32 #[rv b, iv (Int32.ofNat c1), iv (Int32.ofNat c2)] [(.int (Int32.ofNat (max c1 1))), (.ref b)])) (fun t k => X526.arraylength hx (by rw [e526]; exact Ar527.1) (State.isArrayOf_alike hZ.alike Ar527.2.1) (g := (mkF m 31 #[rv b, iv (Int32.ofNat c1), iv (Int32.ofNat c2)] [(.ref b485), (.ref b)])) rfl rfl (hb hby own_d_prog_111_method_1_code_31) _ (by rw [len_of Sz527 Nn527]; exact k)) ?_
  refine own_go (T' := T526) (g' := (mkF m 33 #[rv b, iv (Int32.ofNat c1), iv (Int32.ofNat c2)] [(.int (1 : Int32)), (.int (Int32.ofNat (max c1 1))), (.ref b)])) (fun t k => XS.iconst X526.here hx rfl (hb hby own_d_prog_111_method_1_code_32) k) ?_
  refine own_go (T' := T526) (g' := (mkF m 34 #[rv b, iv (Int32.ofNat c1), iv (Int32.ofNat c2)] [(.int ((Int32.ofNat (max c1 1)) + (1 : Int32))), (.ref b)])) (fun t k => XS.iadd X526.here hx rfl (hb hby own_d_prog_111_method_1_code_33) rfl k) ?_
  rw [← inc_ofNat]
  obtain ⟨T528, h528, k528, X528, e528, E528, A528, st528⟩ := newP X526 hx hZ (hw _ (List.mem_of_getElem? (i := 13) rfl)) e526 (g := (mkF m 34 #[rv b, iv (Int32.ofNat c1), iv (Int32.ofNat c2)] [(.int (Int32.ofNat (max c1 1 + 1))), (.ref b)])) rfl (hb hby own_d_prog_111_method_1_code_34) rfl (own_nn (by omega)) (cap := 4) (by rw [own_cl (by omega)]; omega) (by decide) (by decide) (by decide)
  obtain ⟨b528, g528⟩ : ∃ z, z = h516.size := ⟨_, rfl⟩
  rw [← g528] at A528 st528
  have gn528 : n0 ≤ b528 := Nat.le_trans hz516 (Nat.le_of_eq g528.symm)
  have hz528 : n0 ≤ h528.size := Nat.le_trans hz516 E528.1
  have c529 := c517.ext E528
  have ne530 : b ≠ b528 := Nat.ne_of_lt (Nat.lt_of_lt_of_le c517.lt (Nat.le_of_eq g528.symm))
  have c531 := c518.ext E528
  have c532 := c519.ext E528
  have c533 := c520.ext E528
  have c534 := c521.ext E528
  have c535 := c522.ext E528
  have c536 := c523.ext E528
  have c537 := c524.ext E528
  have ne538 : b485 ≠ b528 := Nat.ne_of_lt (Nat.lt_of_lt_of_le c524.lt (Nat.le_of_eq g528.symm))
  have c539 := c525.ext E528
  have ne540 : b505 ≠ b528 := Nat.ne_of_lt (Nat.lt_of_lt_of_le c525.lt (Nat.le_of_eq g528.symm))
  have V528 : Arv Z h528 b528 k528 .int (Int32.ofNat (max c1 1 + 1)) (List.replicate (max c1 1 + 1) (.int (0 : Int32))) (.int (0 : Int32)) := (Arv.new A528 (own_nn (by omega))).pad (pad_rep [] (.int (0 : Int32)) (max c1 1 + 1))
  refine own_go (T' := T528) (g' := (mkF m 36 #[rv b, iv (Int32.ofNat c1), iv (Int32.ofNat c2)] [(.ref b528), (.ref b)])) (st528) ?_
  obtain ⟨T541, h541, X541, e541, W541, st541⟩ := putF X528 hx hZ hown (host := "") (Or.inl (hw _ (List.mem_of_getElem? (i := 19) rfl))) Via.refl e528 c533 c529 (Or.inl (hw _ (List.mem_of_getElem? (i := 20) rfl))) (hw _ (List.mem_of_getElem? (i := 1) rfl)) (ty := (.array .int)) (by decide) rfl rfl (g := (mkF m 36 #[rv b, iv (Int32.ofNat c1), iv (Int32.ofNat c2)] [(.ref b528), (.ref b)])) rfl rfl (hb hby own_d_prog_111_method_1_code_36)
  have hz541 : n0 ≤ h541.size := Nat.le_trans hz528 (Keep.of_wr W541).1
  have N541 := Fr.snoc X541 N516 g_b
  have c542 := c529.wr W541
  have c543 := c531.other W541 (Or.inr (slot_ne (Or.inl (hw _ (List.mem_of_getElem? (i := 15) rfl))) (Or.inl (hw _ (List.mem_of_getElem? (i := 20) rfl))) (by decide) (t := (.array .int)) (t' := (.array .int)) (by decide) (by decide)))
  have c544 := c532.other W541 (Or.inr (slot_ne (Or.inl (hw _ (List.mem_of_getElem? (i := 18) rfl))) (Or.inl (hw _ (List.mem_of_getElem? (i := 20) rfl))) (by decide) (t := (.array .long)) (t' := (.array .int)) (by decide) (by decide)))
  have c545 := c533.same W541
  have c546 := c534.other W541 (Or.inr (slot_ne (Or.inl (hw _ (List.mem_of_getElem? (i := 22) rfl))) (Or.inl (hw _ (List.mem_of_getElem? (i := 20) rfl))) (by decide) (t := (.array .int)) (t' := (.array .int)) (by decide) (by decide)))
  have c547 := c535.other W541 (Or.inr (slot_ne (Or.inl (hw _ (List.mem_of_getElem? (i := 51) rfl))) (Or.inl (hw _ (List.mem_of_getElem? (i := 20) rfl))) (by decide) (t := .int) (t' := (.array .int)) (by decide) (by decide)))
  have c548 := c536.other W541 (Or.inr (slot_ne (Or.inl (hw _ (List.mem_of_getElem? (i := 33) rfl))) (Or.inl (hw _ (List.mem_of_getElem? (i := 20) rfl))) (by decide) (t := .int) (t' := (.array .int)) (by decide) (by decide)))
  have c549 := c537.other W541 (Ne.symm ne487)
  have c550 := c539.other W541 (Ne.symm ne507)
  have c551 := V528.other W541 (Ne.symm ne530)
  refine own_go (T' := T541) (g' := (mkF m 39 #[rv b, iv (Int32.ofNat c1), iv (Int32.ofNat c2)] [])) (st541) ?_
  refine own_go (T' := T541) (g' := (mkF m 40 #[rv b, iv (Int32.ofNat c1), iv (Int32.ofNat c2)] [(.ref b)])) (fun t k => XS.aloadN X541.here hx rfl (hb hby own_d_prog_111_method_1_code_39) rfl rfl k) ?_
  refine own_go (T' := T541) (g' := (mkF m 41 #[rv b, iv (Int32.ofNat c1), iv (Int32.ofNat c2)] [(.int (Int32.ofNat c2)), (.ref b)])) (fun t k => XS.iloadN X541.here hx rfl (hb hby own_d_prog_111_method_1_code_40) rfl k) ?_
  refine own_go (T' := T541) (g' := (mkF m 42 #[rv b, iv (Int32.ofNat c1), iv (Int32.ofNat c2)] [(.int (1 : Int32)), (.int (Int32.ofNat c2)), (.ref b)])) (fun t k => XS.iconst X541.here hx rfl (hb hby own_d_prog_111_method_1_code_41) k) ?_
  obtain ⟨_, _, ⟨T552, L552, k552, n552⟩, -, X552, ⟨Lc552, hQ552, l552, y552, z552⟩, st552⟩ := Jvm.LawKit.callS X541 hx (y := (⟨"java/lang/Math", "max", "(II)I"⟩ : MethodName)) hown (mvT hZ (hw _ (List.mem_of_getElem? (i := 9) rfl))) (mvT hZ (hw _ (List.mem_of_getElem? (i := 10) rfl))) (mvT hZ (hw _ (List.mem_of_getElem? (i := 11) rfl))) (mvT hZ (hw _ (List.mem_of_getElem? (i := 12) rfl))) (by decide) (backOf (W := 1) (own_rmx l Z a0 hw [] (Int32.ofNat c2) (1 : Int32) h541 n0 hz541) hZ (hw _ (List.mem_of_getElem? (i := 12) rfl)) (hw _ (List.mem_of_getElem? (i := 11) rfl)) (by decide) (by decide)) (g := (mkF m 42 #[rv b, iv (Int32.ofNat c1), iv (Int32.ofNat c2)] [(.int (1 : Int32)), (.int (Int32.ofNat c2)), (.ref b)])) rfl (by rw [hml]; rfl) (argsL := [(.int (Int32.ofNat c2)), (.int (1 : Int32))]) (rest := [(.ref b)]) (lenOf own_pd0 rfl) rfl (by show 2 * 0 + _ ≤ _; exact Nat.le_of_eq rfl) (hb hby own_d_prog_111_method_1_code_42) (fun _ _ => ⟨rfl, e541, (by decide : 3 + 0 ≤ _), (by decide : 10 + 0 ≤ _)⟩)
  dsimp only [Pt.U, Pt.locs, Pt.cells, Pt.slots] at X552 l552 y552 z552 st552 hQ552
  subst l552 y552 z552
  obtain ⟨rfl, rfl, e552⟩ := hQ552
  have E552q : T552.heap = h541 := e552
  have N552 := Fr.app N541 (Fr.nil n0)
  refine own_go (T' := T552) (g' := (mkF m 45 #[rv b, iv (Int32.ofNat c1), iv (Int32.ofNat c2)] [(.int (own_mx (Int32.ofNat c2) (1 : Int32))), (.ref b)])) (st552) ?_
  rw [own_mxn (by omega)]
  obtain ⟨T553, h553, k553, X553, e553, E553, A553, st553⟩ := newP X552 hx hZ (hw _ (List.mem_of_getElem? (i := 13) rfl)) E552q (g := (mkF m 45 #[rv b, iv (Int32.ofNat c1), iv (Int32.ofNat c2)] [(.int (Int32.ofNat (max c2 1))), (.ref b)])) rfl (hb hby own_d_prog_111_method_1_code_45) rfl (own_nn (by omega)) (cap := 7) (by rw [own_cl (by omega)]; omega) (by decide) (by decide) (by decide)
  obtain ⟨b553, g553⟩ : ∃ z, z = h541.size := ⟨_, rfl⟩
  rw [← g553] at A553 st553
  have gn553 : n0 ≤ b553 := Nat.le_trans hz541 (Nat.le_of_eq g553.symm)
  have hz553 : n0 ≤ h553.size := Nat.le_trans hz541 E553.1
  have c554 := c542.ext E553
  have ne555 : b ≠ b553 := Nat.ne_of_lt (Nat.lt_of_lt_of_le c542.lt (Nat.le_of_eq g553.symm))
  have c556 := c543.ext E553
  have c557 := c544.ext E553
  have c558 := c545.ext E553
  have c559 := c546.ext E553
  have c560 := c547.ext E553
  have c561 := c548.ext E553
  have c562 := c549.ext E553
  have ne563 : b485 ≠ b553 := Nat.ne_of_lt (Nat.lt_of_lt_of_le c549.lt (Nat.le_of_eq g553.symm))
  have c564 := c550.ext E553
  have ne565 : b505 ≠ b553 := Nat.ne_of_lt (Nat.lt_of_lt_of_le c550.lt (Nat.le_of_eq g553.symm))
  have c566 := c551.ext E553
  have ne567 : b528 ≠ b553 := Nat.ne_of_lt (Nat.lt_of_lt_of_le c551.lt (Nat.le_of_eq g553.symm))
  have V553 : Arv Z h553 b553 k553 .int (Int32.ofNat (max c2 1)) (List.replicate (max c2 1) (.int (0 : Int32))) (.int (0 : Int32)) := (Arv.new A553 (own_nn (by omega))).pad (pad_rep [] (.int (0 : Int32)) (max c2 1))
  refine own_go (T' := T553) (g' := (mkF m 47 #[rv b, iv (Int32.ofNat c1), iv (Int32.ofNat c2)] [(.ref b553), (.ref b)])) (st553) ?_
  obtain ⟨T568, h568, X568, e568, W568, st568⟩ := putF X553 hx hZ hown (host := "") (Or.inl (hw _ (List.mem_of_getElem? (i := 21) rfl))) Via.refl e553 c559 c554 (Or.inl (hw _ (List.mem_of_getElem? (i := 22) rfl))) (hw _ (List.mem_of_getElem? (i := 1) rfl)) (ty := (.array .int)) (by decide) rfl rfl (g := (mkF m 47 #[rv b, iv (Int32.ofNat c1), iv (Int32.ofNat c2)] [(.ref b553), (.ref b)])) rfl rfl (hb hby own_d_prog_111_method_1_code_47)
  have hz568 : n0 ≤ h568.size := Nat.le_trans hz553 (Keep.of_wr W568).1
  have N568 := Fr.snoc X568 N552 g_b
  have c569 := c554.wr W568
  have c570 := c556.other W568 (Or.inr (slot_ne (Or.inl (hw _ (List.mem_of_getElem? (i := 15) rfl))) (Or.inl (hw _ (List.mem_of_getElem? (i := 22) rfl))) (by decide) (t := (.array .int)) (t' := (.array .int)) (by decide) (by decide)))
  have c571 := c557.other W568 (Or.inr (slot_ne (Or.inl (hw _ (List.mem_of_getElem? (i := 18) rfl))) (Or.inl (hw _ (List.mem_of_getElem? (i := 22) rfl))) (by decide) (t := (.array .long)) (t' := (.array .int)) (by decide) (by decide)))
  have c572 := c558.other W568 (Or.inr (slot_ne (Or.inl (hw _ (List.mem_of_getElem? (i := 20) rfl))) (Or.inl (hw _ (List.mem_of_getElem? (i := 22) rfl))) (by decide) (t := (.array .int)) (t' := (.array .int)) (by decide) (by decide)))
  have c573 := c559.same W568
  have c574 := c560.other W568 (Or.inr (slot_ne (Or.inl (hw _ (List.mem_of_getElem? (i := 51) rfl))) (Or.inl (hw _ (List.mem_of_getElem? (i := 22) rfl))) (by decide) (t := .int) (t' := (.array .int)) (by decide) (by decide)))
  have c575 := c561.other W568 (Or.inr (slot_ne (Or.inl (hw _ (List.mem_of_getElem? (i := 33) rfl))) (Or.inl (hw _ (List.mem_of_getElem? (i := 22) rfl))) (by decide) (t := .int) (t' := (.array .int)) (by decide) (by decide)))
  have c576 := c562.other W568 (Ne.symm ne487)
  have c577 := c564.other W568 (Ne.symm ne507)
  have c578 := c566.other W568 (Ne.symm ne530)
  have c579 := V553.other W568 (Ne.symm ne555)
  refine own_go (T' := T568) (g' := (mkF m 50 #[rv b, iv (Int32.ofNat c1), iv (Int32.ofNat c2)] [])) (st568) ?_
  exact own_ret0 X568 hlk hx Bd.returns (hb hby own_d_prog_111_method_1_code_50) (by rw [e568]; exact ⟨rfl, N568, hz568, ⟨b485, b505, b528, b553, k485, k505, k528, k553, (max c1 1), (max c2 1), (List.replicate (max c1 1) (.int (0 : Int32))), (List.replicate (max c1 1) (.long (0 : Int64))), (List.replicate (max c1 1 + 1) (.int (0 : Int32))), (List.replicate (max c2 1) (.int (0 : Int32))), c569, g_b, c570, c571, c572, c573, c574, c575, c576, c577, c578, c579, ⟨gn485, gn505, gn528, gn553⟩, ⟨ne487, ne507, ne530, ne555, ne515, ne538, ne563, ne540, ne565, ne567⟩, ⟨(by omega), (by omega), (by omega), (by omega), (by omega), (by omega)⟩, ⟨List.length_replicate, List.length_replicate, List.length_replicate, List.length_replicate⟩, (fun i hi => own_rep0 (by omega))⟩⟩) (by decide) (by decide)

theorem own_pd7 : parseMethodDescriptor "()I" = some ⟨[], some .int⟩ := by decide +kernel
theorem own_pd9 : parseMethodDescriptor "()V" = some ⟨[], none⟩ := by decide +kernel
theorem own_pd8 : parseMethodDescriptor "(I)I" = some ⟨[.int], some .int⟩ := by decide +kernel
theorem own_pd4 : parseMethodDescriptor "(II)V" = some ⟨[.int, .int], none⟩ := by decide +kernel
theorem own_pd6 : parseMethodDescriptor "(IJ)V" = some ⟨[.int, .long], none⟩ := by decide +kernel
theorem own_pd5 : parseMethodDescriptor "(Lcom/example/tierwright/tierwright/table/RowBounds;II)V" = some ⟨[(.object "com/example/tierwright/tierwright/table/RowBounds"), .int, .int], none⟩ := by decide +kernel
def Q_own_law (h0 : Heap) (n0 : Nat) (v : Option Value) (h : Heap) (L : List Loc) : Prop := v = some (.int 1) ∧ Fr n0 L
set_option maxRecDepth 65536 in
set_option maxHeartbeats 40000000 in
theorem own_law (l : Launch) (Z : State) (a0 : Array Value) (hw : ∀ d ∈ tables_1, d.before a0 Z = true) (ws : List Jvm.Cond) (x0 x1 x2 : Int32) (x3 : Int64) (h0 : Heap) (n0 : Nat) (Z0 : n0 ≤ h0.size)  :
    MetFree l x (head1 (Jvm.Cond.code x code maxLocals ret :: ws) room_1) (fun au Uu => au = #[(.int x0), (.int x1), (.int x2), (.long x3)] ∧ Z.Warmed39 Uu.vm ∧ Uu.heap = h0) (fun _ _ _ _ _ => True) (fun _ Uu ou Uw => ∃ vu Lu, ou = .returned vu ∧ Q_own_law h0 n0 vu Uw.heap Lu ∧ FrameEnd Uu ou Uw Lu 32 128) := by
  refine MetFree.of_bodySF (plainFor_of_name (by first | (simp [plainName, overriddenIn]; done) | decide +kernel)) hisR ?_
  intro p e s m args below meth c s₁ Bd hml0 hP hK
  obtain ⟨rfl, hZ, hh⟩ := hP
  have hx := Bd.exec
  have hby := Bd.bytes
  have hlk := Bd.notSynchronized
  have hml : c.maxLocals = 12 := hml0
  have hown : s.vm.findClass "com/example/tierwright/tierwright/table/RowBoundsFieldsPinLaw" = some m.cls := findClass_of_methodNamed Bd.named
  have hnm := (name_of_methodNamed Bd.named Bd.method).1
  have X0 : Stand p l e room_1 s m #[(.int x0), (.int x1), (.int x2), (.long x3)] below meth c s₁ [] 0 0 := Stand.of_body Bd
  have e0 : s₁.heap = h0 := by rw [← hh, Bd.state]; rfl
  have N0 := Fr.nil n0
  show own_Ends p e below s₁ (entryFrame m #[(.int x0), (.int x1), (.int x2), (.long x3)] maxLocals) (fun ou Uw => ∃ vu Lu, ou = .returned vu ∧ Q_own_law h0 n0 vu Uw.heap Lu ∧ FrameEnd s ou Uw Lu 32 128)
  refine own_start (g' := (mkF m 0 #[iv x0, iv x1, iv x2, .val (.long x3), .second, .unset, .unset, .unset, .unset, .unset, .unset, .unset] [])) (by first | (simp [entryFrame, mkF, argsToLocals, Value.category, iv, rv, maxLocals]; done) | rfl) ?_
  refine own_go (T' := s₁) (g' := (mkF m 1 #[iv x0, iv x1, iv x2, .val (.long x3), .second, .unset, .unset, .unset, .unset, .unset, .unset, .unset] [(.int x0)])) (fun t k => XS.iloadN X0.here hx rfl (hb hby at_0) rfl k) ?_
  refine own_go (T' := s₁) (g' := (mkF m 2 #[iv x0, iv x1, iv x2, .val (.long x3), .second, .unset, .unset, .unset, .unset, .unset, .unset, .unset] [(.int (3 : Int32)), (.int x0)])) (fun t k => XS.iconst X0.here hx rfl (hb hby at_1) k) ?_
  refine own_go (T' := s₁) (g' := (mkF m 3 #[iv x0, iv x1, iv x2, .val (.long x3), .second, .unset, .unset, .unset, .unset, .unset, .unset, .unset] [(.int (x0 &&& (3 : Int32)))])) (fun t k => XS.iand X0.here hx rfl (hb hby at_2) rfl k) ?_
  obtain ⟨c1, hc1, lc1⟩ := own_mask (x := x0) (m := (3 : Int32)) (k := 3) (by decide) rfl (by decide)
  rw [hc1]
  refine own_go (T' := s₁) (g' := (mkF m 5 #[iv x0, iv x1, iv x2, .val (.long x3), .second, iv (Int32.ofNat c1), .unset, .unset, .unset, .unset, .unset, .unset] [])) (fun t k => XS.istore X0.here hx rfl (hb hby at_3) rfl (l' := #[iv x0, iv x1, iv x2, .val (.long x3), .second, iv (Int32.ofNat c1), .unset, .unset, .unset, .unset, .unset, .unset]) rfl k) ?_
  refine own_go (T' := s₁) (g' := (mkF m 6 #[iv x0, iv x1, iv x2, .val (.long x3), .second, iv (Int32.ofNat c1), .unset, .unset, .unset, .unset, .unset, .unset] [(.int x0)])) (fun t k => XS.iloadN X0.here hx rfl (hb hby at_5) rfl k) ?_
  refine own_go (T' := s₁) (g' := (mkF m 7 #[iv x0, iv x1, iv x2, .val (.long x3), .second, iv (Int32.ofNat c1), .unset, .unset, .unset, .unset, .unset, .unset] [(.int (2 : Int32)), (.int x0)])) (fun t k => XS.iconst X0.here hx rfl (hb hby at_6) k) ?_
  refine own_go (T' := s₁) (g' := (mkF m 8 #[iv x0, iv x1, iv x2, .val (.long x3), .second, iv (Int32.ofNat c1), .unset, .unset, .unset, .unset, .unset, .unset] [(.int ((x0.toUInt32 >>> ((2 : Int32) &&& 31).toUInt32).toInt32))])) (fun t k => XS.iushr X0.here hx rfl (hb hby at_7) rfl k) ?_
  refine own_go (T' := s₁) (g' := (mkF m 10 #[iv x0, iv x1, iv x2, .val (.long x3), .second, iv (Int32.ofNat c1), .unset, .unset, .unset, .unset, .unset, .unset] [(.int (7 : Int32)), (.int ((x0.toUInt32 >>> ((2 : Int32) &&& 31).toUInt32).toInt32))])) (fun t k => XS.bipush X0.here hx rfl (hb hby at_8) k) ?_
  refine own_go (T' := s₁) (g' := (mkF m 11 #[iv x0, iv x1, iv x2, .val (.long x3), .second, iv (Int32.ofNat c1), .unset, .unset, .unset, .unset, .unset, .unset] [(.int (((x0.toUInt32 >>> ((2 : Int32) &&& 31).toUInt32).toInt32) &&& (7 : Int32)))])) (fun t k => XS.iand X0.here hx rfl (hb hby at_10) rfl k) ?_
  obtain ⟨c2, hc2, lc2⟩ := own_mask (x := ((x0.toUInt32 >>> ((2 : Int32) &&& 31).toUInt32).toInt32)) (m := (7 : Int32)) (k := 7) (by decide) rfl (by decide)
  rw [hc2]
  refine own_go (T' := s₁) (g' := (mkF m 13 #[iv x0, iv x1, iv x2, .val (.long x3), .second, iv (Int32.ofNat c1), iv (Int32.ofNat c2), .unset, .unset, .unset, .unset, .unset] [])) (fun t k => XS.istore X0.here hx rfl (hb hby at_11) rfl (l' := #[iv x0, iv x1, iv x2, .val (.long x3), .second, iv (Int32.ofNat c1), iv (Int32.ofNat c2), .unset, .unset, .unset, .unset, .unset]) rfl k) ?_
  refine own_go (T' := s₁) (g' := (mkF m 14 #[iv x0, iv x1, iv x2, .val (.long x3), .second, iv (Int32.ofNat c1), iv (Int32.ofNat c2), .unset, .unset, .unset, .unset, .unset] [(.int x1)])) (fun t k => XS.iloadN X0.here hx rfl (hb hby at_13) rfl k) ?_
  refine own_go (T' := s₁) (g' := (mkF m 15 #[iv x0, iv x1, iv x2, .val (.long x3), .second, iv (Int32.ofNat c1), iv (Int32.ofNat c2), .unset, .unset, .unset, .unset, .unset] [(.int (3 : Int32)), (.int x1)])) (fun t k => XS.iconst X0.here hx rfl (hb hby at_14) k) ?_
  refine own_go (T' := s₁) (g' := (mkF m 16 #[iv x0, iv x1, iv x2, .val (.long x3), .second, iv (Int32.ofNat c1), iv (Int32.ofNat c2), .unset, .unset, .unset, .unset, .unset] [(.int (x1 &&& (3 : Int32)))])) (fun t k => XS.iand X0.here hx rfl (hb hby at_15) rfl k) ?_
  obtain ⟨m0, hm0, lm0⟩ := own_mask (x := x1) (m := (3 : Int32)) (k := 3) (by decide) rfl (by decide)
  rw [hm0]
  refine own_go (T' := s₁) (g' := (mkF m 18 #[iv x0, iv x1, iv x2, .val (.long x3), .second, iv (Int32.ofNat c1), iv (Int32.ofNat c2), iv (Int32.ofNat m0), .unset, .unset, .unset, .unset] [])) (fun t k => XS.istore X0.here hx rfl (hb hby at_16) rfl (l' := #[iv x0, iv x1, iv x2, .val (.long x3), .second, iv (Int32.ofNat c1), iv (Int32.ofNat c2), iv (Int32.ofNat m0), .unset, .unset, .unset, .unset]) rfl k) ?_
  refine own_go (T' := s₁) (g' := (mkF m 19 #[iv x0, iv x1, iv x2, .val (.long x3), .second, iv (Int32.ofNat c1), iv (Int32.ofNat c2), iv (Int32.ofNat m0), .unset, .unset, .unset, .unset] [(.int x1)])) (fun t k => XS.iloadN X0.here hx rfl (hb hby at_18) rfl k) ?_
  refine own_go (T' := s₁) (g' := (mkF m 20 #[iv x0, iv x1, iv x2, .val (.long x3), .second, iv (Int32.ofNat c1), iv (Int32.ofNat c2), iv (Int32.ofNat m0), .unset, .unset, .unset, .unset] [(.int (2 : Int32)), (.int x1)])) (fun t k => XS.iconst X0.here hx rfl (hb hby at_19) k) ?_
  refine own_go (T' := s₁) (g' := (mkF m 21 #[iv x0, iv x1, iv x2, .val (.long x3), .second, iv (Int32.ofNat c1), iv (Int32.ofNat c2), iv (Int32.ofNat m0), .unset, .unset, .unset, .unset] [(.int ((x1.toUInt32 >>> ((2 : Int32) &&& 31).toUInt32).toInt32))])) (fun t k => XS.iushr X0.here hx rfl (hb hby at_20) rfl k) ?_
  refine own_go (T' := s₁) (g' := (mkF m 22 #[iv x0, iv x1, iv x2, .val (.long x3), .second, iv (Int32.ofNat c1), iv (Int32.ofNat c2), iv (Int32.ofNat m0), .unset, .unset, .unset, .unset] [(.int (3 : Int32)), (.int ((x1.toUInt32 >>> ((2 : Int32) &&& 31).toUInt32).toInt32))])) (fun t k => XS.iconst X0.here hx rfl (hb hby at_21) k) ?_
  refine own_go (T' := s₁) (g' := (mkF m 23 #[iv x0, iv x1, iv x2, .val (.long x3), .second, iv (Int32.ofNat c1), iv (Int32.ofNat c2), iv (Int32.ofNat m0), .unset, .unset, .unset, .unset] [(.int (((x1.toUInt32 >>> ((2 : Int32) &&& 31).toUInt32).toInt32) &&& (3 : Int32)))])) (fun t k => XS.iand X0.here hx rfl (hb hby at_22) rfl k) ?_
  obtain ⟨mk, hmk, lmk⟩ := own_mask (x := ((x1.toUInt32 >>> ((2 : Int32) &&& 31).toUInt32).toInt32)) (m := (3 : Int32)) (k := 3) (by decide) rfl (by decide)
  rw [hmk]
  refine own_go (T' := s₁) (g' := (mkF m 25 #[iv x0, iv x1, iv x2, .val (.long x3), .second, iv (Int32.ofNat c1), iv (Int32.ofNat c2), iv (Int32.ofNat m0), iv (Int32.ofNat mk), .unset, .unset, .unset] [])) (fun t k => XS.istore X0.here hx rfl (hb hby at_23) rfl (l' := #[iv x0, iv x1, iv x2, .val (.long x3), .second, iv (Int32.ofNat c1), iv (Int32.ofNat c2), iv (Int32.ofNat m0), iv (Int32.ofNat mk), .unset, .unset, .unset]) rfl k) ?_
  refine own_go (T' := s₁) (g' := (mkF m 26 #[iv x0, iv x1, iv x2, .val (.long x3), .second, iv (Int32.ofNat c1), iv (Int32.ofNat c2), iv (Int32.ofNat m0), iv (Int32.ofNat mk), .unset, .unset, .unset] [(.int x1)])) (fun t k => XS.iloadN X0.here hx rfl (hb hby at_25) rfl k) ?_
  refine own_go (T' := s₁) (g' := (mkF m 27 #[iv x0, iv x1, iv x2, .val (.long x3), .second, iv (Int32.ofNat c1), iv (Int32.ofNat c2), iv (Int32.ofNat m0), iv (Int32.ofNat mk), .unset, .unset, .unset] [(.int (4 : Int32)), (.int x1)])) (fun t k => XS.iconst X0.here hx rfl (hb hby at_26) k) ?_
  refine own_go (T' := s₁) (g' := (mkF m 28 #[iv x0, iv x1, iv x2, .val (.long x3), .second, iv (Int32.ofNat c1), iv (Int32.ofNat c2), iv (Int32.ofNat m0), iv (Int32.ofNat mk), .unset, .unset, .unset] [(.int ((x1.toUInt32 >>> ((4 : Int32) &&& 31).toUInt32).toInt32))])) (fun t k => XS.iushr X0.here hx rfl (hb hby at_27) rfl k) ?_
  refine own_go (T' := s₁) (g' := (mkF m 29 #[iv x0, iv x1, iv x2, .val (.long x3), .second, iv (Int32.ofNat c1), iv (Int32.ofNat c2), iv (Int32.ofNat m0), iv (Int32.ofNat mk), .unset, .unset, .unset] [(.int (1 : Int32)), (.int ((x1.toUInt32 >>> ((4 : Int32) &&& 31).toUInt32).toInt32))])) (fun t k => XS.iconst X0.here hx rfl (hb hby at_28) k) ?_
  refine own_go (T' := s₁) (g' := (mkF m 30 #[iv x0, iv x1, iv x2, .val (.long x3), .second, iv (Int32.ofNat c1), iv (Int32.ofNat c2), iv (Int32.ofNat m0), iv (Int32.ofNat mk), .unset, .unset, .unset] [(.int (((x1.toUInt32 >>> ((4 : Int32) &&& 31).toUInt32).toInt32) &&& (1 : Int32)))])) (fun t k => XS.iand X0.here hx rfl (hb hby at_29) rfl k) ?_
  by_cases hc580 : (((x1.toUInt32 >>> ((4 : Int32) &&& 31).toUInt32).toInt32) &&& (1 : Int32)) = (0 : Int32)
  · refine own_go (T' := s₁) (g' := (mkF m 37 #[iv x0, iv x1, iv x2, .val (.long x3), .second, iv (Int32.ofNat c1), iv (Int32.ofNat c2), iv (Int32.ofNat m0), iv (Int32.ofNat mk), .unset, .unset, .unset] [])) (fun t k => XS.ifYes X0.here hx rfl (pc0 := 30) (pc' := 37) rfl (hb hby at_30) rfl ((if0 _ _).trans (teq hc580).1) (by decide) (by decide) k) ?_
    refine own_go (T' := s₁) (g' := (mkF m 38 #[iv x0, iv x1, iv x2, .val (.long x3), .second, iv (Int32.ofNat c1), iv (Int32.ofNat c2), iv (Int32.ofNat m0), iv (Int32.ofNat mk), .unset, .unset, .unset] [(.int (0 : Int32))])) (fun t k => XS.iconst X0.here hx rfl (hb hby at_37) k) ?_
    refine own_go (T' := s₁) (g' := (mkF m 40 #[iv x0, iv x1, iv x2, .val (.long x3), .second, iv (Int32.ofNat c1), iv (Int32.ofNat c2), iv (Int32.ofNat m0), iv (Int32.ofNat mk), iv (0 : Int32), .unset, .unset] [])) (fun t k => XS.istore X0.here hx rfl (hb hby at_38) rfl (l' := #[iv x0, iv x1, iv x2, .val (.long x3), .second, iv (Int32.ofNat c1), iv (Int32.ofNat c2), iv (Int32.ofNat m0), iv (Int32.ofNat mk), iv (0 : Int32), .unset, .unset]) rfl k) ?_
    refine own_go (T' := s₁) (g' := (mkF m 41 #[iv x0, iv x1, iv x2, .val (.long x3), .second, iv (Int32.ofNat c1), iv (Int32.ofNat c2), iv (Int32.ofNat m0), iv (Int32.ofNat mk), iv (0 : Int32), .unset, .unset] [(.int x1)])) (fun t k => XS.iloadN X0.here hx rfl (hb hby at_40) rfl k) ?_
    refine own_go (T' := s₁) (g' := (mkF m 42 #[iv x0, iv x1, iv x2, .val (.long x3), .second, iv (Int32.ofNat c1), iv (Int32.ofNat c2), iv (Int32.ofNat m0), iv (Int32.ofNat mk), iv (0 : Int32), .unset, .unset] [(.int (5 : Int32)), (.int x1)])) (fun t k => XS.iconst X0.here hx rfl (hb hby at_41) k) ?_
    refine own_go (T' := s₁) (g' := (mkF m 43 #[iv x0, iv x1, iv x2, .val (.long x3), .second, iv (Int32.ofNat c1), iv (Int32.ofNat c2), iv (Int32.ofNat m0), iv (Int32.ofNat mk), iv (0 : Int32), .unset, .unset] [(.int ((x1.toUInt32 >>> ((5 : Int32) &&& 31).toUInt32).toInt32))])) (fun t k => XS.iushr X0.here hx rfl (hb hby at_42) rfl k) ?_
    refine own_go (T' := s₁) (g' := (mkF m 44 #[iv x0, iv x1, iv x2, .val (.long x3), .second, iv (Int32.ofNat c1), iv (Int32.ofNat c2), iv (Int32.ofNat m0), iv (Int32.ofNat mk), iv (0 : Int32), .unset, .unset] [(.int (3 : Int32)), (.int ((x1.toUInt32 >>> ((5 : Int32) &&& 31).toUInt32).toInt32))])) (fun t k => XS.iconst X0.here hx rfl (hb hby at_43) k) ?_
    refine own_go (T' := s₁) (g' := (mkF m 45 #[iv x0, iv x1, iv x2, .val (.long x3), .second, iv (Int32.ofNat c1), iv (Int32.ofNat c2), iv (Int32.ofNat m0), iv (Int32.ofNat mk), iv (0 : Int32), .unset, .unset] [(.int (((x1.toUInt32 >>> ((5 : Int32) &&& 31).toUInt32).toInt32) &&& (3 : Int32)))])) (fun t k => XS.iand X0.here hx rfl (hb hby at_44) rfl k) ?_
    obtain ⟨m1, hm1, lm1⟩ := own_mask (x := ((x1.toUInt32 >>> ((5 : Int32) &&& 31).toUInt32).toInt32)) (m := (3 : Int32)) (k := 3) (by decide) rfl (by decide)
    rw [hm1]
    refine own_go (T' := s₁) (g' := (mkF m 47 #[iv x0, iv x1, iv x2, .val (.long x3), .second, iv (Int32.ofNat c1), iv (Int32.ofNat c2), iv (Int32.ofNat m0), iv (Int32.ofNat mk), iv (0 : Int32), iv (Int32.ofNat m1), .unset] [])) (fun t k => XS.istore X0.here hx rfl (hb hby at_45) rfl (l' := #[iv x0, iv x1, iv x2, .val (.long x3), .second, iv (Int32.ofNat c1), iv (Int32.ofNat c2), iv (Int32.ofNat m0), iv (Int32.ofNat mk), iv (0 : Int32), iv (Int32.ofNat m1), .unset]) rfl k) ?_
    obtain ⟨T581, h581, X581, e581, E581, A581, D581, -, st581⟩ := newO X0 hx hZ hown (hw _ (List.mem_of_getElem? (i := 0) rfl)) (hw _ (List.mem_of_getElem? (i := 1) rfl)) (hw _ (List.mem_of_getElem? (i := 2) rfl)) e0 (g := (mkF m 47 #[iv x0, iv x1, iv x2, .val (.long x3), .second, iv (Int32.ofNat c1), iv (Int32.ofNat c2), iv (Int32.ofNat m0), iv (Int32.ofNat mk), iv (0 : Int32), iv (Int32.ofNat m1), .unset] [])) rfl (hb hby at_47) (by decide) (by decide)
    obtain ⟨b581, g581⟩ : ∃ z, z = h0.size := ⟨_, rfl⟩
    rw [← g581] at A581 D581 st581
    have gn581 : n0 ≤ b581 := Nat.le_trans Z0 (Nat.le_of_eq g581.symm)
    have hz581 : n0 ≤ h581.size := Nat.le_trans Z0 E581.1
    have F581_starts : Fld Z h581 b581 "com/example/tierwright/tierwright/table/RowBounds" "starts" "[I" .null := D581 (Or.inl (hw _ (List.mem_of_getElem? (i := 15) rfl))) (ty := (.array .int)) (by decide)
    have F581_lines : Fld Z h581 b581 "com/example/tierwright/tierwright/table/RowBounds" "lines" "[J" .null := D581 (Or.inl (hw _ (List.mem_of_getElem? (i := 18) rfl))) (ty := (.array .long)) (by decide)
    have F581_firstEnds : Fld Z h581 b581 "com/example/tierwright/tierwright/table/RowBounds" "firstEnds" "[I" .null := D581 (Or.inl (hw _ (List.mem_of_getElem? (i := 20) rfl))) (ty := (.array .int)) (by decide)
    have F581_ends : Fld Z h581 b581 "com/example/tierwright/tierwright/table/RowBounds" "ends" "[I" .null := D581 (Or.inl (hw _ (List.mem_of_getElem? (i := 22) rfl))) (ty := (.array .int)) (by decide)
    have F581_fields : Fld Z h581 b581 "com/example/tierwright/tierwright/table/RowBounds" "fields" "I" (.int (0 : Int32)) := D581 (Or.inl (hw _ (List.mem_of_getElem? (i := 33) rfl))) (ty := .int) (by decide)
    have F581_rows : Fld Z h581 b581 "com/example/tierwright/tierwright/table/RowBounds" "rows" "I" (.int (0 : Int32)) := D581 (Or.inl (hw _ (List.mem_of_getElem? (i := 51) rfl))) (ty := .int) (by decide)
    refine own_go (T' := T581) (g' := (mkF m 50 #[iv x0, iv x1, iv x2, .val (.long x3), .second, iv (Int32.ofNat c1), iv (Int32.ofNat c2), iv (Int32.ofNat m0), iv (Int32.ofNat mk), iv (0 : Int32), iv (Int32.ofNat m1), .unset] [(.ref b581)])) (st581) ?_
    refine own_go (T' := T581) (g' := (mkF m 51 #[iv x0, iv x1, iv x2, .val (.long x3), .second, iv (Int32.ofNat c1), iv (Int32.ofNat c2), iv (Int32.ofNat m0), iv (Int32.ofNat mk), iv (0 : Int32), iv (Int32.ofNat m1), .unset] [(.ref b581), (.ref b581)])) (fun t k => XS.dup X581.here hx rfl (hb hby at_50) rfl rfl k) ?_
    refine own_go (T' := T581) (g' := (mkF m 53 #[iv x0, iv x1, iv x2, .val (.long x3), .second, iv (Int32.ofNat c1), iv (Int32.ofNat c2), iv (Int32.ofNat m0), iv (Int32.ofNat mk), iv (0 : Int32), iv (Int32.ofNat m1), .unset] [(.int (Int32.ofNat c1)), (.ref b581), (.ref b581)])) (fun t k => XS.iload X581.here hx rfl (hb hby at_51) rfl k) ?_
    refine own_go (T' := T581) (g' := (mkF m 55 #[iv x0, iv x1, iv x2, .val (.long x3), .second, iv (Int32.ofNat c1), iv (Int32.ofNat c2), iv (Int32.ofNat m0), iv (Int32.ofNat mk), iv (0 : Int32), iv (Int32.ofNat m1), .unset] [(.int (Int32.ofNat c2)), (.int (Int32.ofNat c1)), (.ref b581), (.ref b581)])) (fun t k => XS.iload X581.here hx rfl (hb hby at_53) rfl k) ?_
    obtain ⟨_, _, ⟨T582, L582, k582, n582⟩, -, X582, ⟨Lc582, hQ582, l582, y582, z582⟩, st582⟩ := X581.specialBack hx (y := (⟨"com/example/tierwright/tierwright/table/RowBounds", "<init>", "(II)V"⟩ : MethodName)) rfl hown (mvT hZ (hw _ (List.mem_of_getElem? (i := 3) rfl))) (mvT hZ (hw _ (List.mem_of_getElem? (i := 4) rfl))) (mvT hZ (hw _ (List.mem_of_getElem? (i := 5) rfl))) (by decide) (backOf (W := 1) (own_rinit l Z a0 hw [] b581 c1 c2 h581 n0 hz581 lc1 lc2 A581 gn581 F581_starts F581_lines F581_firstEnds F581_ends F581_rows F581_fields) hZ (hw _ (List.mem_of_getElem? (i := 5) rfl)) (hw _ (List.mem_of_getElem? (i := 2) rfl)) (by decide) (by decide)) (g := (mkF m 55 #[iv x0, iv x1, iv x2, .val (.long x3), .second, iv (Int32.ofNat c1), iv (Int32.ofNat c2), iv (Int32.ofNat m0), iv (Int32.ofNat mk), iv (0 : Int32), iv (Int32.ofNat m1), .unset] [(.int (Int32.ofNat c2)), (.int (Int32.ofNat c1)), (.ref b581), (.ref b581)])) rfl (by rw [hml]; rfl) (Steps.refl _) (a := b581) (argsL := [(.int (Int32.ofNat c1)), (.int (Int32.ofNat c2))]) (rest := [(.ref b581)]) (lenOf own_pd4 rfl) rfl (by show 2 * 0 + _ ≤ _; exact Nat.le_of_eq rfl) (hb hby at_55) (fun _ _ => ⟨rfl, e581, (by decide : 1 + 4 ≤ _), (by decide : 6 + 17 ≤ _)⟩)
    dsimp only [Pt.U, Pt.locs, Pt.cells, Pt.slots] at X582 l582 y582 z582 st582 hQ582
    subst l582 y582 z582
    obtain ⟨rfl, N582q, hz_582, rb_582⟩ := hQ582
    have N582 := Fr.app N0 N582q
    refine own_go (T' := T582) (g' := (mkF m 58 #[iv x0, iv x1, iv x2, .val (.long x3), .second, iv (Int32.ofNat c1), iv (Int32.ofNat c2), iv (Int32.ofNat m0), iv (Int32.ofNat mk), iv (0 : Int32), iv (Int32.ofNat m1), .unset] [(.ref b581)])) (fun t k => st582.trans k) ?_
    refine own_go (T' := T582) (g' := (mkF m 60 #[iv x0, iv x1, iv x2, .val (.long x3), .second, iv (Int32.ofNat c1), iv (Int32.ofNat c2), iv (Int32.ofNat m0), iv (Int32.ofNat mk), iv (0 : Int32), iv (Int32.ofNat m1), rv b581] [])) (fun t k => XS.astore X582.here hx rfl (hb hby at_58) rfl rfl (l' := #[iv x0, iv x1, iv x2, .val (.long x3), .second, iv (Int32.ofNat c1), iv (Int32.ofNat c2), iv (Int32.ofNat m0), iv (Int32.ofNat mk), iv (0 : Int32), iv (Int32.ofNat m1), rv b581]) rfl k) ?_
    refine own_go (T' := T582) (g' := (mkF m 62 #[iv x0, iv x1, iv x2, .val (.long x3), .second, iv (Int32.ofNat c1), iv (Int32.ofNat c2), iv (Int32.ofNat m0), iv (Int32.ofNat mk), iv (0 : Int32), iv (Int32.ofNat m1), rv b581] [(.ref b581)])) (fun t k => XS.aload X582.here hx rfl (hb hby at_60) rfl rfl k) ?_
    refine own_go (T' := T582) (g' := (mkF m 64 #[iv x0, iv x1, iv x2, .val (.long x3), .second, iv (Int32.ofNat c1), iv (Int32.ofNat c2), iv (Int32.ofNat m0), iv (Int32.ofNat mk), iv (0 : Int32), iv (Int32.ofNat m1), rv b581] [(.int (Int32.ofNat m0)), (.ref b581)])) (fun t k => XS.iload X582.here hx rfl (hb hby at_62) rfl k) ?_
    refine own_go (T' := T582) (g' := (mkF m 65 #[iv x0, iv x1, iv x2, .val (.long x3), .second, iv (Int32.ofNat c1), iv (Int32.ofNat c2), iv (Int32.ofNat m0), iv (Int32.ofNat mk), iv (0 : Int32), iv (Int32.ofNat m1), rv b581] [(.int x2), (.int (Int32.ofNat m0)), (.ref b581)])) (fun t k => XS.iloadN X582.here hx rfl (hb hby at_64) rfl k) ?_
    obtain ⟨_, _, ⟨T583, L583, k583, n583⟩, -, X583, ⟨Lc583, hQ583, l583, y583, z583⟩, st583⟩ := Jvm.LawKit.callS X582 hx (y := (⟨"com/example/tierwright/tierwright/table/RowBoundsFieldsPinLaw", "note", "(Lcom/example/tierwright/tierwright/table/RowBounds;II)V"⟩ : MethodName)) hown (mvT hZ (hw _ (List.mem_of_getElem? (i := 23) rfl))) (mvT hZ (hw _ (List.mem_of_getElem? (i := 24) rfl))) (mvT hZ (hw _ (List.mem_of_getElem? (i := 25) rfl))) (mvT hZ (hw _ (List.mem_of_getElem? (i := 26) rfl))) (by decide) (backOf (W := 0) (own_rnote l Z a0 hw [] b581 m0 x2 0 0 (fun _ => 0) T582.heap n0 hz_582 (by omega) (by omega) rb_582) hZ (hw _ (List.mem_of_getElem? (i := 26) rfl)) (hw _ (List.mem_of_getElem? (i := 25) rfl)) (by decide) (by decide)) (g := (mkF m 65 #[iv x0, iv x1, iv x2, .val (.long x3), .second, iv (Int32.ofNat c1), iv (Int32.ofNat c2), iv (Int32.ofNat m0), iv (Int32.ofNat mk), iv (0 : Int32), iv (Int32.ofNat m1), rv b581] [(.int x2), (.int (Int32.ofNat m0)), (.ref b581)])) rfl (by rw [hml]; rfl) (argsL := [(.ref b581), (.int (Int32.ofNat m0)), (.int x2)]) (rest := []) (lenOf own_pd5 rfl) rfl (by show 2 * 0 + _ ≤ _; exact Nat.le_of_eq rfl) (hb hby at_65) (fun _ _ => ⟨rfl, rfl, (by decide : 5 + 3 ≤ _), (by decide : 23 + 30 ≤ _)⟩)
    dsimp only [Pt.U, Pt.locs, Pt.cells, Pt.slots] at X583 l583 y583 z583 st583 hQ583
    subst l583 y583 z583
    obtain ⟨rfl, N583q, hz_583, rb_583⟩ := hQ583
    have N583 := Fr.app N582 N583q
    refine own_go (T' := T583) (g' := (mkF m 68 #[iv x0, iv x1, iv x2, .val (.long x3), .second, iv (Int32.ofNat c1), iv (Int32.ofNat c2), iv (Int32.ofNat m0), iv (Int32.ofNat mk), iv (0 : Int32), iv (Int32.ofNat m1), rv b581] [])) (st583) ?_
    refine own_go (T' := T583) (g' := (mkF m 70 #[iv x0, iv x1, iv x2, .val (.long x3), .second, iv (Int32.ofNat c1), iv (Int32.ofNat c2), iv (Int32.ofNat m0), iv (Int32.ofNat mk), iv (0 : Int32), iv (Int32.ofNat m1), rv b581] [(.ref b581)])) (fun t k => XS.aload X583.here hx rfl (hb hby at_68) rfl rfl k) ?_
    refine own_go (T' := T583) (g' := (mkF m 71 #[iv x0, iv x1, iv x2, .val (.long x3), .second, iv (Int32.ofNat c1), iv (Int32.ofNat c2), iv (Int32.ofNat m0), iv (Int32.ofNat mk), iv (0 : Int32), iv (Int32.ofNat m1), rv b581] [(.int x2), (.ref b581)])) (fun t k => XS.iloadN X583.here hx rfl (hb hby at_70) rfl k) ?_
    refine own_go (T' := T583) (g' := (mkF m 72 #[iv x0, iv x1, iv x2, .val (.long x3), .second, iv (Int32.ofNat c1), iv (Int32.ofNat c2), iv (Int32.ofNat m0), iv (Int32.ofNat mk), iv (0 : Int32), iv (Int32.ofNat m1), rv b581] [(.long x3), (.int x2), (.ref b581)])) (fun t k => XS.lloadN X583.here hx rfl (hb hby at_71) rfl k) ?_
    obtain ⟨cq584, kq584, q584a, q584b, q584c⟩ := isOf hZ rfl (own_rbx rb_583)
    obtain ⟨_, _, ⟨T584, L584, k584, n584⟩, -, X584, ⟨Lc584, hQ584, l584, y584, z584⟩, st584⟩ := X583.virtualBack hx (y := (⟨"com/example/tierwright/tierwright/table/RowBounds", "endRow", "(IJ)V"⟩ : MethodName)) (z := (⟨"com/example/tierwright/tierwright/table/RowBounds", "endRow", "(IJ)V"⟩ : MethodName)) hown (mvT hZ (hw _ (List.mem_of_getElem? (i := 45) rfl))) (mvT hZ (hw _ (List.mem_of_getElem? (i := 46) rfl))) (notFace_of_selects (args := #[]) (mvT hZ (hw _ (List.mem_of_getElem? (i := 48) rfl)))) (mvT hZ (hw _ (List.mem_of_getElem? (i := 48) rfl))) (mvT hZ (hw _ (List.mem_of_getElem? (i := 47) rfl))) (by decide) (backOf (W := 0) (own_rer l Z a0 hw [] b581 x2 x3 0 (0 + m0) (fun _ => 0) T583.heap n0 hz_583 (by omega) rb_583) hZ (hw _ (List.mem_of_getElem? (i := 49) rfl)) (hw _ (List.mem_of_getElem? (i := 2) rfl)) (by decide) (by decide)) q584a q584c (g := (mkF m 72 #[iv x0, iv x1, iv x2, .val (.long x3), .second, iv (Int32.ofNat c1), iv (Int32.ofNat c2), iv (Int32.ofNat m0), iv (Int32.ofNat mk), iv (0 : Int32), iv (Int32.ofNat m1), rv b581] [(.long x3), (.int x2), (.ref b581)])) rfl (by rw [hml]; rfl) (Steps.refl _) (argsL := [(.int x2), (.long x3)]) (rest := []) (lenOf own_pd6 rfl) rfl (by show 2 * 0 + _ ≤ _; exact Nat.le_of_eq rfl) (hb hby at_72) (fun _ _ => ⟨rfl, rfl, (by decide : 8 + 3 ≤ _), (by decide : 53 + 7 ≤ _)⟩)
    dsimp only [Pt.U, Pt.locs, Pt.cells, Pt.slots] at X584 l584 y584 z584 st584 hQ584
    subst l584 y584 z584
    obtain ⟨rfl, N584q, hz_584, rb_584⟩ := hQ584
    have N584 := Fr.app N583 N584q
    refine own_go (T' := T584) (g' := (mkF m 75 #[iv x0, iv x1, iv x2, .val (.long x3), .second, iv (Int32.ofNat c1), iv (Int32.ofNat c2), iv (Int32.ofNat m0), iv (Int32.ofNat mk), iv (0 : Int32), iv (Int32.ofNat m1), rv b581] [])) (fun t k => st584.trans k) ?_
    refine own_go (T' := T584) (g' := (mkF m 77 #[iv x0, iv x1, iv x2, .val (.long x3), .second, iv (Int32.ofNat c1), iv (Int32.ofNat c2), iv (Int32.ofNat m0), iv (Int32.ofNat mk), iv (0 : Int32), iv (Int32.ofNat m1), rv b581] [(.int (0 : Int32))])) (fun t k => XS.iload X584.here hx rfl (hb hby at_75) rfl k) ?_
    refine own_go (T' := T584) (g' := (mkF m 93 #[iv x0, iv x1, iv x2, .val (.long x3), .second, iv (Int32.ofNat c1), iv (Int32.ofNat c2), iv (Int32.ofNat m0), iv (Int32.ofNat mk), iv (0 : Int32), iv (Int32.ofNat m1), rv b581] [])) (fun t k => XS.ifYes X584.here hx rfl (pc0 := 77) (pc' := 93) rfl (hb hby at_77) rfl ((if0 _ _).trans (teq (by decide : ((0 : Int32) = (0 : Int32)))).1) (by decide) (by decide) k) ?_
    refine own_go (T' := T584) (g' := (mkF m 95 #[iv x0, iv x1, iv x2, .val (.long x3), .second, iv (Int32.ofNat c1), iv (Int32.ofNat c2), iv (Int32.ofNat m0), iv (Int32.ofNat mk), iv (0 : Int32), iv (Int32.ofNat m1), rv b581] [(.ref b581)])) (fun t k => XS.aload X584.here hx rfl (hb hby at_93) rfl rfl k) ?_
    refine own_go (T' := T584) (g' := (mkF m 97 #[iv x0, iv x1, iv x2, .val (.long x3), .second, iv (Int32.ofNat c1), iv (Int32.ofNat c2), iv (Int32.ofNat m0), iv (Int32.ofNat mk), iv (0 : Int32), iv (Int32.ofNat m1), rv b581] [(.int (Int32.ofNat m1)), (.ref b581)])) (fun t k => XS.iload X584.here hx rfl (hb hby at_95) rfl k) ?_
    refine own_go (T' := T584) (g' := (mkF m 98 #[iv x0, iv x1, iv x2, .val (.long x3), .second, iv (Int32.ofNat c1), iv (Int32.ofNat c2), iv (Int32.ofNat m0), iv (Int32.ofNat mk), iv (0 : Int32), iv (Int32.ofNat m1), rv b581] [(.int x2), (.int (Int32.ofNat m1)), (.ref b581)])) (fun t k => XS.iloadN X584.here hx rfl (hb hby at_97) rfl k) ?_
    refine own_go (T' := T584) (g' := (mkF m 99 #[iv x0, iv x1, iv x2, .val (.long x3), .second, iv (Int32.ofNat c1), iv (Int32.ofNat c2), iv (Int32.ofNat m0), iv (Int32.ofNat mk), iv (0 : Int32), iv (Int32.ofNat m1), rv b581] [(.int (1 : Int32)), (.int x2), (.int (Int32.ofNat m1)), (.ref b581)])) (fun t k => XS.iconst X584.here hx rfl (hb hby at_98) k) ?_
    refine own_go (T' := T584) (g' := (mkF m 100 #[iv x0, iv x1, iv x2, .val (.long x3), .second, iv (Int32.ofNat c1), iv (Int32.ofNat c2), iv (Int32.ofNat m0), iv (Int32.ofNat mk), iv (0 : Int32), iv (Int32.ofNat m1), rv b581] [(.int (x2 + (1 : Int32))), (.int (Int32.ofNat m1)), (.ref b581)])) (fun t k => XS.iadd X584.here hx rfl (hb hby at_99) rfl k) ?_
    obtain ⟨_, _, ⟨T585, L585, k585, n585⟩, -, X585, ⟨Lc585, hQ585, l585, y585, z585⟩, st585⟩ := Jvm.LawKit.callS X584 hx (y := (⟨"com/example/tierwright/tierwright/table/RowBoundsFieldsPinLaw", "note", "(Lcom/example/tierwright/tierwright/table/RowBounds;II)V"⟩ : MethodName)) hown (mvT hZ (hw _ (List.mem_of_getElem? (i := 23) rfl))) (mvT hZ (hw _ (List.mem_of_getElem? (i := 24) rfl))) (mvT hZ (hw _ (List.mem_of_getElem? (i := 25) rfl))) (mvT hZ (hw _ (List.mem_of_getElem? (i := 26) rfl))) (by decide) (backOf (W := 0) (own_rnote l Z a0 hw [] b581 m1 (x2 + (1 : Int32)) (0 + 1) (0 + m0) (upd (fun _ => 0) (0 + 1) (Int32.ofNat (0 + m0))) T584.heap n0 hz_584 (by omega) (by omega) rb_584) hZ (hw _ (List.mem_of_getElem? (i := 26) rfl)) (hw _ (List.mem_of_getElem? (i := 25) rfl)) (by decide) (by decide)) (g := (mkF m 100 #[iv x0, iv x1, iv x2, .val (.long x3), .second, iv (Int32.ofNat c1), iv (Int32.ofNat c2), iv (Int32.ofNat m0), iv (Int32.ofNat mk), iv (0 : Int32), iv (Int32.ofNat m1), rv b581] [(.int (x2 + (1 : Int32))), (.int (Int32.ofNat m1)), (.ref b581)])) rfl (by rw [hml]; rfl) (argsL := [(.ref b581), (.int (Int32.ofNat m1)), (.int (x2 + (1 : Int32)))]) (rest := []) (lenOf own_pd5 rfl) rfl (by show 2 * 0 + _ ≤ _; exact Nat.le_of_eq rfl) (hb hby at_100) (fun _ _ => ⟨rfl, rfl, (by decide : 11 + 3 ≤ _), (by decide : 60 + 30 ≤ _)⟩)
    dsimp only [Pt.U, Pt.locs, Pt.cells, Pt.slots] at X585 l585 y585 z585 st585 hQ585
    subst l585 y585 z585
    obtain ⟨rfl, N585q, hz_585, rb_585⟩ := hQ585
    have N585 := Fr.app N584 N585q
    refine own_go (T' := T585) (g' := (mkF m 103 #[iv x0, iv x1, iv x2, .val (.long x3), .second, iv (Int32.ofNat c1), iv (Int32.ofNat c2), iv (Int32.ofNat m0), iv (Int32.ofNat mk), iv (0 : Int32), iv (Int32.ofNat m1), rv b581] [])) (st585) ?_
    refine own_go (T' := T585) (g' := (mkF m 105 #[iv x0, iv x1, iv x2, .val (.long x3), .second, iv (Int32.ofNat c1), iv (Int32.ofNat c2), iv (Int32.ofNat m0), iv (Int32.ofNat mk), iv (0 : Int32), iv (Int32.ofNat m1), rv b581] [(.ref b581)])) (fun t k => XS.aload X585.here hx rfl (hb hby at_103) rfl rfl k) ?_
    refine own_go (T' := T585) (g' := (mkF m 106 #[iv x0, iv x1, iv x2, .val (.long x3), .second, iv (Int32.ofNat c1), iv (Int32.ofNat c2), iv (Int32.ofNat m0), iv (Int32.ofNat mk), iv (0 : Int32), iv (Int32.ofNat m1), rv b581] [(.int x2), (.ref b581)])) (fun t k => XS.iloadN X585.here hx rfl (hb hby at_105) rfl k) ?_
    refine own_go (T' := T585) (g' := (mkF m 107 #[iv x0, iv x1, iv x2, .val (.long x3), .second, iv (Int32.ofNat c1), iv (Int32.ofNat c2), iv (Int32.ofNat m0), iv (Int32.ofNat mk), iv (0 : Int32), iv (Int32.ofNat m1), rv b581] [(.long x3), (.int x2), (.ref b581)])) (fun t k => XS.lloadN X585.here hx rfl (hb hby at_106) rfl k) ?_
    obtain ⟨cq586, kq586, q586a, q586b, q586c⟩ := isOf hZ rfl (own_rbx rb_585)
    obtain ⟨_, _, ⟨T586, L586, k586, n586⟩, -, X586, ⟨Lc586, hQ586, l586, y586, z586⟩, st586⟩ := X585.virtualBack hx (y := (⟨"com/example/tierwright/tierwright/table/RowBounds", "endRow", "(IJ)V"⟩ : MethodName)) (z := (⟨"com/example/tierwright/tierwright/table/RowBounds", "endRow", "(IJ)V"⟩ : MethodName)) hown (mvT hZ (hw _ (List.mem_of_getElem? (i := 45) rfl))) (mvT hZ (hw _ (List.mem_of_getElem? (i := 46) rfl))) (notFace_of_selects (args := #[]) (mvT hZ (hw _ (List.mem_of_getElem? (i := 48) rfl)))) (mvT hZ (hw _ (List.mem_of_getElem? (i := 48) rfl))) (mvT hZ (hw _ (List.mem_of_getElem? (i := 47) rfl))) (by decide) (backOf (W := 0) (own_rer l Z a0 hw [] b581 x2 x3 (0 + 1) ((0 + m0) + m1) (upd (fun _ => 0) (0 + 1) (Int32.ofNat (0 + m0))) T585.heap n0 hz_585 (by omega) rb_585) hZ (hw _ (List.mem_of_getElem? (i := 49) rfl)) (hw _ (List.mem_of_getElem? (i := 2) rfl)) (by decide) (by decide)) q586a q586c (g := (mkF m 107 #[iv x0, iv x1, iv x2, .val (.long x3), .second, iv (Int32.ofNat c1), iv (Int32.ofNat c2), iv (Int32.ofNat m0), iv (Int32.ofNat mk), iv (0 : Int32), iv (Int32.ofNat m1), rv b581] [(.long x3), (.int x2), (.ref b581)])) rfl (by rw [hml]; rfl) (Steps.refl _) (argsL := [(.int x2), (.long x3)]) (rest := []) (lenOf own_pd6 rfl) rfl (by show 2 * 0 + _ ≤ _; exact Nat.le_of_eq rfl) (hb hby at_107) (fun _ _ => ⟨rfl, rfl, (by decide : 14 + 3 ≤ _), (by decide : 90 + 7 ≤ _)⟩)
    dsimp only [Pt.U, Pt.locs, Pt.cells, Pt.slots] at X586 l586 y586 z586 st586 hQ586
    subst l586 y586 z586
    obtain ⟨rfl, N586q, hz_586, rb_586⟩ := hQ586
    have N586 := Fr.app N585 N586q
    refine own_go (T' := T586) (g' := (mkF m 110 #[iv x0, iv x1, iv x2, .val (.long x3), .second, iv (Int32.ofNat c1), iv (Int32.ofNat c2), iv (Int32.ofNat m0), iv (Int32.ofNat mk), iv (0 : Int32), iv (Int32.ofNat m1), rv b581] [])) (fun t k => st586.trans k) ?_
    refine own_go (T' := T586) (g' := (mkF m 112 #[iv x0, iv x1, iv x2, .val (.long x3), .second, iv (Int32.ofNat c1), iv (Int32.ofNat c2), iv (Int32.ofNat m0), iv (Int32.ofNat mk), iv (0 : Int32), iv (Int32.ofNat m1), rv b581] [(.ref b581)])) (fun t k => XS.aload X586.here hx rfl (hb hby at_110) rfl rfl k) ?_
    obtain ⟨cq587, kq587, q587a, q587b, q587c⟩ := isOf hZ rfl (own_rbx rb_586)
    obtain ⟨_, _, ⟨T587, L587, k587, n587⟩, -, X587, ⟨Lc587, hQ587, l587, y587, z587⟩, st587⟩ := X586.virtualBack hx (y := (⟨"com/example/tierwright/tierwright/table/RowBounds", "rows", "()I"⟩ : MethodName)) (z := (⟨"com/example/tierwright/tierwright/table/RowBounds", "rows", "()I"⟩ : MethodName)) hown (mvT hZ (hw _ (List.mem_of_getElem? (i := 55) rfl))) (mvT hZ (hw _ (List.mem_of_getElem? (i := 56) rfl))) (notFace_of_selects (args := #[]) (mvT hZ (hw _ (List.mem_of_getElem? (i := 58) rfl)))) (mvT hZ (hw _ (List.mem_of_getElem? (i := 58) rfl))) (mvT hZ (hw _ (List.mem_of_getElem? (i := 57) rfl))) (by decide) (backOf (W := 0) (own_rro l Z a0 hw [] b581 ((0 + 1) + 1) ((0 + m0) + m1) (upd (upd (fun _ => 0) (0 + 1) (Int32.ofNat (0 + m0))) ((0 + 1) + 1) (Int32.ofNat ((0 + m0) + m1))) T586.heap n0 hz_586 rb_586) hZ (hw _ (List.mem_of_getElem? (i := 59) rfl)) (hw _ (List.mem_of_getElem? (i := 2) rfl)) (by decide) (by decide)) q587a q587c (g := (mkF m 112 #[iv x0, iv x1, iv x2, .val (.long x3), .second, iv (Int32.ofNat c1), iv (Int32.ofNat c2), iv (Int32.ofNat m0), iv (Int32.ofNat mk), iv (0 : Int32), iv (Int32.ofNat m1), rv b581] [(.ref b581)])) rfl (by rw [hml]; rfl) (Steps.refl _) (argsL := []) (rest := []) (lenOf own_pd7 rfl) rfl (by show 2 * 0 + _ ≤ _; exact Nat.le_of_eq rfl) (hb hby at_112) (fun _ _ => ⟨rfl, rfl, (by decide : 17 + 0 ≤ _), (by decide : 97 + 0 ≤ _)⟩)
    dsimp only [Pt.U, Pt.locs, Pt.cells, Pt.slots] at X587 l587 y587 z587 st587 hQ587
    subst l587 y587 z587
    obtain ⟨rfl, rfl, e587⟩ := hQ587
    have E587q : T587.heap = T586.heap := e587
    have N587 := Fr.app N586 (Fr.nil n0)
    refine own_go (T' := T587) (g' := (mkF m 115 #[iv x0, iv x1, iv x2, .val (.long x3), .second, iv (Int32.ofNat c1), iv (Int32.ofNat c2), iv (Int32.ofNat m0), iv (Int32.ofNat mk), iv (0 : Int32), iv (Int32.ofNat m1), rv b581] [(.int (Int32.ofNat ((0 + 1) + 1)))])) (fun t k => st587.trans k) ?_
    refine own_go (T' := T587) (g' := (mkF m 116 #[iv x0, iv x1, iv x2, .val (.long x3), .second, iv (Int32.ofNat c1), iv (Int32.ofNat c2), iv (Int32.ofNat m0), iv (Int32.ofNat mk), iv (0 : Int32), iv (Int32.ofNat m1), rv b581] [(.int (2 : Int32)), (.int (Int32.ofNat ((0 + 1) + 1)))])) (fun t k => XS.iconst X587.here hx rfl (hb hby at_115) k) ?_
    refine own_go (T' := T587) (g' := (mkF m 119 #[iv x0, iv x1, iv x2, .val (.long x3), .second, iv (Int32.ofNat c1), iv (Int32.ofNat c2), iv (Int32.ofNat m0), iv (Int32.ofNat mk), iv (0 : Int32), iv (Int32.ofNat m1), rv b581] [])) (fun t k => XS.icmpNo X587.here hx rfl (hb hby at_116) rfl (teq (rfl : ((Int32.ofNat ((0 + 1) + 1)) = (2 : Int32)))).2 k) ?_
    refine own_go (T' := T587) (g' := (mkF m 121 #[iv x0, iv x1, iv x2, .val (.long x3), .second, iv (Int32.ofNat c1), iv (Int32.ofNat c2), iv (Int32.ofNat m0), iv (Int32.ofNat mk), iv (0 : Int32), iv (Int32.ofNat m1), rv b581] [(.ref b581)])) (fun t k => XS.aload X587.here hx rfl (hb hby at_119) rfl rfl k) ?_
    refine own_go (T' := T587) (g' := (mkF m 122 #[iv x0, iv x1, iv x2, .val (.long x3), .second, iv (Int32.ofNat c1), iv (Int32.ofNat c2), iv (Int32.ofNat m0), iv (Int32.ofNat mk), iv (0 : Int32), iv (Int32.ofNat m1), rv b581] [(.int (0 : Int32)), (.ref b581)])) (fun t k => XS.iconst X587.here hx rfl (hb hby at_121) k) ?_
    obtain ⟨cq588, kq588, q588a, q588b, q588c⟩ := isOf hZ E587q (own_rbx rb_586)
    obtain ⟨_, _, ⟨T588, L588, k588, n588⟩, -, X588, ⟨Lc588, hQ588, l588, y588, z588⟩, st588⟩ := X587.virtualBack hx (y := (⟨"com/example/tierwright/tierwright/table/RowBounds", "fields", "(I)I"⟩ : MethodName)) (z := (⟨"com/example/tierwright/tierwright/table/RowBounds", "fields", "(I)I"⟩ : MethodName)) hown (mvT hZ (hw _ (List.mem_of_getElem? (i := 60) rfl))) (mvT hZ (hw _ (List.mem_of_getElem? (i := 61) rfl))) (notFace_of_selects (args := #[]) (mvT hZ (hw _ (List.mem_of_getElem? (i := 63) rfl)))) (mvT hZ (hw _ (List.mem_of_getElem? (i := 63) rfl))) (mvT hZ (hw _ (List.mem_of_getElem? (i := 62) rfl))) (by decide) (backOf (W := 0) (own_rfi0 l Z a0 hw [] b581 ((0 + 1) + 1) ((0 + m0) + m1) (upd (upd (fun _ => 0) (0 + 1) (Int32.ofNat (0 + m0))) ((0 + 1) + 1) (Int32.ofNat ((0 + m0) + m1))) T586.heap n0 hz_586 (by omega) rb_586) hZ (hw _ (List.mem_of_getElem? (i := 64) rfl)) (hw _ (List.mem_of_getElem? (i := 2) rfl)) (by decide) (by decide)) q588a q588c (g := (mkF m 122 #[iv x0, iv x1, iv x2, .val (.long x3), .second, iv (Int32.ofNat c1), iv (Int32.ofNat c2), iv (Int32.ofNat m0), iv (Int32.ofNat mk), iv (0 : Int32), iv (Int32.ofNat m1), rv b581] [(.int (0 : Int32)), (.ref b581)])) rfl (by rw [hml]; rfl) (Steps.refl _) (argsL := [(.int (0 : Int32))]) (rest := []) (lenOf own_pd8 rfl) rfl (by show 2 * 0 + _ ≤ _; exact Nat.le_of_eq rfl) (hb hby at_122) (fun _ _ => ⟨rfl, E587q, (by decide : 17 + 0 ≤ _), (by decide : 97 + 0 ≤ _)⟩)
    dsimp only [Pt.U, Pt.locs, Pt.cells, Pt.slots] at X588 l588 y588 z588 st588 hQ588
    subst l588 y588 z588
    obtain ⟨rfl, rfl, e588⟩ := hQ588
    have E588q : T588.heap = T586.heap := e588
    have N588 := Fr.app N587 (Fr.nil n0)
    refine own_go (T' := T588) (g' := (mkF m 125 #[iv x0, iv x1, iv x2, .val (.long x3), .second, iv (Int32.ofNat c1), iv (Int32.ofNat c2), iv (Int32.ofNat m0), iv (Int32.ofNat mk), iv (0 : Int32), iv (Int32.ofNat m1), rv b581] [(.int ((upd (upd (fun _ => 0) (0 + 1) (Int32.ofNat (0 + m0))) ((0 + 1) + 1) (Int32.ofNat ((0 + m0) + m1))) 1 - (upd (upd (fun _ => 0) (0 + 1) (Int32.ofNat (0 + m0))) ((0 + 1) + 1) (Int32.ofNat ((0 + m0) + m1))) 0))])) (fun t k => st588.trans k) ?_
    refine own_go (T' := T588) (g' := (mkF m 127 #[iv x0, iv x1, iv x2, .val (.long x3), .second, iv (Int32.ofNat c1), iv (Int32.ofNat c2), iv (Int32.ofNat m0), iv (Int32.ofNat mk), iv (0 : Int32), iv (Int32.ofNat m1), rv b581] [(.int (Int32.ofNat m0)), (.int ((upd (upd (fun _ => 0) (0 + 1) (Int32.ofNat (0 + m0))) ((0 + 1) + 1) (Int32.ofNat ((0 + m0) + m1))) 1 - (upd (upd (fun _ => 0) (0 + 1) (Int32.ofNat (0 + m0))) ((0 + 1) + 1) (Int32.ofNat ((0 + m0) + m1))) 0))])) (fun t k => XS.iload X588.here hx rfl (hb hby at_125) rfl k) ?_
    refine own_go (T' := T588) (g' := (mkF m 130 #[iv x0, iv x1, iv x2, .val (.long x3), .second, iv (Int32.ofNat c1), iv (Int32.ofNat c2), iv (Int32.ofNat m0), iv (Int32.ofNat mk), iv (0 : Int32), iv (Int32.ofNat m1), rv b581] [])) (fun t k => XS.icmpNo X588.here hx rfl (hb hby at_127) rfl (teq ((own_sub0 _).trans (congrArg Int32.ofNat (Nat.zero_add m0)) : (((upd (upd (fun _ => 0) (0 + 1) (Int32.ofNat (0 + m0))) ((0 + 1) + 1) (Int32.ofNat ((0 + m0) + m1))) 1 - (upd (upd (fun _ => 0) (0 + 1) (Int32.ofNat (0 + m0))) ((0 + 1) + 1) (Int32.ofNat ((0 + m0) + m1))) 0) = (Int32.ofNat m0)))).2 k) ?_
    refine own_go (T' := T588) (g' := (mkF m 132 #[iv x0, iv x1, iv x2, .val (.long x3), .second, iv (Int32.ofNat c1), iv (Int32.ofNat c2), iv (Int32.ofNat m0), iv (Int32.ofNat mk), iv (0 : Int32), iv (Int32.ofNat m1), rv b581] [(.ref b581)])) (fun t k => XS.aload X588.here hx rfl (hb hby at_130) rfl rfl k) ?_
    refine own_go (T' := T588) (g' := (mkF m 133 #[iv x0, iv x1, iv x2, .val (.long x3), .second, iv (Int32.ofNat c1), iv (Int32.ofNat c2), iv (Int32.ofNat m0), iv (Int32.ofNat mk), iv (0 : Int32), iv (Int32.ofNat m1), rv b581] [(.int (1 : Int32)), (.ref b581)])) (fun t k => XS.iconst X588.here hx rfl (hb hby at_132) k) ?_
    obtain ⟨cq589, kq589, q589a, q589b, q589c⟩ := isOf hZ E588q (own_rbx rb_586)
    obtain ⟨_, _, ⟨T589, L589, k589, n589⟩, -, X589, ⟨Lc589, hQ589, l589, y589, z589⟩, st589⟩ := X588.virtualBack hx (y := (⟨"com/example/tierwright/tierwright/table/RowBounds", "fields", "(I)I"⟩ : MethodName)) (z := (⟨"com/example/tierwright/tierwright/table/RowBounds", "fields", "(I)I"⟩ : MethodName)) hown (mvT hZ (hw _ (List.mem_of_getElem? (i := 60) rfl))) (mvT hZ (hw _ (List.mem_of_getElem? (i := 61) rfl))) (notFace_of_selects (args := #[]) (mvT hZ (hw _ (List.mem_of_getElem? (i := 63) rfl)))) (mvT hZ (hw _ (List.mem_of_getElem? (i := 63) rfl))) (mvT hZ (hw _ (List.mem_of_getElem? (i := 62) rfl))) (by decide) (backOf (W := 0) (own_rfi1 l Z a0 hw [] b581 ((0 + 1) + 1) ((0 + m0) + m1) (upd (upd (fun _ => 0) (0 + 1) (Int32.ofNat (0 + m0))) ((0 + 1) + 1) (Int32.ofNat ((0 + m0) + m1))) T586.heap n0 hz_586 (by omega) rb_586) hZ (hw _ (List.mem_of_getElem? (i := 64) rfl)) (hw _ (List.mem_of_getElem? (i := 2) rfl)) (by decide) (by decide)) q589a q589c (g := (mkF m 133 #[iv x0, iv x1, iv x2, .val (.long x3), .second, iv (Int32.ofNat c1), iv (Int32.ofNat c2), iv (Int32.ofNat m0), iv (Int32.ofNat mk), iv (0 : Int32), iv (Int32.ofNat m1), rv b581] [(.int (1 : Int32)), (.ref b581)])) rfl (by rw [hml]; rfl) (Steps.refl _) (argsL := [(.int (1 : Int32))]) (rest := []) (lenOf own_pd8 rfl) rfl (by show 2 * 0 + _ ≤ _; exact Nat.le_of_eq rfl) (hb hby at_133) (fun _ _ => ⟨rfl, E588q, (by decide : 17 + 0 ≤ _), (by decide : 97 + 0 ≤ _)⟩)
    dsimp only [Pt.U, Pt.locs, Pt.cells, Pt.slots] at X589 l589 y589 z589 st589 hQ589
    subst l589 y589 z589
    obtain ⟨rfl, rfl, e589⟩ := hQ589
    have E589q : T589.heap = T586.heap := e589
    have N589 := Fr.app N588 (Fr.nil n0)
    refine own_go (T' := T589) (g' := (mkF m 136 #[iv x0, iv x1, iv x2, .val (.long x3), .second, iv (Int32.ofNat c1), iv (Int32.ofNat c2), iv (Int32.ofNat m0), iv (Int32.ofNat mk), iv (0 : Int32), iv (Int32.ofNat m1), rv b581] [(.int ((upd (upd (fun _ => 0) (0 + 1) (Int32.ofNat (0 + m0))) ((0 + 1) + 1) (Int32.ofNat ((0 + m0) + m1))) 2 - (upd (upd (fun _ => 0) (0 + 1) (Int32.ofNat (0 + m0))) ((0 + 1) + 1) (Int32.ofNat ((0 + m0) + m1))) 1))])) (fun t k => st589.trans k) ?_
    refine own_go (T' := T589) (g' := (mkF m 138 #[iv x0, iv x1, iv x2, .val (.long x3), .second, iv (Int32.ofNat c1), iv (Int32.ofNat c2), iv (Int32.ofNat m0), iv (Int32.ofNat mk), iv (0 : Int32), iv (Int32.ofNat m1), rv b581] [(.int (Int32.ofNat m1)), (.int ((upd (upd (fun _ => 0) (0 + 1) (Int32.ofNat (0 + m0))) ((0 + 1) + 1) (Int32.ofNat ((0 + m0) + m1))) 2 - (upd (upd (fun _ => 0) (0 + 1) (Int32.ofNat (0 + m0))) ((0 + 1) + 1) (Int32.ofNat ((0 + m0) + m1))) 1))])) (fun t k => XS.iload X589.here hx rfl (hb hby at_136) rfl k) ?_
    refine own_go (T' := T589) (g' := (mkF m 141 #[iv x0, iv x1, iv x2, .val (.long x3), .second, iv (Int32.ofNat c1), iv (Int32.ofNat c2), iv (Int32.ofNat m0), iv (Int32.ofNat mk), iv (0 : Int32), iv (Int32.ofNat m1), rv b581] [])) (fun t k => XS.icmpNo X589.here hx rfl (hb hby at_138) rfl (teq ((congrArg (fun k => Int32.ofNat (k + m1) - Int32.ofNat k) (Nat.zero_add m0)).trans (own_subn (by omega) (by omega)) : (((upd (upd (fun _ => 0) (0 + 1) (Int32.ofNat (0 + m0))) ((0 + 1) + 1) (Int32.ofNat ((0 + m0) + m1))) 2 - (upd (upd (fun _ => 0) (0 + 1) (Int32.ofNat (0 + m0))) ((0 + 1) + 1) (Int32.ofNat ((0 + m0) + m1))) 1) = (Int32.ofNat m1)))).2 k) ?_
    refine own_go (T' := T589) (g' := (mkF m 142 #[iv x0, iv x1, iv x2, .val (.long x3), .second, iv (Int32.ofNat c1), iv (Int32.ofNat c2), iv (Int32.ofNat m0), iv (Int32.ofNat mk), iv (0 : Int32), iv (Int32.ofNat m1), rv b581] [(.int (1 : Int32))])) (fun t k => XS.iconst X589.here hx rfl (hb hby at_141) k) ?_
    refine own_go (T' := T589) (g' := (mkF m 146 #[iv x0, iv x1, iv x2, .val (.long x3), .second, iv (Int32.ofNat c1), iv (Int32.ofNat c2), iv (Int32.ofNat m0), iv (Int32.ofNat mk), iv (0 : Int32), iv (Int32.ofNat m1), rv b581] [(.int (1 : Int32))])) (fun t k => XS.goto X589.here hx rfl (pc0 := 142) (pc' := 146) rfl (hb hby at_142) (by decide) (by decide) k) ?_
    exact own_ret X589 hlk hx Bd.returns rfl (Or.inl ⟨rfl, Or.inr (Or.inl rfl), _, rfl⟩) (hb hby at_146) (by first | exact ⟨rfl, N589⟩ | (rw [Fr] at *; exact ⟨rfl, by simpa using N589⟩)) (by decide) (by decide)
  · refine own_go (T' := s₁) (g' := (mkF m 33 #[iv x0, iv x1, iv x2, .val (.long x3), .second, iv (Int32.ofNat c1), iv (Int32.ofNat c2), iv (Int32.ofNat m0), iv (Int32.ofNat mk), .unset, .unset, .unset] [])) (fun t k => XS.ifNo X0.here hx rfl (hb hby at_30) rfl ((if0 _ _).trans (feq hc580).1) k) ?_
    refine own_go (T' := s₁) (g' := (mkF m 34 #[iv x0, iv x1, iv x2, .val (.long x3), .second, iv (Int32.ofNat c1), iv (Int32.ofNat c2), iv (Int32.ofNat m0), iv (Int32.ofNat mk), .unset, .unset, .unset] [(.int (1 : Int32))])) (fun t k => XS.iconst X0.here hx rfl (hb hby at_33) k) ?_
    refine own_go (T' := s₁) (g' := (mkF m 38 #[iv x0, iv x1, iv x2, .val (.long x3), .second, iv (Int32.ofNat c1), iv (Int32.ofNat c2), iv (Int32.ofNat m0), iv (Int32.ofNat mk), .unset, .unset, .unset] [(.int (1 : Int32))])) (fun t k => XS.goto X0.here hx rfl (pc0 := 34) (pc' := 38) rfl (hb hby at_34) (by decide) (by decide) k) ?_
    refine own_go (T' := s₁) (g' := (mkF m 40 #[iv x0, iv x1, iv x2, .val (.long x3), .second, iv (Int32.ofNat c1), iv (Int32.ofNat c2), iv (Int32.ofNat m0), iv (Int32.ofNat mk), iv (1 : Int32), .unset, .unset] [])) (fun t k => XS.istore X0.here hx rfl (hb hby at_38) rfl (l' := #[iv x0, iv x1, iv x2, .val (.long x3), .second, iv (Int32.ofNat c1), iv (Int32.ofNat c2), iv (Int32.ofNat m0), iv (Int32.ofNat mk), iv (1 : Int32), .unset, .unset]) rfl k) ?_
    refine own_go (T' := s₁) (g' := (mkF m 41 #[iv x0, iv x1, iv x2, .val (.long x3), .second, iv (Int32.ofNat c1), iv (Int32.ofNat c2), iv (Int32.ofNat m0), iv (Int32.ofNat mk), iv (1 : Int32), .unset, .unset] [(.int x1)])) (fun t k => XS.iloadN X0.here hx rfl (hb hby at_40) rfl k) ?_
    refine own_go (T' := s₁) (g' := (mkF m 42 #[iv x0, iv x1, iv x2, .val (.long x3), .second, iv (Int32.ofNat c1), iv (Int32.ofNat c2), iv (Int32.ofNat m0), iv (Int32.ofNat mk), iv (1 : Int32), .unset, .unset] [(.int (5 : Int32)), (.int x1)])) (fun t k => XS.iconst X0.here hx rfl (hb hby at_41) k) ?_
    refine own_go (T' := s₁) (g' := (mkF m 43 #[iv x0, iv x1, iv x2, .val (.long x3), .second, iv (Int32.ofNat c1), iv (Int32.ofNat c2), iv (Int32.ofNat m0), iv (Int32.ofNat mk), iv (1 : Int32), .unset, .unset] [(.int ((x1.toUInt32 >>> ((5 : Int32) &&& 31).toUInt32).toInt32))])) (fun t k => XS.iushr X0.here hx rfl (hb hby at_42) rfl k) ?_
    refine own_go (T' := s₁) (g' := (mkF m 44 #[iv x0, iv x1, iv x2, .val (.long x3), .second, iv (Int32.ofNat c1), iv (Int32.ofNat c2), iv (Int32.ofNat m0), iv (Int32.ofNat mk), iv (1 : Int32), .unset, .unset] [(.int (3 : Int32)), (.int ((x1.toUInt32 >>> ((5 : Int32) &&& 31).toUInt32).toInt32))])) (fun t k => XS.iconst X0.here hx rfl (hb hby at_43) k) ?_
    refine own_go (T' := s₁) (g' := (mkF m 45 #[iv x0, iv x1, iv x2, .val (.long x3), .second, iv (Int32.ofNat c1), iv (Int32.ofNat c2), iv (Int32.ofNat m0), iv (Int32.ofNat mk), iv (1 : Int32), .unset, .unset] [(.int (((x1.toUInt32 >>> ((5 : Int32) &&& 31).toUInt32).toInt32) &&& (3 : Int32)))])) (fun t k => XS.iand X0.here hx rfl (hb hby at_44) rfl k) ?_
    obtain ⟨m1, hm1, lm1⟩ := own_mask (x := ((x1.toUInt32 >>> ((5 : Int32) &&& 31).toUInt32).toInt32)) (m := (3 : Int32)) (k := 3) (by decide) rfl (by decide)
    rw [hm1]
    refine own_go (T' := s₁) (g' := (mkF m 47 #[iv x0, iv x1, iv x2, .val (.long x3), .second, iv (Int32.ofNat c1), iv (Int32.ofNat c2), iv (Int32.ofNat m0), iv (Int32.ofNat mk), iv (1 : Int32), iv (Int32.ofNat m1), .unset] [])) (fun t k => XS.istore X0.here hx rfl (hb hby at_45) rfl (l' := #[iv x0, iv x1, iv x2, .val (.long x3), .second, iv (Int32.ofNat c1), iv (Int32.ofNat c2), iv (Int32.ofNat m0), iv (Int32.ofNat mk), iv (1 : Int32), iv (Int32.ofNat m1), .unset]) rfl k) ?_
    obtain ⟨T590, h590, X590, e590, E590, A590, D590, -, st590⟩ := newO X0 hx hZ hown (hw _ (List.mem_of_getElem? (i := 0) rfl)) (hw _ (List.mem_of_getElem? (i := 1) rfl)) (hw _ (List.mem_of_getElem? (i := 2) rfl)) e0 (g := (mkF m 47 #[iv x0, iv x1, iv x2, .val (.long x3), .second, iv (Int32.ofNat c1), iv (Int32.ofNat c2), iv (Int32.ofNat m0), iv (Int32.ofNat mk), iv (1 : Int32), iv (Int32.ofNat m1), .unset] [])) rfl (hb hby at_47) (by decide) (by decide)
    obtain ⟨b590, g590⟩ : ∃ z, z = h0.size := ⟨_, rfl⟩
    rw [← g590] at A590 D590 st590
    have gn590 : n0 ≤ b590 := Nat.le_trans Z0 (Nat.le_of_eq g590.symm)
    have hz590 : n0 ≤ h590.size := Nat.le_trans Z0 E590.1
    have F590_starts : Fld Z h590 b590 "com/example/tierwright/tierwright/table/RowBounds" "starts" "[I" .null := D590 (Or.inl (hw _ (List.mem_of_getElem? (i := 15) rfl))) (ty := (.array .int)) (by decide)
    have F590_lines : Fld Z h590 b590 "com/example/tierwright/tierwright/table/RowBounds" "lines" "[J" .null := D590 (Or.inl (hw _ (List.mem_of_getElem? (i := 18) rfl))) (ty := (.array .long)) (by decide)
    have F590_firstEnds : Fld Z h590 b590 "com/example/tierwright/tierwright/table/RowBounds" "firstEnds" "[I" .null := D590 (Or.inl (hw _ (List.mem_of_getElem? (i := 20) rfl))) (ty := (.array .int)) (by decide)
    have F590_ends : Fld Z h590 b590 "com/example/tierwright/tierwright/table/RowBounds" "ends" "[I" .null := D590 (Or.inl (hw _ (List.mem_of_getElem? (i := 22) rfl))) (ty := (.array .int)) (by decide)
    have F590_fields : Fld Z h590 b590 "com/example/tierwright/tierwright/table/RowBounds" "fields" "I" (.int (0 : Int32)) := D590 (Or.inl (hw _ (List.mem_of_getElem? (i := 33) rfl))) (ty := .int) (by decide)
    have F590_rows : Fld Z h590 b590 "com/example/tierwright/tierwright/table/RowBounds" "rows" "I" (.int (0 : Int32)) := D590 (Or.inl (hw _ (List.mem_of_getElem? (i := 51) rfl))) (ty := .int) (by decide)
    refine own_go (T' := T590) (g' := (mkF m 50 #[iv x0, iv x1, iv x2, .val (.long x3), .second, iv (Int32.ofNat c1), iv (Int32.ofNat c2), iv (Int32.ofNat m0), iv (Int32.ofNat mk), iv (1 : Int32), iv (Int32.ofNat m1), .unset] [(.ref b590)])) (st590) ?_
    refine own_go (T' := T590) (g' := (mkF m 51 #[iv x0, iv x1, iv x2, .val (.long x3), .second, iv (Int32.ofNat c1), iv (Int32.ofNat c2), iv (Int32.ofNat m0), iv (Int32.ofNat mk), iv (1 : Int32), iv (Int32.ofNat m1), .unset] [(.ref b590), (.ref b590)])) (fun t k => XS.dup X590.here hx rfl (hb hby at_50) rfl rfl k) ?_
    refine own_go (T' := T590) (g' := (mkF m 53 #[iv x0, iv x1, iv x2, .val (.long x3), .second, iv (Int32.ofNat c1), iv (Int32.ofNat c2), iv (Int32.ofNat m0), iv (Int32.ofNat mk), iv (1 : Int32), iv (Int32.ofNat m1), .unset] [(.int (Int32.ofNat c1)), (.ref b590), (.ref b590)])) (fun t k => XS.iload X590.here hx rfl (hb hby at_51) rfl k) ?_
    refine own_go (T' := T590) (g' := (mkF m 55 #[iv x0, iv x1, iv x2, .val (.long x3), .second, iv (Int32.ofNat c1), iv (Int32.ofNat c2), iv (Int32.ofNat m0), iv (Int32.ofNat mk), iv (1 : Int32), iv (Int32.ofNat m1), .unset] [(.int (Int32.ofNat c2)), (.int (Int32.ofNat c1)), (.ref b590), (.ref b590)])) (fun t k => XS.iload X590.here hx rfl (hb hby at_53) rfl k) ?_
    obtain ⟨_, _, ⟨T591, L591, k591, n591⟩, -, X591, ⟨Lc591, hQ591, l591, y591, z591⟩, st591⟩ := X590.specialBack hx (y := (⟨"com/example/tierwright/tierwright/table/RowBounds", "<init>", "(II)V"⟩ : MethodName)) rfl hown (mvT hZ (hw _ (List.mem_of_getElem? (i := 3) rfl))) (mvT hZ (hw _ (List.mem_of_getElem? (i := 4) rfl))) (mvT hZ (hw _ (List.mem_of_getElem? (i := 5) rfl))) (by decide) (backOf (W := 1) (own_rinit l Z a0 hw [] b590 c1 c2 h590 n0 hz590 lc1 lc2 A590 gn590 F590_starts F590_lines F590_firstEnds F590_ends F590_rows F590_fields) hZ (hw _ (List.mem_of_getElem? (i := 5) rfl)) (hw _ (List.mem_of_getElem? (i := 2) rfl)) (by decide) (by decide)) (g := (mkF m 55 #[iv x0, iv x1, iv x2, .val (.long x3), .second, iv (Int32.ofNat c1), iv (Int32.ofNat c2), iv (Int32.ofNat m0), iv (Int32.ofNat mk), iv (1 : Int32), iv (Int32.ofNat m1), .unset] [(.int (Int32.ofNat c2)), (.int (Int32.ofNat c1)), (.ref b590), (.ref b590)])) rfl (by rw [hml]; rfl) (Steps.refl _) (a := b590) (argsL := [(.int (Int32.ofNat c1)), (.int (Int32.ofNat c2))]) (rest := [(.ref b590)]) (lenOf own_pd4 rfl) rfl (by show 2 * 0 + _ ≤ _; exact Nat.le_of_eq rfl) (hb hby at_55) (fun _ _ => ⟨rfl, e590, (by decide : 1 + 4 ≤ _), (by decide : 6 + 17 ≤ _)⟩)
    dsimp only [Pt.U, Pt.locs, Pt.cells, Pt.slots] at X591 l591 y591 z591 st591 hQ591
    subst l591 y591 z591
    obtain ⟨rfl, N591q, hz_591, rb_591⟩ := hQ591
    have N591 := Fr.app N0 N591q
    refine own_go (T' := T591) (g' := (mkF m 58 #[iv x0, iv x1, iv x2, .val (.long x3), .second, iv (Int32.ofNat c1), iv (Int32.ofNat c2), iv (Int32.ofNat m0), iv (Int32.ofNat mk), iv (1 : Int32), iv (Int32.ofNat m1), .unset] [(.ref b590)])) (fun t k => st591.trans k) ?_
    refine own_go (T' := T591) (g' := (mkF m 60 #[iv x0, iv x1, iv x2, .val (.long x3), .second, iv (Int32.ofNat c1), iv (Int32.ofNat c2), iv (Int32.ofNat m0), iv (Int32.ofNat mk), iv (1 : Int32), iv (Int32.ofNat m1), rv b590] [])) (fun t k => XS.astore X591.here hx rfl (hb hby at_58) rfl rfl (l' := #[iv x0, iv x1, iv x2, .val (.long x3), .second, iv (Int32.ofNat c1), iv (Int32.ofNat c2), iv (Int32.ofNat m0), iv (Int32.ofNat mk), iv (1 : Int32), iv (Int32.ofNat m1), rv b590]) rfl k) ?_
    refine own_go (T' := T591) (g' := (mkF m 62 #[iv x0, iv x1, iv x2, .val (.long x3), .second, iv (Int32.ofNat c1), iv (Int32.ofNat c2), iv (Int32.ofNat m0), iv (Int32.ofNat mk), iv (1 : Int32), iv (Int32.ofNat m1), rv b590] [(.ref b590)])) (fun t k => XS.aload X591.here hx rfl (hb hby at_60) rfl rfl k) ?_
    refine own_go (T' := T591) (g' := (mkF m 64 #[iv x0, iv x1, iv x2, .val (.long x3), .second, iv (Int32.ofNat c1), iv (Int32.ofNat c2), iv (Int32.ofNat m0), iv (Int32.ofNat mk), iv (1 : Int32), iv (Int32.ofNat m1), rv b590] [(.int (Int32.ofNat m0)), (.ref b590)])) (fun t k => XS.iload X591.here hx rfl (hb hby at_62) rfl k) ?_
    refine own_go (T' := T591) (g' := (mkF m 65 #[iv x0, iv x1, iv x2, .val (.long x3), .second, iv (Int32.ofNat c1), iv (Int32.ofNat c2), iv (Int32.ofNat m0), iv (Int32.ofNat mk), iv (1 : Int32), iv (Int32.ofNat m1), rv b590] [(.int x2), (.int (Int32.ofNat m0)), (.ref b590)])) (fun t k => XS.iloadN X591.here hx rfl (hb hby at_64) rfl k) ?_
    obtain ⟨_, _, ⟨T592, L592, k592, n592⟩, -, X592, ⟨Lc592, hQ592, l592, y592, z592⟩, st592⟩ := Jvm.LawKit.callS X591 hx (y := (⟨"com/example/tierwright/tierwright/table/RowBoundsFieldsPinLaw", "note", "(Lcom/example/tierwright/tierwright/table/RowBounds;II)V"⟩ : MethodName)) hown (mvT hZ (hw _ (List.mem_of_getElem? (i := 23) rfl))) (mvT hZ (hw _ (List.mem_of_getElem? (i := 24) rfl))) (mvT hZ (hw _ (List.mem_of_getElem? (i := 25) rfl))) (mvT hZ (hw _ (List.mem_of_getElem? (i := 26) rfl))) (by decide) (backOf (W := 0) (own_rnote l Z a0 hw [] b590 m0 x2 0 0 (fun _ => 0) T591.heap n0 hz_591 (by omega) (by omega) rb_591) hZ (hw _ (List.mem_of_getElem? (i := 26) rfl)) (hw _ (List.mem_of_getElem? (i := 25) rfl)) (by decide) (by decide)) (g := (mkF m 65 #[iv x0, iv x1, iv x2, .val (.long x3), .second, iv (Int32.ofNat c1), iv (Int32.ofNat c2), iv (Int32.ofNat m0), iv (Int32.ofNat mk), iv (1 : Int32), iv (Int32.ofNat m1), rv b590] [(.int x2), (.int (Int32.ofNat m0)), (.ref b590)])) rfl (by rw [hml]; rfl) (argsL := [(.ref b590), (.int (Int32.ofNat m0)), (.int x2)]) (rest := []) (lenOf own_pd5 rfl) rfl (by show 2 * 0 + _ ≤ _; exact Nat.le_of_eq rfl) (hb hby at_65) (fun _ _ => ⟨rfl, rfl, (by decide : 5 + 3 ≤ _), (by decide : 23 + 30 ≤ _)⟩)
    dsimp only [Pt.U, Pt.locs, Pt.cells, Pt.slots] at X592 l592 y592 z592 st592 hQ592
    subst l592 y592 z592
    obtain ⟨rfl, N592q, hz_592, rb_592⟩ := hQ592
    have N592 := Fr.app N591 N592q
    refine own_go (T' := T592) (g' := (mkF m 68 #[iv x0, iv x1, iv x2, .val (.long x3), .second, iv (Int32.ofNat c1), iv (Int32.ofNat c2), iv (Int32.ofNat m0), iv (Int32.ofNat mk), iv (1 : Int32), iv (Int32.ofNat m1), rv b590] [])) (st592) ?_
    refine own_go (T' := T592) (g' := (mkF m 70 #[iv x0, iv x1, iv x2, .val (.long x3), .second, iv (Int32.ofNat c1), iv (Int32.ofNat c2), iv (Int32.ofNat m0), iv (Int32.ofNat mk), iv (1 : Int32), iv (Int32.ofNat m1), rv b590] [(.ref b590)])) (fun t k => XS.aload X592.here hx rfl (hb hby at_68) rfl rfl k) ?_
    refine own_go (T' := T592) (g' := (mkF m 71 #[iv x0, iv x1, iv x2, .val (.long x3), .second, iv (Int32.ofNat c1), iv (Int32.ofNat c2), iv (Int32.ofNat m0), iv (Int32.ofNat mk), iv (1 : Int32), iv (Int32.ofNat m1), rv b590] [(.int x2), (.ref b590)])) (fun t k => XS.iloadN X592.here hx rfl (hb hby at_70) rfl k) ?_
    refine own_go (T' := T592) (g' := (mkF m 72 #[iv x0, iv x1, iv x2, .val (.long x3), .second, iv (Int32.ofNat c1), iv (Int32.ofNat c2), iv (Int32.ofNat m0), iv (Int32.ofNat mk), iv (1 : Int32), iv (Int32.ofNat m1), rv b590] [(.long x3), (.int x2), (.ref b590)])) (fun t k => XS.lloadN X592.here hx rfl (hb hby at_71) rfl k) ?_
    obtain ⟨cq593, kq593, q593a, q593b, q593c⟩ := isOf hZ rfl (own_rbx rb_592)
    obtain ⟨_, _, ⟨T593, L593, k593, n593⟩, -, X593, ⟨Lc593, hQ593, l593, y593, z593⟩, st593⟩ := X592.virtualBack hx (y := (⟨"com/example/tierwright/tierwright/table/RowBounds", "endRow", "(IJ)V"⟩ : MethodName)) (z := (⟨"com/example/tierwright/tierwright/table/RowBounds", "endRow", "(IJ)V"⟩ : MethodName)) hown (mvT hZ (hw _ (List.mem_of_getElem? (i := 45) rfl))) (mvT hZ (hw _ (List.mem_of_getElem? (i := 46) rfl))) (notFace_of_selects (args := #[]) (mvT hZ (hw _ (List.mem_of_getElem? (i := 48) rfl)))) (mvT hZ (hw _ (List.mem_of_getElem? (i := 48) rfl))) (mvT hZ (hw _ (List.mem_of_getElem? (i := 47) rfl))) (by decide) (backOf (W := 0) (own_rer l Z a0 hw [] b590 x2 x3 0 (0 + m0) (fun _ => 0) T592.heap n0 hz_592 (by omega) rb_592) hZ (hw _ (List.mem_of_getElem? (i := 49) rfl)) (hw _ (List.mem_of_getElem? (i := 2) rfl)) (by decide) (by decide)) q593a q593c (g := (mkF m 72 #[iv x0, iv x1, iv x2, .val (.long x3), .second, iv (Int32.ofNat c1), iv (Int32.ofNat c2), iv (Int32.ofNat m0), iv (Int32.ofNat mk), iv (1 : Int32), iv (Int32.ofNat m1), rv b590] [(.long x3), (.int x2), (.ref b590)])) rfl (by rw [hml]; rfl) (Steps.refl _) (argsL := [(.int x2), (.long x3)]) (rest := []) (lenOf own_pd6 rfl) rfl (by show 2 * 0 + _ ≤ _; exact Nat.le_of_eq rfl) (hb hby at_72) (fun _ _ => ⟨rfl, rfl, (by decide : 8 + 3 ≤ _), (by decide : 53 + 7 ≤ _)⟩)
    dsimp only [Pt.U, Pt.locs, Pt.cells, Pt.slots] at X593 l593 y593 z593 st593 hQ593
    subst l593 y593 z593
    obtain ⟨rfl, N593q, hz_593, rb_593⟩ := hQ593
    have N593 := Fr.app N592 N593q
    refine own_go (T' := T593) (g' := (mkF m 75 #[iv x0, iv x1, iv x2, .val (.long x3), .second, iv (Int32.ofNat c1), iv (Int32.ofNat c2), iv (Int32.ofNat m0), iv (Int32.ofNat mk), iv (1 : Int32), iv (Int32.ofNat m1), rv b590] [])) (fun t k => st593.trans k) ?_
    refine own_go (T' := T593) (g' := (mkF m 77 #[iv x0, iv x1, iv x2, .val (.long x3), .second, iv (Int32.ofNat c1), iv (Int32.ofNat c2), iv (Int32.ofNat m0), iv (Int32.ofNat mk), iv (1 : Int32), iv (Int32.ofNat m1), rv b590] [(.int (1 : Int32))])) (fun t k => XS.iload X593.here hx rfl (hb hby at_75) rfl k) ?_
    refine own_go (T' := T593) (g' := (mkF m 80 #[iv x0, iv x1, iv x2, .val (.long x3), .second, iv (Int32.ofNat c1), iv (Int32.ofNat c2), iv (Int32.ofNat m0), iv (Int32.ofNat mk), iv (1 : Int32), iv (Int32.ofNat m1), rv b590] [])) (fun t k => XS.ifNo X593.here hx rfl (hb hby at_77) rfl ((if0 _ _).trans (feq (by decide : ¬ ((1 : Int32) = (0 : Int32)))).1) k) ?_
    refine own_go (T' := T593) (g' := (mkF m 82 #[iv x0, iv x1, iv x2, .val (.long x3), .second, iv (Int32.ofNat c1), iv (Int32.ofNat c2), iv (Int32.ofNat m0), iv (Int32.ofNat mk), iv (1 : Int32), iv (Int32.ofNat m1), rv b590] [(.ref b590)])) (fun t k => XS.aload X593.here hx rfl (hb hby at_80) rfl rfl k) ?_
    refine own_go (T' := T593) (g' := (mkF m 84 #[iv x0, iv x1, iv x2, .val (.long x3), .second, iv (Int32.ofNat c1), iv (Int32.ofNat c2), iv (Int32.ofNat m0), iv (Int32.ofNat mk), iv (1 : Int32), iv (Int32.ofNat m1), rv b590] [(.int (Int32.ofNat mk)), (.ref b590)])) (fun t k => XS.iload X593.here hx rfl (hb hby at_82) rfl k) ?_
    refine own_go (T' := T593) (g' := (mkF m 85 #[iv x0, iv x1, iv x2, .val (.long x3), .second, iv (Int32.ofNat c1), iv (Int32.ofNat c2), iv (Int32.ofNat m0), iv (Int32.ofNat mk), iv (1 : Int32), iv (Int32.ofNat m1), rv b590] [(.int x2), (.int (Int32.ofNat mk)), (.ref b590)])) (fun t k => XS.iloadN X593.here hx rfl (hb hby at_84) rfl k) ?_
    obtain ⟨_, _, ⟨T594, L594, k594, n594⟩, -, X594, ⟨Lc594, hQ594, l594, y594, z594⟩, st594⟩ := Jvm.LawKit.callS X593 hx (y := (⟨"com/example/tierwright/tierwright/table/RowBoundsFieldsPinLaw", "note", "(Lcom/example/tierwright/tierwright/table/RowBounds;II)V"⟩ : MethodName)) hown (mvT hZ (hw _ (List.mem_of_getElem? (i := 23) rfl))) (mvT hZ (hw _ (List.mem_of_getElem? (i := 24) rfl))) (mvT hZ (hw _ (List.mem_of_getElem? (i := 25) rfl))) (mvT hZ (hw _ (List.mem_of_getElem? (i := 26) rfl))) (by decide) (backOf (W := 0) (own_rnote l Z a0 hw [] b590 mk x2 (0 + 1) (0 + m0) (upd (fun _ => 0) (0 + 1) (Int32.ofNat (0 + m0))) T593.heap n0 hz_593 (by omega) (by omega) rb_593) hZ (hw _ (List.mem_of_getElem? (i := 26) rfl)) (hw _ (List.mem_of_getElem? (i := 25) rfl)) (by decide) (by decide)) (g := (mkF m 85 #[iv x0, iv x1, iv x2, .val (.long x3), .second, iv (Int32.ofNat c1), iv (Int32.ofNat c2), iv (Int32.ofNat m0), iv (Int32.ofNat mk), iv (1 : Int32), iv (Int32.ofNat m1), rv b590] [(.int x2), (.int (Int32.ofNat mk)), (.ref b590)])) rfl (by rw [hml]; rfl) (argsL := [(.ref b590), (.int (Int32.ofNat mk)), (.int x2)]) (rest := []) (lenOf own_pd5 rfl) rfl (by show 2 * 0 + _ ≤ _; exact Nat.le_of_eq rfl) (hb hby at_85) (fun _ _ => ⟨rfl, rfl, (by decide : 11 + 3 ≤ _), (by decide : 60 + 30 ≤ _)⟩)
    dsimp only [Pt.U, Pt.locs, Pt.cells, Pt.slots] at X594 l594 y594 z594 st594 hQ594
    subst l594 y594 z594
    obtain ⟨rfl, N594q, hz_594, rb_594⟩ := hQ594
    have N594 := Fr.app N593 N594q
    refine own_go (T' := T594) (g' := (mkF m 88 #[iv x0, iv x1, iv x2, .val (.long x3), .second, iv (Int32.ofNat c1), iv (Int32.ofNat c2), iv (Int32.ofNat m0), iv (Int32.ofNat mk), iv (1 : Int32), iv (Int32.ofNat m1), rv b590] [])) (st594) ?_
    refine own_go (T' := T594) (g' := (mkF m 90 #[iv x0, iv x1, iv x2, .val (.long x3), .second, iv (Int32.ofNat c1), iv (Int32.ofNat c2), iv (Int32.ofNat m0), iv (Int32.ofNat mk), iv (1 : Int32), iv (Int32.ofNat m1), rv b590] [(.ref b590)])) (fun t k => XS.aload X594.here hx rfl (hb hby at_88) rfl rfl k) ?_
    obtain ⟨cq595, kq595, q595a, q595b, q595c⟩ := isOf hZ rfl (own_rbx rb_594)
    obtain ⟨_, _, ⟨T595, L595, k595, n595⟩, -, X595, ⟨Lc595, hQ595, l595, y595, z595⟩, st595⟩ := X594.virtualBack hx (y := (⟨"com/example/tierwright/tierwright/table/RowBounds", "dropRow", "()V"⟩ : MethodName)) (z := (⟨"com/example/tierwright/tierwright/table/RowBounds", "dropRow", "()V"⟩ : MethodName)) hown (mvT hZ (hw _ (List.mem_of_getElem? (i := 65) rfl))) (mvT hZ (hw _ (List.mem_of_getElem? (i := 66) rfl))) (notFace_of_selects (args := #[]) (mvT hZ (hw _ (List.mem_of_getElem? (i := 68) rfl)))) (mvT hZ (hw _ (List.mem_of_getElem? (i := 68) rfl))) (mvT hZ (hw _ (List.mem_of_getElem? (i := 67) rfl))) (by decide) (backOf (W := 0) (own_rdr l Z a0 hw [] b590 (0 + 1) ((0 + m0) + mk) (0 + m0) (upd (fun _ => 0) (0 + 1) (Int32.ofNat (0 + m0))) T594.heap n0 hz_594 rfl (by omega) rb_594) hZ (hw _ (List.mem_of_getElem? (i := 69) rfl)) (hw _ (List.mem_of_getElem? (i := 2) rfl)) (by decide) (by decide)) q595a q595c (g := (mkF m 90 #[iv x0, iv x1, iv x2, .val (.long x3), .second, iv (Int32.ofNat c1), iv (Int32.ofNat c2), iv (Int32.ofNat m0), iv (Int32.ofNat mk), iv (1 : Int32), iv (Int32.ofNat m1), rv b590] [(.ref b590)])) rfl (by rw [hml]; rfl) (Steps.refl _) (argsL := []) (rest := []) (lenOf own_pd9 rfl) rfl (by show 2 * 0 + _ ≤ _; exact Nat.le_of_eq rfl) (hb hby at_90) (fun _ _ => ⟨rfl, rfl, (by decide : 14 + 0 ≤ _), (by decide : 90 + 0 ≤ _)⟩)
    dsimp only [Pt.U, Pt.locs, Pt.cells, Pt.slots] at X595 l595 y595 z595 st595 hQ595
    subst l595 y595 z595
    obtain ⟨rfl, N595q, hz_595, rb_595⟩ := hQ595
    have N595 := Fr.app N594 N595q
    refine own_go (T' := T595) (g' := (mkF m 93 #[iv x0, iv x1, iv x2, .val (.long x3), .second, iv (Int32.ofNat c1), iv (Int32.ofNat c2), iv (Int32.ofNat m0), iv (Int32.ofNat mk), iv (1 : Int32), iv (Int32.ofNat m1), rv b590] [])) (fun t k => st595.trans k) ?_
    refine own_go (T' := T595) (g' := (mkF m 95 #[iv x0, iv x1, iv x2, .val (.long x3), .second, iv (Int32.ofNat c1), iv (Int32.ofNat c2), iv (Int32.ofNat m0), iv (Int32.ofNat mk), iv (1 : Int32), iv (Int32.ofNat m1), rv b590] [(.ref b590)])) (fun t k => XS.aload X595.here hx rfl (hb hby at_93) rfl rfl k) ?_
    refine own_go (T' := T595) (g' := (mkF m 97 #[iv x0, iv x1, iv x2, .val (.long x3), .second, iv (Int32.ofNat c1), iv (Int32.ofNat c2), iv (Int32.ofNat m0), iv (Int32.ofNat mk), iv (1 : Int32), iv (Int32.ofNat m1), rv b590] [(.int (Int32.ofNat m1)), (.ref b590)])) (fun t k => XS.iload X595.here hx rfl (hb hby at_95) rfl k) ?_
    refine own_go (T' := T595) (g' := (mkF m 98 #[iv x0, iv x1, iv x2, .val (.long x3), .second, iv (Int32.ofNat c1), iv (Int32.ofNat c2), iv (Int32.ofNat m0), iv (Int32.ofNat mk), iv (1 : Int32), iv (Int32.ofNat m1), rv b590] [(.int x2), (.int (Int32.ofNat m1)), (.ref b590)])) (fun t k => XS.iloadN X595.here hx rfl (hb hby at_97) rfl k) ?_
    refine own_go (T' := T595) (g' := (mkF m 99 #[iv x0, iv x1, iv x2, .val (.long x3), .second, iv (Int32.ofNat c1), iv (Int32.ofNat c2), iv (Int32.ofNat m0), iv (Int32.ofNat mk), iv (1 : Int32), iv (Int32.ofNat m1), rv b590] [(.int (1 : Int32)), (.int x2), (.int (Int32.ofNat m1)), (.ref b590)])) (fun t k => XS.iconst X595.here hx rfl (hb hby at_98) k) ?_
    refine own_go (T' := T595) (g' := (mkF m 100 #[iv x0, iv x1, iv x2, .val (.long x3), .second, iv (Int32.ofNat c1), iv (Int32.ofNat c2), iv (Int32.ofNat m0), iv (Int32.ofNat mk), iv (1 : Int32), iv (Int32.ofNat m1), rv b590] [(.int (x2 + (1 : Int32))), (.int (Int32.ofNat m1)), (.ref b590)])) (fun t k => XS.iadd X595.here hx rfl (hb hby at_99) rfl k) ?_
    obtain ⟨_, _, ⟨T596, L596, k596, n596⟩, -, X596, ⟨Lc596, hQ596, l596, y596, z596⟩, st596⟩ := Jvm.LawKit.callS X595 hx (y := (⟨"com/example/tierwright/tierwright/table/RowBoundsFieldsPinLaw", "note", "(Lcom/example/tierwright/tierwright/table/RowBounds;II)V"⟩ : MethodName)) hown (mvT hZ (hw _ (List.mem_of_getElem? (i := 23) rfl))) (mvT hZ (hw _ (List.mem_of_getElem? (i := 24) rfl))) (mvT hZ (hw _ (List.mem_of_getElem? (i := 25) rfl))) (mvT hZ (hw _ (List.mem_of_getElem? (i := 26) rfl))) (by decide) (backOf (W := 0) (own_rnote l Z a0 hw [] b590 m1 (x2 + (1 : Int32)) (0 + 1) (0 + m0) (upd (fun _ => 0) (0 + 1) (Int32.ofNat (0 + m0))) T595.heap n0 hz_595 (by omega) (by omega) rb_595) hZ (hw _ (List.mem_of_getElem? (i := 26) rfl)) (hw _ (List.mem_of_getElem? (i := 25) rfl)) (by decide) (by decide)) (g := (mkF m 100 #[iv x0, iv x1, iv x2, .val (.long x3), .second, iv (Int32.ofNat c1), iv (Int32.ofNat c2), iv (Int32.ofNat m0), iv (Int32.ofNat mk), iv (1 : Int32), iv (Int32.ofNat m1), rv b590] [(.int (x2 + (1 : Int32))), (.int (Int32.ofNat m1)), (.ref b590)])) rfl (by rw [hml]; rfl) (argsL := [(.ref b590), (.int (Int32.ofNat m1)), (.int (x2 + (1 : Int32)))]) (rest := []) (lenOf own_pd5 rfl) rfl (by show 2 * 0 + _ ≤ _; exact Nat.le_of_eq rfl) (hb hby at_100) (fun _ _ => ⟨rfl, rfl, (by decide : 14 + 3 ≤ _), (by decide : 90 + 30 ≤ _)⟩)
    dsimp only [Pt.U, Pt.locs, Pt.cells, Pt.slots] at X596 l596 y596 z596 st596 hQ596
    subst l596 y596 z596
    obtain ⟨rfl, N596q, hz_596, rb_596⟩ := hQ596
    have N596 := Fr.app N595 N596q
    refine own_go (T' := T596) (g' := (mkF m 103 #[iv x0, iv x1, iv x2, .val (.long x3), .second, iv (Int32.ofNat c1), iv (Int32.ofNat c2), iv (Int32.ofNat m0), iv (Int32.ofNat mk), iv (1 : Int32), iv (Int32.ofNat m1), rv b590] [])) (st596) ?_
    refine own_go (T' := T596) (g' := (mkF m 105 #[iv x0, iv x1, iv x2, .val (.long x3), .second, iv (Int32.ofNat c1), iv (Int32.ofNat c2), iv (Int32.ofNat m0), iv (Int32.ofNat mk), iv (1 : Int32), iv (Int32.ofNat m1), rv b590] [(.ref b590)])) (fun t k => XS.aload X596.here hx rfl (hb hby at_103) rfl rfl k) ?_
    refine own_go (T' := T596) (g' := (mkF m 106 #[iv x0, iv x1, iv x2, .val (.long x3), .second, iv (Int32.ofNat c1), iv (Int32.ofNat c2), iv (Int32.ofNat m0), iv (Int32.ofNat mk), iv (1 : Int32), iv (Int32.ofNat m1), rv b590] [(.int x2), (.ref b590)])) (fun t k => XS.iloadN X596.here hx rfl (hb hby at_105) rfl k) ?_
    refine own_go (T' := T596) (g' := (mkF m 107 #[iv x0, iv x1, iv x2, .val (.long x3), .second, iv (Int32.ofNat c1), iv (Int32.ofNat c2), iv (Int32.ofNat m0), iv (Int32.ofNat mk), iv (1 : Int32), iv (Int32.ofNat m1), rv b590] [(.long x3), (.int x2), (.ref b590)])) (fun t k => XS.lloadN X596.here hx rfl (hb hby at_106) rfl k) ?_
    obtain ⟨cq597, kq597, q597a, q597b, q597c⟩ := isOf hZ rfl (own_rbx rb_596)
    obtain ⟨_, _, ⟨T597, L597, k597, n597⟩, -, X597, ⟨Lc597, hQ597, l597, y597, z597⟩, st597⟩ := X596.virtualBack hx (y := (⟨"com/example/tierwright/tierwright/table/RowBounds", "endRow", "(IJ)V"⟩ : MethodName)) (z := (⟨"com/example/tierwright/tierwright/table/RowBounds", "endRow", "(IJ)V"⟩ : MethodName)) hown (mvT hZ (hw _ (List.mem_of_getElem? (i := 45) rfl))) (mvT hZ (hw _ (List.mem_of_getElem? (i := 46) rfl))) (notFace_of_selects (args := #[]) (mvT hZ (hw _ (List.mem_of_getElem? (i := 48) rfl)))) (mvT hZ (hw _ (List.mem_of_getElem? (i := 48) rfl))) (mvT hZ (hw _ (List.mem_of_getElem? (i := 47) rfl))) (by decide) (backOf (W := 0) (own_rer l Z a0 hw [] b590 x2 x3 (0 + 1) ((0 + m0) + m1) (upd (fun _ => 0) (0 + 1) (Int32.ofNat (0 + m0))) T596.heap n0 hz_596 (by omega) rb_596) hZ (hw _ (List.mem_of_getElem? (i := 49) rfl)) (hw _ (List.mem_of_getElem? (i := 2) rfl)) (by decide) (by decide)) q597a q597c (g := (mkF m 107 #[iv x0, iv x1, iv x2, .val (.long x3), .second, iv (Int32.ofNat c1), iv (Int32.ofNat c2), iv (Int32.ofNat m0), iv (Int32.ofNat mk), iv (1 : Int32), iv (Int32.ofNat m1), rv b590] [(.long x3), (.int x2), (.ref b590)])) rfl (by rw [hml]; rfl) (Steps.refl _) (argsL := [(.int x2), (.long x3)]) (rest := []) (lenOf own_pd6 rfl) rfl (by show 2 * 0 + _ ≤ _; exact Nat.le_of_eq rfl) (hb hby at_107) (fun _ _ => ⟨rfl, rfl, (by decide : 17 + 3 ≤ _), (by decide : 120 + 7 ≤ _)⟩)
    dsimp only [Pt.U, Pt.locs, Pt.cells, Pt.slots] at X597 l597 y597 z597 st597 hQ597
    subst l597 y597 z597
    obtain ⟨rfl, N597q, hz_597, rb_597⟩ := hQ597
    have N597 := Fr.app N596 N597q
    refine own_go (T' := T597) (g' := (mkF m 110 #[iv x0, iv x1, iv x2, .val (.long x3), .second, iv (Int32.ofNat c1), iv (Int32.ofNat c2), iv (Int32.ofNat m0), iv (Int32.ofNat mk), iv (1 : Int32), iv (Int32.ofNat m1), rv b590] [])) (fun t k => st597.trans k) ?_
    refine own_go (T' := T597) (g' := (mkF m 112 #[iv x0, iv x1, iv x2, .val (.long x3), .second, iv (Int32.ofNat c1), iv (Int32.ofNat c2), iv (Int32.ofNat m0), iv (Int32.ofNat mk), iv (1 : Int32), iv (Int32.ofNat m1), rv b590] [(.ref b590)])) (fun t k => XS.aload X597.here hx rfl (hb hby at_110) rfl rfl k) ?_
    obtain ⟨cq598, kq598, q598a, q598b, q598c⟩ := isOf hZ rfl (own_rbx rb_597)
    obtain ⟨_, _, ⟨T598, L598, k598, n598⟩, -, X598, ⟨Lc598, hQ598, l598, y598, z598⟩, st598⟩ := X597.virtualBack hx (y := (⟨"com/example/tierwright/tierwright/table/RowBounds", "rows", "()I"⟩ : MethodName)) (z := (⟨"com/example/tierwright/tierwright/table/RowBounds", "rows", "()I"⟩ : MethodName)) hown (mvT hZ (hw _ (List.mem_of_getElem? (i := 55) rfl))) (mvT hZ (hw _ (List.mem_of_getElem? (i := 56) rfl))) (notFace_of_selects (args := #[]) (mvT hZ (hw _ (List.mem_of_getElem? (i := 58) rfl)))) (mvT hZ (hw _ (List.mem_of_getElem? (i := 58) rfl))) (mvT hZ (hw _ (List.mem_of_getElem? (i := 57) rfl))) (by decide) (backOf (W := 0) (own_rro l Z a0 hw [] b590 ((0 + 1) + 1) ((0 + m0) + m1) (upd (upd (fun _ => 0) (0 + 1) (Int32.ofNat (0 + m0))) ((0 + 1) + 1) (Int32.ofNat ((0 + m0) + m1))) T597.heap n0 hz_597 rb_597) hZ (hw _ (List.mem_of_getElem? (i := 59) rfl)) (hw _ (List.mem_of_getElem? (i := 2) rfl)) (by decide) (by decide)) q598a q598c (g := (mkF m 112 #[iv x0, iv x1, iv x2, .val (.long x3), .second, iv (Int32.ofNat c1), iv (Int32.ofNat c2), iv (Int32.ofNat m0), iv (Int32.ofNat mk), iv (1 : Int32), iv (Int32.ofNat m1), rv b590] [(.ref b590)])) rfl (by rw [hml]; rfl) (Steps.refl _) (argsL := []) (rest := []) (lenOf own_pd7 rfl) rfl (by show 2 * 0 + _ ≤ _; exact Nat.le_of_eq rfl) (hb hby at_112) (fun _ _ => ⟨rfl, rfl, (by decide : 20 + 0 ≤ _), (by decide : 127 + 0 ≤ _)⟩)
    dsimp only [Pt.U, Pt.locs, Pt.cells, Pt.slots] at X598 l598 y598 z598 st598 hQ598
    subst l598 y598 z598
    obtain ⟨rfl, rfl, e598⟩ := hQ598
    have E598q : T598.heap = T597.heap := e598
    have N598 := Fr.app N597 (Fr.nil n0)
    refine own_go (T' := T598) (g' := (mkF m 115 #[iv x0, iv x1, iv x2, .val (.long x3), .second, iv (Int32.ofNat c1), iv (Int32.ofNat c2), iv (Int32.ofNat m0), iv (Int32.ofNat mk), iv (1 : Int32), iv (Int32.ofNat m1), rv b590] [(.int (Int32.ofNat ((0 + 1) + 1)))])) (fun t k => st598.trans k) ?_
    refine own_go (T' := T598) (g' := (mkF m 116 #[iv x0, iv x1, iv x2, .val (.long x3), .second, iv (Int32.ofNat c1), iv (Int32.ofNat c2), iv (Int32.ofNat m0), iv (Int32.ofNat mk), iv (1 : Int32), iv (Int32.ofNat m1), rv b590] [(.int (2 : Int32)), (.int (Int32.ofNat ((0 + 1) + 1)))])) (fun t k => XS.iconst X598.here hx rfl (hb hby at_115) k) ?_
    refine own_go (T' := T598) (g' := (mkF m 119 #[iv x0, iv x1, iv x2, .val (.long x3), .second, iv (Int32.ofNat c1), iv (Int32.ofNat c2), iv (Int32.ofNat m0), iv (Int32.ofNat mk), iv (1 : Int32), iv (Int32.ofNat m1), rv b590] [])) (fun t k => XS.icmpNo X598.here hx rfl (hb hby at_116) rfl (teq (rfl : ((Int32.ofNat ((0 + 1) + 1)) = (2 : Int32)))).2 k) ?_
    refine own_go (T' := T598) (g' := (mkF m 121 #[iv x0, iv x1, iv x2, .val (.long x3), .second, iv (Int32.ofNat c1), iv (Int32.ofNat c2), iv (Int32.ofNat m0), iv (Int32.ofNat mk), iv (1 : Int32), iv (Int32.ofNat m1), rv b590] [(.ref b590)])) (fun t k => XS.aload X598.here hx rfl (hb hby at_119) rfl rfl k) ?_
    refine own_go (T' := T598) (g' := (mkF m 122 #[iv x0, iv x1, iv x2, .val (.long x3), .second, iv (Int32.ofNat c1), iv (Int32.ofNat c2), iv (Int32.ofNat m0), iv (Int32.ofNat mk), iv (1 : Int32), iv (Int32.ofNat m1), rv b590] [(.int (0 : Int32)), (.ref b590)])) (fun t k => XS.iconst X598.here hx rfl (hb hby at_121) k) ?_
    obtain ⟨cq599, kq599, q599a, q599b, q599c⟩ := isOf hZ E598q (own_rbx rb_597)
    obtain ⟨_, _, ⟨T599, L599, k599, n599⟩, -, X599, ⟨Lc599, hQ599, l599, y599, z599⟩, st599⟩ := X598.virtualBack hx (y := (⟨"com/example/tierwright/tierwright/table/RowBounds", "fields", "(I)I"⟩ : MethodName)) (z := (⟨"com/example/tierwright/tierwright/table/RowBounds", "fields", "(I)I"⟩ : MethodName)) hown (mvT hZ (hw _ (List.mem_of_getElem? (i := 60) rfl))) (mvT hZ (hw _ (List.mem_of_getElem? (i := 61) rfl))) (notFace_of_selects (args := #[]) (mvT hZ (hw _ (List.mem_of_getElem? (i := 63) rfl)))) (mvT hZ (hw _ (List.mem_of_getElem? (i := 63) rfl))) (mvT hZ (hw _ (List.mem_of_getElem? (i := 62) rfl))) (by decide) (backOf (W := 0) (own_rfi0 l Z a0 hw [] b590 ((0 + 1) + 1) ((0 + m0) + m1) (upd (upd (fun _ => 0) (0 + 1) (Int32.ofNat (0 + m0))) ((0 + 1) + 1) (Int32.ofNat ((0 + m0) + m1))) T597.heap n0 hz_597 (by omega) rb_597) hZ (hw _ (List.mem_of_getElem? (i := 64) rfl)) (hw _ (List.mem_of_getElem? (i := 2) rfl)) (by decide) (by decide)) q599a q599c (g := (mkF m 122 #[iv x0, iv x1, iv x2, .val (.long x3), .second, iv (Int32.ofNat c1), iv (Int32.ofNat c2), iv (Int32.ofNat m0), iv (Int32.ofNat mk), iv (1 : Int32), iv (Int32.ofNat m1), rv b590] [(.int (0 : Int32)), (.ref b590)])) rfl (by rw [hml]; rfl) (Steps.refl _) (argsL := [(.int (0 : Int32))]) (rest := []) (lenOf own_pd8 rfl) rfl (by show 2 * 0 + _ ≤ _; exact Nat.le_of_eq rfl) (hb hby at_122) (fun _ _ => ⟨rfl, E598q, (by decide : 20 + 0 ≤ _), (by decide : 127 + 0 ≤ _)⟩)
    dsimp only [Pt.U, Pt.locs, Pt.cells, Pt.slots] at X599 l599 y599 z599 st599 hQ599
    subst l599 y599 z599
    obtain ⟨rfl, rfl, e599⟩ := hQ599
    have E599q : T599.heap = T597.heap := e599
    have N599 := Fr.app N598 (Fr.nil n0)
    refine own_go (T' := T599) (g' := (mkF m 125 #[iv x0, iv x1, iv x2, .val (.long x3), .second, iv (Int32.ofNat c1), iv (Int32.ofNat c2), iv (Int32.ofNat m0), iv (Int32.ofNat mk), iv (1 : Int32), iv (Int32.ofNat m1), rv b590] [(.int ((upd (upd (fun _ => 0) (0 + 1) (Int32.ofNat (0 + m0))) ((0 + 1) + 1) (Int32.ofNat ((0 + m0) + m1))) 1 - (upd (upd (fun _ => 0) (0 + 1) (Int32.ofNat (0 + m0))) ((0 + 1) + 1) (Int32.ofNat ((0 + m0) + m1))) 0))])) (fun t k => st599.trans k) ?_
    refine own_go (T' := T599) (g' := (mkF m 127 #[iv x0, iv x1, iv x2, .val (.long x3), .second, iv (Int32.ofNat c1), iv (Int32.ofNat c2), iv (Int32.ofNat m0), iv (Int32.ofNat mk), iv (1 : Int32), iv (Int32.ofNat m1), rv b590] [(.int (Int32.ofNat m0)), (.int ((upd (upd (fun _ => 0) (0 + 1) (Int32.ofNat (0 + m0))) ((0 + 1) + 1) (Int32.ofNat ((0 + m0) + m1))) 1 - (upd (upd (fun _ => 0) (0 + 1) (Int32.ofNat (0 + m0))) ((0 + 1) + 1) (Int32.ofNat ((0 + m0) + m1))) 0))])) (fun t k => XS.iload X599.here hx rfl (hb hby at_125) rfl k) ?_
    refine own_go (T' := T599) (g' := (mkF m 130 #[iv x0, iv x1, iv x2, .val (.long x3), .second, iv (Int32.ofNat c1), iv (Int32.ofNat c2), iv (Int32.ofNat m0), iv (Int32.ofNat mk), iv (1 : Int32), iv (Int32.ofNat m1), rv b590] [])) (fun t k => XS.icmpNo X599.here hx rfl (hb hby at_127) rfl (teq ((own_sub0 _).trans (congrArg Int32.ofNat (Nat.zero_add m0)) : (((upd (upd (fun _ => 0) (0 + 1) (Int32.ofNat (0 + m0))) ((0 + 1) + 1) (Int32.ofNat ((0 + m0) + m1))) 1 - (upd (upd (fun _ => 0) (0 + 1) (Int32.ofNat (0 + m0))) ((0 + 1) + 1) (Int32.ofNat ((0 + m0) + m1))) 0) = (Int32.ofNat m0)))).2 k) ?_
    refine own_go (T' := T599) (g' := (mkF m 132 #[iv x0, iv x1, iv x2, .val (.long x3), .second, iv (Int32.ofNat c1), iv (Int32.ofNat c2), iv (Int32.ofNat m0), iv (Int32.ofNat mk), iv (1 : Int32), iv (Int32.ofNat m1), rv b590] [(.ref b590)])) (fun t k => XS.aload X599.here hx rfl (hb hby at_130) rfl rfl k) ?_
    refine own_go (T' := T599) (g' := (mkF m 133 #[iv x0, iv x1, iv x2, .val (.long x3), .second, iv (Int32.ofNat c1), iv (Int32.ofNat c2), iv (Int32.ofNat m0), iv (Int32.ofNat mk), iv (1 : Int32), iv (Int32.ofNat m1), rv b590] [(.int (1 : Int32)), (.ref b590)])) (fun t k => XS.iconst X599.here hx rfl (hb hby at_132) k) ?_
    obtain ⟨cq600, kq600, q600a, q600b, q600c⟩ := isOf hZ E599q (own_rbx rb_597)
    obtain ⟨_, _, ⟨T600, L600, k600, n600⟩, -, X600, ⟨Lc600, hQ600, l600, y600, z600⟩, st600⟩ := X599.virtualBack hx (y := (⟨"com/example/tierwright/tierwright/table/RowBounds", "fields", "(I)I"⟩ : MethodName)) (z := (⟨"com/example/tierwright/tierwright/table/RowBounds", "fields", "(I)I"⟩ : MethodName)) hown (mvT hZ (hw _ (List.mem_of_getElem? (i := 60) rfl))) (mvT hZ (hw _ (List.mem_of_getElem? (i := 61) rfl))) (notFace_of_selects (args := #[]) (mvT hZ (hw _ (List.mem_of_getElem? (i := 63) rfl)))) (mvT hZ (hw _ (List.mem_of_getElem? (i := 63) rfl))) (mvT hZ (hw _ (List.mem_of_getElem? (i := 62) rfl))) (by decide) (backOf (W := 0) (own_rfi1 l Z a0 hw [] b590 ((0 + 1) + 1) ((0 + m0) + m1) (upd (upd (fun _ => 0) (0 + 1) (Int32.ofNat (0 + m0))) ((0 + 1) + 1) (Int32.ofNat ((0 + m0) + m1))) T597.heap n0 hz_597 (by omega) rb_597) hZ (hw _ (List.mem_of_getElem? (i := 64) rfl)) (hw _ (List.mem_of_getElem? (i := 2) rfl)) (by decide) (by decide)) q600a q600c (g := (mkF m 133 #[iv x0, iv x1, iv x2, .val (.long x3), .second, iv (Int32.ofNat c1), iv (Int32.ofNat c2), iv (Int32.ofNat m0), iv (Int32.ofNat mk), iv (1 : Int32), iv (Int32.ofNat m1), rv b590] [(.int (1 : Int32)), (.ref b590)])) rfl (by rw [hml]; rfl) (Steps.refl _) (argsL := [(.int (1 : Int32))]) (rest := []) (lenOf own_pd8 rfl) rfl (by show 2 * 0 + _ ≤ _; exact Nat.le_of_eq rfl) (hb hby at_133) (fun _ _ => ⟨rfl, E599q, (by decide : 20 + 0 ≤ _), (by decide : 127 + 0 ≤ _)⟩)
    dsimp only [Pt.U, Pt.locs, Pt.cells, Pt.slots] at X600 l600 y600 z600 st600 hQ600
    subst l600 y600 z600
    obtain ⟨rfl, rfl, e600⟩ := hQ600
    have E600q : T600.heap = T597.heap := e600
    have N600 := Fr.app N599 (Fr.nil n0)
    refine own_go (T' := T600) (g' := (mkF m 136 #[iv x0, iv x1, iv x2, .val (.long x3), .second, iv (Int32.ofNat c1), iv (Int32.ofNat c2), iv (Int32.ofNat m0), iv (Int32.ofNat mk), iv (1 : Int32), iv (Int32.ofNat m1), rv b590] [(.int ((upd (upd (fun _ => 0) (0 + 1) (Int32.ofNat (0 + m0))) ((0 + 1) + 1) (Int32.ofNat ((0 + m0) + m1))) 2 - (upd (upd (fun _ => 0) (0 + 1) (Int32.ofNat (0 + m0))) ((0 + 1) + 1) (Int32.ofNat ((0 + m0) + m1))) 1))])) (fun t k => st600.trans k) ?_
    refine own_go (T' := T600) (g' := (mkF m 138 #[iv x0, iv x1, iv x2, .val (.long x3), .second, iv (Int32.ofNat c1), iv (Int32.ofNat c2), iv (Int32.ofNat m0), iv (Int32.ofNat mk), iv (1 : Int32), iv (Int32.ofNat m1), rv b590] [(.int (Int32.ofNat m1)), (.int ((upd (upd (fun _ => 0) (0 + 1) (Int32.ofNat (0 + m0))) ((0 + 1) + 1) (Int32.ofNat ((0 + m0) + m1))) 2 - (upd (upd (fun _ => 0) (0 + 1) (Int32.ofNat (0 + m0))) ((0 + 1) + 1) (Int32.ofNat ((0 + m0) + m1))) 1))])) (fun t k => XS.iload X600.here hx rfl (hb hby at_136) rfl k) ?_
    refine own_go (T' := T600) (g' := (mkF m 141 #[iv x0, iv x1, iv x2, .val (.long x3), .second, iv (Int32.ofNat c1), iv (Int32.ofNat c2), iv (Int32.ofNat m0), iv (Int32.ofNat mk), iv (1 : Int32), iv (Int32.ofNat m1), rv b590] [])) (fun t k => XS.icmpNo X600.here hx rfl (hb hby at_138) rfl (teq ((congrArg (fun k => Int32.ofNat (k + m1) - Int32.ofNat k) (Nat.zero_add m0)).trans (own_subn (by omega) (by omega)) : (((upd (upd (fun _ => 0) (0 + 1) (Int32.ofNat (0 + m0))) ((0 + 1) + 1) (Int32.ofNat ((0 + m0) + m1))) 2 - (upd (upd (fun _ => 0) (0 + 1) (Int32.ofNat (0 + m0))) ((0 + 1) + 1) (Int32.ofNat ((0 + m0) + m1))) 1) = (Int32.ofNat m1)))).2 k) ?_
    refine own_go (T' := T600) (g' := (mkF m 142 #[iv x0, iv x1, iv x2, .val (.long x3), .second, iv (Int32.ofNat c1), iv (Int32.ofNat c2), iv (Int32.ofNat m0), iv (Int32.ofNat mk), iv (1 : Int32), iv (Int32.ofNat m1), rv b590] [(.int (1 : Int32))])) (fun t k => XS.iconst X600.here hx rfl (hb hby at_141) k) ?_
    refine own_go (T' := T600) (g' := (mkF m 146 #[iv x0, iv x1, iv x2, .val (.long x3), .second, iv (Int32.ofNat c1), iv (Int32.ofNat c2), iv (Int32.ofNat m0), iv (Int32.ofNat mk), iv (1 : Int32), iv (Int32.ofNat m1), rv b590] [(.int (1 : Int32))])) (fun t k => XS.goto X600.here hx rfl (pc0 := 142) (pc' := 146) rfl (hb hby at_142) (by decide) (by decide) k) ?_
    exact own_ret X600 hlk hx Bd.returns rfl (Or.inl ⟨rfl, Or.inr (Or.inl rfl), _, rfl⟩) (hb hby at_146) (by first | exact ⟨rfl, N600⟩ | (rw [Fr] at *; exact ⟨rfl, by simpa using N600⟩)) (by decide) (by decide)

set_option maxRecDepth 65536 in
set_option maxHeartbeats 40000000 in
theorem own_comes {Post : Tables → Env → Array Value → State → Outcome → State → Prop} (hpost : ∀ tb e args s v u, (limb_1_1.after args s (.returned v) u = true ∧ limb_1_2.after args s (.returned v) u = true ∧ True) → FrameEnd s (.returned v) u (Jvm.fieldLocs frame_1_writes args s ++ Jvm.arrayLocs frame_1_arrays args s ++ Jvm.staticLocs frame_1_statics s) 32 128 → Post tb e args s (.returned v) u) :
    ArmFor flags0 classFile x code maxLocals ret World_1 tables_1 room_1 Calls_1 rest_1 Pre_1 Post := by
  intro l hfl _ _ p e ha hc hk s m args below hf hA hF happ hP
  obtain ⟨hcalls, hrest, hpre⟩ := hP
  obtain ⟨-, -, -, hnamed, -, -, -, hat⟩ := (Spec.applies_iff hf).mp happ
  obtain ⟨hg, hn⟩ := and_e (Cond.before_iff.mp (show (Jvm.Cond.and given_1 narrow_1).before args s = true from hpre))
  obtain ⟨hg0, hg1⟩ := and_e hg
  obtain ⟨ha0, hr0⟩ := and_e hg1
  obtain ⟨ha1, hr1⟩ := and_e hr0
  obtain ⟨ha2, hr2⟩ := and_e hr1
  obtain ⟨w0, w1, w2, w3, rfl⟩ : ∃ w0 w1 w2 w3 : Value, args = #[w0, w1, w2, w3] := by
    have hs : args.size = 4 := by simpa [Cond.value, given_1] using hg0
    obtain ⟨L⟩ := args
    match L, hs with
    | [w0, w1, w2, w3], _ => exact ⟨w0, w1, w2, w3, rfl⟩
  have hw := fun d (hd : d ∈ tables_1) => atoms_spec (ws := Jvm.Cond.code x code maxLocals ret :: tables_1) hat d (List.mem_cons_of_mem _ hd)
  have hfit : Fit s := fun {y c} hc i hi => by
    obtain ⟨ha, rfl⟩ := Array.getElem?_eq_some_iff.mp hc
    have q := List.all_eq_true.mp ((Array.all_eq_true_iff_forall_mem.mp hF) _ (Array.getElem_mem ha)) i (List.mem_range.mpr hi)
    simpa [Array.getElem?_eq_getElem hi] using q
  obtain ⟨x0, ex0⟩ := is_v ha0
  obtain rfl : w0 = (.int x0) := Option.some.inj ex0
  obtain ⟨x1, ex1⟩ := is_v ha1
  obtain rfl : w1 = (.int x1) := Option.some.inj ex1
  obtain ⟨x2, ex2⟩ := is_v ha2
  obtain rfl : w2 = (.int x2) := Option.some.inj ex2
  obtain ⟨x3, ex3⟩ := isL_v hr2
  obtain rfl : w3 = (.long x3) := Option.some.inj ex3
  obtain ⟨n, o, h1, h2, h3, _, L, rfl, ⟨rfl, N⟩, hq⟩ := own_law l s _ hw tables_1 x0 x1 x2 x3  s.heap s.heap.size (Nat.le_refl _)  p e ha hc hk s m _ below hf ((Spec.applies_iff_loose hf).mp happ).1 ⟨rfl, State.Warmed39.refl s, rfl⟩ trivial
  refine ⟨n, _, h1, h2, h3, hpost _ _ _ _ _ _ ⟨Cond.after_iff.mpr rfl, Cond.after_iff.mpr (eq_i res_at (Term.int_eval (1)) rfl), trivial⟩ ⟨hq.1, hq.2.1, (hq.2.2.sift fun y hy => Or.inr (N y hy)).mono (by decide) (by decide)⟩⟩
theorem main_1_1 : Claimed_1_1 := own_comes fun _ _ _ _ _ _ h hF => ⟨h.1, hF⟩
theorem main_1_2 : Claimed_1_2 := own_comes fun _ _ _ _ _ _ h hF => ⟨h.2.1, hF⟩
end Jvm.Pilot.@@N@@
namespace Jvm.Pilot.@@N@@
open Jvm Jvm.ClassFile Sem Op Lib Jvm.Free Jvm.Stand Jvm.Pilot.@@N@@.Jvm.D
/-! MADE BY PROGRAM (witnessworld.py) out of the Statement's table words and the real class files: 14 classes; the members and pool entries that the words name. The judged class is class 1, her method 1. -/
namespace start1
open Jvm.ClassFile
def u (s : String) : CpInfo := .utf8 (stringToUtf16 s)
/-- a pool by its gaps: so many unusable entries, then the entry; so many at the end -/
def gap : Nat → List CpInfo → List CpInfo
  | 0, r => r
  | n + 1, r => .unusable :: gap n r
def poolList (es : List (Nat × CpInfo)) (last : Nat) : List CpInfo := es.foldr (fun e r => gap e.1 (e.2 :: r)) (gap last [])
def pool (es : List (Nat × CpInfo)) (last : Nat) : Array CpInfo := ⟨poolList es last⟩
def fileOf (pool : Array CpInfo) (this : Nat) (attrs : Array Attribute := #[]) (ms : Array MethodInfo := #[]) (fl : Nat := 33) (sup : Nat := 0) (ifs : Array Nat := #[]) (fds : Array FieldInfo := #[]) : ClassFile where
  minorVersion := 0
  majorVersion := 65
  constantPool := pool
  accessFlags := fl
  thisClass := this
  superClass := sup
  interfaces := ifs
  fields := fds
  methods := ms
  attributes := attrs
def plain (name : String) (sup : Option ClassId) : Class where
  name := name
  kind := .ordinary
  loader := none
  accessFlags := 33
  super := sup
  interfaces := #[]
  cf := none
  fields := #[]
  methods := #[]
  instanceTypes := #[]
  staticTypes := #[]
  resolved := #[]
  callSites := []
  init := .initialized
  statics := none
  mirror := none

def pool0 : Array CpInfo := pool [(5, u "<init>"), (0, u "()V"), (1, .class_ 10), (1, u "java/lang/Object")] 113

def k0c0 : Code := { maxStack := 0, maxLocals := 1, code := object_method_1_code, exceptionTable := #[], attributes := #[] }
def k0m0 : Method := { name := "<init>", desc := "()V", sig := { parameters := [], returnType := none }, accessFlags := 1, code := some k0c0 }
/-- java/lang/Object -/
def k0 : Class := { plain "java/lang/Object" none with
  accessFlags := 33
  interfaces := #[]
  cf := some (fileOf pool0 8 #[] #[{ accessFlags := 1, nameIndex := 5, descriptorIndex := 6, attributes := #[] }] 33 0 #[] #[])
  fields := #[]
  methods := #[k0m0]
  instanceTypes := #[]
  staticTypes := #[]
  resolved := Array.replicate 124 none
  statics := none }

def pool1 : Array CpInfo := pool [(2, .class_ 4), (1, u "java/lang/Object"), (0, u "<init>"), (0, u "()V"), (0, .class_ 8), (0, u "com/example/tierwright/tierwright/table/RowBounds"), (0, .methodref 7 10), (0, .nameAndType 5 11), (0, u "(II)V"), (0, .methodref 13 14), (0, .class_ 15), (0, .nameAndType 16 17), (0, u "com/example/tierwright/tierwright/table/RowBoundsFieldsPinLaw"), (0, u "note"), (0, u "(Lcom/example/tierwright/tierwright/table/RowBounds;II)V"), (0, .methodref 7 19), (0, .nameAndType 20 21), (0, u "endRow"), (0, u "(IJ)V"), (0, .methodref 7 23), (0, .nameAndType 24 6), (0, u "dropRow"), (0, .methodref 7 26), (0, .nameAndType 27 28), (0, u "rows"), (0, u "()I"), (0, .methodref 7 30), (0, .nameAndType 31 32), (0, u "fields"), (0, u "(I)I"), (0, .methodref 7 34), (0, .nameAndType 35 36), (0, u "endField"), (0, u "(I)V"), (2, u "law"), (0, u "(IIIJ)Z")] 3

def k1m0 : Method := { name := "<init>", desc := "()V", sig := { parameters := [], returnType := none }, accessFlags := 1, code := none }
def k1c1 : Code := { maxStack := 4, maxLocals := 12, code := code, exceptionTable := #[], attributes := #[] }
def k1m1 : Method := { name := "law", desc := "(IIIJ)Z", sig := { parameters := [.int, .int, .int, .long], returnType := some .boolean }, accessFlags := 9, code := some k1c1 }
def k1c2 : Code := { maxStack := 2, maxLocals := 3, code := method_3_code, exceptionTable := #[], attributes := #[] }
def k1m2 : Method := { name := "note", desc := "(Lcom/example/tierwright/tierwright/table/RowBounds;II)V", sig := { parameters := [(.object "com/example/tierwright/tierwright/table/RowBounds"), .int, .int], returnType := none }, accessFlags := 10, code := some k1c2 }
/-- com/example/tierwright/tierwright/table/RowBoundsFieldsPinLaw -/
def k1 : Class := { plain "com/example/tierwright/tierwright/table/RowBoundsFieldsPinLaw" (some 0) with
  accessFlags := 49
  interfaces := #[]
  cf := some (fileOf pool1 13 #[] #[{ accessFlags := 1, nameIndex := 5, descriptorIndex := 6, attributes := #[] }, { accessFlags := 9, nameIndex := 39, descriptorIndex := 40, attributes := #[] }, { accessFlags := 10, nameIndex := 16, descriptorIndex := 17, attributes := #[] }] 49 2 #[] #[])
  fields := #[]
  methods := #[k1m0, k1m1, k1m2]
  instanceTypes := #[]
  staticTypes := #[]
  resolved := Array.replicate 44 none
  statics := none }

def pool2 : Array CpInfo := pool [(1, .methodref 2 3), (0, .class_ 4), (0, .nameAndType 5 6), (0, u "java/lang/Object"), (0, u "<init>"), (0, u "()V"), (0, .methodref 8 9), (0, .class_ 10), (0, .nameAndType 11 12), (0, u "java/lang/Math"), (0, u "max"), (0, u "(II)I"), (0, .fieldref 14 15), (0, .class_ 16), (0, .nameAndType 17 18), (0, u "com/example/tierwright/tierwright/table/RowBounds"), (0, u "starts"), (0, u "[I"), (0, .fieldref 14 20), (0, .nameAndType 21 22), (0, u "lines"), (0, u "[J"), (0, .fieldref 14 24), (0, .nameAndType 25 18), (0, u "firstEnds"), (0, .fieldref 14 27), (0, .nameAndType 28 18), (0, u "ends"), (0, .fieldref 14 30), (0, .nameAndType 31 32), (0, u "fields"), (0, u "I"), (0, .methodref 34 35), (0, .class_ 36), (0, .nameAndType 37 38), (0, u "java/util/Arrays"), (0, u "copyOf"), (0, u "([II)[I"), (0, .fieldref 14 40), (0, .nameAndType 41 32), (0, u "rows"), (0, .methodref 34 43), (0, .nameAndType 37 44), (0, u "([JI)[J"), (2, u "(II)V"), (2, u "endField"), (0, u "(I)V"), (3, u "endRow"), (0, u "(IJ)V"), (0, u "dropRow"), (2, u "()I"), (1, u "(I)I")] 5

def k2c0 : Code := { maxStack := 3, maxLocals := 3, code := prog_111_method_1_code, exceptionTable := #[], attributes := #[] }
def k2m0 : Method := { name := "<init>", desc := "(II)V", sig := { parameters := [.int, .int], returnType := none }, accessFlags := 0, code := some k2c0 }
def k2c1 : Code := { maxStack := 5, maxLocals := 2, code := prog_111_method_2_code, exceptionTable := #[], attributes := #[] }
def k2m1 : Method := { name := "endField", desc := "(I)V", sig := { parameters := [.int], returnType := none }, accessFlags := 0, code := some k2c1 }
def k2c2 : Code := { maxStack := 4, maxLocals := 4, code := prog_111_method_3_code, exceptionTable := #[], attributes := #[] }
def k2m2 : Method := { name := "endRow", desc := "(IJ)V", sig := { parameters := [.int, .long], returnType := none }, accessFlags := 0, code := some k2c2 }
def k2c3 : Code := { maxStack := 3, maxLocals := 1, code := prog_111_method_4_code, exceptionTable := #[], attributes := #[] }
def k2m3 : Method := { name := "dropRow", desc := "()V", sig := { parameters := [], returnType := none }, accessFlags := 0, code := some k2c3 }
def k2c4 : Code := { maxStack := 1, maxLocals := 1, code := prog_111_method_6_code, exceptionTable := #[], attributes := #[] }
def k2m4 : Method := { name := "rows", desc := "()I", sig := { parameters := [], returnType := some .int }, accessFlags := 0, code := some k2c4 }
def k2c5 : Code := { maxStack := 3, maxLocals := 2, code := prog_111_method_9_code, exceptionTable := #[], attributes := #[] }
def k2m5 : Method := { name := "fields", desc := "(I)I", sig := { parameters := [.int], returnType := some .int }, accessFlags := 0, code := some k2c5 }
/-- com/example/tierwright/tierwright/table/RowBounds -/
def k2 : Class := { plain "com/example/tierwright/tierwright/table/RowBounds" (some 0) with
  accessFlags := 32
  interfaces := #[]
  cf := some (fileOf pool2 14 #[] #[{ accessFlags := 0, nameIndex := 5, descriptorIndex := 47, attributes := #[] }, { accessFlags := 0, nameIndex := 50, descriptorIndex := 51, attributes := #[] }, { accessFlags := 0, nameIndex := 55, descriptorIndex := 56, attributes := #[] }, { accessFlags := 0, nameIndex := 57, descriptorIndex := 6, attributes := #[] }, { accessFlags := 0, nameIndex := 41, descriptorIndex := 60, attributes := #[] }, { accessFlags := 0, nameIndex := 31, descriptorIndex := 62, attributes := #[] }] 32 2 #[] #[{ accessFlags := 2, nameIndex := 41, descriptorIndex := 32, attributes := #[] }, { accessFlags := 2, nameIndex := 17, descriptorIndex := 18, attributes := #[] }, { accessFlags := 2, nameIndex := 21, descriptorIndex := 22, attributes := #[] }, { accessFlags := 2, nameIndex := 25, descriptorIndex := 18, attributes := #[] }, { accessFlags := 2, nameIndex := 31, descriptorIndex := 32, attributes := #[] }, { accessFlags := 2, nameIndex := 28, descriptorIndex := 18, attributes := #[] }])
  fields := #[{ name := "rows", type := .int, accessFlags := 2, slot := 0, constantValue := 0 }, { name := "starts", type := (.array .int), accessFlags := 2, slot := 1, constantValue := 0 }, { name := "lines", type := (.array .long), accessFlags := 2, slot := 2, constantValue := 0 }, { name := "firstEnds", type := (.array .int), accessFlags := 2, slot := 3, constantValue := 0 }, { name := "fields", type := .int, accessFlags := 2, slot := 4, constantValue := 0 }, { name := "ends", type := (.array .int), accessFlags := 2, slot := 5, constantValue := 0 }]
  methods := #[k2m0, k2m1, k2m2, k2m3, k2m4, k2m5]
  instanceTypes := #[.int, (.array .int), (.array .long), (.array .int), .int, (.array .int)]
  staticTypes := #[]
  resolved := Array.replicate 68 none
  statics := none }

def pool3 : Array CpInfo := pool [(1, .class_ 2), (0, u "java/lang/Math"), (1, .class_ 6), (1, u "java/lang/Object"), (0, u "<init>"), (0, u "()V"), (89, .class_ 100), (1, u "java/lang/Math$RandomNumberGeneratorHolder"), (71, u "negativeZeroFloatBits"), (0, u "J"), (2, u "negativeZeroDoubleBits"), (21, u "max"), (2, u "min"), (43, u "$assertionsDisabled"), (0, u "Z"), (88, u "(II)I"), (2, u "twoToTheDoubleScaleDown"), (0, u "D"), (4, u "twoToTheDoubleScaleUp"), (9, u "E"), (3, u "PI"), (2, u "TAU"), (2, u "DEGREES_TO_RADIANS"), (0, u "RADIANS_TO_DEGREES")] 94

def k3m0 : Method := { name := "<init>", desc := "()V", sig := { parameters := [], returnType := none }, accessFlags := 2, code := none }
def k3c1 : Code := { maxStack := 2, maxLocals := 2, code := jdk_29_method_65_code, exceptionTable := #[], attributes := #[] }
def k3m1 : Method := { name := "max", desc := "(II)I", sig := { parameters := [.int, .int], returnType := some .int }, accessFlags := 9, code := some k3c1 }
def k3c2 : Code := { maxStack := 2, maxLocals := 2, code := jdk_29_method_69_code, exceptionTable := #[], attributes := #[] }
def k3m2 : Method := { name := "min", desc := "(II)I", sig := { parameters := [.int, .int], returnType := some .int }, accessFlags := 9, code := some k3c2 }
/-- java/lang/Math -/
def k3 : Class := { plain "java/lang/Math" (some 0) with
  accessFlags := 49
  interfaces := #[]
  cf := some (fileOf pool3 1 #[.nestMembers #[98]] #[{ accessFlags := 2, nameIndex := 7, descriptorIndex := 8, attributes := #[] }, { accessFlags := 9, nameIndex := 198, descriptorIndex := 335, attributes := #[] }, { accessFlags := 9, nameIndex := 201, descriptorIndex := 335, attributes := #[] }] 49 4 #[] #[{ accessFlags := 25, nameIndex := 354, descriptorIndex := 339, attributes := #[] }, { accessFlags := 25, nameIndex := 358, descriptorIndex := 339, attributes := #[] }, { accessFlags := 25, nameIndex := 361, descriptorIndex := 339, attributes := #[] }, { accessFlags := 26, nameIndex := 364, descriptorIndex := 339, attributes := #[] }, { accessFlags := 26, nameIndex := 365, descriptorIndex := 339, attributes := #[] }, { accessFlags := 26, nameIndex := 172, descriptorIndex := 173, attributes := #[] }, { accessFlags := 26, nameIndex := 176, descriptorIndex := 173, attributes := #[] }, { accessFlags := 8, nameIndex := 344, descriptorIndex := 339, attributes := #[] }, { accessFlags := 8, nameIndex := 338, descriptorIndex := 339, attributes := #[] }, { accessFlags := 4120, nameIndex := 245, descriptorIndex := 246, attributes := #[] }])
  fields := #[{ name := "E", type := .double, accessFlags := 25, slot := 0, constantValue := 0 }, { name := "PI", type := .double, accessFlags := 25, slot := 1, constantValue := 0 }, { name := "TAU", type := .double, accessFlags := 25, slot := 2, constantValue := 0 }, { name := "DEGREES_TO_RADIANS", type := .double, accessFlags := 26, slot := 3, constantValue := 0 }, { name := "RADIANS_TO_DEGREES", type := .double, accessFlags := 26, slot := 4, constantValue := 0 }, { name := "negativeZeroFloatBits", type := .long, accessFlags := 26, slot := 5, constantValue := 0 }, { name := "negativeZeroDoubleBits", type := .long, accessFlags := 26, slot := 6, constantValue := 0 }, { name := "twoToTheDoubleScaleUp", type := .double, accessFlags := 8, slot := 7, constantValue := 0 }, { name := "twoToTheDoubleScaleDown", type := .double, accessFlags := 8, slot := 8, constantValue := 0 }, { name := "$assertionsDisabled", type := .boolean, accessFlags := 4120, slot := 9, constantValue := 0 }]
  methods := #[k3m0, k3m1, k3m2]
  instanceTypes := #[]
  staticTypes := #[.double, .double, .double, .double, .double, .long, .long, .double, .double, .boolean]
  resolved := Array.replicate 460 none
  statics := none }

def pool4 : Array CpInfo := pool [(2, .class_ 4), (1, u "java/lang/Object"), (0, u "<init>"), (0, u "()V"), (7, .class_ 16), (1, u "java/util/Arrays"), (57, .class_ 76), (1, u "java/util/Arrays$NaturalOrder"), (36, .class_ 115), (1, u "java/util/Arrays$LegacyMergeSort"), (1, u "Z"), (32, .methodref 151 152), (0, .class_ 153), (0, .nameAndType 154 155), (0, u "java/lang/System"), (0, u "arraycopy"), (0, u "(Ljava/lang/Object;ILjava/lang/Object;II)V"), (146, u "copyOf"), (1, .methodref 305 306), (0, .class_ 307), (0, .nameAndType 308 309), (0, u "java/lang/Math"), (0, u "min"), (0, u "(II)I"), (65, .class_ 376), (0, u "java/util/Arrays$ArrayList"), (68, u "$assertionsDisabled"), (269, u "MIN_ARRAY_SORT_GRAN"), (0, u "I"), (2, u "INSERTIONSORT_THRESHOLD"), (151, u "([II)[I"), (0, u "([JI)[J"), (102, .class_ 976), (0, u "java/util/Arrays$ArrayItr")] 52

def k4m0 : Method := { name := "<init>", desc := "()V", sig := { parameters := [], returnType := none }, accessFlags := 2, code := none }
def k4c1 : Code := { maxStack := 6, maxLocals := 3, code := jdk_65_method_123_code, exceptionTable := #[], attributes := #[] }
def k4m1 : Method := { name := "copyOf", desc := "([II)[I", sig := { parameters := [(.array .int), .int], returnType := some (.array .int) }, accessFlags := 9, code := some k4c1 }
def k4c2 : Code := { maxStack := 6, maxLocals := 3, code := jdk_65_method_124_code, exceptionTable := #[], attributes := #[] }
def k4m2 : Method := { name := "copyOf", desc := "([JI)[J", sig := { parameters := [(.array .long), .int], returnType := some (.array .long) }, accessFlags := 9, code := some k4c2 }
/-- java/util/Arrays -/
def k4 : Class := { plain "java/util/Arrays" (some 0) with
  accessFlags := 49
  interfaces := #[]
  cf := some (fileOf pool4 14 #[.nestMembers #[975, 375, 113, 74]] #[{ accessFlags := 2, nameIndex := 5, descriptorIndex := 6, attributes := #[] }, { accessFlags := 9, nameIndex := 302, descriptorIndex := 871, attributes := #[] }, { accessFlags := 9, nameIndex := 302, descriptorIndex := 872, attributes := #[] }] 49 2 #[] #[{ accessFlags := 26, nameIndex := 715, descriptorIndex := 716, attributes := #[] }, { accessFlags := 26, nameIndex := 719, descriptorIndex := 716, attributes := #[] }, { accessFlags := 4120, nameIndex := 445, descriptorIndex := 117, attributes := #[] }])
  fields := #[{ name := "MIN_ARRAY_SORT_GRAN", type := .int, accessFlags := 26, slot := 0, constantValue := 0 }, { name := "INSERTIONSORT_THRESHOLD", type := .int, accessFlags := 26, slot := 1, constantValue := 0 }, { name := "$assertionsDisabled", type := .boolean, accessFlags := 4120, slot := 2, constantValue := 0 }]
  methods := #[k4m0, k4m1, k4m2]
  instanceTypes := #[]
  staticTypes := #[.int, .int, .boolean]
  resolved := Array.replicate 1029 none
  statics := none }

def pool5 : Array CpInfo := pool [(2, .class_ 4), (1, u "java/lang/Object"), (0, u "<init>"), (0, u "()V"), (1, .class_ 10), (1, u "java/lang/System"), (0, u "allowSecurityManager"), (0, u "I"), (16, u "cons"), (0, u "Ljava/io/Console;"), (77, .class_ 110), (1, u "java/lang/System$CallersHolder"), (43, u "initialErrStream"), (0, u "Ljava/io/PrintStream;"), (19, u "security"), (0, u "Ljava/lang/SecurityManager;"), (31, .class_ 209), (0, u "java/lang/System$1"), (7, u "props"), (0, u "Ljava/util/Properties;"), (2, u "lineSeparator"), (0, u "Ljava/lang/String;"), (96, .class_ 321), (1, u "java/lang/System$LoggerFinder"), (5, .class_ 328), (0, u "java/lang/System$Logger"), (67, u "err"), (2, u "out"), (91, u "notSupportedJnuEncoding"), (15, u "in"), (17, u "initialIn"), (0, u "Ljava/io/InputStream;"), (35, u "bootLayer"), (0, u "Ljava/lang/ModuleLayer;"), (99, .class_ 664), (0, u "java/lang/System$2"), (9, u "NEVER"), (2, u "MAYBE"), (49, u "arraycopy"), (0, u "(Ljava/lang/Object;ILjava/lang/Object;II)V"), (72, .class_ 802), (0, u "java/lang/System$Logger$Level")] 31

def k5m0 : Method := { name := "<init>", desc := "()V", sig := { parameters := [], returnType := none }, accessFlags := 2, code := none }
def k5m1 : Method := { name := "arraycopy", desc := "(Ljava/lang/Object;ILjava/lang/Object;II)V", sig := { parameters := [(.object "java/lang/Object"), .int, (.object "java/lang/Object"), .int, .int], returnType := none }, accessFlags := 265, code := none }
/-- java/lang/System -/
def k5 : Class := { plain "java/lang/System" (some 0) with
  accessFlags := 49
  interfaces := #[]
  cf := some (fileOf pool5 8 #[.nestMembers #[319, 327, 801, 108, 663, 208]] #[{ accessFlags := 2, nameIndex := 5, descriptorIndex := 6, attributes := #[] }, { accessFlags := 265, nameIndex := 727, descriptorIndex := 728, attributes := #[] }] 49 2 #[] #[{ accessFlags := 25, nameIndex := 507, descriptorIndex := 526, attributes := #[] }, { accessFlags := 25, nameIndex := 399, descriptorIndex := 155, attributes := #[] }, { accessFlags := 25, nameIndex := 396, descriptorIndex := 155, attributes := #[] }, { accessFlags := 10, nameIndex := 525, descriptorIndex := 526, attributes := #[] }, { accessFlags := 26, nameIndex := 674, descriptorIndex := 12, attributes := #[] }, { accessFlags := 26, nameIndex := 677, descriptorIndex := 12, attributes := #[] }, { accessFlags := 10, nameIndex := 11, descriptorIndex := 12, attributes := #[] }, { accessFlags := 74, nameIndex := 175, descriptorIndex := 176, attributes := #[] }, { accessFlags := 10, nameIndex := 491, descriptorIndex := 222, attributes := #[] }, { accessFlags := 74, nameIndex := 29, descriptorIndex := 30, attributes := #[] }, { accessFlags := 74, nameIndex := 154, descriptorIndex := 155, attributes := #[] }, { accessFlags := 10, nameIndex := 217, descriptorIndex := 218, attributes := #[] }, { accessFlags := 10, nameIndex := 221, descriptorIndex := 222, attributes := #[] }, { accessFlags := 8, nameIndex := 562, descriptorIndex := 563, attributes := #[] }])
  fields := #[{ name := "in", type := (.object "java/io/InputStream"), accessFlags := 25, slot := 0, constantValue := 0 }, { name := "out", type := (.object "java/io/PrintStream"), accessFlags := 25, slot := 1, constantValue := 0 }, { name := "err", type := (.object "java/io/PrintStream"), accessFlags := 25, slot := 2, constantValue := 0 }, { name := "initialIn", type := (.object "java/io/InputStream"), accessFlags := 10, slot := 3, constantValue := 0 }, { name := "NEVER", type := .int, accessFlags := 26, slot := 4, constantValue := 0 }, { name := "MAYBE", type := .int, accessFlags := 26, slot := 5, constantValue := 0 }, { name := "allowSecurityManager", type := .int, accessFlags := 10, slot := 6, constantValue := 0 }, { name := "security", type := (.object "java/lang/SecurityManager"), accessFlags := 74, slot := 7, constantValue := 0 }, { name := "notSupportedJnuEncoding", type := (.object "java/lang/String"), accessFlags := 10, slot := 8, constantValue := 0 }, { name := "cons", type := (.object "java/io/Console"), accessFlags := 74, slot := 9, constantValue := 0 }, { name := "initialErrStream", type := (.object "java/io/PrintStream"), accessFlags := 74, slot := 10, constantValue := 0 }, { name := "props", type := (.object "java/util/Properties"), accessFlags := 10, slot := 11, constantValue := 0 }, { name := "lineSeparator", type := (.object "java/lang/String"), accessFlags := 10, slot := 12, constantValue := 0 }, { name := "bootLayer", type := (.object "java/lang/ModuleLayer"), accessFlags := 8, slot := 13, constantValue := 0 }]
  methods := #[k5m0, k5m1]
  instanceTypes := #[]
  staticTypes := #[(.object "java/io/InputStream"), (.object "java/io/PrintStream"), (.object "java/io/PrintStream"), (.object "java/io/InputStream"), .int, .int, .int, (.object "java/lang/SecurityManager"), (.object "java/lang/String"), (.object "java/io/Console"), (.object "java/io/PrintStream"), (.object "java/util/Properties"), (.object "java/lang/String"), (.object "java/lang/ModuleLayer")]
  resolved := Array.replicate 834 none
  statics := none }

def pool6 : Array CpInfo := pool [(1, u "java/lang/Cloneable"), (0, .class_ 1), (0, u "java/lang/Object"), (0, .class_ 3)] 3

/-- java/lang/Cloneable -/
def k6 : Class := { plain "java/lang/Cloneable" (some 0) with
  accessFlags := 1537
  interfaces := #[]
  cf := some (fileOf pool6 2 #[] #[] 1537 4 #[] #[])
  fields := #[]
  methods := #[]
  instanceTypes := #[]
  staticTypes := #[]
  resolved := Array.replicate 8 none
  statics := none }

def pool7 : Array CpInfo := pool [(1, u "java/io/Serializable"), (0, .class_ 1), (0, u "java/lang/Object"), (0, .class_ 3)] 3

/-- java/io/Serializable -/
def k7 : Class := { plain "java/io/Serializable" (some 0) with
  accessFlags := 1537
  interfaces := #[]
  cf := some (fileOf pool7 2 #[] #[] 1537 4 #[] #[])
  fields := #[]
  methods := #[]
  instanceTypes := #[]
  staticTypes := #[]
  resolved := Array.replicate 8 none
  statics := none }

/-- the primitive byte -/
def k8 : Class := { plain "byte" none with kind := .primitive 'B', accessFlags := 0x411 }
/-- [B -/
def k9 : Class := { plain "[B" (some 0) with kind := .array 8 .byte, interfaces := #[6, 7], accessFlags := 1041 }

/-- the primitive int -/
def k10 : Class := { plain "int" none with kind := .primitive 'I', accessFlags := 0x411 }
/-- [I -/
def k11 : Class := { plain "[I" (some 0) with kind := .array 10 .int, interfaces := #[6, 7], accessFlags := 1041 }

/-- the primitive long -/
def k12 : Class := { plain "long" none with kind := .primitive 'J', accessFlags := 0x411 }
/-- [J -/
def k13 : Class := { plain "[J" (some 0) with kind := .array 12 .long, interfaces := #[6, 7], accessFlags := 1041 }

def heap : Heap := #[]
def classes : Array Class := #[k0, k1, k2, k3, k4, k5, k6, k7, k8, k9, k10, k11, k12, k13]
def interned : List (Array UInt16 × Addr) := []
def slotsUsed : Nat := 0
def theMethod : MethodId := ⟨1, 1⟩
def args0 : Array Value := #[.int 5, .int 6, .int 7, .long 8]
def aboutOver (below : List Frame) : State where
  vm := { classes := classes, interned := interned.toArray }
  heap := heap
  slotsUsed := slotsUsed
  threads := #[{ frames := .invoking theMethod args0 :: below }]
def below0 : List Frame := [.native { method := ⟨0, 0⟩, args := #[] }]
def about1 : State := aboutOver below0
def p0 : Program := .bare "" "" ""
def e0 : Env := launch0.env 0 0 0
theorem w_frames : about1.frames = Frame.invoking theMethod args0 :: below0 := rfl
set_option maxRecDepth 65536 in
theorem w_args : argsFit about1.vm theMethod args0 = true := by decide +kernel
set_option maxRecDepth 65536 in
theorem w_heap : heapFits about1 = true := by decide +kernel
set_option maxRecDepth 65536 in
theorem w_runnable : about1.curStatus? = some .runnable := by decide +kernel
set_option maxRecDepth 65536 in
theorem w_alone : about1.alone = true := by decide +kernel
set_option maxRecDepth 65536 in
theorem w_named : about1.methodNamed? x = some theMethod := by decide +kernel
set_option maxRecDepth 65536 in
theorem w_hears : about1.hears theMethod below0 = true := by decide +kernel
set_option maxRecDepth 65536 in
theorem w_ripe : about1.ripe theMethod args0 below0 = true := by decide +kernel
theorem w_running : about1.status = .running := rfl
set_option maxRecDepth 65536 in
theorem w_room : about1.hasRoom e0.platform room_1 = true :=
  launch0.hasRoom_least _ room_1 (by decide +kernel) (by decide +kernel) (by decide +kernel) (by decide +kernel) (by decide +kernel) (by decide +kernel)
theorem allAtoms_all (ts : List Jvm.Cond) (a : Array Jvm.Value) (st : Jvm.State) : (allAtoms ts).before a st = ts.all (fun c => c.before a st) := by
  induction ts with
  | nil => rfl
  | cons c t ih =>
    show (Jvm.Cond.and c (allAtoms t)).before a st = _
    rw [Jvm.Cond.before_and, ih, List.all_cons]
def words1 : List Jvm.Cond := Jvm.Cond.code x code maxLocals ret :: tables_1
/-- a 'code' word, met by the world's own term for the bytes: nothing is compared byte by byte -/
theorem code_word {y : MethodName} {bytes : ByteArray} {mx : Nat} {rt : Option FieldType} {a : Array Value} {s : State} {m : MethodId} {meth : Method} {c : Code} (h1 : s.methodNamed? y = some m) (h2 : s.vm.method? m = some meth) (h3 : meth.code = some c) (h4 : c.code = bytes)
    (h5 : (c.maxLocals == mx && c.exceptionTable.isEmpty && decide (c.maxStack ≤ mostOperands) && decide (meth.sig.returnType = rt) && !meth.locks && decide (parseMethodDescriptor y.desc = some meth.sig)) = true) : (Jvm.Cond.code y bytes mx rt).before a s = true := by
  simp only [Bool.and_eq_true, beq_iff_eq, Bool.not_eq_true', decide_eq_true_eq] at h5
  obtain ⟨⟨⟨⟨⟨g1, g2⟩, g3⟩, g4⟩, g5⟩, g6⟩ := h5
  simp [Cond.before, Cond.holds, Cond.value, h1, h2, h3, h4, g1, g2, g3, g4, g5, g6]
def isCode : Jvm.Cond → Bool
  | .code _ _ _ _ => true
  | _ => false
theorem all_split {L : List Jvm.Cond} {P : Jvm.Cond → Bool} (h1 : L.all (fun c => isCode c || P c) = true) (h2 : ∀ c ∈ L.filter isCode, P c = true) : L.all P = true := by
  refine List.all_eq_true.mpr fun c hc => ?_
  have h := List.all_eq_true.mp h1 c hc
  rcases Bool.eq_false_or_eq_true (isCode c) with hi | hi
  · exact h2 c (List.mem_filter.mpr ⟨hc, hi⟩)
  · simpa [hi] using h
set_option maxRecDepth 65536 in
theorem w_c0 : (Jvm.Cond.code x code maxLocals ret).before args0 about1 = true := code_word (m := ⟨1, 1⟩) (meth := k1m1) (c := k1c1) (by decide +kernel) rfl rfl rfl (by decide +kernel)
set_option maxRecDepth 65536 in
theorem w_c1 : (Jvm.Cond.code ({ cls := "com/example/tierwright/tierwright/table/RowBounds", name := "<init>", desc := "(II)V" } : Jvm.MethodName) prog_111_method_1_code (3 : Nat) (Option.none : Option Jvm.ClassFile.FieldType)).before args0 about1 = true := code_word (m := ⟨2, 0⟩) (meth := k2m0) (c := k2c0) (by decide +kernel) rfl rfl rfl (by decide +kernel)
set_option maxRecDepth 65536 in
theorem w_c2 : (Jvm.Cond.code ({ cls := "java/lang/Object", name := "<init>", desc := "()V" } : Jvm.MethodName) object_method_1_code (1 : Nat) (Option.none : Option Jvm.ClassFile.FieldType)).before args0 about1 = true := code_word (m := ⟨0, 0⟩) (meth := k0m0) (c := k0c0) (by decide +kernel) rfl rfl rfl (by decide +kernel)
set_option maxRecDepth 65536 in
theorem w_c3 : (Jvm.Cond.code ({ cls := "java/lang/Math", name := "max", desc := "(II)I" } : Jvm.MethodName) jdk_29_method_65_code (2 : Nat) (Option.some Jvm.ClassFile.FieldType.int)).before args0 about1 = true := code_word (m := ⟨3, 1⟩) (meth := k3m1) (c := k3c1) (by decide +kernel) rfl rfl rfl (by decide +kernel)
set_option maxRecDepth 65536 in
theorem w_c4 : (Jvm.Cond.code ({ cls := "com/example/tierwright/tierwright/table/RowBoundsFieldsPinLaw", name := "note", desc := "(Lcom/example/tierwright/tierwright/table/RowBounds;II)V" } : Jvm.MethodName) method_3_code (3 : Nat) (Option.none : Option Jvm.ClassFile.FieldType)).before args0 about1 = true := code_word (m := ⟨1, 2⟩) (meth := k1m2) (c := k1c2) (by decide +kernel) rfl rfl rfl (by decide +kernel)
set_option maxRecDepth 65536 in
theorem w_c5 : (Jvm.Cond.code ({ cls := "com/example/tierwright/tierwright/table/RowBounds", name := "endField", desc := "(I)V" } : Jvm.MethodName) prog_111_method_2_code (2 : Nat) (Option.none : Option Jvm.ClassFile.FieldType)).before args0 about1 = true := code_word (m := ⟨2, 1⟩) (meth := k2m1) (c := k2c1) (by decide +kernel) rfl rfl rfl (by decide +kernel)
set_option maxRecDepth 65536 in
theorem w_c6 : (Jvm.Cond.code ({ cls := "java/util/Arrays", name := "copyOf", desc := "([II)[I" } : Jvm.MethodName) jdk_65_method_123_code (3 : Nat) (Option.some (Jvm.ClassFile.FieldType.array Jvm.ClassFile.FieldType.int))).before args0 about1 = true := code_word (m := ⟨4, 1⟩) (meth := k4m1) (c := k4c1) (by decide +kernel) rfl rfl rfl (by decide +kernel)
set_option maxRecDepth 65536 in
theorem w_c7 : (Jvm.Cond.code ({ cls := "java/lang/Math", name := "min", desc := "(II)I" } : Jvm.MethodName) jdk_29_method_69_code (2 : Nat) (Option.some Jvm.ClassFile.FieldType.int)).before args0 about1 = true := code_word (m := ⟨3, 2⟩) (meth := k3m2) (c := k3c2) (by decide +kernel) rfl rfl rfl (by decide +kernel)
set_option maxRecDepth 65536 in
theorem w_c8 : (Jvm.Cond.code ({ cls := "com/example/tierwright/tierwright/table/RowBounds", name := "endRow", desc := "(IJ)V" } : Jvm.MethodName) prog_111_method_3_code (4 : Nat) (Option.none : Option Jvm.ClassFile.FieldType)).before args0 about1 = true := code_word (m := ⟨2, 2⟩) (meth := k2m2) (c := k2c2) (by decide +kernel) rfl rfl rfl (by decide +kernel)
set_option maxRecDepth 65536 in
theorem w_c9 : (Jvm.Cond.code ({ cls := "java/util/Arrays", name := "copyOf", desc := "([JI)[J" } : Jvm.MethodName) jdk_65_method_124_code (3 : Nat) (Option.some (Jvm.ClassFile.FieldType.array Jvm.ClassFile.FieldType.long))).before args0 about1 = true := code_word (m := ⟨4, 2⟩) (meth := k4m2) (c := k4c2) (by decide +kernel) rfl rfl rfl (by decide +kernel)
set_option maxRecDepth 65536 in
theorem w_c10 : (Jvm.Cond.code ({ cls := "com/example/tierwright/tierwright/table/RowBounds", name := "rows", desc := "()I" } : Jvm.MethodName) prog_111_method_6_code (1 : Nat) (Option.some Jvm.ClassFile.FieldType.int)).before args0 about1 = true := code_word (m := ⟨2, 4⟩) (meth := k2m4) (c := k2c4) (by decide +kernel) rfl rfl rfl (by decide +kernel)
set_option maxRecDepth 65536 in
theorem w_c11 : (Jvm.Cond.code ({ cls := "com/example/tierwright/tierwright/table/RowBounds", name := "fields", desc := "(I)I" } : Jvm.MethodName) prog_111_method_9_code (2 : Nat) (Option.some Jvm.ClassFile.FieldType.int)).before args0 about1 = true := code_word (m := ⟨2, 5⟩) (meth := k2m5) (c := k2c5) (by decide +kernel) rfl rfl rfl (by decide +kernel)
set_option maxRecDepth 65536 in
theorem w_c12 : (Jvm.Cond.code ({ cls := "com/example/tierwright/tierwright/table/RowBounds", name := "dropRow", desc := "()V" } : Jvm.MethodName) prog_111_method_4_code (1 : Nat) (Option.none : Option Jvm.ClassFile.FieldType)).before args0 about1 = true := code_word (m := ⟨2, 3⟩) (meth := k2m3) (c := k2c3) (by decide +kernel) rfl rfl rfl (by decide +kernel)
def codes1 : List Jvm.Cond := [Jvm.Cond.code x code maxLocals ret, Jvm.Cond.code ({ cls := "com/example/tierwright/tierwright/table/RowBounds", name := "<init>", desc := "(II)V" } : Jvm.MethodName) prog_111_method_1_code (3 : Nat) (Option.none : Option Jvm.ClassFile.FieldType), Jvm.Cond.code ({ cls := "java/lang/Object", name := "<init>", desc := "()V" } : Jvm.MethodName) object_method_1_code (1 : Nat) (Option.none : Option Jvm.ClassFile.FieldType), Jvm.Cond.code ({ cls := "java/lang/Math", name := "max", desc := "(II)I" } : Jvm.MethodName) jdk_29_method_65_code (2 : Nat) (Option.some Jvm.ClassFile.FieldType.int), Jvm.Cond.code ({ cls := "com/example/tierwright/tierwright/table/RowBoundsFieldsPinLaw", name := "note", desc := "(Lcom/example/tierwright/tierwright/table/RowBounds;II)V" } : Jvm.MethodName) method_3_code (3 : Nat) (Option.none : Option Jvm.ClassFile.FieldType), Jvm.Cond.code ({ cls := "com/example/tierwright/tierwright/table/RowBounds", name := "endField", desc := "(I)V" } : Jvm.MethodName) prog_111_method_2_code (2 : Nat) (Option.none : Option Jvm.ClassFile.FieldType), Jvm.Cond.code ({ cls := "java/util/Arrays", name := "copyOf", desc := "([II)[I" } : Jvm.MethodName) jdk_65_method_123_code (3 : Nat) (Option.some (Jvm.ClassFile.FieldType.array Jvm.ClassFile.FieldType.int)), Jvm.Cond.code ({ cls := "java/lang/Math", name := "min", desc := "(II)I" } : Jvm.MethodName) jdk_29_method_69_code (2 : Nat) (Option.some Jvm.ClassFile.FieldType.int), Jvm.Cond.code ({ cls := "com/example/tierwright/tierwright/table/RowBounds", name := "endRow", desc := "(IJ)V" } : Jvm.MethodName) prog_111_method_3_code (4 : Nat) (Option.none : Option Jvm.ClassFile.FieldType), Jvm.Cond.code ({ cls := "java/util/Arrays", name := "copyOf", desc := "([JI)[J" } : Jvm.MethodName) jdk_65_method_124_code (3 : Nat) (Option.some (Jvm.ClassFile.FieldType.array Jvm.ClassFile.FieldType.long)), Jvm.Cond.code ({ cls := "com/example/tierwright/tierwright/table/RowBounds", name := "rows", desc := "()I" } : Jvm.MethodName) prog_111_method_6_code (1 : Nat) (Option.some Jvm.ClassFile.FieldType.int), Jvm.Cond.code ({ cls := "com/example/tierwright/tierwright/table/RowBounds", name := "fields", desc := "(I)I" } : Jvm.MethodName) prog_111_method_9_code (2 : Nat) (Option.some Jvm.ClassFile.FieldType.int), Jvm.Cond.code ({ cls := "com/example/tierwright/tierwright/table/RowBounds", name := "dropRow", desc := "()V" } : Jvm.MethodName) prog_111_method_4_code (1 : Nat) (Option.none : Option Jvm.ClassFile.FieldType)]
set_option maxRecDepth 65536 in
theorem codes_eq : words1.filter isCode = codes1 := rfl
theorem w_codes : ∀ c ∈ words1.filter isCode, c.before args0 about1 = true := by
  rw [codes_eq]
  intro c hc
  simp only [codes1, List.mem_cons, List.not_mem_nil, or_false] at hc
  rcases hc with rfl | rfl | rfl | rfl | rfl | rfl | rfl | rfl | rfl | rfl | rfl | rfl | rfl
  · exact w_c0
  · exact w_c1
  · exact w_c2
  · exact w_c3
  · exact w_c4
  · exact w_c5
  · exact w_c6
  · exact w_c7
  · exact w_c8
  · exact w_c9
  · exact w_c10
  · exact w_c11
  · exact w_c12
set_option maxRecDepth 65536 in
theorem w_t1 : (words1.take 24).all (fun c => isCode c || c.before args0 about1) = true := by decide +kernel
set_option maxRecDepth 65536 in
theorem w_t2 : ((words1.drop 24).take 24).all (fun c => isCode c || c.before args0 about1) = true := by decide +kernel
set_option maxRecDepth 65536 in
theorem w_t3 : ((words1.drop 24).drop 24).all (fun c => isCode c || c.before args0 about1) = true := by decide +kernel
theorem w_tables : (allAtoms (Jvm.Cond.code x code maxLocals ret :: tables_1)).before args0 about1 = true := by
  rw [allAtoms_all]
  show words1.all (fun c => c.before args0 about1) = true
  refine all_split ?_ w_codes
  rw [← List.take_append_drop 24 words1, List.all_append, w_t1, ← List.take_append_drop 24 (words1.drop 24), List.all_append, w_t2, w_t3]
  rfl
set_option maxRecDepth 65536 in
theorem w_case : (Jvm.Cond.and given_1 narrow_1).before args0 about1 = true := by decide +kernel
theorem w_applies : (headSpec (Jvm.Cond.code x code maxLocals ret :: tables_1) room_1).applies x e0.platform about1 = true :=
  (Spec.applies_iff w_frames).mpr ⟨w_running, w_runnable, w_alone, w_named, w_hears, w_ripe, w_room, w_tables⟩
theorem atStart : AtStart classFile x code maxLocals ret World_1 tables_1 room_1 Calls_1 rest_1 Pre_1 launch0 p0 e0 about1 theMethod args0 below0 :=
  ⟨lists_1, trivial, launch0.admits_env _ _ _, launch0.least_env, fairChoices_fair.cas, fairChoices_fair.clock, w_frames, w_args, w_heap, w_applies, trivial, trivial, w_case⟩
end start1
theorem witness_1 : WitnessClaimed_1 := ⟨start1.p0, start1.e0, start1.about1, start1.theMethod, start1.args0, start1.below0, start1.atStart⟩
end Jvm.Pilot.@@N@@
