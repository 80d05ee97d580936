import JvmDerived
import JvmDerived.Pilot.@@N@@Statement
import JvmDerived.Pilot.@@N@@Code
set_option linter.unusedVariables false
set_option linter.unusedSimpArgs false
namespace Jvm.Pilot.@@N@@
open Jvm Jvm.ClassFile Sem Op Lib Jvm.Free Jvm.Stand Jvm.LawKit Jvm.RoadKit Bundle Jvm.Pilot.@@N@@.Jvm.D
abbrev own_Ends (p : Program) (e : Env) (below : List Frame) (T : State) (g : JFrame) (Q : Outcome → State → Prop) : Prop :=
  ∃ s₂ o, Steps p.tables e below (T.setTop g) s₂ ∧ s₂.status = .running ∧ Ended s₂ below o ∧ Q o s₂
section Own
variable {p : Program} {l : Launch} {e : Env} {R : Room} {s : State} {m : MethodId} {args : Array Value} {below : List Frame} {meth : Method} {c : Code} {T T' : State} {locs : List Loc} {cells slots : Nat}
theorem own_go {g g' : JFrame} {Q : Outcome → State → Prop} (h : ∀ t, Steps p.tables e below (T'.setTop g') t → Steps p.tables e below (T.setTop g) t) (k : own_Ends p e below T' g' Q) : own_Ends p e below T g Q := by
  obtain ⟨s₂, o, h1, h2⟩ := k
  exact ⟨s₂, o, h _ h1, h2⟩
theorem own_start {g g' : JFrame} {Q : Outcome → State → Prop} (h : g = g') (k : own_Ends p e below T g' Q) : own_Ends p e below T g Q := h ▸ k
theorem own_ret (X : Stand p l e R s m args below meth c T locs cells slots) (hlk : meth.locks = false) (hx : p.tables.exec = Jvm.exec) {pc : Nat} {Ls : Array Slot} {w : Value} {t : FieldType} {i : Instr} {rest : List Value} (hret : meth.sig.returnType = some t) (hn : narrow t w = w)
    (hi : (i = .ireturn ∧ (t = .int ∨ t = .boolean ∨ t = .byte ∨ t = .char ∨ t = .short) ∧ ∃ z, w = .int z) ∨ (i = .lreturn ∧ t = .long ∧ ∃ z, w = .long z) ∨ (i = .dreturn ∧ t = .double ∧ ∃ z, w = .double z) ∨ (i = .freturn ∧ t = .float ∧ ∃ z, w = .float z) ∨ (i = .areturn ∧ t.isReference = true ∧ w.isRef = true))
    (hd : decode c.code pc = .ok (i, 1)) {Qv : Option Value → Heap → List Loc → Prop} {C S : Nat} (hq : Qv (some w) T.heap locs) (hc : cells ≤ C) (hs : slots ≤ S) :
    own_Ends p e below T (mkF m pc Ls (w :: rest)) (fun o U' => ∃ v L, o = .returned v ∧ Qv v U'.heap L ∧ FrameEnd s o U' L C S) := by
  obtain ⟨fs, hr, hrun, hended, hW, hsame⟩ := X.leave (v := some w) (fun h => by rw [hret] at h; cases h) hlk
  exact ⟨_, _, retOut X hx hret hn hi hd hr, hrun, hended, _, _, rfl, hq, ⟨_, rfl⟩, hW, hsame.mono hc hs⟩
theorem own_ret0 (X : Stand p l e R s m args below meth c T locs cells slots) (hlk : meth.locks = false) (hx : p.tables.exec = Jvm.exec) {pc : Nat} {Ls : Array Slot} (hret : meth.sig.returnType = none)
    (hd : decode c.code pc = .ok (.return_, 1)) {Qv : Option Value → Heap → List Loc → Prop} {C S : Nat} (hq : Qv none T.heap locs) (hc : cells ≤ C) (hs : slots ≤ S) :
    own_Ends p e below T (mkF m pc Ls []) (fun o U' => ∃ v L, o = .returned v ∧ Qv v U'.heap L ∧ FrameEnd s o U' L C S) := by
  obtain ⟨fs, hr, hrun, hended, hW, hsame⟩ := X.leave (v := none) (fun _ => rfl) hlk
  exact ⟨_, _, X.returnOut hx hret hd hr, hrun, hended, _, _, rfl, hq, ⟨_, rfl⟩, hW, hsame.mono hc hs⟩
theorem own_nr {t : FieldType} {v : Value} (h : v.isRef = true) : narrow t v = v := by cases v <;> first | (cases h; done) | (cases t <;> rfl)
end Own
theorem own_fldL {args : Array Value} {s : State} {t : Term} {a : Addr} {C n d : String} {k : Int64} (ht : t.eval args s none [] s = some (.ref a)) (h : (Jvm.Cond.eq (.field t C n d) (.long k)).value args s none s [] = some true) : Fld s s.heap a C n d (.long k) := by
  obtain ⟨x, y, e1, e2, h3, h4⟩ := cmp_v (Or.inl h)
  obtain rfl : Value.long k = y := Option.some.inj ((long_at k).symm.trans e2)
  obtain ⟨z, rfl⟩ : ∃ z, x = .long z := h4
  have q : z = k := gotT (eq_L e1 e2) h
  subst q
  exact Fld.start ((fld_at ht).symm.trans e1)
theorem own_small {i : Nat} (h : i < 64) : (Int32.ofNat i).toInt = i := Int32.toInt_ofNat_small (by omega)
theorem own_cl {i : Nat} (h : i < 64) : (Int32.ofNat i).toNatClampNeg = i := clamp_of rfl (by omega)
theorem own_ltn {i n : Nat} (hi : i < 64) (hn : n < 64) : Int32.ofNat i < Int32.ofNat n ↔ i < n := by
  rw [Int32.lt_iff_toInt_lt, own_small hi, own_small hn]; omega
theorem own_nn {i : Nat} (h : i < 64) : ¬ Int32.ofNat i < 0 := by
  rw [Int32.lt_iff_toInt_lt, own_small h]; have : (0 : Int32).toInt = 0 := rfl; omega
theorem own_inb {i n : Nat} (hi : i < n) (hn : n < 64) : ¬ Int32.ofNat i < 0 ∧ Int32.ofNat i < Int32.ofNat n := ⟨own_nn (by omega), (own_ltn (by omega) hn).mpr hi⟩
theorem own_rep {N i : Nat} {v d : Value} (h : i < N) : (List.replicate N v).getD i d = v := by
  simp [List.getD_eq_getElem?_getD, List.getElem?_replicate, h]
theorem own_repo {N i : Nat} {v d : Value} (h : ¬ i < N) : (List.replicate N v).getD i d = d := by
  simp [List.getD_eq_getElem?_getD, List.getElem?_replicate, h]
theorem own_over {vs : List Value} {i : Nat} {d : Value} (h : ¬ i < vs.length) : vs.getD i d = d := by
  simp [List.getD_eq_getElem?_getD, List.getElem?_eq_none (Nat.le_of_not_lt h)]
theorem own_all {vs : List Value} {N : Nat} {v d : Value} (hl : vs.length = N) (h : ∀ i, i < N → vs.getD i d = v) : ∀ i, (List.replicate N v).getD i d = vs.getD i d := fun i => by
  by_cases q : i < N
  · rw [own_rep q, h i q]
  · rw [own_repo q, own_over (by omega)]
theorem own_set {vs : List Value} {j : Nat} {v d : Value} (hj : j < vs.length) (h : ∀ i, i < j → vs.getD i d = v) : ∀ i, i < j + 1 → (vs.set j v).getD i d = v := fun i hi => by
  by_cases q : i = j
  · subst q; simp [List.getD_eq_getElem?_getD, hj]
  · rw [List.getD_eq_getElem?_getD, List.getElem?_set_ne (fun e => q e.symm), ← List.getD_eq_getElem?_getD]; exact h i (by omega)
theorem own_msk (x : Int32) : ∃ N : Nat, (x &&& 15) = Int32.ofNat N ∧ N < 16 := by
  have h := c_and x 15 (by decide)
  have e : (15 : Int32).toInt = 15 := rfl
  refine ⟨(x &&& 15).toInt.toNat, ?_, by omega⟩
  rw [← Int32.toInt_inj, own_small (by omega)]; omega
theorem own_rem {x : Int32} {N : Nat} (hN : N < 16) (h : ¬ Int32.ofNat N = 0) : ∃ i : Nat, (x &&& 2147483647) % Int32.ofNat N = Int32.ofNat i ∧ i < N := by
  have h0 := (c_and x 2147483647 (by decide)).1
  have hp : 0 < (Int32.ofNat N).toInt := by
    rw [own_small (by omega)]
    rcases Nat.eq_zero_or_pos N with q | q
    · subst q; exact absurd rfl h
    · omega
  have q := (c_iremV (x &&& 2147483647) (Int32.ofNat N)).1 h0 hp
  rw [own_small (by omega : N < 64)] at q
  refine ⟨((x &&& 2147483647) % Int32.ofNat N).toInt.toNat, ?_, by omega⟩
  rw [← Int32.toInt_inj, own_small (by omega)]; omega
theorem own_pos {N : Nat} (h : ¬ Int32.ofNat N = 0) : 0 < N := by
  rcases Nat.eq_zero_or_pos N with q | q
  · subst q; exact absurd rfl h
  · exact q
theorem own_pred {N : Nat} (h : 0 < N) : Int32.ofNat N - 1 = Int32.ofNat (N - 1) := by
  obtain ⟨k, rfl⟩ : ∃ k, N = k + 1 := ⟨N - 1, by omega⟩
  exact dec_ofNat k

theorem own_sta_keep {Z : State} {h h' : Heap} {C n d : String} {v : Value} {ws : List Addr} (F : Sta Z h C n d v) (K : Keep h h' ws) (q : ∀ x ∈ ws, ∀ cell : Cell, h[x]? = some cell → cell.vm.isStatics = false) : Sta Z h' C n d v := by
  obtain ⟨cf, i, k, f, st, cell, h1, h2, h3, h4, h5, h6, h7⟩ := F
  refine ⟨cf, i, k, f, st, cell, h1, h2, h3, h4, K.2.1 _ _ h5 (fun m => ?_), h6, h7⟩
  rw [q _ m _ h5] at h6; cases h6
theorem own_ns0 {h : Heap} : ∀ x ∈ ([] : List Addr), ∀ cell : Cell, h[x]? = some cell → cell.vm.isStatics = false := fun _ hx => nomatch hx
theorem own_nsS {h : Heap} {a : Addr} {ws : List Addr} (n : ∀ cell : Cell, h[a]? = some cell → cell.vm.isStatics = false) (r : ∀ x ∈ ws, ∀ cell : Cell, h[x]? = some cell → cell.vm.isStatics = false) : ∀ x ∈ a :: ws, ∀ cell : Cell, h[x]? = some cell → cell.vm.isStatics = false := fun x hx => by
  rcases List.mem_cons.mp hx with rfl | hx
  · exact n
  · exact r x hx
theorem own_nse {Z : State} {h : Heap} {a : Addr} {C : String} (E : Exa Z h a C) : ∀ cell : Cell, h[a]? = some cell → cell.vm.isStatics = false := by
  obtain ⟨c, k, h1, -, -, h4, -⟩ := E
  intro cell hc; cases h1.symm.trans hc; exact h4
theorem own_nsv {Z : State} {h : Heap} {a : Addr} {k : ClassId} {ty : FieldType} {z : Int32} {vs : List Value} {d : Value} (E : Arv Z h a k ty z vs d) : ∀ cell : Cell, h[a]? = some cell → cell.vm.isStatics = false := by
  obtain ⟨c, A, -⟩ := E
  intro cell hc; cases A.1.symm.trans hc; exact A.plain

theorem own_d_jdk_65_method_117_code_5 : decode jdk_65_method_117_code 5 = .ok (.iload_n 2, 1) := by decide +kernel
theorem own_d_jdk_65_method_117_code_6 : decode jdk_65_method_117_code 6 = .ok (.iload_n 3, 1) := by decide +kernel
theorem own_d_jdk_65_method_117_code_7 : decode jdk_65_method_117_code 7 = .ok (.if_icmp .ge 13, 3) := by decide +kernel
theorem own_d_jdk_65_method_117_code_10 : decode jdk_65_method_117_code 10 = .ok (.aload_n 0, 1) := by decide +kernel
theorem own_d_jdk_65_method_117_code_11 : decode jdk_65_method_117_code 11 = .ok (.iload_n 2, 1) := by decide +kernel
theorem own_d_jdk_65_method_117_code_12 : decode jdk_65_method_117_code 12 = .ok (.aload_n 1, 1) := by decide +kernel
theorem own_d_jdk_65_method_117_code_13 : decode jdk_65_method_117_code 13 = .ok (.aastore, 1) := by decide +kernel
theorem own_d_jdk_65_method_117_code_14 : decode jdk_65_method_117_code 14 = .ok (.iinc 2 1, 3) := by decide +kernel
theorem own_d_jdk_65_method_117_code_17 : decode jdk_65_method_117_code 17 = .ok (.goto (-12), 3) := by decide +kernel
theorem own_d_jdk_65_method_117_code_20 : decode jdk_65_method_117_code 20 = .ok (.return_, 1) := by decide +kernel
set_option maxRecDepth 65536 in
set_option maxHeartbeats 40000000 in
theorem own_fillloop {p : Program} {l : Launch} {e : Env} {R : Room} {s : State} {m : MethodId} {args : Array Value} {below : List Frame} {meth : Method} {c : Code} {cells slots : Nat} {Z : State} {a0 : Array Value} {h0 : Heap} {C S : Nat} {Qv : Option Value → Heap → List Loc → Prop} {a zr : Addr} {k : ClassId} {N n0 : Nat}
    (hx : p.tables.exec = Jvm.exec) (hZ : Z.Warmed39 s.vm) (hw : ∀ d ∈ tables_1, d.before a0 Z = true) (hby : c.code = jdk_65_method_117_code) (hml : c.maxLocals = 4) (hown : s.vm.findClass "java/util/Arrays" = some m.cls) (hlk : meth.locks = false) (hret : meth.sig.returnType = none) (hC : cells ≤ C) (hS : slots ≤ S) (Z0 : n0 ≤ h0.size) (g_a : n0 ≤ a) (hN16 : N < 16) (hO : Ovr Z k "java/math/BigDecimal")
    (hq : ∀ (T : State) (locs : List Loc) (h1 : Heap) (vs : List Value), T.heap = h1 → Fr n0 locs → Keep h0 h1 [a] → Arv Z h1 a k (.object "java/math/BigDecimal") (Int32.ofNat N) vs .null → vs.length = N → (∀ i, i < N → vs.getD i .null = .ref zr) → Qv none T.heap locs) :
    ∀ (t j : Nat) (T0 : State) (locs : List Loc) (h1 : Heap) (vs : List Value), Stand p l e R s m args below meth c T0 locs cells slots → T0.heap = h1 → j + t = N → Fr n0 locs → Keep h0 h1 [a] → Arv Z h1 a k (.object "java/math/BigDecimal") (Int32.ofNat N) vs .null → vs.length = N → (∀ i, i < j → vs.getD i .null = .ref zr) → Exa Z h1 zr "java/math/BigDecimal" →
      own_Ends p e below T0 (mkF m 5 #[rv a, rv zr, iv (Int32.ofNat j), iv (Int32.ofNat N)] []) (fun o U' => ∃ v L, o = .returned v ∧ Qv v U'.heap L ∧ FrameEnd s o U' L C S) := by
  intro t
  induction t with
  | zero =>
    intro j T0 locs h1 vs X0 e0 hjt hN hK hV hl hz hE
    refine own_go (T' := T0) (g' := (mkF m 6 #[rv a, rv zr, iv (Int32.ofNat j), iv (Int32.ofNat N)] [(.int (Int32.ofNat j))])) (fun t k => XS.iloadN X0.here hx rfl (hb hby own_d_jdk_65_method_117_code_5) rfl k) ?_
    refine own_go (T' := T0) (g' := (mkF m 7 #[rv a, rv zr, iv (Int32.ofNat j), iv (Int32.ofNat N)] [(.int (Int32.ofNat N)), (.int (Int32.ofNat j))])) (fun t k => XS.iloadN X0.here hx rfl (hb hby own_d_jdk_65_method_117_code_6) rfl k) ?_
    refine own_go (T' := T0) (g' := (mkF m 20 #[rv a, rv zr, iv (Int32.ofNat j), iv (Int32.ofNat N)] [])) (fun t k => XS.icmpYes X0.here hx rfl (pc0 := 7) (pc' := 20) rfl (hb hby own_d_jdk_65_method_117_code_7) rfl (flt (by rw [own_ltn (by omega) (by omega)]; omega : ¬ ((Int32.ofNat j) < (Int32.ofNat N)))).2.1 (by decide) (by decide) k) ?_
    exact own_ret0 X0 hlk hx hret (hb hby own_d_jdk_65_method_117_code_20) (hq _ _ _ _ e0 hN hK hV hl (fun i hi => hz i (by omega))) hC hS
  | succ t ih =>
    intro j T0 locs h1 vs X0 e0 hjt hN hK hV hl hz hE
    have hjN : j < N := by omega
    refine own_go (T' := T0) (g' := (mkF m 6 #[rv a, rv zr, iv (Int32.ofNat j), iv (Int32.ofNat N)] [(.int (Int32.ofNat j))])) (fun t k => XS.iloadN X0.here hx rfl (hb hby own_d_jdk_65_method_117_code_5) rfl k) ?_
    refine own_go (T' := T0) (g' := (mkF m 7 #[rv a, rv zr, iv (Int32.ofNat j), iv (Int32.ofNat N)] [(.int (Int32.ofNat N)), (.int (Int32.ofNat j))])) (fun t k => XS.iloadN X0.here hx rfl (hb hby own_d_jdk_65_method_117_code_6) rfl k) ?_
    refine own_go (T' := T0) (g' := (mkF m 10 #[rv a, rv zr, iv (Int32.ofNat j), iv (Int32.ofNat N)] [])) (fun t k => XS.icmpNo X0.here hx rfl (hb hby own_d_jdk_65_method_117_code_7) rfl (tlt ((own_ltn (by omega) (by omega)).mpr hjN : ((Int32.ofNat j) < (Int32.ofNat N)))).2.1 k) ?_
    refine own_go (T' := T0) (g' := (mkF m 11 #[rv a, rv zr, iv (Int32.ofNat j), iv (Int32.ofNat N)] [(.ref a)])) (fun t k => XS.aloadN X0.here hx rfl (hb hby own_d_jdk_65_method_117_code_10) rfl rfl k) ?_
    refine own_go (T' := T0) (g' := (mkF m 12 #[rv a, rv zr, iv (Int32.ofNat j), iv (Int32.ofNat N)] [(.int (Int32.ofNat j)), (.ref a)])) (fun t k => XS.iloadN X0.here hx rfl (hb hby own_d_jdk_65_method_117_code_11) rfl k) ?_
    refine own_go (T' := T0) (g' := (mkF m 13 #[rv a, rv zr, iv (Int32.ofNat j), iv (Int32.ofNat N)] [(.ref zr), (.int (Int32.ofNat j)), (.ref a)])) (fun t k => XS.aloadN X0.here hx rfl (hb hby own_d_jdk_65_method_117_code_12) rfl rfl k) ?_
    obtain ⟨cl1, Ar1, q1, Sz1, Nn1, Ha1, Ga1⟩ := id hV
    have hin1 : ¬ ((Int32.ofNat j) < 0 ∨ cl1.slots.size ≤ ((Int32.ofNat j)).toNatClampNeg) := inb_of Sz1 (own_inb hjN (by omega))
    obtain ⟨T1, h1, X1, e1, W1, st1⟩ := stR X0 hx hZ e0 Ar1 (j := (Int32.ofNat j)) hin1 rfl (Sto.ofV Ar1 q1 hO (Ins.self hE)) (g := (mkF m 13 #[rv a, rv zr, iv (Int32.ofNat j), iv (Int32.ofNat N)] [(.ref zr), (.int (Int32.ofNat j)), (.ref a)])) rfl rfl (hb hby own_d_jdk_65_method_117_code_13)
    have hz1 : n0 ≤ h1.size := Nat.le_trans (Nat.le_trans Z0 hK.1) (Keep.of_wr W1).1
    have N1 := Fr.snoc X1 hN g_a
    have K1 := hK.wr W1 (Or.inl (List.mem_of_getElem? (i := 0) rfl))
    have c3 := hE.wr W1
    have V1 : Arv Z h1 a k (.object "java/math/BigDecimal") (Int32.ofNat N) (vs.set j (.ref zr)) .null := Arv.set Ar1 q1 Sz1 Nn1 Ha1 Ga1 rfl W1 j (own_cl (by omega)) (by omega)
    refine own_go (T' := T1) (g' := (mkF m 14 #[rv a, rv zr, iv (Int32.ofNat j), iv (Int32.ofNat N)] [])) (st1) ?_
    refine own_go (T' := T1) (g' := (mkF m 17 #[rv a, rv zr, iv ((Int32.ofNat j) + (1 : Int32)), iv (Int32.ofNat N)] [])) (fun t k => XS.iinc X1.here hx rfl (hb hby own_d_jdk_65_method_117_code_14) rfl (l' := #[rv a, rv zr, iv ((Int32.ofNat j) + (1 : Int32)), iv (Int32.ofNat N)]) rfl k) ?_
    refine own_go (T' := T1) (g' := (mkF m 5 #[rv a, rv zr, iv ((Int32.ofNat j) + (1 : Int32)), iv (Int32.ofNat N)] [])) (fun t k => XS.goto X1.here hx rfl (pc0 := 17) (pc' := 5) rfl (hb hby own_d_jdk_65_method_117_code_17) (by decide) (by decide) k) ?_
    rw [← inc_ofNat]
    exact ih (j + 1) _ _ _ _ X1 e1 (by omega) N1 K1 V1 (by rw [List.length_set]; exact hl) (own_set (by omega) hz) c3

theorem own_d_jdk_65_method_117_code_0 : decode jdk_65_method_117_code 0 = .ok (.iconst 0, 1) := by decide +kernel
theorem own_d_jdk_65_method_117_code_1 : decode jdk_65_method_117_code 1 = .ok (.istore_n 2, 1) := by decide +kernel
theorem own_d_jdk_65_method_117_code_2 : decode jdk_65_method_117_code 2 = .ok (.aload_n 0, 1) := by decide +kernel
theorem own_d_jdk_65_method_117_code_3 : decode jdk_65_method_117_code 3 = .ok (.arraylength, 1) := by decide +kernel
theorem own_d_jdk_65_method_117_code_4 : decode jdk_65_method_117_code 4 = .ok (.istore_n 3, 1) := by decide +kernel
def Q_own_rfill (Z : State) (a zr : Addr) (k : ClassId) (N : Nat) (h0 : Heap) (n0 : Nat) (v : Option Value) (h : Heap) (L : List Loc) : Prop := v = none ∧ Fr n0 L ∧ Keep h0 h [a] ∧ Arv Z h a k (.object "java/math/BigDecimal") (Int32.ofNat N) (List.replicate N (.ref zr)) .null
set_option maxRecDepth 65536 in
set_option maxHeartbeats 40000000 in
theorem own_rfill (l : Launch) (Z : State) (a0 : Array Value) (hw : ∀ d ∈ tables_1, d.before a0 Z = true) (ws : List Jvm.Cond) (a zr : Addr) (k : ClassId) (N : Nat) (h0 : Heap) (n0 : Nat) (Z0 : n0 ≤ h0.size) (g_a : n0 ≤ a) (hN16 : N < 16) (hO : Ovr Z k "java/math/BigDecimal") (V_a : Arv Z h0 a k (.object "java/math/BigDecimal") (Int32.ofNat N) (List.replicate N .null) .null) (E_zr : Exa Z h0 zr "java/math/BigDecimal") :
    MetFree l (⟨"java/util/Arrays", "fill", "([Ljava/lang/Object;Ljava/lang/Object;)V"⟩ : MethodName) (head1 (Jvm.Cond.code (⟨"java/util/Arrays", "fill", "([Ljava/lang/Object;Ljava/lang/Object;)V"⟩ : MethodName) jdk_65_method_117_code 4 none :: ws) ({ frames := 0, cells := 0, slots := 0, locals := 0 } : Room)) (fun au Uu => au = #[(.ref a), (.ref zr)] ∧ Z.Warmed39 Uu.vm ∧ Uu.heap = h0) (fun _ _ _ _ _ => True) (fun _ Uu ou Uw => ∃ vu Lu, ou = .returned vu ∧ Q_own_rfill Z a zr k N h0 n0 vu Uw.heap Lu ∧ FrameEnd Uu ou Uw Lu ({ frames := 0, cells := 0, slots := 0, locals := 0 } : Room).cells ({ frames := 0, cells := 0, slots := 0, locals := 0 } : Room).slots) := by
  refine MetFree.of_bodySF (plainFor_of_name (by first | (simp [plainName, overriddenIn]; done) | decide +kernel)) hisR ?_
  intro p e s m args below meth c s₁ Bd hml0 hP hK
  obtain ⟨rfl, hZ, hh⟩ := hP
  have hx := Bd.exec
  have hby := Bd.bytes
  have hlk := Bd.notSynchronized
  have hml : c.maxLocals = 4 := hml0
  have hown : s.vm.findClass "java/util/Arrays" = some m.cls := findClass_of_methodNamed Bd.named
  have hnm := (name_of_methodNamed Bd.named Bd.method).1
  have X0 : Stand p l e ({ frames := 0, cells := 0, slots := 0, locals := 0 } : Room) s m #[(.ref a), (.ref zr)] below meth c s₁ [] 0 0 := Stand.of_body Bd
  have e0 : s₁.heap = h0 := by rw [← hh, Bd.state]; rfl
  have N0 := Fr.nil n0
  show own_Ends p e below s₁ (entryFrame m #[(.ref a), (.ref zr)] 4) (fun ou Uw => ∃ vu Lu, ou = .returned vu ∧ Q_own_rfill Z a zr k N h0 n0 vu Uw.heap Lu ∧ FrameEnd s ou Uw Lu ({ frames := 0, cells := 0, slots := 0, locals := 0 } : Room).cells ({ frames := 0, cells := 0, slots := 0, locals := 0 } : Room).slots)
  refine own_start (g' := (mkF m 0 #[rv a, rv zr, .unset, .unset] [])) (by first | (simp [entryFrame, mkF, argsToLocals, Value.category, iv, rv]; done) | rfl) ?_
  refine own_go (T' := s₁) (g' := (mkF m 1 #[rv a, rv zr, .unset, .unset] [(.int (0 : Int32))])) (fun t k => XS.iconst X0.here hx rfl (hb hby own_d_jdk_65_method_117_code_0) k) ?_
  refine own_go (T' := s₁) (g' := (mkF m 2 #[rv a, rv zr, iv (0 : Int32), .unset] [])) (fun t k => XS.istoreN X0.here hx rfl (hb hby own_d_jdk_65_method_117_code_1) rfl (l' := #[rv a, rv zr, iv (0 : Int32), .unset]) rfl k) ?_
  refine own_go (T' := s₁) (g' := (mkF m 3 #[rv a, rv zr, iv (0 : Int32), .unset] [(.ref a)])) (fun t k => XS.aloadN X0.here hx rfl (hb hby own_d_jdk_65_method_117_code_2) rfl rfl k) ?_
  obtain ⟨cl4, Ar4, -, Sz4, Nn4, -, -⟩ := id V_a
  refine own_go (T' := s₁) (g' := (mkF m 4 #[rv a, rv zr, iv (0 : Int32), .unset] [(.int (Int32.ofNat N))])) (fun t k => X0.arraylength hx (by rw [e0]; exact Ar4.1) (State.isArrayOf_alike hZ.alike Ar4.2.1) (g := (mkF m 3 #[rv a, rv zr, iv (0 : Int32), .unset] [(.ref a)])) rfl rfl (hb hby own_d_jdk_65_method_117_code_3) _ (by rw [len_of Sz4 Nn4]; exact k)) ?_
  refine own_go (T' := s₁) (g' := (mkF m 5 #[rv a, rv zr, iv (0 : Int32), iv (Int32.ofNat N)] [])) (fun t k => XS.istoreN X0.here hx rfl (hb hby own_d_jdk_65_method_117_code_4) rfl (l' := #[rv a, rv zr, iv (0 : Int32), iv (Int32.ofNat N)]) rfl k) ?_
  exact own_fillloop hx hZ hw hby hml hown hlk Bd.returns (by decide) (by decide) Z0 g_a hN16 hO (Qv := Q_own_rfill Z a zr k N h0 n0) (fun T locs h1 vs e1 f1 k1 v1 l1 z1 => by rw [e1]; exact ⟨rfl, f1, k1, v1.pad (own_all l1 z1)⟩) N 0 _ _ _ _ X0 e0 (by omega) N0 (Keep.refl h0 [a]) V_a List.length_replicate (fun i hi => absurd hi (Nat.not_lt_zero i)) E_zr

theorem own_pd0 : parseMethodDescriptor "([Ljava/lang/Object;Ljava/lang/Object;)V" = some ⟨[(.array (.object "java/lang/Object")), (.object "java/lang/Object")], none⟩ := by decide +kernel
theorem own_d_prog_45_method_6_code_0 : decode prog_45_method_6_code 0 = .ok (.iload_n 0, 1) := by decide +kernel
theorem own_d_prog_45_method_6_code_1 : decode prog_45_method_6_code 1 = .ok (.anewarray 89, 3) := by decide +kernel
theorem own_d_prog_45_method_6_code_4 : decode prog_45_method_6_code 4 = .ok (.astore_n 1, 1) := by decide +kernel
theorem own_d_prog_45_method_6_code_5 : decode prog_45_method_6_code 5 = .ok (.aload_n 1, 1) := by decide +kernel
theorem own_d_prog_45_method_6_code_6 : decode prog_45_method_6_code 6 = .ok (.getstatic 272, 3) := by decide +kernel
theorem own_d_prog_45_method_6_code_9 : decode prog_45_method_6_code 9 = .ok (.invokestatic 320, 3) := by decide +kernel
theorem own_d_prog_45_method_6_code_12 : decode prog_45_method_6_code 12 = .ok (.aload_n 1, 1) := by decide +kernel
theorem own_d_prog_45_method_6_code_13 : decode prog_45_method_6_code 13 = .ok (.areturn, 1) := by decide +kernel
def Q_own_rzeros (Z : State) (zr : Addr) (N : Nat) (h0 : Heap) (n0 : Nat) (v : Option Value) (h : Heap) (L : List Loc) : Prop := ∃ (b : Addr) (k : ClassId), v = some (.ref b) ∧ Fr n0 L ∧ h0.size ≤ b ∧ Keep h0 h [] ∧ Arv Z h b k (.object "java/math/BigDecimal") (Int32.ofNat N) (List.replicate N (.ref zr)) .null
set_option maxRecDepth 65536 in
set_option maxHeartbeats 40000000 in
theorem own_rzeros (l : Launch) (Z : State) (a0 : Array Value) (hw : ∀ d ∈ tables_1, d.before a0 Z = true) (ws : List Jvm.Cond) (zr : Addr) (N : Nat) (h0 : Heap) (n0 : Nat) (Z0 : n0 ≤ h0.size) (hN16 : N < 16) (S_ZERO : Sta Z h0 "java/math/BigDecimal" "ZERO" "Ljava/math/BigDecimal;" (.ref zr)) (E_zr : Exa Z h0 zr "java/math/BigDecimal") :
    MetFree l (⟨"com/example/tankroute/tankroute/solve/Problem", "zeros", "(I)[Ljava/math/BigDecimal;"⟩ : MethodName) (head1 (Jvm.Cond.code (⟨"com/example/tankroute/tankroute/solve/Problem", "zeros", "(I)[Ljava/math/BigDecimal;"⟩ : MethodName) prog_45_method_6_code 2 (some (.array (.object "java/math/BigDecimal"))) :: ws) ({ frames := 1, cells := 1, slots := 15, locals := 16 } : Room)) (fun au Uu => au = #[(.int (Int32.ofNat N))] ∧ Z.Warmed39 Uu.vm ∧ Uu.heap = h0) (fun _ _ _ _ _ => True) (fun _ Uu ou Uw => ∃ vu Lu, ou = .returned vu ∧ Q_own_rzeros Z zr N h0 n0 vu Uw.heap Lu ∧ FrameEnd Uu ou Uw Lu ({ frames := 1, cells := 1, slots := 15, locals := 16 } : Room).cells ({ frames := 1, cells := 1, slots := 15, locals := 16 } : Room).slots) := by
  refine MetFree.of_bodySF (plainFor_of_name (by first | (simp [plainName, overriddenIn]; done) | decide +kernel)) hisR ?_
  intro p e s m args below meth c s₁ Bd hml0 hP hK
  obtain ⟨rfl, hZ, hh⟩ := hP
  have hx := Bd.exec
  have hby := Bd.bytes
  have hlk := Bd.notSynchronized
  have hml : c.maxLocals = 2 := hml0
  have hown : s.vm.findClass "com/example/tankroute/tankroute/solve/Problem" = some m.cls := findClass_of_methodNamed Bd.named
  have hnm := (name_of_methodNamed Bd.named Bd.method).1
  have X0 : Stand p l e ({ frames := 1, cells := 1, slots := 15, locals := 16 } : Room) s m #[(.int (Int32.ofNat N))] below meth c s₁ [] 0 0 := Stand.of_body Bd
  have e0 : s₁.heap = h0 := by rw [← hh, Bd.state]; rfl
  have N0 := Fr.nil n0
  show own_Ends p e below s₁ (entryFrame m #[(.int (Int32.ofNat N))] 2) (fun ou Uw => ∃ vu Lu, ou = .returned vu ∧ Q_own_rzeros Z zr N h0 n0 vu Uw.heap Lu ∧ FrameEnd s ou Uw Lu ({ frames := 1, cells := 1, slots := 15, locals := 16 } : Room).cells ({ frames := 1, cells := 1, slots := 15, locals := 16 } : Room).slots)
  refine own_start (g' := (mkF m 0 #[iv (Int32.ofNat N), .unset] [])) (by first | (simp [entryFrame, mkF, argsToLocals, Value.category, iv, rv]; done) | rfl) ?_
  refine own_go (T' := s₁) (g' := (mkF m 1 #[iv (Int32.ofNat N), .unset] [(.int (Int32.ofNat N))])) (fun t k => XS.iloadN X0.here hx rfl (hb hby own_d_prog_45_method_6_code_0) rfl k) ?_
  obtain ⟨T5, h5, k5, X5, e5, E5, A5, O5, st5⟩ := newR X0 hx hZ hown (hw _ (List.mem_of_getElem? (i := 4) rfl)) (hw _ (List.mem_of_getElem? (i := 5) rfl)) e0 (g := (mkF m 1 #[iv (Int32.ofNat N), .unset] [(.int (Int32.ofNat N))])) rfl (hb hby own_d_prog_45_method_6_code_1) rfl (own_nn (by omega)) (cap := 15) (by rw [own_cl (by omega)]; omega) (by decide) (by decide) (by decide)
  obtain ⟨b5, g5⟩ : ∃ z, z = h0.size := ⟨_, rfl⟩
  rw [← g5] at A5 st5
  have gn5 : n0 ≤ b5 := Nat.le_trans Z0 (Nat.le_of_eq g5.symm)
  have hz5 : n0 ≤ h5.size := Nat.le_trans Z0 E5.1
  have o5 : h0.size ≤ b5 := Nat.le_trans (Keep.refl h0 []).1 (Nat.le_of_eq g5.symm)
  have K5 := (Keep.refl h0 []).ext E5
  have c6 := S_ZERO.ext E5
  have c7 := E_zr.ext E5
  have ne8 : zr ≠ b5 := Nat.ne_of_lt (Nat.lt_of_lt_of_le E_zr.lt (Nat.le_of_eq g5.symm))
  have V5 : Arv Z h5 b5 k5 (.object "java/math/BigDecimal") (Int32.ofNat N) (List.replicate N .null) .null := (Arv.new A5 (own_nn (by omega))).pad (pad_rep [] .null _)
  refine own_go (T' := T5) (g' := (mkF m 4 #[iv (Int32.ofNat N), .unset] [(.ref b5)])) (st5) ?_
  refine own_go (T' := T5) (g' := (mkF m 5 #[iv (Int32.ofNat N), rv b5] [])) (fun t k => XS.astoreN X5.here hx rfl (hb hby own_d_prog_45_method_6_code_4) rfl rfl (l' := #[iv (Int32.ofNat N), rv b5]) rfl k) ?_
  refine own_go (T' := T5) (g' := (mkF m 6 #[iv (Int32.ofNat N), rv b5] [(.ref b5)])) (fun t k => XS.aloadN X5.here hx rfl (hb hby own_d_prog_45_method_6_code_5) rfl rfl k) ?_
  obtain ⟨T9, X9, e9, st9⟩ := getS2 X5 hx hZ hown (host := "") (Or.inl (hw _ (List.mem_of_getElem? (i := 6) rfl))) Via.refl e5 c6 (g := (mkF m 6 #[iv (Int32.ofNat N), rv b5] [(.ref b5)])) rfl (hb hby own_d_prog_45_method_6_code_6)
  refine own_go (T' := T9) (g' := (mkF m 9 #[iv (Int32.ofNat N), rv b5] [(.ref zr), (.ref b5)])) (st9) ?_
  obtain ⟨_, _, ⟨T10, L10, k10, n10⟩, -, X10, ⟨Lc10, hQ10, l10, y10, z10⟩, st10⟩ := Jvm.LawKit.callS X9 hx (y := (⟨"java/util/Arrays", "fill", "([Ljava/lang/Object;Ljava/lang/Object;)V"⟩ : MethodName)) hown (mvT hZ (hw _ (List.mem_of_getElem? (i := 8) rfl))) (mvT hZ (hw _ (List.mem_of_getElem? (i := 9) rfl))) (mvT hZ (hw _ (List.mem_of_getElem? (i := 10) rfl))) (mvT hZ (hw _ (List.mem_of_getElem? (i := 11) rfl))) (by decide) (backOf (W := 0) (own_rfill l Z a0 hw [] b5 zr k5 N h5 n0 hz5 gn5 hN16 O5 V5 c7) hZ (hw _ (List.mem_of_getElem? (i := 11) rfl)) (hw _ (List.mem_of_getElem? (i := 10) rfl)) (by decide) (by decide)) (g := (mkF m 9 #[iv (Int32.ofNat N), rv b5] [(.ref zr), (.ref b5)])) rfl (by rw [hml]; rfl) (argsL := [(.ref b5), (.ref zr)]) (rest := []) (lenOf own_pd0 rfl) rfl (by show 2 * 0 + _ ≤ _; exact Nat.le_of_eq rfl) (hb hby own_d_prog_45_method_6_code_9) (fun _ _ => ⟨rfl, e9, (by decide : 1 + 0 ≤ _), (by decide : 15 + 0 ≤ _)⟩)
  dsimp only [Pt.U, Pt.locs, Pt.cells, Pt.slots] at X10 l10 y10 z10 st10 hQ10
  subst l10 y10 z10
  obtain ⟨rfl, N10q, K_10, V_10⟩ := hQ10
  have N10 := Fr.app N0 N10q
  have c11 := c7.keep K_10
  have hz10 : n0 ≤ T10.heap.size := Nat.le_trans hz5 K_10.1
  have K10 := Keep.trans K5 K_10 (allS (P := fun x => x ∈ _ ∨ h0.size ≤ x) (Or.inr o5) all0)
  refine own_go (T' := T10) (g' := (mkF m 12 #[iv (Int32.ofNat N), rv b5] [])) (st10) ?_
  refine own_go (T' := T10) (g' := (mkF m 13 #[iv (Int32.ofNat N), rv b5] [(.ref b5)])) (fun t k => XS.aloadN X10.here hx rfl (hb hby own_d_prog_45_method_6_code_12) rfl rfl k) ?_
  exact own_ret X10 hlk hx Bd.returns rfl (Or.inr (Or.inr (Or.inr (Or.inr ⟨rfl, rfl, rfl⟩)))) (hb hby own_d_prog_45_method_6_code_13) ⟨b5, _, rfl, N10, o5, K10, V_10⟩ (by decide) (by decide)

theorem own_d_jdk_35_method_57_code_0 : decode jdk_35_method_57_code 0 = .ok (.lload_n 0, 1) := by decide +kernel
theorem own_d_jdk_35_method_57_code_1 : decode jdk_35_method_57_code 1 = .ok (.bipush 63, 2) := by decide +kernel
theorem own_d_jdk_35_method_57_code_3 : decode jdk_35_method_57_code 3 = .ok (.lshr, 1) := by decide +kernel
theorem own_d_jdk_35_method_57_code_4 : decode jdk_35_method_57_code 4 = .ok (.lload_n 0, 1) := by decide +kernel
theorem own_d_jdk_35_method_57_code_5 : decode jdk_35_method_57_code 5 = .ok (.lneg, 1) := by decide +kernel
theorem own_d_jdk_35_method_57_code_6 : decode jdk_35_method_57_code 6 = .ok (.bipush 63, 2) := by decide +kernel
theorem own_d_jdk_35_method_57_code_8 : decode jdk_35_method_57_code 8 = .ok (.lushr, 1) := by decide +kernel
theorem own_d_jdk_35_method_57_code_9 : decode jdk_35_method_57_code 9 = .ok (.lor, 1) := by decide +kernel
theorem own_d_jdk_35_method_57_code_10 : decode jdk_35_method_57_code 10 = .ok (.l2i, 1) := by decide +kernel
theorem own_d_jdk_35_method_57_code_11 : decode jdk_35_method_57_code 11 = .ok (.ireturn, 1) := by decide +kernel
def Q_own_rls (h0 : Heap) (n0 : Nat) (v : Option Value) (h : Heap) (L : List Loc) : Prop := v = some (.int 0) ∧ L = [] ∧ h = h0
set_option maxRecDepth 65536 in
set_option maxHeartbeats 40000000 in
theorem own_rls (l : Launch) (Z : State) (a0 : Array Value) (hw : ∀ d ∈ tables_1, d.before a0 Z = true) (ws : List Jvm.Cond)  (h0 : Heap) (n0 : Nat) (Z0 : n0 ≤ h0.size)  :
    MetFree l (⟨"java/lang/Long", "signum", "(J)I"⟩ : MethodName) (head1 (Jvm.Cond.code (⟨"java/lang/Long", "signum", "(J)I"⟩ : MethodName) jdk_35_method_57_code 2 (some .int) :: ws) ({ frames := 0, cells := 0, slots := 0, locals := 0 } : Room)) (fun au Uu => au = #[(.long (0 : Int64))] ∧ Z.Warmed39 Uu.vm ∧ Uu.heap = h0) (fun _ _ _ _ _ => True) (fun _ Uu ou Uw => ∃ vu Lu, ou = .returned vu ∧ Q_own_rls h0 n0 vu Uw.heap Lu ∧ FrameEnd Uu ou Uw Lu ({ frames := 0, cells := 0, slots := 0, locals := 0 } : Room).cells ({ frames := 0, cells := 0, slots := 0, locals := 0 } : Room).slots) := by
  refine MetFree.of_bodySF (plainFor_of_name (by first | (simp [plainName, overriddenIn]; done) | decide +kernel)) hisR ?_
  intro p e s m args below meth c s₁ Bd hml0 hP hK
  obtain ⟨rfl, hZ, hh⟩ := hP
  have hx := Bd.exec
  have hby := Bd.bytes
  have hlk := Bd.notSynchronized
  have hml : c.maxLocals = 2 := hml0
  have hown : s.vm.findClass "java/lang/Long" = some m.cls := findClass_of_methodNamed Bd.named
  have hnm := (name_of_methodNamed Bd.named Bd.method).1
  have X0 : Stand p l e ({ frames := 0, cells := 0, slots := 0, locals := 0 } : Room) s m #[(.long (0 : Int64))] below meth c s₁ [] 0 0 := Stand.of_body Bd
  have e0 : s₁.heap = h0 := by rw [← hh, Bd.state]; rfl
  have N0 := Fr.nil n0
  show own_Ends p e below s₁ (entryFrame m #[(.long (0 : Int64))] 2) (fun ou Uw => ∃ vu Lu, ou = .returned vu ∧ Q_own_rls h0 n0 vu Uw.heap Lu ∧ FrameEnd s ou Uw Lu ({ frames := 0, cells := 0, slots := 0, locals := 0 } : Room).cells ({ frames := 0, cells := 0, slots := 0, locals := 0 } : Room).slots)
  refine own_start (g' := (mkF m 0 #[.val (.long (0 : Int64)), .second] [])) (by first | (simp [entryFrame, mkF, argsToLocals, Value.category, iv, rv]; done) | rfl) ?_
  refine own_go (T' := s₁) (g' := (mkF m 1 #[.val (.long (0 : Int64)), .second] [(.long (0 : Int64))])) (fun t k => XS.lloadN X0.here hx rfl (hb hby own_d_jdk_35_method_57_code_0) rfl k) ?_
  refine own_go (T' := s₁) (g' := (mkF m 3 #[.val (.long (0 : Int64)), .second] [(.int (63 : Int32)), (.long (0 : Int64))])) (fun t k => XS.bipush X0.here hx rfl (hb hby own_d_jdk_35_method_57_code_1) k) ?_
  refine own_go (T' := s₁) (g' := (mkF m 4 #[.val (.long (0 : Int64)), .second] [(.long ((0 : Int64) >>> ((63 : Int32) &&& 0x3f).toInt64))])) (fun t k => XS.lshr X0.here hx rfl (hb hby own_d_jdk_35_method_57_code_3) rfl k) ?_
  refine own_go (T' := s₁) (g' := (mkF m 5 #[.val (.long (0 : Int64)), .second] [(.long (0 : Int64)), (.long ((0 : Int64) >>> ((63 : Int32) &&& 0x3f).toInt64))])) (fun t k => XS.lloadN X0.here hx rfl (hb hby own_d_jdk_35_method_57_code_4) rfl k) ?_
  refine own_go (T' := s₁) (g' := (mkF m 6 #[.val (.long (0 : Int64)), .second] [(.long (-(0 : Int64))), (.long ((0 : Int64) >>> ((63 : Int32) &&& 0x3f).toInt64))])) (fun t k => XS.lneg X0.here hx rfl (hb hby own_d_jdk_35_method_57_code_5) rfl k) ?_
  refine own_go (T' := s₁) (g' := (mkF m 8 #[.val (.long (0 : Int64)), .second] [(.int (63 : Int32)), (.long (-(0 : Int64))), (.long ((0 : Int64) >>> ((63 : Int32) &&& 0x3f).toInt64))])) (fun t k => XS.bipush X0.here hx rfl (hb hby own_d_jdk_35_method_57_code_6) k) ?_
  refine own_go (T' := s₁) (g' := (mkF m 9 #[.val (.long (0 : Int64)), .second] [(.long (((-(0 : Int64)).toUInt64 >>> ((63 : Int32) &&& 0x3f).toInt64.toUInt64).toInt64)), (.long ((0 : Int64) >>> ((63 : Int32) &&& 0x3f).toInt64))])) (fun t k => XS.lushr X0.here hx rfl (hb hby own_d_jdk_35_method_57_code_8) rfl k) ?_
  refine own_go (T' := s₁) (g' := (mkF m 10 #[.val (.long (0 : Int64)), .second] [(.long (((0 : Int64) >>> ((63 : Int32) &&& 0x3f).toInt64) ||| (((-(0 : Int64)).toUInt64 >>> ((63 : Int32) &&& 0x3f).toInt64.toUInt64).toInt64)))])) (fun t k => XS.lor X0.here hx rfl (hb hby own_d_jdk_35_method_57_code_9) rfl k) ?_
  refine own_go (T' := s₁) (g' := (mkF m 11 #[.val (.long (0 : Int64)), .second] [(.int ((((0 : Int64) >>> ((63 : Int32) &&& 0x3f).toInt64) ||| (((-(0 : Int64)).toUInt64 >>> ((63 : Int32) &&& 0x3f).toInt64.toUInt64).toInt64)).toInt32))])) (fun t k => XS.l2i X0.here hx rfl (hb hby own_d_jdk_35_method_57_code_10) rfl k) ?_
  exact own_ret X0 hlk hx Bd.returns rfl (Or.inl ⟨rfl, Or.inl rfl, _, rfl⟩) (hb hby own_d_jdk_35_method_57_code_11) ⟨congrArg (fun z => some (Value.int z)) (by decide), rfl, e0⟩ (by decide) (by decide)

theorem own_pd1 : parseMethodDescriptor "(J)I" = some ⟨[.long], some .int⟩ := by decide +kernel
theorem own_d_jdk_17_method_58_code_0 : decode jdk_17_method_58_code 0 = .ok (.aload_n 0, 1) := by decide +kernel
theorem own_d_jdk_17_method_58_code_1 : decode jdk_17_method_58_code 1 = .ok (.getfield 24, 3) := by decide +kernel
theorem own_d_jdk_17_method_58_code_4 : decode jdk_17_method_58_code 4 = .ok (.ldc2_w 125, 3) := by decide +kernel
theorem own_d_jdk_17_method_58_code_7 : decode jdk_17_method_58_code 7 = .ok (.lcmp, 1) := by decide +kernel
theorem own_d_jdk_17_method_58_code_8 : decode jdk_17_method_58_code 8 = .ok (.ifCond .eq 13, 3) := by decide +kernel
theorem own_d_jdk_17_method_58_code_11 : decode jdk_17_method_58_code 11 = .ok (.aload_n 0, 1) := by decide +kernel
theorem own_d_jdk_17_method_58_code_12 : decode jdk_17_method_58_code 12 = .ok (.getfield 24, 3) := by decide +kernel
theorem own_d_jdk_17_method_58_code_15 : decode jdk_17_method_58_code 15 = .ok (.invokestatic 596, 3) := by decide +kernel
theorem own_d_jdk_17_method_58_code_18 : decode jdk_17_method_58_code 18 = .ok (.goto 10, 3) := by decide +kernel
theorem own_d_jdk_17_method_58_code_28 : decode jdk_17_method_58_code 28 = .ok (.ireturn, 1) := by decide +kernel
def Q_own_rsg (h0 : Heap) (n0 : Nat) (v : Option Value) (h : Heap) (L : List Loc) : Prop := v = some (.int 0) ∧ L = [] ∧ h = h0
set_option maxRecDepth 65536 in
set_option maxHeartbeats 40000000 in
theorem own_rsg (l : Launch) (Z : State) (a0 : Array Value) (hw : ∀ d ∈ tables_1, d.before a0 Z = true) (ws : List Jvm.Cond) (a : Addr) (h0 : Heap) (n0 : Nat) (Z0 : n0 ≤ h0.size) (F_ic : Fld Z h0 a "java/math/BigDecimal" "intCompact" "J" (.long (0 : Int64))) :
    MetFree l (⟨"java/math/BigDecimal", "signum", "()I"⟩ : MethodName) (head1 (Jvm.Cond.code (⟨"java/math/BigDecimal", "signum", "()I"⟩ : MethodName) jdk_17_method_58_code 1 (some .int) :: ws) ({ frames := 1, cells := 0, slots := 0, locals := 13 } : Room)) (fun au Uu => au = #[(.ref a)] ∧ Z.Warmed39 Uu.vm ∧ Uu.heap = h0) (fun _ _ _ _ _ => True) (fun _ Uu ou Uw => ∃ vu Lu, ou = .returned vu ∧ Q_own_rsg h0 n0 vu Uw.heap Lu ∧ FrameEnd Uu ou Uw Lu ({ frames := 1, cells := 0, slots := 0, locals := 13 } : Room).cells ({ frames := 1, cells := 0, slots := 0, locals := 13 } : Room).slots) := by
  refine MetFree.of_bodySF (plainFor_of_name (by first | (simp [plainName, overriddenIn]; done) | decide +kernel)) hisR ?_
  intro p e s m args below meth c s₁ Bd hml0 hP hK
  obtain ⟨rfl, hZ, hh⟩ := hP
  have hx := Bd.exec
  have hby := Bd.bytes
  have hlk := Bd.notSynchronized
  have hml : c.maxLocals = 1 := hml0
  have hown : s.vm.findClass "java/math/BigDecimal" = some m.cls := findClass_of_methodNamed Bd.named
  have hnm := (name_of_methodNamed Bd.named Bd.method).1
  have X0 : Stand p l e ({ frames := 1, cells := 0, slots := 0, locals := 13 } : Room) s m #[(.ref a)] below meth c s₁ [] 0 0 := Stand.of_body Bd
  have e0 : s₁.heap = h0 := by rw [← hh, Bd.state]; rfl
  have N0 := Fr.nil n0
  show own_Ends p e below s₁ (entryFrame m #[(.ref a)] 1) (fun ou Uw => ∃ vu Lu, ou = .returned vu ∧ Q_own_rsg h0 n0 vu Uw.heap Lu ∧ FrameEnd s ou Uw Lu ({ frames := 1, cells := 0, slots := 0, locals := 13 } : Room).cells ({ frames := 1, cells := 0, slots := 0, locals := 13 } : Room).slots)
  refine own_start (g' := (mkF m 0 #[rv a] [])) (by first | (simp [entryFrame, mkF, argsToLocals, Value.category, iv, rv]; done) | rfl) ?_
  refine own_go (T' := s₁) (g' := (mkF m 1 #[rv a] [(.ref a)])) (fun t k => XS.aloadN X0.here hx rfl (hb hby own_d_jdk_17_method_58_code_0) rfl rfl k) ?_
  obtain ⟨T17, X17, e17, st17⟩ := getF X0 hx hZ hown (host := "") (Or.inl (hw _ (List.mem_of_getElem? (i := 23) rfl))) Via.refl e0 F_ic (g := (mkF m 1 #[rv a] [(.ref a)])) rfl rfl (hb hby own_d_jdk_17_method_58_code_1)
  refine own_go (T' := T17) (g' := (mkF m 4 #[rv a] [(.long (0 : Int64))])) (st17) ?_
  refine own_go (T' := T17) (g' := (mkF m 7 #[rv a] [(.long (-9223372036854775808 : Int64)), (.long (0 : Int64))])) (fun t k => X17.ldc2Long hx hown (mvT hZ (hw _ (List.mem_of_getElem? (i := 25) rfl))) (g := (mkF m 4 #[rv a] [(.long (0 : Int64))])) rfl (hb hby own_d_jdk_17_method_58_code_4) _ k) ?_
  refine own_go (T' := T17) (g' := (mkF m 8 #[rv a] [(.int (lcmpW (0 : Int64) (-9223372036854775808 : Int64)))])) (fun t k => XS.lcmp X17.here hx rfl (hb hby own_d_jdk_17_method_58_code_7) rfl k) ?_
  refine own_go (T' := T17) (g' := (mkF m 11 #[rv a] [])) (fun t k => XS.ifNo X17.here hx rfl (hb hby own_d_jdk_17_method_58_code_8) rfl ((if0 _ _).trans (feq (by decide : ¬ ((lcmpW (0 : Int64) (-9223372036854775808 : Int64)) = (0 : Int32)))).1) k) ?_
  refine own_go (T' := T17) (g' := (mkF m 12 #[rv a] [(.ref a)])) (fun t k => XS.aloadN X17.here hx rfl (hb hby own_d_jdk_17_method_58_code_11) rfl rfl k) ?_
  obtain ⟨T18, X18, e18, st18⟩ := getF X17 hx hZ hown (host := "") (Or.inl (hw _ (List.mem_of_getElem? (i := 23) rfl))) Via.refl e17 F_ic (g := (mkF m 12 #[rv a] [(.ref a)])) rfl rfl (hb hby own_d_jdk_17_method_58_code_12)
  refine own_go (T' := T18) (g' := (mkF m 15 #[rv a] [(.long (0 : Int64))])) (st18) ?_
  obtain ⟨_, _, ⟨T19, L19, k19, n19⟩, -, X19, ⟨Lc19, hQ19, l19, y19, z19⟩, st19⟩ := Jvm.LawKit.callS X18 hx (y := (⟨"java/lang/Long", "signum", "(J)I"⟩ : MethodName)) hown (mvT hZ (hw _ (List.mem_of_getElem? (i := 26) rfl))) (mvT hZ (hw _ (List.mem_of_getElem? (i := 27) rfl))) (mvT hZ (hw _ (List.mem_of_getElem? (i := 28) rfl))) (mvT hZ (hw _ (List.mem_of_getElem? (i := 29) rfl))) (by decide) (backOf (W := 0) (own_rls l Z a0 hw [] h0 n0 Z0) hZ (hw _ (List.mem_of_getElem? (i := 29) rfl)) (hw _ (List.mem_of_getElem? (i := 28) rfl)) (by decide) (by decide)) (g := (mkF m 15 #[rv a] [(.long (0 : Int64))])) rfl (by rw [hml]; rfl) (argsL := [(.long (0 : Int64))]) (rest := []) (lenOf own_pd1 rfl) rfl (by show 2 * 0 + _ ≤ _; exact Nat.le_of_eq rfl) (hb hby own_d_jdk_17_method_58_code_15) (fun _ _ => ⟨rfl, e18, (by decide : 0 + 0 ≤ _), (by decide : 0 + 0 ≤ _)⟩)
  dsimp only [Pt.U, Pt.locs, Pt.cells, Pt.slots] at X19 l19 y19 z19 st19 hQ19
  subst l19 y19 z19
  obtain ⟨rfl, rfl, e19⟩ := hQ19
  have E19q : T19.heap = h0 := e19
  have N19 := Fr.app N0 (Fr.nil n0)
  refine own_go (T' := T19) (g' := (mkF m 18 #[rv a] [(.int (0 : Int32))])) (st19) ?_
  refine own_go (T' := T19) (g' := (mkF m 28 #[rv a] [(.int (0 : Int32))])) (fun t k => XS.goto X19.here hx rfl (pc0 := 18) (pc' := 28) rfl (hb hby own_d_jdk_17_method_58_code_18) (by decide) (by decide) k) ?_
  exact own_ret X19 hlk hx Bd.returns rfl (Or.inl ⟨rfl, Or.inl rfl, _, rfl⟩) (hb hby own_d_jdk_17_method_58_code_28) ⟨rfl, rfl, E19q⟩ (by decide) (by decide)

theorem own_pd2 : parseMethodDescriptor "()I" = some ⟨[], some .int⟩ := by decide +kernel
theorem own_d_method_2_code_0 : decode method_2_code 0 = .ok (.aload_n 0, 1) := by decide +kernel
theorem own_d_method_2_code_1 : decode method_2_code 1 = .ok (.ifnull 14, 3) := by decide +kernel
theorem own_d_method_2_code_4 : decode method_2_code 4 = .ok (.aload_n 0, 1) := by decide +kernel
theorem own_d_method_2_code_5 : decode method_2_code 5 = .ok (.invokevirtual 7, 3) := by decide +kernel
theorem own_d_method_2_code_8 : decode method_2_code 8 = .ok (.ifCond .ne 7, 3) := by decide +kernel
theorem own_d_method_2_code_11 : decode method_2_code 11 = .ok (.iconst 1, 1) := by decide +kernel
theorem own_d_method_2_code_12 : decode method_2_code 12 = .ok (.goto 4, 3) := by decide +kernel
theorem own_d_method_2_code_16 : decode method_2_code 16 = .ok (.ireturn, 1) := by decide +kernel
def Q_own_ris (h0 : Heap) (n0 : Nat) (v : Option Value) (h : Heap) (L : List Loc) : Prop := v = some (.int 1) ∧ L = [] ∧ h = h0
set_option maxRecDepth 65536 in
set_option maxHeartbeats 40000000 in
theorem own_ris (l : Launch) (Z : State) (a0 : Array Value) (hw : ∀ d ∈ tables_1, d.before a0 Z = true) (ws : List Jvm.Cond) (a : Addr) (h0 : Heap) (n0 : Nat) (Z0 : n0 ≤ h0.size) (F_ic : Fld Z h0 a "java/math/BigDecimal" "intCompact" "J" (.long (0 : Int64))) (E_a : Exa Z h0 a "java/math/BigDecimal") :
    MetFree l (⟨"com/example/tankroute/tankroute/solve/ProblemZerosPinLaw", "isZero", "(Ljava/math/BigDecimal;)Z"⟩ : MethodName) (head1 (Jvm.Cond.code (⟨"com/example/tankroute/tankroute/solve/ProblemZerosPinLaw", "isZero", "(Ljava/math/BigDecimal;)Z"⟩ : MethodName) method_2_code 1 (some .boolean) :: ws) ({ frames := 2, cells := 0, slots := 0, locals := 25 } : Room)) (fun au Uu => au = #[(.ref a)] ∧ Z.Warmed39 Uu.vm ∧ Uu.heap = h0) (fun _ _ _ _ _ => True) (fun _ Uu ou Uw => ∃ vu Lu, ou = .returned vu ∧ Q_own_ris h0 n0 vu Uw.heap Lu ∧ FrameEnd Uu ou Uw Lu ({ frames := 2, cells := 0, slots := 0, locals := 25 } : Room).cells ({ frames := 2, cells := 0, slots := 0, locals := 25 } : Room).slots) := by
  refine MetFree.of_bodySF (plainFor_of_name (by first | (simp [plainName, overriddenIn]; done) | decide +kernel)) hisR ?_
  intro p e s m args below meth c s₁ Bd hml0 hP hK
  obtain ⟨rfl, hZ, hh⟩ := hP
  have hx := Bd.exec
  have hby := Bd.bytes
  have hlk := Bd.notSynchronized
  have hml : c.maxLocals = 1 := hml0
  have hown : s.vm.findClass "com/example/tankroute/tankroute/solve/ProblemZerosPinLaw" = some m.cls := findClass_of_methodNamed Bd.named
  have hnm := (name_of_methodNamed Bd.named Bd.method).1
  have X0 : Stand p l e ({ frames := 2, cells := 0, slots := 0, locals := 25 } : Room) s m #[(.ref a)] below meth c s₁ [] 0 0 := Stand.of_body Bd
  have e0 : s₁.heap = h0 := by rw [← hh, Bd.state]; rfl
  have N0 := Fr.nil n0
  show own_Ends p e below s₁ (entryFrame m #[(.ref a)] 1) (fun ou Uw => ∃ vu Lu, ou = .returned vu ∧ Q_own_ris h0 n0 vu Uw.heap Lu ∧ FrameEnd s ou Uw Lu ({ frames := 2, cells := 0, slots := 0, locals := 25 } : Room).cells ({ frames := 2, cells := 0, slots := 0, locals := 25 } : Room).slots)
  refine own_start (g' := (mkF m 0 #[rv a] [])) (by first | (simp [entryFrame, mkF, argsToLocals, Value.category, iv, rv]; done) | rfl) ?_
  refine own_go (T' := s₁) (g' := (mkF m 1 #[rv a] [(.ref a)])) (fun t k => XS.aloadN X0.here hx rfl (hb hby own_d_method_2_code_0) rfl rfl k) ?_
  refine own_go (T' := s₁) (g' := (mkF m 4 #[rv a] [])) (fun t k => XS.ifnullNo X0.here hx rfl (hb hby own_d_method_2_code_1) rfl k) ?_
  refine own_go (T' := s₁) (g' := (mkF m 5 #[rv a] [(.ref a)])) (fun t k => XS.aloadN X0.here hx rfl (hb hby own_d_method_2_code_4) rfl rfl k) ?_
  obtain ⟨cq20, kq20, q20a, q20b, q20c⟩ := isOf hZ e0 E_a
  obtain ⟨_, _, ⟨T20, L20, k20, n20⟩, -, X20, ⟨Lc20, hQ20, l20, y20, z20⟩, st20⟩ := X0.virtualBack hx (y := (⟨"java/math/BigDecimal", "signum", "()I"⟩ : MethodName)) (z := (⟨"java/math/BigDecimal", "signum", "()I"⟩ : MethodName)) hown (mvT hZ (hw _ (List.mem_of_getElem? (i := 18) rfl))) (mvT hZ (hw _ (List.mem_of_getElem? (i := 19) rfl))) (notFace_of_selects (args := #[]) (mvT hZ (hw _ (List.mem_of_getElem? (i := 21) rfl)))) (mvT hZ (hw _ (List.mem_of_getElem? (i := 21) rfl))) (mvT hZ (hw _ (List.mem_of_getElem? (i := 20) rfl))) (by decide) (backOf (W := 0) (own_rsg l Z a0 hw [] a h0 n0 Z0 F_ic) hZ (hw _ (List.mem_of_getElem? (i := 22) rfl)) (hw _ (List.mem_of_getElem? (i := 7) rfl)) (by decide) (by decide)) q20a q20c (g := (mkF m 5 #[rv a] [(.ref a)])) rfl (by rw [hml]; rfl) (Steps.refl _) (argsL := []) (rest := []) (lenOf own_pd2 rfl) rfl (by show 2 * 0 + _ ≤ _; exact Nat.le_of_eq rfl) (hb hby own_d_method_2_code_5) (fun _ _ => ⟨rfl, e0, (by decide : 0 + 0 ≤ _), (by decide : 0 + 0 ≤ _)⟩)
  dsimp only [Pt.U, Pt.locs, Pt.cells, Pt.slots] at X20 l20 y20 z20 st20 hQ20
  subst l20 y20 z20
  obtain ⟨rfl, rfl, e20⟩ := hQ20
  have E20q : T20.heap = h0 := e20
  have N20 := Fr.app N0 (Fr.nil n0)
  refine own_go (T' := T20) (g' := (mkF m 8 #[rv a] [(.int (0 : Int32))])) (fun t k => st20.trans k) ?_
  refine own_go (T' := T20) (g' := (mkF m 11 #[rv a] [])) (fun t k => XS.ifNo X20.here hx rfl (hb hby own_d_method_2_code_8) rfl ((if0 _ _).trans (teq (by decide : ((0 : Int32) = (0 : Int32)))).2) k) ?_
  refine own_go (T' := T20) (g' := (mkF m 12 #[rv a] [(.int (1 : Int32))])) (fun t k => XS.iconst X20.here hx rfl (hb hby own_d_method_2_code_11) k) ?_
  refine own_go (T' := T20) (g' := (mkF m 16 #[rv a] [(.int (1 : Int32))])) (fun t k => XS.goto X20.here hx rfl (pc0 := 12) (pc' := 16) rfl (hb hby own_d_method_2_code_12) (by decide) (by decide) k) ?_
  exact own_ret X20 hlk hx Bd.returns rfl (Or.inl ⟨rfl, Or.inr (Or.inl rfl), _, rfl⟩) (hb hby own_d_method_2_code_16) ⟨rfl, rfl, E20q⟩ (by decide) (by decide)

theorem own_pd3 : parseMethodDescriptor "(I)[Ljava/math/BigDecimal;" = some ⟨[.int], some (.array (.object "java/math/BigDecimal"))⟩ := by decide +kernel
theorem own_pd4 : parseMethodDescriptor "(Ljava/math/BigDecimal;)Z" = some ⟨[(.object "java/math/BigDecimal")], some .boolean⟩ := by decide +kernel
def Q_own_law (h0 : Heap) (n0 : Nat) (v : Option Value) (h : Heap) (L : List Loc) : Prop := v = some (.int 1) ∧ Fr n0 L
set_option maxRecDepth 65536 in
set_option maxHeartbeats 40000000 in
theorem own_law (l : Launch) (Z : State) (a0 : Array Value) (hw : ∀ d ∈ tables_1, d.before a0 Z = true) (ws : List Jvm.Cond) (x0 x1 : Int32) (zr : Addr) (h0 : Heap) (n0 : Nat) (Z0 : n0 ≤ h0.size) (S_ZERO : Sta Z h0 "java/math/BigDecimal" "ZERO" "Ljava/math/BigDecimal;" (.ref zr)) (E_zr : Exa Z h0 zr "java/math/BigDecimal") (F_ic : Fld Z h0 zr "java/math/BigDecimal" "intCompact" "J" (.long (0 : Int64))) :
    MetFree l x (head1 (Jvm.Cond.code x code maxLocals ret :: ws) room_1) (fun au Uu => au = #[(.int x0), (.int x1)] ∧ Z.Warmed39 Uu.vm ∧ Uu.heap = h0) (fun _ _ _ _ _ => True) (fun _ Uu ou Uw => ∃ vu Lu, ou = .returned vu ∧ Q_own_law h0 n0 vu Uw.heap Lu ∧ FrameEnd Uu ou Uw Lu 16 128) := by
  refine MetFree.of_bodySF (plainFor_of_name (by first | (simp [plainName, overriddenIn]; done) | decide +kernel)) hisR ?_
  intro p e s m args below meth c s₁ Bd hml0 hP hK
  obtain ⟨rfl, hZ, hh⟩ := hP
  have hx := Bd.exec
  have hby := Bd.bytes
  have hlk := Bd.notSynchronized
  have hml : c.maxLocals = 6 := hml0
  have hown : s.vm.findClass "com/example/tankroute/tankroute/solve/ProblemZerosPinLaw" = some m.cls := findClass_of_methodNamed Bd.named
  have hnm := (name_of_methodNamed Bd.named Bd.method).1
  have X0 : Stand p l e room_1 s m #[(.int x0), (.int x1)] below meth c s₁ [] 0 0 := Stand.of_body Bd
  have e0 : s₁.heap = h0 := by rw [← hh, Bd.state]; rfl
  have N0 := Fr.nil n0
  show own_Ends p e below s₁ (entryFrame m #[(.int x0), (.int x1)] maxLocals) (fun ou Uw => ∃ vu Lu, ou = .returned vu ∧ Q_own_law h0 n0 vu Uw.heap Lu ∧ FrameEnd s ou Uw Lu 16 128)
  refine own_start (g' := (mkF m 0 #[iv x0, iv x1, .unset, .unset, .unset, .unset] [])) (by first | (simp [entryFrame, mkF, argsToLocals, Value.category, iv, rv, maxLocals]; done) | rfl) ?_
  refine own_go (T' := s₁) (g' := (mkF m 1 #[iv x0, iv x1, .unset, .unset, .unset, .unset] [(.int x0)])) (fun t k => XS.iloadN X0.here hx rfl (hb hby at_0) rfl k) ?_
  refine own_go (T' := s₁) (g' := (mkF m 3 #[iv x0, iv x1, .unset, .unset, .unset, .unset] [(.int (15 : Int32)), (.int x0)])) (fun t k => XS.bipush X0.here hx rfl (hb hby at_1) k) ?_
  refine own_go (T' := s₁) (g' := (mkF m 4 #[iv x0, iv x1, .unset, .unset, .unset, .unset] [(.int (x0 &&& (15 : Int32)))])) (fun t k => XS.iand X0.here hx rfl (hb hby at_3) rfl k) ?_
  obtain ⟨N, hN, hN16⟩ := own_msk x0
  rw [hN]
  refine own_go (T' := s₁) (g' := (mkF m 5 #[iv x0, iv x1, iv (Int32.ofNat N), .unset, .unset, .unset] [])) (fun t k => XS.istoreN X0.here hx rfl (hb hby at_4) rfl (l' := #[iv x0, iv x1, iv (Int32.ofNat N), .unset, .unset, .unset]) rfl k) ?_
  refine own_go (T' := s₁) (g' := (mkF m 6 #[iv x0, iv x1, iv (Int32.ofNat N), .unset, .unset, .unset] [(.int (Int32.ofNat N))])) (fun t k => XS.iloadN X0.here hx rfl (hb hby at_5) rfl k) ?_
  obtain ⟨_, _, ⟨T21, L21, k21, n21⟩, -, X21, ⟨Lc21, hQ21, l21, y21, z21⟩, st21⟩ := Jvm.LawKit.callS X0 hx (y := (⟨"com/example/tankroute/tankroute/solve/Problem", "zeros", "(I)[Ljava/math/BigDecimal;"⟩ : MethodName)) hown (mvT hZ (hw _ (List.mem_of_getElem? (i := 0) rfl))) (mvT hZ (hw _ (List.mem_of_getElem? (i := 1) rfl))) (mvT hZ (hw _ (List.mem_of_getElem? (i := 2) rfl))) (mvT hZ (hw _ (List.mem_of_getElem? (i := 3) rfl))) (by decide) (backOf (W := 0) (own_rzeros l Z a0 hw [] zr N h0 n0 Z0 hN16 S_ZERO E_zr) hZ (hw _ (List.mem_of_getElem? (i := 3) rfl)) (hw _ (List.mem_of_getElem? (i := 2) rfl)) (by decide) (by decide)) (g := (mkF m 6 #[iv x0, iv x1, iv (Int32.ofNat N), .unset, .unset, .unset] [(.int (Int32.ofNat N))])) rfl (by rw [hml]; rfl) (argsL := [(.int (Int32.ofNat N))]) (rest := []) (lenOf own_pd3 rfl) rfl (by show 2 * 0 + _ ≤ _; exact Nat.le_of_eq rfl) (hb hby at_6) (fun _ _ => ⟨rfl, e0, (by decide : 0 + 1 ≤ _), (by decide : 0 + 15 ≤ _)⟩)
  dsimp only [Pt.U, Pt.locs, Pt.cells, Pt.slots] at X21 l21 y21 z21 st21 hQ21
  subst l21 y21 z21
  obtain ⟨b_21, k_21, rfl, N21q, ob_21, K_21, V_21⟩ := hQ21
  have N21 := Fr.app N0 N21q
  have gq21 : n0 ≤ b_21 := Nat.le_trans Z0 ob_21
  have c22 := own_sta_keep S_ZERO K_21 own_ns0
  have c23 := E_zr.keep K_21
  have c24 := F_ic.keep K_21 nin0
  have hz21 : n0 ≤ T21.heap.size := Nat.le_trans Z0 K_21.1
  refine own_go (T' := T21) (g' := (mkF m 9 #[iv x0, iv x1, iv (Int32.ofNat N), .unset, .unset, .unset] [(.ref b_21)])) (st21) ?_
  refine own_go (T' := T21) (g' := (mkF m 10 #[iv x0, iv x1, iv (Int32.ofNat N), rv b_21, .unset, .unset] [])) (fun t k => XS.astoreN X21.here hx rfl (hb hby at_9) rfl rfl (l' := #[iv x0, iv x1, iv (Int32.ofNat N), rv b_21, .unset, .unset]) rfl k) ?_
  refine own_go (T' := T21) (g' := (mkF m 11 #[iv x0, iv x1, iv (Int32.ofNat N), rv b_21, .unset, .unset] [(.int (Int32.ofNat N))])) (fun t k => XS.iloadN X21.here hx rfl (hb hby at_10) rfl k) ?_
  obtain ⟨_, _, ⟨T25, L25, k25, n25⟩, -, X25, ⟨Lc25, hQ25, l25, y25, z25⟩, st25⟩ := Jvm.LawKit.callS X21 hx (y := (⟨"com/example/tankroute/tankroute/solve/Problem", "zeros", "(I)[Ljava/math/BigDecimal;"⟩ : MethodName)) hown (mvT hZ (hw _ (List.mem_of_getElem? (i := 0) rfl))) (mvT hZ (hw _ (List.mem_of_getElem? (i := 1) rfl))) (mvT hZ (hw _ (List.mem_of_getElem? (i := 2) rfl))) (mvT hZ (hw _ (List.mem_of_getElem? (i := 3) rfl))) (by decide) (backOf (W := 0) (own_rzeros l Z a0 hw [] zr N T21.heap n0 hz21 hN16 c22 c23) hZ (hw _ (List.mem_of_getElem? (i := 3) rfl)) (hw _ (List.mem_of_getElem? (i := 2) rfl)) (by decide) (by decide)) (g := (mkF m 11 #[iv x0, iv x1, iv (Int32.ofNat N), rv b_21, .unset, .unset] [(.int (Int32.ofNat N))])) rfl (by rw [hml]; rfl) (argsL := [(.int (Int32.ofNat N))]) (rest := []) (lenOf own_pd3 rfl) rfl (by show 2 * 0 + _ ≤ _; exact Nat.le_of_eq rfl) (hb hby at_11) (fun _ _ => ⟨rfl, rfl, (by decide : 1 + 1 ≤ _), (by decide : 15 + 15 ≤ _)⟩)
  dsimp only [Pt.U, Pt.locs, Pt.cells, Pt.slots] at X25 l25 y25 z25 st25 hQ25
  subst l25 y25 z25
  obtain ⟨b_25, k_25, rfl, N25q, ob_25, K_25, V_25⟩ := hQ25
  have N25 := Fr.app N21 N25q
  have gq25 : n0 ≤ b_25 := Nat.le_trans hz21 ob_25
  have nq25 : b_21 ≠ b_25 := Nat.ne_of_lt (Nat.lt_of_lt_of_le V_21.lt ob_25)
  have c26 := own_sta_keep c22 K_25 own_ns0
  have c27 := c23.keep K_25
  have c28 := c24.keep K_25 nin0
  have c29 := V_21.keep K_25 nin0
  have hz25 : n0 ≤ T25.heap.size := Nat.le_trans hz21 K_25.1
  refine own_go (T' := T25) (g' := (mkF m 14 #[iv x0, iv x1, iv (Int32.ofNat N), rv b_21, .unset, .unset] [(.ref b_25)])) (st25) ?_
  refine own_go (T' := T25) (g' := (mkF m 16 #[iv x0, iv x1, iv (Int32.ofNat N), rv b_21, rv b_25, .unset] [])) (fun t k => XS.astore X25.here hx rfl (hb hby at_14) rfl rfl (l' := #[iv x0, iv x1, iv (Int32.ofNat N), rv b_21, rv b_25, .unset]) rfl k) ?_
  refine own_go (T' := T25) (g' := (mkF m 17 #[iv x0, iv x1, iv (Int32.ofNat N), rv b_21, rv b_25, .unset] [(.ref b_21)])) (fun t k => XS.aloadN X25.here hx rfl (hb hby at_16) rfl rfl k) ?_
  obtain ⟨cl31, Ar31, -, Sz31, Nn31, -, -⟩ := id c29
  refine own_go (T' := T25) (g' := (mkF m 18 #[iv x0, iv x1, iv (Int32.ofNat N), rv b_21, rv b_25, .unset] [(.int (Int32.ofNat N))])) (fun t k => X25.arraylength hx (by exact Ar31.1) (State.isArrayOf_alike hZ.alike Ar31.2.1) (g := (mkF m 17 #[iv x0, iv x1, iv (Int32.ofNat N), rv b_21, rv b_25, .unset] [(.ref b_21)])) rfl rfl (hb hby at_17) _ (by rw [len_of Sz31 Nn31]; exact k)) ?_
  refine own_go (T' := T25) (g' := (mkF m 19 #[iv x0, iv x1, iv (Int32.ofNat N), rv b_21, rv b_25, .unset] [(.int (Int32.ofNat N)), (.int (Int32.ofNat N))])) (fun t k => XS.iloadN X25.here hx rfl (hb hby at_18) rfl k) ?_
  refine own_go (T' := T25) (g' := (mkF m 22 #[iv x0, iv x1, iv (Int32.ofNat N), rv b_21, rv b_25, .unset] [])) (fun t k => XS.icmpNo X25.here hx rfl (hb hby at_19) rfl (teq (rfl : (Int32.ofNat N) = (Int32.ofNat N))).2 k) ?_
  refine own_go (T' := T25) (g' := (mkF m 24 #[iv x0, iv x1, iv (Int32.ofNat N), rv b_21, rv b_25, .unset] [(.ref b_25)])) (fun t k => XS.aload X25.here hx rfl (hb hby at_22) rfl rfl k) ?_
  obtain ⟨cl32, Ar32, -, Sz32, Nn32, -, -⟩ := id V_25
  refine own_go (T' := T25) (g' := (mkF m 25 #[iv x0, iv x1, iv (Int32.ofNat N), rv b_21, rv b_25, .unset] [(.int (Int32.ofNat N))])) (fun t k => X25.arraylength hx (by exact Ar32.1) (State.isArrayOf_alike hZ.alike Ar32.2.1) (g := (mkF m 24 #[iv x0, iv x1, iv (Int32.ofNat N), rv b_21, rv b_25, .unset] [(.ref b_25)])) rfl rfl (hb hby at_24) _ (by rw [len_of Sz32 Nn32]; exact k)) ?_
  refine own_go (T' := T25) (g' := (mkF m 26 #[iv x0, iv x1, iv (Int32.ofNat N), rv b_21, rv b_25, .unset] [(.int (Int32.ofNat N)), (.int (Int32.ofNat N))])) (fun t k => XS.iloadN X25.here hx rfl (hb hby at_25) rfl k) ?_
  refine own_go (T' := T25) (g' := (mkF m 31 #[iv x0, iv x1, iv (Int32.ofNat N), rv b_21, rv b_25, .unset] [])) (fun t k => XS.icmpYes X25.here hx rfl (pc0 := 26) (pc' := 31) rfl (hb hby at_26) rfl (teq (rfl : (Int32.ofNat N) = (Int32.ofNat N))).1 (by decide) (by decide) k) ?_
  refine own_go (T' := T25) (g' := (mkF m 32 #[iv x0, iv x1, iv (Int32.ofNat N), rv b_21, rv b_25, .unset] [(.int (Int32.ofNat N))])) (fun t k => XS.iloadN X25.here hx rfl (hb hby at_31) rfl k) ?_
  by_cases hc33 : (Int32.ofNat N) = (0 : Int32)
  · refine own_go (T' := T25) (g' := (mkF m 35 #[iv x0, iv x1, iv (Int32.ofNat N), rv b_21, rv b_25, .unset] [])) (fun t k => XS.ifNo X25.here hx rfl (hb hby at_32) rfl ((if0 _ _).trans (teq hc33).2) k) ?_
    refine own_go (T' := T25) (g' := (mkF m 36 #[iv x0, iv x1, iv (Int32.ofNat N), rv b_21, rv b_25, .unset] [(.int (1 : Int32))])) (fun t k => XS.iconst X25.here hx rfl (hb hby at_35) k) ?_
    exact own_ret X25 hlk hx Bd.returns rfl (Or.inl ⟨rfl, Or.inr (Or.inl rfl), _, rfl⟩) (hb hby at_36) (by first | exact ⟨rfl, N25⟩ | (rw [Fr] at *; exact ⟨rfl, by simpa using N25⟩)) (by decide) (by decide)
  · refine own_go (T' := T25) (g' := (mkF m 37 #[iv x0, iv x1, iv (Int32.ofNat N), rv b_21, rv b_25, .unset] [])) (fun t k => XS.ifYes X25.here hx rfl (pc0 := 32) (pc' := 37) rfl (hb hby at_32) rfl ((if0 _ _).trans (feq hc33).2) (by decide) (by decide) k) ?_
    refine own_go (T' := T25) (g' := (mkF m 38 #[iv x0, iv x1, iv (Int32.ofNat N), rv b_21, rv b_25, .unset] [(.ref b_21)])) (fun t k => XS.aloadN X25.here hx rfl (hb hby at_37) rfl rfl k) ?_
    refine own_go (T' := T25) (g' := (mkF m 40 #[iv x0, iv x1, iv (Int32.ofNat N), rv b_21, rv b_25, .unset] [(.ref b_25), (.ref b_21)])) (fun t k => XS.aload X25.here hx rfl (hb hby at_38) rfl rfl k) ?_
    refine own_go (T' := T25) (g' := (mkF m 45 #[iv x0, iv x1, iv (Int32.ofNat N), rv b_21, rv b_25, .unset] [])) (fun t k => Jvm.RoadKit.acmp (g := (mkF m 40 #[iv x0, iv x1, iv (Int32.ofNat N), rv b_21, rv b_25, .unset] [(.ref b_25), (.ref b_21)])) X25 hx rfl (x := (.ref b_21)) (y := (.ref b_25)) rfl rfl (pc0 := 40) (pc' := 45) (same := false) rfl (hb hby at_40) rfl (decide_eq_false fun q => nq25 (Value.ref.inj q)) (by decide) (by decide) k) ?_
    refine own_go (T' := T25) (g' := (mkF m 46 #[iv x0, iv x1, iv (Int32.ofNat N), rv b_21, rv b_25, .unset] [(.int x1)])) (fun t k => XS.iloadN X25.here hx rfl (hb hby at_45) rfl k) ?_
    refine own_go (T' := T25) (g' := (mkF m 48 #[iv x0, iv x1, iv (Int32.ofNat N), rv b_21, rv b_25, .unset] [(.int (2147483647 : Int32)), (.int x1)])) (fun t k => X25.ldcInt hx hown (mvT hZ (hw _ (List.mem_of_getElem? (i := 13) rfl))) (g := (mkF m 46 #[iv x0, iv x1, iv (Int32.ofNat N), rv b_21, rv b_25, .unset] [(.int x1)])) rfl (hb hby at_46) _ k) ?_
    refine own_go (T' := T25) (g' := (mkF m 49 #[iv x0, iv x1, iv (Int32.ofNat N), rv b_21, rv b_25, .unset] [(.int (x1 &&& (2147483647 : Int32)))])) (fun t k => XS.iand X25.here hx rfl (hb hby at_48) rfl k) ?_
    refine own_go (T' := T25) (g' := (mkF m 50 #[iv x0, iv x1, iv (Int32.ofNat N), rv b_21, rv b_25, .unset] [(.int (Int32.ofNat N)), (.int (x1 &&& (2147483647 : Int32)))])) (fun t k => XS.iloadN X25.here hx rfl (hb hby at_49) rfl k) ?_
    refine own_go (T' := T25) (g' := (mkF m 51 #[iv x0, iv x1, iv (Int32.ofNat N), rv b_21, rv b_25, .unset] [(.int ((x1 &&& (2147483647 : Int32)) % (Int32.ofNat N)))])) (fun t k => Jvm.RoadKit.iremM X25 hx rfl (hb hby at_50) rfl hc33 k) ?_
    obtain ⟨i, hi', hi⟩ := own_rem (x := x1) hN16 hc33
    rw [hi']
    have hNp := own_pos hc33
    refine own_go (T' := T25) (g' := (mkF m 53 #[iv x0, iv x1, iv (Int32.ofNat N), rv b_21, rv b_25, iv (Int32.ofNat i)] [])) (fun t k => XS.istore X25.here hx rfl (hb hby at_51) rfl (l' := #[iv x0, iv x1, iv (Int32.ofNat N), rv b_21, rv b_25, iv (Int32.ofNat i)]) rfl k) ?_
    refine own_go (T' := T25) (g' := (mkF m 54 #[iv x0, iv x1, iv (Int32.ofNat N), rv b_21, rv b_25, iv (Int32.ofNat i)] [(.ref b_21)])) (fun t k => XS.aloadN X25.here hx rfl (hb hby at_53) rfl rfl k) ?_
    refine own_go (T' := T25) (g' := (mkF m 56 #[iv x0, iv x1, iv (Int32.ofNat N), rv b_21, rv b_25, iv (Int32.ofNat i)] [(.int (Int32.ofNat i)), (.ref b_21)])) (fun t k => XS.iload X25.here hx rfl (hb hby at_54) rfl k) ?_
    obtain ⟨cl34, Ar34, -, Sz34, Nn34, Ha34, -⟩ := id c29
    have hin34 : ¬ ((Int32.ofNat i) < 0 ∨ cl34.slots.size ≤ ((Int32.ofNat i)).toNatClampNeg) := inb_of Sz34 (own_inb hi (by omega))
    have hat34 : cl34.slots[((Int32.ofNat i)).toNatClampNeg]? = some (.ref zr) := Ha34.at hin34 (by rw [own_cl (by omega)]; exact own_rep hi)
    refine own_go (T' := T25) (g' := (mkF m 57 #[iv x0, iv x1, iv (Int32.ofNat N), rv b_21, rv b_25, iv (Int32.ofNat i)] [(.ref zr)])) (fun t k => X25.aaload hx (j := (Int32.ofNat i)) (v := (.ref zr)) (by exact Ar34.1) (State.isArrayOf_alike hZ.alike Ar34.2.1) rfl Ar34.2.2 hin34 hat34 (g := (mkF m 56 #[iv x0, iv x1, iv (Int32.ofNat N), rv b_21, rv b_25, iv (Int32.ofNat i)] [(.int (Int32.ofNat i)), (.ref b_21)])) rfl rfl (hb hby at_56) _ k) ?_
    obtain ⟨_, _, ⟨T35, L35, k35, n35⟩, -, X35, ⟨Lc35, hQ35, l35, y35, z35⟩, st35⟩ := Jvm.LawKit.callS X25 hx (y := (⟨"com/example/tankroute/tankroute/solve/ProblemZerosPinLaw", "isZero", "(Ljava/math/BigDecimal;)Z"⟩ : MethodName)) hown (mvT hZ (hw _ (List.mem_of_getElem? (i := 14) rfl))) (mvT hZ (hw _ (List.mem_of_getElem? (i := 15) rfl))) (mvT hZ (hw _ (List.mem_of_getElem? (i := 16) rfl))) (mvT hZ (hw _ (List.mem_of_getElem? (i := 17) rfl))) (by decide) (backOf (W := 0) (own_ris l Z a0 hw [] zr T25.heap n0 hz25 c28 c27) hZ (hw _ (List.mem_of_getElem? (i := 17) rfl)) (hw _ (List.mem_of_getElem? (i := 16) rfl)) (by decide) (by decide)) (g := (mkF m 57 #[iv x0, iv x1, iv (Int32.ofNat N), rv b_21, rv b_25, iv (Int32.ofNat i)] [(.ref zr)])) rfl (by rw [hml]; rfl) (argsL := [(.ref zr)]) (rest := []) (lenOf own_pd4 rfl) rfl (by show 2 * 0 + _ ≤ _; exact Nat.le_of_eq rfl) (hb hby at_57) (fun _ _ => ⟨rfl, rfl, (by decide : 2 + 0 ≤ _), (by decide : 30 + 0 ≤ _)⟩)
    dsimp only [Pt.U, Pt.locs, Pt.cells, Pt.slots] at X35 l35 y35 z35 st35 hQ35
    subst l35 y35 z35
    obtain ⟨rfl, rfl, e35⟩ := hQ35
    have E35q : T35.heap = T25.heap := e35
    have N35 := Fr.app N25 (Fr.nil n0)
    refine own_go (T' := T35) (g' := (mkF m 60 #[iv x0, iv x1, iv (Int32.ofNat N), rv b_21, rv b_25, iv (Int32.ofNat i)] [(.int (1 : Int32))])) (st35) ?_
    refine own_go (T' := T35) (g' := (mkF m 63 #[iv x0, iv x1, iv (Int32.ofNat N), rv b_21, rv b_25, iv (Int32.ofNat i)] [])) (fun t k => XS.ifNo X35.here hx rfl (hb hby at_60) rfl ((if0 _ _).trans (feq (by decide : ¬ ((1 : Int32) = (0 : Int32)))).1) k) ?_
    refine own_go (T' := T35) (g' := (mkF m 64 #[iv x0, iv x1, iv (Int32.ofNat N), rv b_21, rv b_25, iv (Int32.ofNat i)] [(.ref b_21)])) (fun t k => XS.aloadN X35.here hx rfl (hb hby at_63) rfl rfl k) ?_
    refine own_go (T' := T35) (g' := (mkF m 65 #[iv x0, iv x1, iv (Int32.ofNat N), rv b_21, rv b_25, iv (Int32.ofNat i)] [(.int (0 : Int32)), (.ref b_21)])) (fun t k => XS.iconst X35.here hx rfl (hb hby at_64) k) ?_
    obtain ⟨cl36, Ar36, -, Sz36, Nn36, Ha36, -⟩ := id c29
    have hin36 : ¬ ((0 : Int32) < 0 ∨ cl36.slots.size ≤ ((0 : Int32)).toNatClampNeg) := inb_of Sz36 (own_inb (i := 0) hNp (by omega))
    have hat36 : cl36.slots[((0 : Int32)).toNatClampNeg]? = some (.ref zr) := Ha36.at hin36 (own_rep hNp)
    refine own_go (T' := T35) (g' := (mkF m 66 #[iv x0, iv x1, iv (Int32.ofNat N), rv b_21, rv b_25, iv (Int32.ofNat i)] [(.ref zr)])) (fun t k => X35.aaload hx (j := (0 : Int32)) (v := (.ref zr)) (by rw [E35q]; exact Ar36.1) (State.isArrayOf_alike hZ.alike Ar36.2.1) rfl Ar36.2.2 hin36 hat36 (g := (mkF m 65 #[iv x0, iv x1, iv (Int32.ofNat N), rv b_21, rv b_25, iv (Int32.ofNat i)] [(.int (0 : Int32)), (.ref b_21)])) rfl rfl (hb hby at_65) _ k) ?_
    obtain ⟨_, _, ⟨T37, L37, k37, n37⟩, -, X37, ⟨Lc37, hQ37, l37, y37, z37⟩, st37⟩ := Jvm.LawKit.callS X35 hx (y := (⟨"com/example/tankroute/tankroute/solve/ProblemZerosPinLaw", "isZero", "(Ljava/math/BigDecimal;)Z"⟩ : MethodName)) hown (mvT hZ (hw _ (List.mem_of_getElem? (i := 14) rfl))) (mvT hZ (hw _ (List.mem_of_getElem? (i := 15) rfl))) (mvT hZ (hw _ (List.mem_of_getElem? (i := 16) rfl))) (mvT hZ (hw _ (List.mem_of_getElem? (i := 17) rfl))) (by decide) (backOf (W := 0) (own_ris l Z a0 hw [] zr T25.heap n0 hz25 c28 c27) hZ (hw _ (List.mem_of_getElem? (i := 17) rfl)) (hw _ (List.mem_of_getElem? (i := 16) rfl)) (by decide) (by decide)) (g := (mkF m 66 #[iv x0, iv x1, iv (Int32.ofNat N), rv b_21, rv b_25, iv (Int32.ofNat i)] [(.ref zr)])) rfl (by rw [hml]; rfl) (argsL := [(.ref zr)]) (rest := []) (lenOf own_pd4 rfl) rfl (by show 2 * 0 + _ ≤ _; exact Nat.le_of_eq rfl) (hb hby at_66) (fun _ _ => ⟨rfl, E35q, (by decide : 2 + 0 ≤ _), (by decide : 30 + 0 ≤ _)⟩)
    dsimp only [Pt.U, Pt.locs, Pt.cells, Pt.slots] at X37 l37 y37 z37 st37 hQ37
    subst l37 y37 z37
    obtain ⟨rfl, rfl, e37⟩ := hQ37
    have E37q : T37.heap = T25.heap := e37
    have N37 := Fr.app N35 (Fr.nil n0)
    refine own_go (T' := T37) (g' := (mkF m 69 #[iv x0, iv x1, iv (Int32.ofNat N), rv b_21, rv b_25, iv (Int32.ofNat i)] [(.int (1 : Int32))])) (st37) ?_
    refine own_go (T' := T37) (g' := (mkF m 72 #[iv x0, iv x1, iv (Int32.ofNat N), rv b_21, rv b_25, iv (Int32.ofNat i)] [])) (fun t k => XS.ifNo X37.here hx rfl (hb hby at_69) rfl ((if0 _ _).trans (feq (by decide : ¬ ((1 : Int32) = (0 : Int32)))).1) k) ?_
    refine own_go (T' := T37) (g' := (mkF m 73 #[iv x0, iv x1, iv (Int32.ofNat N), rv b_21, rv b_25, iv (Int32.ofNat i)] [(.ref b_21)])) (fun t k => XS.aloadN X37.here hx rfl (hb hby at_72) rfl rfl k) ?_
    refine own_go (T' := T37) (g' := (mkF m 74 #[iv x0, iv x1, iv (Int32.ofNat N), rv b_21, rv b_25, iv (Int32.ofNat i)] [(.int (Int32.ofNat N)), (.ref b_21)])) (fun t k => XS.iloadN X37.here hx rfl (hb hby at_73) rfl k) ?_
    refine own_go (T' := T37) (g' := (mkF m 75 #[iv x0, iv x1, iv (Int32.ofNat N), rv b_21, rv b_25, iv (Int32.ofNat i)] [(.int (1 : Int32)), (.int (Int32.ofNat N)), (.ref b_21)])) (fun t k => XS.iconst X37.here hx rfl (hb hby at_74) k) ?_
    refine own_go (T' := T37) (g' := (mkF m 76 #[iv x0, iv x1, iv (Int32.ofNat N), rv b_21, rv b_25, iv (Int32.ofNat i)] [(.int ((Int32.ofNat N) - (1 : Int32))), (.ref b_21)])) (fun t k => XS.isub X37.here hx rfl (hb hby at_75) rfl k) ?_
    rw [own_pred hNp]
    obtain ⟨cl38, Ar38, -, Sz38, Nn38, Ha38, -⟩ := id c29
    have hin38 : ¬ ((Int32.ofNat (N - 1)) < 0 ∨ cl38.slots.size ≤ ((Int32.ofNat (N - 1))).toNatClampNeg) := inb_of Sz38 (own_inb (by omega : N - 1 < N) (by omega))
    have hat38 : cl38.slots[((Int32.ofNat (N - 1))).toNatClampNeg]? = some (.ref zr) := Ha38.at hin38 (by rw [own_cl (by omega)]; exact own_rep (by omega))
    refine own_go (T' := T37) (g' := (mkF m 77 #[iv x0, iv x1, iv (Int32.ofNat N), rv b_21, rv b_25, iv (Int32.ofNat i)] [(.ref zr)])) (fun t k => X37.aaload hx (j := (Int32.ofNat (N - 1))) (v := (.ref zr)) (by rw [E37q]; exact Ar38.1) (State.isArrayOf_alike hZ.alike Ar38.2.1) rfl Ar38.2.2 hin38 hat38 (g := (mkF m 76 #[iv x0, iv x1, iv (Int32.ofNat N), rv b_21, rv b_25, iv (Int32.ofNat i)] [(.int (Int32.ofNat (N - 1))), (.ref b_21)])) rfl rfl (hb hby at_76) _ k) ?_
    obtain ⟨_, _, ⟨T39, L39, k39, n39⟩, -, X39, ⟨Lc39, hQ39, l39, y39, z39⟩, st39⟩ := Jvm.LawKit.callS X37 hx (y := (⟨"com/example/tankroute/tankroute/solve/ProblemZerosPinLaw", "isZero", "(Ljava/math/BigDecimal;)Z"⟩ : MethodName)) hown (mvT hZ (hw _ (List.mem_of_getElem? (i := 14) rfl))) (mvT hZ (hw _ (List.mem_of_getElem? (i := 15) rfl))) (mvT hZ (hw _ (List.mem_of_getElem? (i := 16) rfl))) (mvT hZ (hw _ (List.mem_of_getElem? (i := 17) rfl))) (by decide) (backOf (W := 0) (own_ris l Z a0 hw [] zr T25.heap n0 hz25 c28 c27) hZ (hw _ (List.mem_of_getElem? (i := 17) rfl)) (hw _ (List.mem_of_getElem? (i := 16) rfl)) (by decide) (by decide)) (g := (mkF m 77 #[iv x0, iv x1, iv (Int32.ofNat N), rv b_21, rv b_25, iv (Int32.ofNat i)] [(.ref zr)])) rfl (by rw [hml]; rfl) (argsL := [(.ref zr)]) (rest := []) (lenOf own_pd4 rfl) rfl (by show 2 * 0 + _ ≤ _; exact Nat.le_of_eq rfl) (hb hby at_77) (fun _ _ => ⟨rfl, E37q, (by decide : 2 + 0 ≤ _), (by decide : 30 + 0 ≤ _)⟩)
    dsimp only [Pt.U, Pt.locs, Pt.cells, Pt.slots] at X39 l39 y39 z39 st39 hQ39
    subst l39 y39 z39
    obtain ⟨rfl, rfl, e39⟩ := hQ39
    have E39q : T39.heap = T25.heap := e39
    have N39 := Fr.app N37 (Fr.nil n0)
    refine own_go (T' := T39) (g' := (mkF m 80 #[iv x0, iv x1, iv (Int32.ofNat N), rv b_21, rv b_25, iv (Int32.ofNat i)] [(.int (1 : Int32))])) (st39) ?_
    refine own_go (T' := T39) (g' := (mkF m 83 #[iv x0, iv x1, iv (Int32.ofNat N), rv b_21, rv b_25, iv (Int32.ofNat i)] [])) (fun t k => XS.ifNo X39.here hx rfl (hb hby at_80) rfl ((if0 _ _).trans (feq (by decide : ¬ ((1 : Int32) = (0 : Int32)))).1) k) ?_
    refine own_go (T' := T39) (g' := (mkF m 85 #[iv x0, iv x1, iv (Int32.ofNat N), rv b_21, rv b_25, iv (Int32.ofNat i)] [(.ref b_25)])) (fun t k => XS.aload X39.here hx rfl (hb hby at_83) rfl rfl k) ?_
    refine own_go (T' := T39) (g' := (mkF m 87 #[iv x0, iv x1, iv (Int32.ofNat N), rv b_21, rv b_25, iv (Int32.ofNat i)] [(.int (Int32.ofNat i)), (.ref b_25)])) (fun t k => XS.iload X39.here hx rfl (hb hby at_85) rfl k) ?_
    obtain ⟨cl40, Ar40, -, Sz40, Nn40, Ha40, -⟩ := id V_25
    have hin40 : ¬ ((Int32.ofNat i) < 0 ∨ cl40.slots.size ≤ ((Int32.ofNat i)).toNatClampNeg) := inb_of Sz40 (own_inb hi (by omega))
    have hat40 : cl40.slots[((Int32.ofNat i)).toNatClampNeg]? = some (.ref zr) := Ha40.at hin40 (by rw [own_cl (by omega)]; exact own_rep hi)
    refine own_go (T' := T39) (g' := (mkF m 88 #[iv x0, iv x1, iv (Int32.ofNat N), rv b_21, rv b_25, iv (Int32.ofNat i)] [(.ref zr)])) (fun t k => X39.aaload hx (j := (Int32.ofNat i)) (v := (.ref zr)) (by rw [E39q]; exact Ar40.1) (State.isArrayOf_alike hZ.alike Ar40.2.1) rfl Ar40.2.2 hin40 hat40 (g := (mkF m 87 #[iv x0, iv x1, iv (Int32.ofNat N), rv b_21, rv b_25, iv (Int32.ofNat i)] [(.int (Int32.ofNat i)), (.ref b_25)])) rfl rfl (hb hby at_87) _ k) ?_
    obtain ⟨_, _, ⟨T41, L41, k41, n41⟩, -, X41, ⟨Lc41, hQ41, l41, y41, z41⟩, st41⟩ := Jvm.LawKit.callS X39 hx (y := (⟨"com/example/tankroute/tankroute/solve/ProblemZerosPinLaw", "isZero", "(Ljava/math/BigDecimal;)Z"⟩ : MethodName)) hown (mvT hZ (hw _ (List.mem_of_getElem? (i := 14) rfl))) (mvT hZ (hw _ (List.mem_of_getElem? (i := 15) rfl))) (mvT hZ (hw _ (List.mem_of_getElem? (i := 16) rfl))) (mvT hZ (hw _ (List.mem_of_getElem? (i := 17) rfl))) (by decide) (backOf (W := 0) (own_ris l Z a0 hw [] zr T25.heap n0 hz25 c28 c27) hZ (hw _ (List.mem_of_getElem? (i := 17) rfl)) (hw _ (List.mem_of_getElem? (i := 16) rfl)) (by decide) (by decide)) (g := (mkF m 88 #[iv x0, iv x1, iv (Int32.ofNat N), rv b_21, rv b_25, iv (Int32.ofNat i)] [(.ref zr)])) rfl (by rw [hml]; rfl) (argsL := [(.ref zr)]) (rest := []) (lenOf own_pd4 rfl) rfl (by show 2 * 0 + _ ≤ _; exact Nat.le_of_eq rfl) (hb hby at_88) (fun _ _ => ⟨rfl, E39q, (by decide : 2 + 0 ≤ _), (by decide : 30 + 0 ≤ _)⟩)
    dsimp only [Pt.U, Pt.locs, Pt.cells, Pt.slots] at X41 l41 y41 z41 st41 hQ41
    subst l41 y41 z41
    obtain ⟨rfl, rfl, e41⟩ := hQ41
    have E41q : T41.heap = T25.heap := e41
    have N41 := Fr.app N39 (Fr.nil n0)
    refine own_go (T' := T41) (g' := (mkF m 91 #[iv x0, iv x1, iv (Int32.ofNat N), rv b_21, rv b_25, iv (Int32.ofNat i)] [(.int (1 : Int32))])) (st41) ?_
    refine own_go (T' := T41) (g' := (mkF m 94 #[iv x0, iv x1, iv (Int32.ofNat N), rv b_21, rv b_25, iv (Int32.ofNat i)] [])) (fun t k => XS.ifNo X41.here hx rfl (hb hby at_91) rfl ((if0 _ _).trans (feq (by decide : ¬ ((1 : Int32) = (0 : Int32)))).1) k) ?_
    refine own_go (T' := T41) (g' := (mkF m 95 #[iv x0, iv x1, iv (Int32.ofNat N), rv b_21, rv b_25, iv (Int32.ofNat i)] [(.int (1 : Int32))])) (fun t k => XS.iconst X41.here hx rfl (hb hby at_94) k) ?_
    refine own_go (T' := T41) (g' := (mkF m 99 #[iv x0, iv x1, iv (Int32.ofNat N), rv b_21, rv b_25, iv (Int32.ofNat i)] [(.int (1 : Int32))])) (fun t k => XS.goto X41.here hx rfl (pc0 := 95) (pc' := 99) rfl (hb hby at_95) (by decide) (by decide) k) ?_
    exact own_ret X41 hlk hx Bd.returns rfl (Or.inl ⟨rfl, Or.inr (Or.inl rfl), _, rfl⟩) (hb hby at_99) (by first | exact ⟨rfl, N41⟩ | (rw [Fr] at *; exact ⟨rfl, by simpa using N41⟩)) (by decide) (by decide)

set_option maxRecDepth 65536 in
set_option maxHeartbeats 40000000 in
theorem own_comes {Post : Tables → Env → Array Value → State → Outcome → State → Prop} (hpost : ∀ tb e args s v u, (limb_1_1.after args s (.returned v) u = true ∧ limb_1_2.after args s (.returned v) u = true ∧ True) → FrameEnd s (.returned v) u (Jvm.fieldLocs frame_1_writes args s ++ Jvm.arrayLocs frame_1_arrays args s ++ Jvm.staticLocs frame_1_statics s) 16 128 → Post tb e args s (.returned v) u) :
    ArmFor flags0 classFile x code maxLocals ret World_1 tables_1 room_1 Calls_1 rest_1 Pre_1 Post := by
  intro l hfl _ _ p e ha hc hk s m args below hf hA hF happ hP
  obtain ⟨hcalls, hrest, hpre⟩ := hP
  obtain ⟨-, -, -, hnamed, -, -, -, hat⟩ := (Spec.applies_iff hf).mp happ
  obtain ⟨hg, hn⟩ := and_e (Cond.before_iff.mp (show (Jvm.Cond.and given_1 narrow_1).before args s = true from hpre))
  obtain ⟨hg0, hg1⟩ := and_e hg
  obtain ⟨ha0, hr0⟩ := and_e hg1
  obtain ⟨w0, w1, rfl⟩ : ∃ w0 w1 : Value, args = #[w0, w1] := by
    have hs : args.size = 2 := by simpa [Cond.value, given_1] using hg0
    obtain ⟨L⟩ := args
    match L, hs with
    | [w0, w1], _ => exact ⟨w0, w1, rfl⟩
  have hw := fun d (hd : d ∈ tables_1) => atoms_spec (ws := Jvm.Cond.code x code maxLocals ret :: tables_1) hat d (List.mem_cons_of_mem _ hd)
  obtain ⟨hsets, hown0⟩ := atoms_of _ (rest_1_c_eq ▸ (show rest_1_c.before _ s = true from hrest))
  have hown1 := Cond.before_iff.mp hown0
  have hfit : Fit s := fun {y c} hc i hi => by
    obtain ⟨ha, rfl⟩ := Array.getElem?_eq_some_iff.mp hc
    have q := List.all_eq_true.mp ((Array.all_eq_true_iff_forall_mem.mp hF) _ (Array.getElem_mem ha)) i (List.mem_range.mpr hi)
    simpa [Array.getElem?_eq_getElem hi] using q
  obtain ⟨x0, ex0⟩ := is_v ha0
  obtain rfl : w0 = (.int x0) := Option.some.inj ex0
  obtain ⟨x1, ex1⟩ := is_v hr0
  obtain rfl : w1 = (.int x1) := Option.some.inj ex1
  obtain ⟨zr, vz⟩ := exa_v (Cond.before_iff.mp (hsets _ (List.mem_of_getElem? (i := 4) rfl)))
  have E_zr : Exa s s.heap zr "java/math/BigDecimal" := Exa.start vz (Cond.before_iff.mp (hsets _ (List.mem_of_getElem? (i := 4) rfl)))
  have S_ZERO : Sta s s.heap "java/math/BigDecimal" "ZERO" "Ljava/math/BigDecimal;" (.ref zr) := Sta.start vz (Or.inl (hsets _ (List.mem_of_getElem? (i := 1) rfl)))
  have F_ic := own_fldL vz (Cond.before_iff.mp (hsets _ (List.mem_of_getElem? (i := 6) rfl)))
  obtain ⟨n, o, h1, h2, h3, _, L, rfl, ⟨rfl, N⟩, hq⟩ := own_law l s _ hw tables_1 x0 x1 zr s.heap s.heap.size (Nat.le_refl _) S_ZERO E_zr F_ic p e ha hc hk s m _ below hf ((Spec.applies_iff_loose hf).mp happ).1 ⟨rfl, State.Warmed39.refl s, rfl⟩ trivial
  refine ⟨n, _, h1, h2, h3, hpost _ _ _ _ _ _ ⟨Cond.after_iff.mpr rfl, Cond.after_iff.mpr (eq_i res_at (Term.int_eval (1)) rfl), trivial⟩ ⟨hq.1, hq.2.1, (hq.2.2.sift fun y hy => Or.inr (N y hy)).mono (by decide) (by decide)⟩⟩
theorem main_1_1 : Claimed_1_1 := own_comes fun _ _ _ _ _ _ h hF => ⟨h.1, hF⟩
theorem main_1_2 : Claimed_1_2 := own_comes fun _ _ _ _ _ _ h hF => ⟨h.2.1, hF⟩
end Jvm.Pilot.@@N@@
namespace Jvm.Pilot.@@N@@
open Jvm Jvm.ClassFile Sem Op Lib Jvm.Free Jvm.Stand Jvm.Pilot.@@N@@.Jvm.D
/-! MADE BY PROGRAM (witnessworld.py) out of the Statement's table words and the real class files: 18 classes; the members and pool entries that the words name. The judged class is class 1, her method 2. -/
namespace start1
open Jvm.ClassFile
def u (s : String) : CpInfo := .utf8 (stringToUtf16 s)
/-- a pool by its gaps: so many unusable entries, then the entry; so many at the end -/
def gap : Nat → List CpInfo → List CpInfo
  | 0, r => r
  | n + 1, r => .unusable :: gap n r
def poolList (es : List (Nat × CpInfo)) (last : Nat) : List CpInfo := es.foldr (fun e r => gap e.1 (e.2 :: r)) (gap last [])
def pool (es : List (Nat × CpInfo)) (last : Nat) : Array CpInfo := ⟨poolList es last⟩
def fileOf (pool : Array CpInfo) (this : Nat) (attrs : Array Attribute := #[]) (ms : Array MethodInfo := #[]) (fl : Nat := 33) (sup : Nat := 0) (ifs : Array Nat := #[]) (fds : Array FieldInfo := #[]) : ClassFile where
  minorVersion := 0
  majorVersion := 65
  constantPool := pool
  accessFlags := fl
  thisClass := this
  superClass := sup
  interfaces := ifs
  fields := fds
  methods := ms
  attributes := attrs
def plain (name : String) (sup : Option ClassId) : Class where
  name := name
  kind := .ordinary
  loader := none
  accessFlags := 33
  super := sup
  interfaces := #[]
  cf := none
  fields := #[]
  methods := #[]
  instanceTypes := #[]
  staticTypes := #[]
  resolved := #[]
  callSites := []
  init := .initialized
  statics := none
  mirror := none

def pool0 : Array CpInfo := pool [(5, u "<init>"), (0, u "()V"), (1, .class_ 10), (1, u "java/lang/Object")] 113

def k0m0 : Method := { name := "<init>", desc := "()V", sig := { parameters := [], returnType := none }, accessFlags := 1, code := none }
/-- java/lang/Object -/
def k0 : Class := { plain "java/lang/Object" none with
  accessFlags := 33
  interfaces := #[]
  cf := some (fileOf pool0 8 #[] #[{ accessFlags := 1, nameIndex := 5, descriptorIndex := 6, attributes := #[] }] 33 0 #[] #[])
  fields := #[]
  methods := #[k0m0]
  instanceTypes := #[]
  staticTypes := #[]
  resolved := Array.replicate 124 none
  statics := none }

def pool1 : Array CpInfo := pool [(2, .class_ 4), (1, u "java/lang/Object"), (0, u "<init>"), (0, u "()V"), (0, .methodref 8 9), (0, .class_ 10), (0, .nameAndType 11 12), (0, u "java/math/BigDecimal"), (0, u "signum"), (0, u "()I"), (0, .methodref 14 15), (0, .class_ 16), (0, .nameAndType 17 18), (0, u "com/example/tankroute/tankroute/solve/Problem"), (0, u "zeros"), (0, u "(I)[Ljava/math/BigDecimal;"), (0, .integer 2147483647), (0, .methodref 21 22), (0, .class_ 23), (0, .nameAndType 24 25), (0, u "com/example/tankroute/tankroute/solve/ProblemZerosPinLaw"), (0, u "isZero"), (0, u "(Ljava/math/BigDecimal;)Z"), (3, u "law"), (0, u "(II)Z")] 4

def k1m0 : Method := { name := "<init>", desc := "()V", sig := { parameters := [], returnType := none }, accessFlags := 1, code := none }
def k1c1 : Code := { maxStack := 1, maxLocals := 1, code := method_2_code, exceptionTable := #[], attributes := #[] }
def k1m1 : Method := { name := "isZero", desc := "(Ljava/math/BigDecimal;)Z", sig := { parameters := [(.object "java/math/BigDecimal")], returnType := some .boolean }, accessFlags := 10, code := some k1c1 }
def k1c2 : Code := { maxStack := 3, maxLocals := 6, code := code, exceptionTable := #[], attributes := #[] }
def k1m2 : Method := { name := "law", desc := "(II)Z", sig := { parameters := [.int, .int], returnType := some .boolean }, accessFlags := 9, code := some k1c2 }
/-- com/example/tankroute/tankroute/solve/ProblemZerosPinLaw -/
def k1 : Class := { plain "com/example/tankroute/tankroute/solve/ProblemZerosPinLaw" (some 0) with
  accessFlags := 49
  interfaces := #[]
  cf := some (fileOf pool1 21 #[] #[{ accessFlags := 1, nameIndex := 5, descriptorIndex := 6, attributes := #[] }, { accessFlags := 10, nameIndex := 24, descriptorIndex := 25, attributes := #[] }, { accessFlags := 9, nameIndex := 29, descriptorIndex := 30, attributes := #[] }] 49 2 #[] #[])
  fields := #[]
  methods := #[k1m0, k1m1, k1m2]
  instanceTypes := #[]
  staticTypes := #[]
  resolved := Array.replicate 35 none
  statics := none }

def pool2 : Array CpInfo := pool [(2, .class_ 4), (1, u "java/lang/Object"), (3, .class_ 10), (1, u "com/example/tankroute/tankroute/solve/Problem"), (0, u "instance"), (0, u "Lcom/example/tankroute/tankroute/model/Instance;"), (7, u "stations"), (35, u "I"), (2, u "station"), (0, u "[Lcom/example/tankroute/tankroute/model/Instance$Station;"), (4, u "demand"), (0, u "[[Ljava/math/BigDecimal;"), (1, u "[I"), (2, u "stockIndex"), (0, u "[[I"), (16, .class_ 90), (0, u "java/math/BigDecimal"), (5, .class_ 97), (0, u "com/example/tankroute/tankroute/solve/Problem$Stocked"), (9, u "stock"), (0, u "Ljava/util/List;"), (1, u "[[D"), (2, u "distance"), (23, u "split"), (9, u "Z"), (5, u "fixedCost"), (0, u "[D"), (2, u "units"), (0, u "[J"), (4, u "loading"), (0, u "[Lcom/example/tankroute/tankroute/solve/Loading;"), (51, u "[Lcom/example/tankroute/tankroute/model/Measure;"), (2, u "measures"), (2, u "position"), (12, u "dayFirst"), (5, u "fixedCostFirst"), (19, u "timing"), (0, u "Lcom/example/tankroute/tankroute/solve/Timing;"), (7, u "routes"), (0, u "Lcom/example/tankroute/tankroute/solve/RouteOrder;"), (0, .fieldref 89 273), (0, .nameAndType 274 275), (0, u "ZERO"), (0, u "Ljava/math/BigDecimal;"), (44, .methodref 321 322), (0, .class_ 323), (0, .nameAndType 324 325), (0, u "java/util/Arrays"), (0, u "fill"), (0, u "([Ljava/lang/Object;Ljava/lang/Object;)V"), (5, u "zeros"), (0, u "(I)[Ljava/math/BigDecimal;"), (61, u "TOLERANCE"), (0, u "D")] 71

def k2c0 : Code := { maxStack := 2, maxLocals := 2, code := prog_45_method_6_code, exceptionTable := #[], attributes := #[] }
def k2m0 : Method := { name := "zeros", desc := "(I)[Ljava/math/BigDecimal;", sig := { parameters := [.int], returnType := some (.array (.object "java/math/BigDecimal")) }, accessFlags := 8, code := some k2c0 }
/-- com/example/tankroute/tankroute/solve/Problem -/
def k2 : Class := { plain "com/example/tankroute/tankroute/solve/Problem" (some 0) with
  accessFlags := 48
  interfaces := #[]
  cf := some (fileOf pool2 8 #[.nestMembers #[96]] #[{ accessFlags := 8, nameIndex := 331, descriptorIndex := 332, attributes := #[] }] 48 2 #[] #[{ accessFlags := 26, nameIndex := 394, descriptorIndex := 395, attributes := #[] }, { accessFlags := 16, nameIndex := 11, descriptorIndex := 12, attributes := #[] }, { accessFlags := 16, nameIndex := 20, descriptorIndex := 56, attributes := #[] }, { accessFlags := 16, nameIndex := 59, descriptorIndex := 60, attributes := #[] }, { accessFlags := 16, nameIndex := 65, descriptorIndex := 66, attributes := #[] }, { accessFlags := 16, nameIndex := 107, descriptorIndex := 108, attributes := #[] }, { accessFlags := 16, nameIndex := 71, descriptorIndex := 72, attributes := #[] }, { accessFlags := 16, nameIndex := 113, descriptorIndex := 110, attributes := #[] }, { accessFlags := 16, nameIndex := 153, descriptorIndex := 154, attributes := #[] }, { accessFlags := 16, nameIndex := 137, descriptorIndex := 147, attributes := #[] }, { accessFlags := 16, nameIndex := 157, descriptorIndex := 158, attributes := #[] }, { accessFlags := 16, nameIndex := 163, descriptorIndex := 164, attributes := #[] }, { accessFlags := 16, nameIndex := 261, descriptorIndex := 262, attributes := #[] }, { accessFlags := 16, nameIndex := 270, descriptorIndex := 271, attributes := #[] }, { accessFlags := 16, nameIndex := 219, descriptorIndex := 216, attributes := #[] }, { accessFlags := 16, nameIndex := 235, descriptorIndex := 147, attributes := #[] }, { accessFlags := 16, nameIndex := 241, descriptorIndex := 147, attributes := #[] }, { accessFlags := 18, nameIndex := 222, descriptorIndex := 68, attributes := #[] }])
  fields := #[{ name := "TOLERANCE", type := .double, accessFlags := 26, slot := 0, constantValue := 0 }, { name := "instance", type := (.object "com/example/tankroute/tankroute/model/Instance"), accessFlags := 16, slot := 0, constantValue := 0 }, { name := "stations", type := .int, accessFlags := 16, slot := 1, constantValue := 0 }, { name := "station", type := (.array (.object "com/example/tankroute/tankroute/model/Instance$Station")), accessFlags := 16, slot := 2, constantValue := 0 }, { name := "demand", type := (.array (.array (.object "java/math/BigDecimal"))), accessFlags := 16, slot := 3, constantValue := 0 }, { name := "stock", type := (.object "java/util/List"), accessFlags := 16, slot := 4, constantValue := 0 }, { name := "stockIndex", type := (.array (.array .int)), accessFlags := 16, slot := 5, constantValue := 0 }, { name := "distance", type := (.array (.array .double)), accessFlags := 16, slot := 6, constantValue := 0 }, { name := "fixedCost", type := (.array .double), accessFlags := 16, slot := 7, constantValue := 0 }, { name := "split", type := .boolean, accessFlags := 16, slot := 8, constantValue := 0 }, { name := "units", type := (.array .long), accessFlags := 16, slot := 9, constantValue := 0 }, { name := "loading", type := (.array (.object "com/example/tankroute/tankroute/solve/Loading")), accessFlags := 16, slot := 10, constantValue := 0 }, { name := "timing", type := (.object "com/example/tankroute/tankroute/solve/Timing"), accessFlags := 16, slot := 11, constantValue := 0 }, { name := "routes", type := (.object "com/example/tankroute/tankroute/solve/RouteOrder"), accessFlags := 16, slot := 12, constantValue := 0 }, { name := "measures", type := (.array (.object "com/example/tankroute/tankroute/model/Measure")), accessFlags := 16, slot := 13, constantValue := 0 }, { name := "dayFirst", type := .boolean, accessFlags := 16, slot := 14, constantValue := 0 }, { name := "fixedCostFirst", type := .boolean, accessFlags := 16, slot := 15, constantValue := 0 }, { name := "position", type := (.array .int), accessFlags := 18, slot := 16, constantValue := 0 }]
  methods := #[k2m0]
  instanceTypes := #[(.object "com/example/tankroute/tankroute/model/Instance"), .int, (.array (.object "com/example/tankroute/tankroute/model/Instance$Station")), (.array (.array (.object "java/math/BigDecimal"))), (.object "java/util/List"), (.array (.array .int)), (.array (.array .double)), (.array .double), .boolean, (.array .long), (.array (.object "com/example/tankroute/tankroute/solve/Loading")), (.object "com/example/tankroute/tankroute/solve/Timing"), (.object "com/example/tankroute/tankroute/solve/RouteOrder"), (.array (.object "com/example/tankroute/tankroute/model/Measure")), .boolean, .boolean, (.array .int)]
  staticTypes := #[.double]
  resolved := Array.replicate 467 none
  statics := none }

def pool3 : Array CpInfo := pool [(1, .class_ 2), (0, u "java/io/Serializable"), (0, .class_ 4), (0, u "java/lang/Object")] 2

/-- java/io/Serializable -/
def k3 : Class := { plain "java/io/Serializable" (some 0) with
  accessFlags := 1537
  interfaces := #[]
  cf := some (fileOf pool3 1 #[] #[] 1537 3 #[] #[])
  fields := #[]
  methods := #[]
  instanceTypes := #[]
  staticTypes := #[]
  resolved := Array.replicate 7 none
  statics := none }

def pool4 : Array CpInfo := pool [(2, .class_ 4), (1, u "java/lang/Object"), (0, u "<init>"), (0, u "()V"), (1, .class_ 10), (1, u "java/lang/Number"), (2, .class_ 14), (0, u "java/io/Serializable"), (0, u "serialVersionUID"), (0, u "J")] 20

def k4m0 : Method := { name := "<init>", desc := "()V", sig := { parameters := [], returnType := none }, accessFlags := 1, code := none }
/-- java/lang/Number -/
def k4 : Class := { plain "java/lang/Number" (some 0) with
  accessFlags := 1057
  interfaces := #[3]
  cf := some (fileOf pool4 8 #[] #[{ accessFlags := 1, nameIndex := 5, descriptorIndex := 6, attributes := #[] }] 1057 2 #[13] #[{ accessFlags := 26, nameIndex := 15, descriptorIndex := 16, attributes := #[] }])
  fields := #[{ name := "serialVersionUID", type := .long, accessFlags := 26, slot := 0, constantValue := 0 }]
  methods := #[k4m0]
  instanceTypes := #[]
  staticTypes := #[.long]
  resolved := Array.replicate 37 none
  statics := none }

def pool5 : Array CpInfo := pool [(1, .class_ 2), (0, u "java/lang/Comparable"), (0, .class_ 4), (0, u "java/lang/Object")] 7

/-- java/lang/Comparable -/
def k5 : Class := { plain "java/lang/Comparable" (some 0) with
  accessFlags := 1537
  interfaces := #[]
  cf := some (fileOf pool5 1 #[] #[] 1537 3 #[] #[])
  fields := #[]
  methods := #[]
  instanceTypes := #[]
  staticTypes := #[]
  resolved := Array.replicate 12 none
  statics := none }

def pool6 : Array CpInfo := pool [(3, .class_ 4), (0, u "java/math/BigDecimal"), (2, .class_ 8), (0, u "java/lang/Long"), (3, .class_ 14), (1, u "java/lang/Number"), (4, u "scale"), (0, u "I"), (2, u "precision"), (0, .fieldref 3 25), (0, .nameAndType 26 27), (0, u "intCompact"), (0, u "J"), (2, u "intVal"), (0, u "Ljava/math/BigInteger;"), (65, u "LONG_TEN_POWERS_TABLE"), (0, u "[J"), (16, u "(J)I"), (9, .long 9223372036854775808), (36, u "()I"), (24, u "ZERO"), (2, u "INFLATED_BIGINT"), (15, u "TWO"), (41, u "ZERO_THROUGH_TEN"), (0, u "[Ljava/math/BigDecimal;"), (2, u "ZERO_SCALED_BY"), (19, u "signum"), (40, u "$assertionsDisabled"), (0, u "Z"), (163, u "ONE_TENTH"), (0, u "Ljava/math/BigDecimal;"), (5, u "TEN"), (14, .class_ 502), (1, u "java/math/BigDecimal$1"), (15, u "ONE_HALF"), (16, u "ONE"), (60, .methodref 7 597), (0, .nameAndType 272 115), (45, u "stringCache"), (0, u "Ljava/lang/String;"), (52, .class_ 699), (1, u "java/math/BigDecimal$LongOverflow"), (8, u "FLOAT_10_POW"), (0, u "[F"), (39, u "DOUBLE_10_POW"), (0, u "[D"), (19, .class_ 772), (1, u "java/math/BigDecimal$StringBuilderHelper"), (35, u "BIG_TEN_POWERS_TABLE_MAX"), (2, u "BIG_TEN_POWERS_TABLE"), (0, u "[Ljava/math/BigInteger;"), (14, u "THRESHOLDS_TABLE"), (23, .class_ 853), (1, u "java/math/BigDecimal$UnsafeHolder"), (214, u "LONGLONG_TEN_POWERS_TABLE"), (0, u "[[J"), (112, u "BIG_TEN_POWERS_TABLE_INITLEN"), (113, .class_ 1297), (0, u "java/lang/Comparable"), (0, u "L"), (0, u "D"), (1, u "P_F"), (1, u "Q_MIN_F"), (1, u "Q_MAX_F"), (1, u "P_D"), (1, u "Q_MIN_D"), (1, u "Q_MAX_D"), (1, u "INFLATED"), (0, u "MAX_COMPACT_DIGITS"), (1, u "serialVersionUID"), (2, u "HALF_LONG_MAX_VALUE"), (0, u "HALF_LONG_MIN_VALUE"), (0, u "ROUND_UP"), (6, u "ROUND_DOWN"), (1, u "ROUND_CEILING"), (1, u "ROUND_FLOOR"), (1, u "ROUND_HALF_UP"), (1, u "ROUND_HALF_DOWN"), (1, u "ROUND_HALF_EVEN"), (1, u "ROUND_UNNECESSARY"), (1, u "DIV_NUM_BASE")] 294

def k6c0 : Code := { maxStack := 4, maxLocals := 1, code := jdk_17_method_58_code, exceptionTable := #[], attributes := #[] }
def k6m0 : Method := { name := "signum", desc := "()I", sig := { parameters := [], returnType := some .int }, accessFlags := 1, code := some k6c0 }
/-- java/math/BigDecimal -/
def k6 : Class := { plain "java/math/BigDecimal" (some 4) with
  accessFlags := 33
  interfaces := #[5]
  cf := some (fileOf pool6 3 #[.nestMembers #[500, 851, 770, 697]] #[{ accessFlags := 1, nameIndex := 272, descriptorIndex := 162, attributes := #[] }] 33 12 #[1296] #[{ accessFlags := 26, nameIndex := 1298, descriptorIndex := 1299, attributes := #[] }, { accessFlags := 26, nameIndex := 1301, descriptorIndex := 20, attributes := #[] }, { accessFlags := 26, nameIndex := 1303, descriptorIndex := 20, attributes := #[] }, { accessFlags := 26, nameIndex := 1305, descriptorIndex := 20, attributes := #[] }, { accessFlags := 26, nameIndex := 1307, descriptorIndex := 20, attributes := #[] }, { accessFlags := 26, nameIndex := 1309, descriptorIndex := 20, attributes := #[] }, { accessFlags := 26, nameIndex := 1311, descriptorIndex := 20, attributes := #[] }, { accessFlags := 18, nameIndex := 30, descriptorIndex := 31, attributes := #[] }, { accessFlags := 18, nameIndex := 19, descriptorIndex := 20, attributes := #[] }, { accessFlags := 130, nameIndex := 23, descriptorIndex := 20, attributes := #[] }, { accessFlags := 130, nameIndex := 643, descriptorIndex := 644, attributes := #[] }, { accessFlags := 24, nameIndex := 1313, descriptorIndex := 27, attributes := #[] }, { accessFlags := 26, nameIndex := 190, descriptorIndex := 31, attributes := #[] }, { accessFlags := 146, nameIndex := 26, descriptorIndex := 27, attributes := #[] }, { accessFlags := 26, nameIndex := 1314, descriptorIndex := 20, attributes := #[] }, { accessFlags := 26, nameIndex := 1316, descriptorIndex := 27, attributes := #[] }, { accessFlags := 26, nameIndex := 248, descriptorIndex := 249, attributes := #[] }, { accessFlags := 26, nameIndex := 252, descriptorIndex := 249, attributes := #[] }, { accessFlags := 26, nameIndex := 1319, descriptorIndex := 27, attributes := #[] }, { accessFlags := 26, nameIndex := 1320, descriptorIndex := 27, attributes := #[] }, { accessFlags := 25, nameIndex := 187, descriptorIndex := 479, attributes := #[] }, { accessFlags := 25, nameIndex := 535, descriptorIndex := 479, attributes := #[] }, { accessFlags := 25, nameIndex := 206, descriptorIndex := 479, attributes := #[] }, { accessFlags := 25, nameIndex := 485, descriptorIndex := 479, attributes := #[] }, { accessFlags := 26, nameIndex := 478, descriptorIndex := 479, attributes := #[] }, { accessFlags := 26, nameIndex := 518, descriptorIndex := 479, attributes := #[] }, { accessFlags := 25, nameIndex := 1321, descriptorIndex := 20, attributes := #[] }, { accessFlags := 25, nameIndex := 1328, descriptorIndex := 20, attributes := #[] }, { accessFlags := 25, nameIndex := 1330, descriptorIndex := 20, attributes := #[] }, { accessFlags := 25, nameIndex := 1332, descriptorIndex := 20, attributes := #[] }, { accessFlags := 25, nameIndex := 1334, descriptorIndex := 20, attributes := #[] }, { accessFlags := 25, nameIndex := 1336, descriptorIndex := 20, attributes := #[] }, { accessFlags := 25, nameIndex := 1338, descriptorIndex := 20, attributes := #[] }, { accessFlags := 25, nameIndex := 1340, descriptorIndex := 20, attributes := #[] }, { accessFlags := 26, nameIndex := 749, descriptorIndex := 750, attributes := #[] }, { accessFlags := 26, nameIndex := 708, descriptorIndex := 709, attributes := #[] }, { accessFlags := 26, nameIndex := 97, descriptorIndex := 98, attributes := #[] }, { accessFlags := 74, nameIndex := 811, descriptorIndex := 812, attributes := #[] }, { accessFlags := 26, nameIndex := 1182, descriptorIndex := 20, attributes := #[] }, { accessFlags := 26, nameIndex := 808, descriptorIndex := 20, attributes := #[] }, { accessFlags := 26, nameIndex := 827, descriptorIndex := 98, attributes := #[] }, { accessFlags := 26, nameIndex := 1342, descriptorIndex := 27, attributes := #[] }, { accessFlags := 26, nameIndex := 1068, descriptorIndex := 1069, attributes := #[] }, { accessFlags := 4120, nameIndex := 313, descriptorIndex := 314, attributes := #[] }])
  fields := #[{ name := "L", type := .double, accessFlags := 26, slot := 0, constantValue := 0 }, { name := "P_F", type := .int, accessFlags := 26, slot := 1, constantValue := 0 }, { name := "Q_MIN_F", type := .int, accessFlags := 26, slot := 2, constantValue := 0 }, { name := "Q_MAX_F", type := .int, accessFlags := 26, slot := 3, constantValue := 0 }, { name := "P_D", type := .int, accessFlags := 26, slot := 4, constantValue := 0 }, { name := "Q_MIN_D", type := .int, accessFlags := 26, slot := 5, constantValue := 0 }, { name := "Q_MAX_D", type := .int, accessFlags := 26, slot := 6, constantValue := 0 }, { name := "intVal", type := (.object "java/math/BigInteger"), accessFlags := 18, slot := 0, constantValue := 0 }, { name := "scale", type := .int, accessFlags := 18, slot := 1, constantValue := 0 }, { name := "precision", type := .int, accessFlags := 130, slot := 2, constantValue := 0 }, { name := "stringCache", type := (.object "java/lang/String"), accessFlags := 130, slot := 3, constantValue := 0 }, { name := "INFLATED", type := .long, accessFlags := 24, slot := 7, constantValue := 0 }, { name := "INFLATED_BIGINT", type := (.object "java/math/BigInteger"), accessFlags := 26, slot := 8, constantValue := 0 }, { name := "intCompact", type := .long, accessFlags := 146, slot := 4, constantValue := 0 }, { name := "MAX_COMPACT_DIGITS", type := .int, accessFlags := 26, slot := 9, constantValue := 0 }, { name := "serialVersionUID", type := .long, accessFlags := 26, slot := 10, constantValue := 0 }, { name := "ZERO_THROUGH_TEN", type := (.array (.object "java/math/BigDecimal")), accessFlags := 26, slot := 11, constantValue := 0 }, { name := "ZERO_SCALED_BY", type := (.array (.object "java/math/BigDecimal")), accessFlags := 26, slot := 12, constantValue := 0 }, { name := "HALF_LONG_MAX_VALUE", type := .long, accessFlags := 26, slot := 13, constantValue := 0 }, { name := "HALF_LONG_MIN_VALUE", type := .long, accessFlags := 26, slot := 14, constantValue := 0 }, { name := "ZERO", type := (.object "java/math/BigDecimal"), accessFlags := 25, slot := 15, constantValue := 0 }, { name := "ONE", type := (.object "java/math/BigDecimal"), accessFlags := 25, slot := 16, constantValue := 0 }, { name := "TWO", type := (.object "java/math/BigDecimal"), accessFlags := 25, slot := 17, constantValue := 0 }, { name := "TEN", type := (.object "java/math/BigDecimal"), accessFlags := 25, slot := 18, constantValue := 0 }, { name := "ONE_TENTH", type := (.object "java/math/BigDecimal"), accessFlags := 26, slot := 19, constantValue := 0 }, { name := "ONE_HALF", type := (.object "java/math/BigDecimal"), accessFlags := 26, slot := 20, constantValue := 0 }, { name := "ROUND_UP", type := .int, accessFlags := 25, slot := 21, constantValue := 0 }, { name := "ROUND_DOWN", type := .int, accessFlags := 25, slot := 22, constantValue := 0 }, { name := "ROUND_CEILING", type := .int, accessFlags := 25, slot := 23, constantValue := 0 }, { name := "ROUND_FLOOR", type := .int, accessFlags := 25, slot := 24, constantValue := 0 }, { name := "ROUND_HALF_UP", type := .int, accessFlags := 25, slot := 25, constantValue := 0 }, { name := "ROUND_HALF_DOWN", type := .int, accessFlags := 25, slot := 26, constantValue := 0 }, { name := "ROUND_HALF_EVEN", type := .int, accessFlags := 25, slot := 27, constantValue := 0 }, { name := "ROUND_UNNECESSARY", type := .int, accessFlags := 25, slot := 28, constantValue := 0 }, { name := "DOUBLE_10_POW", type := (.array .double), accessFlags := 26, slot := 29, constantValue := 0 }, { name := "FLOAT_10_POW", type := (.array .float), accessFlags := 26, slot := 30, constantValue := 0 }, { name := "LONG_TEN_POWERS_TABLE", type := (.array .long), accessFlags := 26, slot := 31, constantValue := 0 }, { name := "BIG_TEN_POWERS_TABLE", type := (.array (.object "java/math/BigInteger")), accessFlags := 74, slot := 32, constantValue := 0 }, { name := "BIG_TEN_POWERS_TABLE_INITLEN", type := .int, accessFlags := 26, slot := 33, constantValue := 0 }, { name := "BIG_TEN_POWERS_TABLE_MAX", type := .int, accessFlags := 26, slot := 34, constantValue := 0 }, { name := "THRESHOLDS_TABLE", type := (.array .long), accessFlags := 26, slot := 35, constantValue := 0 }, { name := "DIV_NUM_BASE", type := .long, accessFlags := 26, slot := 36, constantValue := 0 }, { name := "LONGLONG_TEN_POWERS_TABLE", type := (.array (.array .long)), accessFlags := 26, slot := 37, constantValue := 0 }, { name := "$assertionsDisabled", type := .boolean, accessFlags := 4120, slot := 38, constantValue := 0 }]
  methods := #[k6m0]
  instanceTypes := #[(.object "java/math/BigInteger"), .int, .int, (.object "java/lang/String"), .long]
  staticTypes := #[.double, .int, .int, .int, .int, .int, .int, .long, (.object "java/math/BigInteger"), .int, .long, (.array (.object "java/math/BigDecimal")), (.array (.object "java/math/BigDecimal")), .long, .long, (.object "java/math/BigDecimal"), (.object "java/math/BigDecimal"), (.object "java/math/BigDecimal"), (.object "java/math/BigDecimal"), (.object "java/math/BigDecimal"), (.object "java/math/BigDecimal"), .int, .int, .int, .int, .int, .int, .int, .int, (.array .double), (.array .float), (.array .long), (.array (.object "java/math/BigInteger")), .int, .int, (.array .long), .long, (.array (.array .long)), .boolean]
  resolved := Array.replicate 1637 none
  statics := some 0 }

def pool7 : Array CpInfo := pool [(2, .class_ 4), (1, u "java/lang/Object"), (0, u "<init>"), (0, u "()V"), (7, .class_ 16), (1, u "java/util/Arrays"), (57, .class_ 76), (1, u "java/util/Arrays$NaturalOrder"), (36, .class_ 115), (1, u "java/util/Arrays$LegacyMergeSort"), (1, u "Z"), (257, .class_ 376), (0, u "java/util/Arrays$ArrayList"), (68, u "$assertionsDisabled"), (269, u "MIN_ARRAY_SORT_GRAN"), (0, u "I"), (2, u "INSERTIONSORT_THRESHOLD"), (120, u "fill"), (17, u "([Ljava/lang/Object;Ljava/lang/Object;)V"), (116, .class_ 976), (0, u "java/util/Arrays$ArrayItr")] 52

def k7m0 : Method := { name := "<init>", desc := "()V", sig := { parameters := [], returnType := none }, accessFlags := 2, code := none }
def k7c1 : Code := { maxStack := 3, maxLocals := 4, code := jdk_65_method_117_code, exceptionTable := #[], attributes := #[] }
def k7m1 : Method := { name := "fill", desc := "([Ljava/lang/Object;Ljava/lang/Object;)V", sig := { parameters := [(.array (.object "java/lang/Object")), (.object "java/lang/Object")], returnType := none }, accessFlags := 9, code := some k7c1 }
/-- java/util/Arrays -/
def k7 : Class := { plain "java/util/Arrays" (some 0) with
  accessFlags := 49
  interfaces := #[]
  cf := some (fileOf pool7 14 #[.nestMembers #[975, 375, 113, 74]] #[{ accessFlags := 2, nameIndex := 5, descriptorIndex := 6, attributes := #[] }, { accessFlags := 9, nameIndex := 840, descriptorIndex := 858, attributes := #[] }] 49 2 #[] #[{ accessFlags := 26, nameIndex := 715, descriptorIndex := 716, attributes := #[] }, { accessFlags := 26, nameIndex := 719, descriptorIndex := 716, attributes := #[] }, { accessFlags := 4120, nameIndex := 445, descriptorIndex := 117, attributes := #[] }])
  fields := #[{ name := "MIN_ARRAY_SORT_GRAN", type := .int, accessFlags := 26, slot := 0, constantValue := 0 }, { name := "INSERTIONSORT_THRESHOLD", type := .int, accessFlags := 26, slot := 1, constantValue := 0 }, { name := "$assertionsDisabled", type := .boolean, accessFlags := 4120, slot := 2, constantValue := 0 }]
  methods := #[k7m0, k7m1]
  instanceTypes := #[]
  staticTypes := #[.int, .int, .boolean]
  resolved := Array.replicate 1029 none
  statics := none }

def pool8 : Array CpInfo := pool [(1, .class_ 2), (0, u "java/lang/constant/Constable"), (0, .class_ 4), (0, u "java/lang/Object")] 6

/-- java/lang/constant/Constable -/
def k8 : Class := { plain "java/lang/constant/Constable" (some 0) with
  accessFlags := 1537
  interfaces := #[]
  cf := some (fileOf pool8 1 #[] #[] 1537 3 #[] #[])
  fields := #[]
  methods := #[]
  instanceTypes := #[]
  staticTypes := #[]
  resolved := Array.replicate 11 none
  statics := none }

def pool9 : Array CpInfo := pool [(1, .class_ 2), (0, u "java/lang/constant/ConstantDesc"), (0, .class_ 4), (0, u "java/lang/Object")] 32

/-- java/lang/constant/ConstantDesc -/
def k9 : Class := { plain "java/lang/constant/ConstantDesc" (some 0) with
  accessFlags := 1537
  interfaces := #[]
  cf := some (fileOf pool9 1 #[] #[] 1537 3 #[] #[])
  fields := #[]
  methods := #[]
  instanceTypes := #[]
  staticTypes := #[]
  resolved := Array.replicate 37 none
  statics := none }

def pool10 : Array CpInfo := pool [(1, .class_ 2), (0, u "java/lang/Long"), (98, u "(J)I"), (133, .class_ 237), (1, u "java/lang/Long$LongCache"), (33, .class_ 272), (0, u "java/lang/Number"), (2, u "value"), (0, u "J"), (84, u "TYPE"), (0, u "Ljava/lang/Class;"), (0, .class_ 364), (0, u "java/lang/Comparable"), (0, .class_ 366), (0, u "java/lang/constant/Constable"), (0, .class_ 368), (0, u "java/lang/constant/ConstantDesc"), (0, u "MIN_VALUE"), (1, u "MAX_VALUE"), (4, u "SIZE"), (0, u "I"), (1, u "BYTES"), (1, u "serialVersionUID"), (115, u "signum")] 26

def k10c0 : Code := { maxStack := 5, maxLocals := 2, code := jdk_35_method_57_code, exceptionTable := #[], attributes := #[] }
def k10m0 : Method := { name := "signum", desc := "(J)I", sig := { parameters := [.long], returnType := some .int }, accessFlags := 9, code := some k10c0 }
/-- java/lang/Long -/
def k10 : Class := { plain "java/lang/Long" (some 4) with
  accessFlags := 49
  interfaces := #[5, 8, 9]
  cf := some (fileOf pool10 1 #[.nestMembers #[235]] #[{ accessFlags := 9, nameIndex := 497, descriptorIndex := 101, attributes := #[] }] 49 271 #[363, 365, 367] #[{ accessFlags := 25, nameIndex := 369, descriptorIndex := 276, attributes := #[] }, { accessFlags := 25, nameIndex := 371, descriptorIndex := 276, attributes := #[] }, { accessFlags := 25, nameIndex := 361, descriptorIndex := 362, attributes := #[] }, { accessFlags := 18, nameIndex := 275, descriptorIndex := 276, attributes := #[] }, { accessFlags := 25, nameIndex := 376, descriptorIndex := 377, attributes := #[] }, { accessFlags := 25, nameIndex := 379, descriptorIndex := 377, attributes := #[] }, { accessFlags := 26, nameIndex := 381, descriptorIndex := 276, attributes := #[] }])
  fields := #[{ name := "MIN_VALUE", type := .long, accessFlags := 25, slot := 0, constantValue := 0 }, { name := "MAX_VALUE", type := .long, accessFlags := 25, slot := 1, constantValue := 0 }, { name := "TYPE", type := (.object "java/lang/Class"), accessFlags := 25, slot := 2, constantValue := 0 }, { name := "value", type := .long, accessFlags := 18, slot := 0, constantValue := 0 }, { name := "SIZE", type := .int, accessFlags := 25, slot := 3, constantValue := 0 }, { name := "BYTES", type := .int, accessFlags := 25, slot := 4, constantValue := 0 }, { name := "serialVersionUID", type := .long, accessFlags := 26, slot := 5, constantValue := 0 }]
  methods := #[k10m0]
  instanceTypes := #[.long]
  staticTypes := #[.long, .long, (.object "java/lang/Class"), .int, .int, .long]
  resolved := Array.replicate 524 none
  statics := none }

def pool11 : Array CpInfo := pool [(4, .class_ 6), (1, u "java/lang/Number"), (16, .class_ 25), (1, u "java/math/BigInteger"), (0, u "ZERO"), (0, u "Ljava/math/BigInteger;"), (2, u "mag"), (0, u "[I"), (2, u "signum"), (0, u "I"), (59, u "bitsPerDigit"), (0, u "[J"), (9, u "digitsPerInt"), (12, u "intRadix"), (60, u "SMALL_PRIME_PRODUCT"), (79, u "ONE"), (6, u "TWO"), (43, u "$assertionsDisabled"), (0, u "Z"), (36, u "posConst"), (0, u "[Ljava/math/BigInteger;"), (4, u "negConst"), (116, .class_ 474), (1, u "java/math/BigInteger$RecursiveOp"), (106, u "NEGATIVE_ONE"), (91, u "bnExpModThreshTable"), (72, u "lowestSetBitPlusTwo"), (2, u "bitLengthPlusOne"), (2, u "bitCountPlusOne"), (6, u "LOG_TWO"), (0, u "D"), (2, u "logCache"), (0, u "[D"), (13, u "NUM_ZEROS"), (2, u "ZEROS"), (0, u "Ljava/lang/String;"), (9, u "longRadix"), (5, u "digitsPerLong"), (22, u "powerCache"), (0, u "[[Ljava/math/BigInteger;"), (45, u "firstNonzeroIntNumPlusTwo"), (38, .class_ 909), (1, u "java/math/BigInteger$UnsafeHolder"), (141, u "TEN"), (106, u "serialPersistentFields"), (0, u "[Ljava/io/ObjectStreamField;"), (0, .class_ 1161), (0, u "java/lang/Comparable"), (0, u "LONG_MASK"), (0, u "J"), (1, u "MAX_MAG_LENGTH"), (0, u "PRIME_SEARCH_BIT_LENGTH_LIMIT"), (1, u "KARATSUBA_THRESHOLD"), (1, u "TOOM_COOK_THRESHOLD"), (1, u "KARATSUBA_SQUARE_THRESHOLD"), (1, u "TOOM_COOK_SQUARE_THRESHOLD"), (1, u "BURNIKEL_ZIEGLER_THRESHOLD"), (0, u "BURNIKEL_ZIEGLER_OFFSET"), (1, u "SCHOENHAGE_BASE_CONVERSION_THRESHOLD"), (1, u "MULTIPLY_SQUARE_THRESHOLD"), (0, u "MONTGOMERY_INTRINSIC_THRESHOLD"), (1, u "SMALL_PRIME_THRESHOLD"), (1, u "DEFAULT_PRIME_CERTAINTY"), (1, u "MAX_CONSTANT"), (3, u "serialVersionUID"), (338, .class_ 1532), (0, u "java/math/BigInteger$RecursiveOp$RecursiveSquare"), (0, .class_ 1534), (0, u "java/math/BigInteger$RecursiveOp$RecursiveMultiply")] 7

/-- java/math/BigInteger -/
def k11 : Class := { plain "java/math/BigInteger" (some 4) with
  accessFlags := 33
  interfaces := #[5]
  cf := some (fileOf pool11 23 #[.nestMembers #[907, 472, 1531, 1533]] #[] 33 4 #[1160] #[{ accessFlags := 16, nameIndex := 34, descriptorIndex := 35, attributes := #[] }, { accessFlags := 16, nameIndex := 30, descriptorIndex := 31, attributes := #[] }, { accessFlags := 2, nameIndex := 752, descriptorIndex := 35, attributes := #[] }, { accessFlags := 2, nameIndex := 749, descriptorIndex := 35, attributes := #[] }, { accessFlags := 2, nameIndex := 746, descriptorIndex := 35, attributes := #[] }, { accessFlags := 2, nameIndex := 868, descriptorIndex := 35, attributes := #[] }, { accessFlags := 24, nameIndex := 1162, descriptorIndex := 1163, attributes := #[] }, { accessFlags := 26, nameIndex := 1165, descriptorIndex := 35, attributes := #[] }, { accessFlags := 26, nameIndex := 1166, descriptorIndex := 35, attributes := #[] }, { accessFlags := 26, nameIndex := 1168, descriptorIndex := 35, attributes := #[] }, { accessFlags := 26, nameIndex := 1170, descriptorIndex := 35, attributes := #[] }, { accessFlags := 26, nameIndex := 1172, descriptorIndex := 35, attributes := #[] }, { accessFlags := 26, nameIndex := 1174, descriptorIndex := 35, attributes := #[] }, { accessFlags := 24, nameIndex := 1176, descriptorIndex := 35, attributes := #[] }, { accessFlags := 24, nameIndex := 1177, descriptorIndex := 35, attributes := #[] }, { accessFlags := 26, nameIndex := 1179, descriptorIndex := 35, attributes := #[] }, { accessFlags := 26, nameIndex := 1181, descriptorIndex := 35, attributes := #[] }, { accessFlags := 26, nameIndex := 1182, descriptorIndex := 35, attributes := #[] }, { accessFlags := 10, nameIndex := 95, descriptorIndex := 96, attributes := #[] }, { accessFlags := 26, nameIndex := 1184, descriptorIndex := 35, attributes := #[] }, { accessFlags := 26, nameIndex := 1186, descriptorIndex := 35, attributes := #[] }, { accessFlags := 26, nameIndex := 180, descriptorIndex := 27, attributes := #[] }, { accessFlags := 26, nameIndex := 1188, descriptorIndex := 35, attributes := #[] }, { accessFlags := 26, nameIndex := 349, descriptorIndex := 350, attributes := #[] }, { accessFlags := 26, nameIndex := 355, descriptorIndex := 350, attributes := #[] }, { accessFlags := 74, nameIndex := 821, descriptorIndex := 822, attributes := #[] }, { accessFlags := 26, nameIndex := 763, descriptorIndex := 764, attributes := #[] }, { accessFlags := 26, nameIndex := 759, descriptorIndex := 760, attributes := #[] }, { accessFlags := 25, nameIndex := 26, descriptorIndex := 27, attributes := #[] }, { accessFlags := 25, nameIndex := 260, descriptorIndex := 27, attributes := #[] }, { accessFlags := 25, nameIndex := 267, descriptorIndex := 27, attributes := #[] }, { accessFlags := 26, nameIndex := 581, descriptorIndex := 27, attributes := #[] }, { accessFlags := 25, nameIndex := 1051, descriptorIndex := 27, attributes := #[] }, { accessFlags := 8, nameIndex := 673, descriptorIndex := 31, attributes := #[] }, { accessFlags := 10, nameIndex := 778, descriptorIndex := 35, attributes := #[] }, { accessFlags := 26, nameIndex := 781, descriptorIndex := 782, attributes := #[] }, { accessFlags := 10, nameIndex := 798, descriptorIndex := 31, attributes := #[] }, { accessFlags := 10, nameIndex := 792, descriptorIndex := 350, attributes := #[] }, { accessFlags := 10, nameIndex := 106, descriptorIndex := 31, attributes := #[] }, { accessFlags := 10, nameIndex := 119, descriptorIndex := 31, attributes := #[] }, { accessFlags := 26, nameIndex := 1192, descriptorIndex := 1163, attributes := #[] }, { accessFlags := 26, nameIndex := 1158, descriptorIndex := 1159, attributes := #[] }, { accessFlags := 4120, nameIndex := 311, descriptorIndex := 312, attributes := #[] }])
  fields := #[{ name := "signum", type := .int, accessFlags := 16, slot := 0, constantValue := 0 }, { name := "mag", type := (.array .int), accessFlags := 16, slot := 1, constantValue := 0 }, { name := "bitCountPlusOne", type := .int, accessFlags := 2, slot := 2, constantValue := 0 }, { name := "bitLengthPlusOne", type := .int, accessFlags := 2, slot := 3, constantValue := 0 }, { name := "lowestSetBitPlusTwo", type := .int, accessFlags := 2, slot := 4, constantValue := 0 }, { name := "firstNonzeroIntNumPlusTwo", type := .int, accessFlags := 2, slot := 5, constantValue := 0 }, { name := "LONG_MASK", type := .long, accessFlags := 24, slot := 0, constantValue := 0 }, { name := "MAX_MAG_LENGTH", type := .int, accessFlags := 26, slot := 1, constantValue := 0 }, { name := "PRIME_SEARCH_BIT_LENGTH_LIMIT", type := .int, accessFlags := 26, slot := 2, constantValue := 0 }, { name := "KARATSUBA_THRESHOLD", type := .int, accessFlags := 26, slot := 3, constantValue := 0 }, { name := "TOOM_COOK_THRESHOLD", type := .int, accessFlags := 26, slot := 4, constantValue := 0 }, { name := "KARATSUBA_SQUARE_THRESHOLD", type := .int, accessFlags := 26, slot := 5, constantValue := 0 }, { name := "TOOM_COOK_SQUARE_THRESHOLD", type := .int, accessFlags := 26, slot := 6, constantValue := 0 }, { name := "BURNIKEL_ZIEGLER_THRESHOLD", type := .int, accessFlags := 24, slot := 7, constantValue := 0 }, { name := "BURNIKEL_ZIEGLER_OFFSET", type := .int, accessFlags := 24, slot := 8, constantValue := 0 }, { name := "SCHOENHAGE_BASE_CONVERSION_THRESHOLD", type := .int, accessFlags := 26, slot := 9, constantValue := 0 }, { name := "MULTIPLY_SQUARE_THRESHOLD", type := .int, accessFlags := 26, slot := 10, constantValue := 0 }, { name := "MONTGOMERY_INTRINSIC_THRESHOLD", type := .int, accessFlags := 26, slot := 11, constantValue := 0 }, { name := "bitsPerDigit", type := (.array .long), accessFlags := 10, slot := 12, constantValue := 0 }, { name := "SMALL_PRIME_THRESHOLD", type := .int, accessFlags := 26, slot := 13, constantValue := 0 }, { name := "DEFAULT_PRIME_CERTAINTY", type := .int, accessFlags := 26, slot := 14, constantValue := 0 }, { name := "SMALL_PRIME_PRODUCT", type := (.object "java/math/BigInteger"), accessFlags := 26, slot := 15, constantValue := 0 }, { name := "MAX_CONSTANT", type := .int, accessFlags := 26, slot := 16, constantValue := 0 }, { name := "posConst", type := (.array (.object "java/math/BigInteger")), accessFlags := 26, slot := 17, constantValue := 0 }, { name := "negConst", type := (.array (.object "java/math/BigInteger")), accessFlags := 26, slot := 18, constantValue := 0 }, { name := "powerCache", type := (.array (.array (.object "java/math/BigInteger"))), accessFlags := 74, slot := 19, constantValue := 0 }, { name := "logCache", type := (.array .double), accessFlags := 26, slot := 20, constantValue := 0 }, { name := "LOG_TWO", type := .double, accessFlags := 26, slot := 21, constantValue := 0 }, { name := "ZERO", type := (.object "java/math/BigInteger"), accessFlags := 25, slot := 22, constantValue := 0 }, { name := "ONE", type := (.object "java/math/BigInteger"), accessFlags := 25, slot := 23, constantValue := 0 }, { name := "TWO", type := (.object "java/math/BigInteger"), accessFlags := 25, slot := 24, constantValue := 0 }, { name := "NEGATIVE_ONE", type := (.object "java/math/BigInteger"), accessFlags := 26, slot := 25, constantValue := 0 }, { name := "TEN", type := (.object "java/math/BigInteger"), accessFlags := 25, slot := 26, constantValue := 0 }, { name := "bnExpModThreshTable", type := (.array .int), accessFlags := 8, slot := 27, constantValue := 0 }, { name := "NUM_ZEROS", type := .int, accessFlags := 10, slot := 28, constantValue := 0 }, { name := "ZEROS", type := (.object "java/lang/String"), accessFlags := 26, slot := 29, constantValue := 0 }, { name := "digitsPerLong", type := (.array .int), accessFlags := 10, slot := 30, constantValue := 0 }, { name := "longRadix", type := (.array (.object "java/math/BigInteger")), accessFlags := 10, slot := 31, constantValue := 0 }, { name := "digitsPerInt", type := (.array .int), accessFlags := 10, slot := 32, constantValue := 0 }, { name := "intRadix", type := (.array .int), accessFlags := 10, slot := 33, constantValue := 0 }, { name := "serialVersionUID", type := .long, accessFlags := 26, slot := 34, constantValue := 0 }, { name := "serialPersistentFields", type := (.array (.object "java/io/ObjectStreamField")), accessFlags := 26, slot := 35, constantValue := 0 }, { name := "$assertionsDisabled", type := .boolean, accessFlags := 4120, slot := 36, constantValue := 0 }]
  methods := #[]
  instanceTypes := #[.int, (.array .int), .int, .int, .int, .int]
  staticTypes := #[.long, .int, .int, .int, .int, .int, .int, .int, .int, .int, .int, .int, (.array .long), .int, .int, (.object "java/math/BigInteger"), .int, (.array (.object "java/math/BigInteger")), (.array (.object "java/math/BigInteger")), (.array (.array (.object "java/math/BigInteger"))), (.array .double), .double, (.object "java/math/BigInteger"), (.object "java/math/BigInteger"), (.object "java/math/BigInteger"), (.object "java/math/BigInteger"), (.object "java/math/BigInteger"), (.array .int), .int, (.object "java/lang/String"), (.array .int), (.array (.object "java/math/BigInteger")), (.array .int), (.array .int), .long, (.array (.object "java/io/ObjectStreamField")), .boolean]
  resolved := Array.replicate 1542 none
  statics := some 1 }

def pool12 : Array CpInfo := pool [(1, u "java/lang/Cloneable"), (0, .class_ 1), (0, u "java/lang/Object"), (0, .class_ 3)] 3

/-- java/lang/Cloneable -/
def k12 : Class := { plain "java/lang/Cloneable" (some 0) with
  accessFlags := 1537
  interfaces := #[]
  cf := some (fileOf pool12 2 #[] #[] 1537 4 #[] #[])
  fields := #[]
  methods := #[]
  instanceTypes := #[]
  staticTypes := #[]
  resolved := Array.replicate 8 none
  statics := none }

/-- the primitive byte -/
def k13 : Class := { plain "byte" none with kind := .primitive 'B', accessFlags := 0x411 }
/-- [B -/
def k14 : Class := { plain "[B" (some 0) with kind := .array 13 .byte, interfaces := #[12, 3], accessFlags := 1041 }

/-- the primitive int -/
def k15 : Class := { plain "int" none with kind := .primitive 'I', accessFlags := 0x411 }
/-- [I -/
def k16 : Class := { plain "[I" (some 0) with kind := .array 15 .int, interfaces := #[12, 3], accessFlags := 1041 }

/-- [Ljava/math/BigDecimal; -/
def k17 : Class := { plain "[Ljava/math/BigDecimal;" (some 0) with kind := .array 6 (.object "java/math/BigDecimal"), interfaces := #[12, 3], accessFlags := 1041 }

def heap : Heap := #[{ cls := 6, slots := #[.double 0, .int 0, .int 0, .int 0, .int 0, .int 0, .int 0, .long 0, .null, .int 0, .long 0, .null, .null, .long 0, .long 0, .ref 2, .null, .null, .null, .null, .null, .int 0, .int 0, .int 0, .int 0, .int 0, .int 0, .int 0, .int 0, .null, .null, .null, .null, .int 0, .int 0, .null, .long 0, .null, .int 0], vm := .statics 6 },
  { cls := 11, slots := #[.long 0, .int 0, .int 0, .int 0, .int 0, .int 0, .int 0, .int 0, .int 0, .int 0, .int 0, .int 0, .null, .int 0, .int 0, .null, .int 0, .null, .null, .null, .null, .double 0, .ref 3, .null, .null, .null, .null, .null, .int 0, .null, .null, .null, .null, .null, .long 0, .null, .int 0], vm := .statics 11 },
  { cls := 6, slots := #[.ref 3, .int 0, .int 1, .null, .long 0], vm := .none },
  { cls := 11, slots := #[.int 0, .ref 4, .int 0, .int 0, .int 0, .int 0], vm := .none },
  { cls := 16, slots := #[], vm := .none }]
def classes : Array Class := #[k0, k1, k2, k3, k4, k5, k6, k7, k8, k9, k10, k11, k12, k13, k14, k15, k16, k17]
def interned : List (Array UInt16 × Addr) := []
def slotsUsed : Nat := 87
def theMethod : MethodId := ⟨1, 2⟩
def args0 : Array Value := #[.int 5, .int 6]
def aboutOver (below : List Frame) : State where
  vm := { classes := classes, interned := interned.toArray }
  heap := heap
  slotsUsed := slotsUsed
  threads := #[{ frames := .invoking theMethod args0 :: below }]
def below0 : List Frame := [.native { method := ⟨0, 0⟩, args := #[] }]
def about1 : State := aboutOver below0
def p0 : Program := .bare "" "" ""
def e0 : Env := launch0.env 0 0 0
theorem w_frames : about1.frames = Frame.invoking theMethod args0 :: below0 := rfl
set_option maxRecDepth 65536 in
theorem w_args : argsFit about1.vm theMethod args0 = true := by decide +kernel
set_option maxRecDepth 65536 in
theorem w_heap : heapFits about1 = true := by decide +kernel
set_option maxRecDepth 65536 in
theorem w_runnable : about1.curStatus? = some .runnable := by decide +kernel
set_option maxRecDepth 65536 in
theorem w_alone : about1.alone = true := by decide +kernel
set_option maxRecDepth 65536 in
theorem w_named : about1.methodNamed? x = some theMethod := by decide +kernel
set_option maxRecDepth 65536 in
theorem w_hears : about1.hears theMethod below0 = true := by decide +kernel
set_option maxRecDepth 65536 in
theorem w_ripe : about1.ripe theMethod args0 below0 = true := by decide +kernel
theorem w_running : about1.status = .running := rfl
set_option maxRecDepth 65536 in
theorem w_room : about1.hasRoom e0.platform room_1 = true :=
  launch0.hasRoom_least _ room_1 (by decide +kernel) (by decide +kernel) (by decide +kernel) (by decide +kernel) (by decide +kernel) (by decide +kernel)
theorem allAtoms_all (ts : List Jvm.Cond) (a : Array Jvm.Value) (st : Jvm.State) : (allAtoms ts).before a st = ts.all (fun c => c.before a st) := by
  induction ts with
  | nil => rfl
  | cons c t ih =>
    show (Jvm.Cond.and c (allAtoms t)).before a st = _
    rw [Jvm.Cond.before_and, ih, List.all_cons]
def words1 : List Jvm.Cond := Jvm.Cond.code x code maxLocals ret :: tables_1
/-- a 'code' word, met by the world's own term for the bytes: nothing is compared byte by byte -/
theorem code_word {y : MethodName} {bytes : ByteArray} {mx : Nat} {rt : Option FieldType} {a : Array Value} {s : State} {m : MethodId} {meth : Method} {c : Code} (h1 : s.methodNamed? y = some m) (h2 : s.vm.method? m = some meth) (h3 : meth.code = some c) (h4 : c.code = bytes)
    (h5 : (c.maxLocals == mx && c.exceptionTable.isEmpty && decide (c.maxStack ≤ mostOperands) && decide (meth.sig.returnType = rt) && !meth.locks && decide (parseMethodDescriptor y.desc = some meth.sig)) = true) : (Jvm.Cond.code y bytes mx rt).before a s = true := by
  simp only [Bool.and_eq_true, beq_iff_eq, Bool.not_eq_true', decide_eq_true_eq] at h5
  obtain ⟨⟨⟨⟨⟨g1, g2⟩, g3⟩, g4⟩, g5⟩, g6⟩ := h5
  simp [Cond.before, Cond.holds, Cond.value, h1, h2, h3, h4, g1, g2, g3, g4, g5, g6]
def isCode : Jvm.Cond → Bool
  | .code _ _ _ _ => true
  | _ => false
theorem all_split {L : List Jvm.Cond} {P : Jvm.Cond → Bool} (h1 : L.all (fun c => isCode c || P c) = true) (h2 : ∀ c ∈ L.filter isCode, P c = true) : L.all P = true := by
  refine List.all_eq_true.mpr fun c hc => ?_
  have h := List.all_eq_true.mp h1 c hc
  rcases Bool.eq_false_or_eq_true (isCode c) with hi | hi
  · exact h2 c (List.mem_filter.mpr ⟨hc, hi⟩)
  · simpa [hi] using h
set_option maxRecDepth 65536 in
theorem w_c0 : (Jvm.Cond.code x code maxLocals ret).before args0 about1 = true := code_word (m := ⟨1, 2⟩) (meth := k1m2) (c := k1c2) (by decide +kernel) rfl rfl rfl (by decide +kernel)
set_option maxRecDepth 65536 in
theorem w_c1 : (Jvm.Cond.code ({ cls := "com/example/tankroute/tankroute/solve/Problem", name := "zeros", desc := "(I)[Ljava/math/BigDecimal;" } : Jvm.MethodName) prog_45_method_6_code (2 : Nat) (Option.some (Jvm.ClassFile.FieldType.array (Jvm.ClassFile.FieldType.object "java/math/BigDecimal")))).before args0 about1 = true := code_word (m := ⟨2, 0⟩) (meth := k2m0) (c := k2c0) (by decide +kernel) rfl rfl rfl (by decide +kernel)
set_option maxRecDepth 65536 in
theorem w_c2 : (Jvm.Cond.code ({ cls := "java/util/Arrays", name := "fill", desc := "([Ljava/lang/Object;Ljava/lang/Object;)V" } : Jvm.MethodName) jdk_65_method_117_code (4 : Nat) (Option.none : Option Jvm.ClassFile.FieldType)).before args0 about1 = true := code_word (m := ⟨7, 1⟩) (meth := k7m1) (c := k7c1) (by decide +kernel) rfl rfl rfl (by decide +kernel)
set_option maxRecDepth 65536 in
theorem w_c3 : (Jvm.Cond.code ({ cls := "com/example/tankroute/tankroute/solve/ProblemZerosPinLaw", name := "isZero", desc := "(Ljava/math/BigDecimal;)Z" } : Jvm.MethodName) method_2_code (1 : Nat) (Option.some Jvm.ClassFile.FieldType.boolean)).before args0 about1 = true := code_word (m := ⟨1, 1⟩) (meth := k1m1) (c := k1c1) (by decide +kernel) rfl rfl rfl (by decide +kernel)
set_option maxRecDepth 65536 in
theorem w_c4 : (Jvm.Cond.code ({ cls := "java/math/BigDecimal", name := "signum", desc := "()I" } : Jvm.MethodName) jdk_17_method_58_code (1 : Nat) (Option.some Jvm.ClassFile.FieldType.int)).before args0 about1 = true := code_word (m := ⟨6, 0⟩) (meth := k6m0) (c := k6c0) (by decide +kernel) rfl rfl rfl (by decide +kernel)
set_option maxRecDepth 65536 in
theorem w_c5 : (Jvm.Cond.code ({ cls := "java/lang/Long", name := "signum", desc := "(J)I" } : Jvm.MethodName) jdk_35_method_57_code (2 : Nat) (Option.some Jvm.ClassFile.FieldType.int)).before args0 about1 = true := code_word (m := ⟨10, 0⟩) (meth := k10m0) (c := k10c0) (by decide +kernel) rfl rfl rfl (by decide +kernel)
def codes1 : List Jvm.Cond := [Jvm.Cond.code x code maxLocals ret, Jvm.Cond.code ({ cls := "com/example/tankroute/tankroute/solve/Problem", name := "zeros", desc := "(I)[Ljava/math/BigDecimal;" } : Jvm.MethodName) prog_45_method_6_code (2 : Nat) (Option.some (Jvm.ClassFile.FieldType.array (Jvm.ClassFile.FieldType.object "java/math/BigDecimal"))), Jvm.Cond.code ({ cls := "java/util/Arrays", name := "fill", desc := "([Ljava/lang/Object;Ljava/lang/Object;)V" } : Jvm.MethodName) jdk_65_method_117_code (4 : Nat) (Option.none : Option Jvm.ClassFile.FieldType), Jvm.Cond.code ({ cls := "com/example/tankroute/tankroute/solve/ProblemZerosPinLaw", name := "isZero", desc := "(Ljava/math/BigDecimal;)Z" } : Jvm.MethodName) method_2_code (1 : Nat) (Option.some Jvm.ClassFile.FieldType.boolean), Jvm.Cond.code ({ cls := "java/math/BigDecimal", name := "signum", desc := "()I" } : Jvm.MethodName) jdk_17_method_58_code (1 : Nat) (Option.some Jvm.ClassFile.FieldType.int), Jvm.Cond.code ({ cls := "java/lang/Long", name := "signum", desc := "(J)I" } : Jvm.MethodName) jdk_35_method_57_code (2 : Nat) (Option.some Jvm.ClassFile.FieldType.int)]
set_option maxRecDepth 65536 in
theorem codes_eq : words1.filter isCode = codes1 := rfl
theorem w_codes : ∀ c ∈ words1.filter isCode, c.before args0 about1 = true := by
  rw [codes_eq]
  intro c hc
  simp only [codes1, List.mem_cons, List.not_mem_nil, or_false] at hc
  rcases hc with rfl | rfl | rfl | rfl | rfl | rfl
  · exact w_c0
  · exact w_c1
  · exact w_c2
  · exact w_c3
  · exact w_c4
  · exact w_c5
set_option maxRecDepth 65536 in
theorem w_t1 : (words1.take 24).all (fun c => isCode c || c.before args0 about1) = true := by decide +kernel
set_option maxRecDepth 65536 in
theorem w_t2 : (words1.drop 24).all (fun c => isCode c || c.before args0 about1) = true := by decide +kernel
theorem w_tables : (allAtoms (Jvm.Cond.code x code maxLocals ret :: tables_1)).before args0 about1 = true := by
  rw [allAtoms_all]
  show words1.all (fun c => c.before args0 about1) = true
  refine all_split ?_ w_codes
  rw [← List.take_append_drop 24 words1, List.all_append, w_t1, w_t2]
  rfl
set_option maxRecDepth 65536 in
theorem w_rest : rest_1_c.before args0 about1 = true := by decide +kernel
set_option maxRecDepth 65536 in
theorem w_case : (Jvm.Cond.and given_1 narrow_1).before args0 about1 = true := by decide +kernel
theorem w_applies : (headSpec (Jvm.Cond.code x code maxLocals ret :: tables_1) room_1).applies x e0.platform about1 = true :=
  (Spec.applies_iff w_frames).mpr ⟨w_running, w_runnable, w_alone, w_named, w_hears, w_ripe, w_room, w_tables⟩
theorem atStart : AtStart classFile x code maxLocals ret World_1 tables_1 room_1 Calls_1 rest_1 Pre_1 launch0 p0 e0 about1 theMethod args0 below0 :=
  ⟨lists_1, trivial, launch0.admits_env _ _ _, launch0.least_env, fairChoices_fair.cas, fairChoices_fair.clock, w_frames, w_args, w_heap, w_applies, trivial, w_rest, w_case⟩
end start1
theorem witness_1 : WitnessClaimed_1 := ⟨start1.p0, start1.e0, start1.about1, start1.theMethod, start1.args0, start1.below0, start1.atStart⟩
end Jvm.Pilot.@@N@@
