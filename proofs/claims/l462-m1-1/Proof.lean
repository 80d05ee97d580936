import JvmDerived
import JvmDerived.Pilot.@@N@@Statement
import JvmDerived.Pilot.@@N@@Code
set_option linter.unusedVariables false
set_option linter.unusedSimpArgs false
namespace Jvm.Pilot.@@N@@
open Jvm Jvm.ClassFile Sem Op Lib Jvm.Free Jvm.Stand Jvm.LawKit Jvm.RoadKit Bundle Jvm.Pilot.@@N@@.Jvm.D
abbrev own_Ends (p : Program) (e : Env) (below : List Frame) (T : State) (g : JFrame) (Q : Outcome → State → Prop) : Prop :=
  ∃ s₂ o, Steps p.tables e below (T.setTop g) s₂ ∧ s₂.status = .running ∧ Ended s₂ below o ∧ Q o s₂
section Own
variable {p : Program} {l : Launch} {e : Env} {R : Room} {s : State} {m : MethodId} {args : Array Value} {below : List Frame} {meth : Method} {c : Code} {T T' : State} {locs : List Loc} {cells slots : Nat}
theorem own_go {g g' : JFrame} {Q : Outcome → State → Prop} (h : ∀ t, Steps p.tables e below (T'.setTop g') t → Steps p.tables e below (T.setTop g) t) (k : own_Ends p e below T' g' Q) : own_Ends p e below T g Q := by
  obtain ⟨s₂, o, h1, h2⟩ := k
  exact ⟨s₂, o, h _ h1, h2⟩
theorem own_start {g g' : JFrame} {Q : Outcome → State → Prop} (h : g = g') (k : own_Ends p e below T g' Q) : own_Ends p e below T g Q := h ▸ k
theorem own_ret (X : Stand p l e R s m args below meth c T locs cells slots) (hlk : meth.locks = false) (hx : p.tables.exec = Jvm.exec) {pc : Nat} {Ls : Array Slot} {w : Value} {t : FieldType} {i : Instr} {rest : List Value} (hret : meth.sig.returnType = some t) (hn : narrow t w = w)
    (hi : (i = .ireturn ∧ (t = .int ∨ t = .boolean ∨ t = .byte ∨ t = .char ∨ t = .short) ∧ ∃ z, w = .int z) ∨ (i = .lreturn ∧ t = .long ∧ ∃ z, w = .long z) ∨ (i = .dreturn ∧ t = .double ∧ ∃ z, w = .double z) ∨ (i = .freturn ∧ t = .float ∧ ∃ z, w = .float z) ∨ (i = .areturn ∧ t.isReference = true ∧ w.isRef = true))
    (hd : decode c.code pc = .ok (i, 1)) {Qv : Option Value → Heap → List Loc → Prop} {C S : Nat} (hq : Qv (some w) T.heap locs) (hc : cells ≤ C) (hs : slots ≤ S) :
    own_Ends p e below T (mkF m pc Ls (w :: rest)) (fun o U' => ∃ v L, o = .returned v ∧ Qv v U'.heap L ∧ FrameEnd s o U' L C S) := by
  obtain ⟨fs, hr, hrun, hended, hW, hsame⟩ := X.leave (v := some w) (fun h => by rw [hret] at h; cases h) hlk
  exact ⟨_, _, retOut X hx hret hn hi hd hr, hrun, hended, _, _, rfl, hq, ⟨_, rfl⟩, hW, hsame.mono hc hs⟩
theorem own_ret0 (X : Stand p l e R s m args below meth c T locs cells slots) (hlk : meth.locks = false) (hx : p.tables.exec = Jvm.exec) {pc : Nat} {Ls : Array Slot} (hret : meth.sig.returnType = none)
    (hd : decode c.code pc = .ok (.return_, 1)) {Qv : Option Value → Heap → List Loc → Prop} {C S : Nat} (hq : Qv none T.heap locs) (hc : cells ≤ C) (hs : slots ≤ S) :
    own_Ends p e below T (mkF m pc Ls []) (fun o U' => ∃ v L, o = .returned v ∧ Qv v U'.heap L ∧ FrameEnd s o U' L C S) := by
  obtain ⟨fs, hr, hrun, hended, hW, hsame⟩ := X.leave (v := none) (fun _ => rfl) hlk
  exact ⟨_, _, X.returnOut hx hret hd hr, hrun, hended, _, _, rfl, hq, ⟨_, rfl⟩, hW, hsame.mono hc hs⟩
theorem own_nr {t : FieldType} {v : Value} (h : v.isRef = true) : narrow t v = v := by cases v <;> first | (cases h; done) | (cases t <;> rfl)
end Own
theorem own_isref_ite {c : Prop} [Decidable c] {a b : Value} (ha : a.isRef = true) (hb : b.isRef = true) : (if c then a else b).isRef = true := by split <;> assumption
theorem own_sta_keep {Z : State} {h h' : Heap} {C n d : String} {v : Value} {ws : List Addr} (F : Sta Z h C n d v) (K : Keep h h' ws) (q : ∀ x ∈ ws, ∀ cell : Cell, h[x]? = some cell → cell.vm.isStatics = false) : Sta Z h' C n d v := by
  obtain ⟨cf, i, k, f, st, cell, h1, h2, h3, h4, h5, h6, h7⟩ := F
  refine ⟨cf, i, k, f, st, cell, h1, h2, h3, h4, K.2.1 _ _ h5 (fun m => ?_), h6, h7⟩
  rw [q _ m _ h5] at h6; cases h6
theorem own_ns0 {h : Heap} : ∀ x ∈ ([] : List Addr), ∀ cell : Cell, h[x]? = some cell → cell.vm.isStatics = false := fun _ hx => nomatch hx
theorem own_nsS {h : Heap} {a : Addr} {ws : List Addr} (n : ∀ cell : Cell, h[a]? = some cell → cell.vm.isStatics = false) (r : ∀ x ∈ ws, ∀ cell : Cell, h[x]? = some cell → cell.vm.isStatics = false) : ∀ x ∈ a :: ws, ∀ cell : Cell, h[x]? = some cell → cell.vm.isStatics = false := fun x hx => by
  rcases List.mem_cons.mp hx with rfl | hx
  · exact n
  · exact r x hx
theorem own_nse {Z : State} {h : Heap} {a : Addr} {C : String} (E : Exa Z h a C) : ∀ cell : Cell, h[a]? = some cell → cell.vm.isStatics = false := by
  obtain ⟨c, k, h1, -, -, h4, -⟩ := E
  intro cell hc; cases h1.symm.trans hc; exact h4
theorem own_nsv {Z : State} {h : Heap} {a : Addr} {k : ClassId} {ty : FieldType} {z : Int32} {vs : List Value} {d : Value} (E : Arv Z h a k ty z vs d) : ∀ cell : Cell, h[a]? = some cell → cell.vm.isStatics = false := by
  obtain ⟨c, A, -⟩ := E
  intro cell hc; cases A.1.symm.trans hc; exact A.plain
def own_Cache (Z : State) (h : Heap) (a : Addr) : Prop := ∃ cl : Cell, Arr Z h a cl (.object "java/lang/Integer") ∧ cl.slots.size = 256 ∧ ∀ i, i < 256 → ∃ y, cl.slots[i]? = some (.ref y)
theorem own_Cache.ext {Z : State} {h h' : Heap} {a : Addr} (F : own_Cache Z h a) (E : Ext h h') : own_Cache Z h' a := by
  obtain ⟨cl, A, r⟩ := F; exact ⟨cl, A.ext E, r⟩
theorem own_Cache.keep {Z : State} {h h' : Heap} {a : Addr} {ws : List Addr} (F : own_Cache Z h a) (K : Keep h h' ws) (q : a ∉ ws) : own_Cache Z h' a := by
  obtain ⟨cl, A, r⟩ := F; exact ⟨cl, ⟨K.2.1 _ _ A.1 q, A.2⟩, r⟩
theorem own_Cache.other {Z : State} {h h' : Heap} {a b : Addr} {sl : Nat} {v : Value} (F : own_Cache Z h a) (W : Wr h h' b sl v) (q : a ≠ b) : own_Cache Z h' a := by
  obtain ⟨cl, A, r⟩ := F; exact ⟨cl, A.other W q, r⟩
theorem own_Cache.lt {Z : State} {h : Heap} {a : Addr} (F : own_Cache Z h a) : a < h.size := by
  obtain ⟨cl, A, r⟩ := F; exact A.lt
theorem own_cinb {p : Int32} (h1 : ¬ p < -128) (h2 : ¬ 127 < p) : ¬ (p + 128) < 0 ∧ (p + 128).toNatClampNeg < 256 := by
  rw [Int32.lt_iff_toInt_lt] at *
  have q := c_iadd p 128; have r := rng32 (p + 128)
  have e1 : (-128 : Int32).toInt = -128 := rfl
  have e2 : (127 : Int32).toInt = 127 := rfl
  have e3 : (128 : Int32).toInt = 128 := rfl
  have e0 : (0 : Int32).toInt = 0 := rfl
  have e5 : (p + 128).toNatClampNeg = (p + 128).toInt.toNat := rfl
  rw [e5]
  omega
theorem own_lenI {args : Array Value} {s : State} {t : Term} {a : Addr} {c : Cell} {ty : FieldType} {k : Int32} (ht : t.eval args s none [] s = some (.ref a)) (A : Arr s s.heap a c ty) (h : (Jvm.Cond.eq (.length t) (.int k)).value args s none s [] = some true) : c.slots.size < 2 ^ 31 ∧ c.slots.size.toInt32 = k := by
  obtain ⟨x, y, e1, e2, h3, h4⟩ := cmp_v (Or.inl h)
  obtain rfl : Value.int k = y := Option.some.inj ((Term.int_eval k).symm.trans e2)
  obtain ⟨z, rfl⟩ : ∃ z, x = .int z := h4
  have q : z = k := gotT (Cond.eq_ints e1 e2) h
  subst q
  have ha : s.arrayAt? a = some c := Arr.fin (Vm.Alike.refl _) A
  by_cases hl : c.slots.size < 2 ^ 31
  · refine ⟨hl, ?_⟩
    have := (len_f ht ha hl).symm.trans e1
    exact Value.int.inj (Option.some.inj this)
  · exfalso
    simp [Term.eval, ht, ha, hl] at e1 <;> omega
theorem own_sti {args : Array Value} {s : State} {t : Term} {k : Int32} (h : (Jvm.Cond.eq t (.int k)).value args s none s [] = some true) : t.eval args s none [] s = some (.int k) := by
  obtain ⟨x, y, e1, e2, h3, h4⟩ := cmp_v (Or.inl h)
  obtain rfl : Value.int k = y := Option.some.inj ((Term.int_eval k).symm.trans e2)
  obtain ⟨z, rfl⟩ : ∃ z, x = .int z := h4
  have q : z = k := gotT (Cond.eq_ints e1 e2) h
  subst q; exact e1
theorem own_cache_start {args : Array Value} {s : State} {C n d : String} {a : Addr} {c : Cell} {B : Jvm.Cond} (ht : (Term.static C n d).eval args s none [] s = some (.ref a)) (A : Arr s s.heap a c (.object "java/lang/Integer")) (hl : c.slots.size = 256)
    (h : (Jvm.Cond.all (.static C n d) (.and (.exactly (.elem (.static C n d) (.index 0)) "java/lang/Integer") B)).value args s none s [] = some true) : own_Cache s s.heap a := by
  have ha : s.arrayAt? a = some c := Arr.fin (Vm.Alike.refl _) A
  refine ⟨c, A, hl, fun i hi => ?_⟩
  have h1 := (and_e (Cond.all_elim ht ha h i (by omega))).1
  obtain ⟨x, e⟩ := exa_v h1
  have ht' : (Term.static C n d).eval args s none [i] s = some (.ref a) := ht
  have hj : (Term.index 0).eval args s none [i] s = some (.int i.toInt32) := rfl
  have q := (elem_in e ht' hj A.1).2
  have hc : (i.toInt32).toNatClampNeg = i := clamp_of rfl (by omega)
  rw [hc] at q; exact ⟨x, q⟩
theorem own_m5 (x : Int32) : (x &&& 2147483647) % 5 = 0 ∨ (x &&& 2147483647) % 5 = 1 ∨ (x &&& 2147483647) % 5 = 2 ∨ (x &&& 2147483647) % 5 = 3 ∨ (x &&& 2147483647) % 5 = 4 := by
  have h2 := (c_irem (x &&& 2147483647) 5 5 rfl).1 (c_and x 2147483647 (by decide)).1
  simp only [← Int32.toInt_inj]
  have : (0 : Int32).toInt = 0 := rfl
  have : (1 : Int32).toInt = 1 := rfl
  have : (2 : Int32).toInt = 2 := rfl
  have : (3 : Int32).toInt = 3 := rfl
  have : (4 : Int32).toInt = 4 := rfl
  omega

theorem own_d_jdk_33_method_22_code_0 : decode jdk_33_method_22_code 0 = .ok (.iload_n 0, 1) := by decide +kernel
theorem own_d_jdk_33_method_22_code_1 : decode jdk_33_method_22_code 1 = .ok (.bipush (-128), 2) := by decide +kernel
theorem own_d_jdk_33_method_22_code_3 : decode jdk_33_method_22_code 3 = .ok (.if_icmp .lt 20, 3) := by decide +kernel
theorem own_d_jdk_33_method_22_code_6 : decode jdk_33_method_22_code 6 = .ok (.iload_n 0, 1) := by decide +kernel
theorem own_d_jdk_33_method_22_code_7 : decode jdk_33_method_22_code 7 = .ok (.getstatic 191, 3) := by decide +kernel
theorem own_d_jdk_33_method_22_code_10 : decode jdk_33_method_22_code 10 = .ok (.if_icmp .gt 13, 3) := by decide +kernel
theorem own_d_jdk_33_method_22_code_13 : decode jdk_33_method_22_code 13 = .ok (.getstatic 195, 3) := by decide +kernel
theorem own_d_jdk_33_method_22_code_16 : decode jdk_33_method_22_code 16 = .ok (.iload_n 0, 1) := by decide +kernel
theorem own_d_jdk_33_method_22_code_17 : decode jdk_33_method_22_code 17 = .ok (.sipush 128, 3) := by decide +kernel
theorem own_d_jdk_33_method_22_code_20 : decode jdk_33_method_22_code 20 = .ok (.iadd, 1) := by decide +kernel
theorem own_d_jdk_33_method_22_code_21 : decode jdk_33_method_22_code 21 = .ok (.aaload, 1) := by decide +kernel
theorem own_d_jdk_33_method_22_code_22 : decode jdk_33_method_22_code 22 = .ok (.areturn, 1) := by decide +kernel
def Q_own_rval (h0 : Heap) (n0 : Nat) (v : Option Value) (h : Heap) (L : List Loc) : Prop := ∃ y, v = some (.ref y) ∧ L = [] ∧ h = h0
set_option maxRecDepth 65536 in
set_option maxHeartbeats 40000000 in
theorem own_rval (l : Launch) (Z : State) (a0 : Array Value) (hw : ∀ d ∈ tables_1, d.before a0 Z = true) (ws : List Jvm.Cond) (p0 : Int32) (aC : Addr) (h0 : Heap) (n0 : Nat) (Z0 : n0 ≤ h0.size) (S_high : Sta Z h0 "java/lang/Integer$IntegerCache" "high" "I" (.int (127 : Int32))) (S_cache : Sta Z h0 "java/lang/Integer$IntegerCache" "cache" "[Ljava/lang/Integer;" (.ref aC)) (C_cache : own_Cache Z h0 aC) (h1 : ¬ p0 < -128) (h2 : ¬ 127 < p0) :
    MetFree l (⟨"java/lang/Integer", "valueOf", "(I)Ljava/lang/Integer;"⟩ : MethodName) (head1 (Jvm.Cond.code (⟨"java/lang/Integer", "valueOf", "(I)Ljava/lang/Integer;"⟩ : MethodName) jdk_33_method_22_code 1 (some (.object "java/lang/Integer")) :: ws) ({ frames := 0, cells := 0, slots := 0, locals := 0 } : Room)) (fun au Uu => au = #[(.int p0)] ∧ Z.Warmed39 Uu.vm ∧ Uu.heap = h0) (fun _ _ _ _ _ => True) (fun _ Uu ou Uw => ∃ vu Lu, ou = .returned vu ∧ Q_own_rval h0 n0 vu Uw.heap Lu ∧ FrameEnd Uu ou Uw Lu ({ frames := 0, cells := 0, slots := 0, locals := 0 } : Room).cells ({ frames := 0, cells := 0, slots := 0, locals := 0 } : Room).slots) := by
  refine MetFree.of_bodySF (plainFor_of_name (by first | (simp [plainName, overriddenIn]; done) | decide +kernel)) hisR ?_
  intro p e s m args below meth c s₁ Bd hml0 hP hK
  obtain ⟨rfl, hZ, hh⟩ := hP
  have hx := Bd.exec
  have hby := Bd.bytes
  have hlk := Bd.notSynchronized
  have hml : c.maxLocals = 1 := hml0
  have hown : s.vm.findClass "java/lang/Integer" = some m.cls := findClass_of_methodNamed Bd.named
  have hnm := (name_of_methodNamed Bd.named Bd.method).1
  have X0 : Stand p l e ({ frames := 0, cells := 0, slots := 0, locals := 0 } : Room) s m #[(.int p0)] below meth c s₁ [] 0 0 := Stand.of_body Bd
  have e0 : s₁.heap = h0 := by rw [← hh, Bd.state]; rfl
  have N0 := Fr.nil n0
  show own_Ends p e below s₁ (entryFrame m #[(.int p0)] 1) (fun ou Uw => ∃ vu Lu, ou = .returned vu ∧ Q_own_rval h0 n0 vu Uw.heap Lu ∧ FrameEnd s ou Uw Lu ({ frames := 0, cells := 0, slots := 0, locals := 0 } : Room).cells ({ frames := 0, cells := 0, slots := 0, locals := 0 } : Room).slots)
  refine own_start (g' := (mkF m 0 #[iv p0] [])) (by first | (simp [entryFrame, mkF, argsToLocals, Value.category, iv, rv]; done) | rfl) ?_
  refine own_go (T' := s₁) (g' := (mkF m 1 #[iv p0] [(.int p0)])) (fun t k => XS.iloadN X0.here hx rfl (hb hby own_d_jdk_33_method_22_code_0) rfl k) ?_
  refine own_go (T' := s₁) (g' := (mkF m 3 #[iv p0] [(.int (-128 : Int32)), (.int p0)])) (fun t k => XS.bipush X0.here hx rfl (hb hby own_d_jdk_33_method_22_code_1) k) ?_
  refine own_go (T' := s₁) (g' := (mkF m 6 #[iv p0] [])) (fun t k => XS.icmpNo X0.here hx rfl (hb hby own_d_jdk_33_method_22_code_3) rfl (flt (h1 : ¬ (p0 < (-128 : Int32)))).1 k) ?_
  refine own_go (T' := s₁) (g' := (mkF m 7 #[iv p0] [(.int p0)])) (fun t k => XS.iloadN X0.here hx rfl (hb hby own_d_jdk_33_method_22_code_6) rfl k) ?_
  obtain ⟨T1, X1, e1, st1⟩ := getS2 X0 hx hZ hown (host := "") (Or.inl (hw _ (List.mem_of_getElem? (i := 7) rfl))) Via.refl e0 S_high (g := (mkF m 7 #[iv p0] [(.int p0)])) rfl (hb hby own_d_jdk_33_method_22_code_7)
  refine own_go (T' := T1) (g' := (mkF m 10 #[iv p0] [(.int (127 : Int32)), (.int p0)])) (st1) ?_
  refine own_go (T' := T1) (g' := (mkF m 13 #[iv p0] [])) (fun t k => XS.icmpNo X1.here hx rfl (hb hby own_d_jdk_33_method_22_code_10) rfl (flt (h2 : ¬ ((127 : Int32) < p0))).2.2.1 k) ?_
  obtain ⟨T2, X2, e2, st2⟩ := getS2 X1 hx hZ hown (host := "") (Or.inl (hw _ (List.mem_of_getElem? (i := 9) rfl))) Via.refl e1 S_cache (g := (mkF m 13 #[iv p0] [])) rfl (hb hby own_d_jdk_33_method_22_code_13)
  refine own_go (T' := T2) (g' := (mkF m 16 #[iv p0] [(.ref aC)])) (st2) ?_
  refine own_go (T' := T2) (g' := (mkF m 17 #[iv p0] [(.int p0), (.ref aC)])) (fun t k => XS.iloadN X2.here hx rfl (hb hby own_d_jdk_33_method_22_code_16) rfl k) ?_
  refine own_go (T' := T2) (g' := (mkF m 20 #[iv p0] [(.int (128 : Int32)), (.int p0), (.ref aC)])) (fun t k => XS.sipush X2.here hx rfl (hb hby own_d_jdk_33_method_22_code_17) k) ?_
  refine own_go (T' := T2) (g' := (mkF m 21 #[iv p0] [(.int (p0 + (128 : Int32))), (.ref aC)])) (fun t k => XS.iadd X2.here hx rfl (hb hby own_d_jdk_33_method_22_code_20) rfl k) ?_
  obtain ⟨cl3, Ar3, Sz3, He3⟩ := id C_cache
  obtain ⟨y3, hy3⟩ := He3 _ (own_cinb h1 h2).2
  have hin3 : ¬ ((p0 + (128 : Int32)) < 0 ∨ cl3.slots.size ≤ ((p0 + (128 : Int32))).toNatClampNeg) := by rw [Sz3]; exact not_or.mpr ⟨(own_cinb h1 h2).1, Nat.not_le.mpr (own_cinb h1 h2).2⟩
  refine own_go (T' := T2) (g' := (mkF m 22 #[iv p0] [(.ref y3)])) (fun t k => X2.aaload hx (j := (p0 + (128 : Int32))) (v := .ref y3) (by rw [e2]; exact Ar3.1) (State.isArrayOf_alike hZ.alike Ar3.2.1) rfl Ar3.2.2 hin3 hy3 (g := (mkF m 21 #[iv p0] [(.int (p0 + (128 : Int32))), (.ref aC)])) rfl rfl (hb hby own_d_jdk_33_method_22_code_21) _ k) ?_
  exact own_ret X2 hlk hx Bd.returns rfl (Or.inr (Or.inr (Or.inr (Or.inr ⟨rfl, rfl, rfl⟩)))) (hb hby own_d_jdk_33_method_22_code_22) ⟨_, rfl, rfl, e2⟩ (by decide) (by decide)

theorem own_d_prog_5_method_1_code_0 : decode prog_5_method_1_code 0 = .ok (.aload_n 0, 1) := by decide +kernel
theorem own_d_prog_5_method_1_code_1 : decode prog_5_method_1_code 1 = .ok (.invokespecial 3, 3) := by decide +kernel
theorem own_d_prog_5_method_1_code_4 : decode prog_5_method_1_code 4 = .ok (.aload_n 0, 1) := by decide +kernel
theorem own_d_prog_5_method_1_code_5 : decode prog_5_method_1_code 5 = .ok (.ldc 11, 2) := by decide +kernel
theorem own_d_prog_5_method_1_code_7 : decode prog_5_method_1_code 7 = .ok (.putfield 12, 3) := by decide +kernel
theorem own_d_prog_5_method_1_code_10 : decode prog_5_method_1_code 10 = .ok (.aload_n 0, 1) := by decide +kernel
theorem own_d_prog_5_method_1_code_11 : decode prog_5_method_1_code 11 = .ok (.aload_n 1, 1) := by decide +kernel
theorem own_d_prog_5_method_1_code_12 : decode prog_5_method_1_code 12 = .ok (.putfield 16, 3) := by decide +kernel
theorem own_d_prog_5_method_1_code_15 : decode prog_5_method_1_code 15 = .ok (.aload_n 0, 1) := by decide +kernel
theorem own_d_prog_5_method_1_code_16 : decode prog_5_method_1_code 16 = .ok (.aload_n 2, 1) := by decide +kernel
theorem own_d_prog_5_method_1_code_17 : decode prog_5_method_1_code 17 = .ok (.putfield 20, 3) := by decide +kernel
theorem own_d_prog_5_method_1_code_20 : decode prog_5_method_1_code 20 = .ok (.return_, 1) := by decide +kernel
def Q_own_rinit (Z : State) (a : Addr) (h0 : Heap) (n0 : Nat) (v : Option Value) (h : Heap) (L : List Loc) : Prop := v = none ∧ Fr n0 L ∧ Keep h0 h [a] ∧ Exa Z h a "com/example/treeline/treeline/Node" ∧ Fld Z h a "com/example/treeline/treeline/Node" "left" "Lcom/example/treeline/treeline/Node;" .null ∧ Fld Z h a "com/example/treeline/treeline/Node" "right" "Lcom/example/treeline/treeline/Node;" .null
set_option maxRecDepth 65536 in
set_option maxHeartbeats 40000000 in
theorem own_rinit (l : Launch) (Z : State) (a0 : Array Value) (hw : ∀ d ∈ tables_1, d.before a0 Z = true) (ws : List Jvm.Cond) (a kk vv : Addr) (h0 : Heap) (n0 : Nat) (Z0 : n0 ≤ h0.size) (E_a : Exa Z h0 a "com/example/treeline/treeline/Node") (g_a : n0 ≤ a) (F_sz : Fld Z h0 a "com/example/treeline/treeline/Node" "sizeAndParity" "I" (.int (0 : Int32))) (F_k : Fld Z h0 a "com/example/treeline/treeline/Node" "key" "Ljava/lang/Object;" .null) (F_v : Fld Z h0 a "com/example/treeline/treeline/Node" "value" "Ljava/lang/Object;" .null) (F_l : Fld Z h0 a "com/example/treeline/treeline/Node" "left" "Lcom/example/treeline/treeline/Node;" .null) (F_r : Fld Z h0 a "com/example/treeline/treeline/Node" "right" "Lcom/example/treeline/treeline/Node;" .null) :
    MetFree l (⟨"com/example/treeline/treeline/Node", "<init>", "(Ljava/lang/Object;Ljava/lang/Object;)V"⟩ : MethodName) (head1 (Jvm.Cond.code (⟨"com/example/treeline/treeline/Node", "<init>", "(Ljava/lang/Object;Ljava/lang/Object;)V"⟩ : MethodName) prog_5_method_1_code 3 none :: ws) ({ frames := 1, cells := 0, slots := 0, locals := 12 } : Room)) (fun au Uu => au = #[(.ref a), (.ref kk), (.ref vv)] ∧ Z.Warmed39 Uu.vm ∧ Uu.heap = h0) (fun _ _ _ _ _ => True) (fun _ Uu ou Uw => ∃ vu Lu, ou = .returned vu ∧ Q_own_rinit Z a h0 n0 vu Uw.heap Lu ∧ FrameEnd Uu ou Uw Lu ({ frames := 1, cells := 0, slots := 0, locals := 12 } : Room).cells ({ frames := 1, cells := 0, slots := 0, locals := 12 } : Room).slots) := by
  refine MetFree.of_bodySF (plainFor_of_name (by first | (simp [plainName, overriddenIn]; done) | decide +kernel)) hisR ?_
  intro p e s m args below meth c s₁ Bd hml0 hP hK
  obtain ⟨rfl, hZ, hh⟩ := hP
  have hx := Bd.exec
  have hby := Bd.bytes
  have hlk := Bd.notSynchronized
  have hml : c.maxLocals = 3 := hml0
  have hown : s.vm.findClass "com/example/treeline/treeline/Node" = some m.cls := findClass_of_methodNamed Bd.named
  have hnm := (name_of_methodNamed Bd.named Bd.method).1
  have X0 : Stand p l e ({ frames := 1, cells := 0, slots := 0, locals := 12 } : Room) s m #[(.ref a), (.ref kk), (.ref vv)] below meth c s₁ [] 0 0 := Stand.of_body Bd
  have e0 : s₁.heap = h0 := by rw [← hh, Bd.state]; rfl
  have N0 := Fr.nil n0
  show own_Ends p e below s₁ (entryFrame m #[(.ref a), (.ref kk), (.ref vv)] 3) (fun ou Uw => ∃ vu Lu, ou = .returned vu ∧ Q_own_rinit Z a h0 n0 vu Uw.heap Lu ∧ FrameEnd s ou Uw Lu ({ frames := 1, cells := 0, slots := 0, locals := 12 } : Room).cells ({ frames := 1, cells := 0, slots := 0, locals := 12 } : Room).slots)
  refine own_start (g' := (mkF m 0 #[rv a, rv kk, rv vv] [])) (by first | (simp [entryFrame, mkF, argsToLocals, Value.category, iv, rv]; done) | rfl) ?_
  refine own_go (T' := s₁) (g' := (mkF m 1 #[rv a, rv kk, rv vv] [(.ref a)])) (fun t k => XS.aloadN X0.here hx rfl (hb hby own_d_prog_5_method_1_code_0) rfl rfl k) ?_
  obtain ⟨T4, X4, e4, st4⟩ := initO X0 hx hZ hown (hw _ (List.mem_of_getElem? (i := 13) rfl)) (hw _ (List.mem_of_getElem? (i := 14) rfl)) (hw _ (List.mem_of_getElem? (i := 15) rfl)) e0 (g := (mkF m 1 #[rv a, rv kk, rv vv] [(.ref a)])) rfl (by rw [hml]; rfl) rfl (hb hby own_d_prog_5_method_1_code_1) (by decide) (W := 0) (by show 2 * 0 + _ ≤ _; exact Nat.le_of_eq rfl) (by decide)
  refine own_go (T' := T4) (g' := (mkF m 4 #[rv a, rv kk, rv vv] [])) (st4) ?_
  refine own_go (T' := T4) (g' := (mkF m 5 #[rv a, rv kk, rv vv] [(.ref a)])) (fun t k => XS.aloadN X4.here hx rfl (hb hby own_d_prog_5_method_1_code_4) rfl rfl k) ?_
  refine own_go (T' := T4) (g' := (mkF m 7 #[rv a, rv kk, rv vv] [(.int (-2147483647 : Int32)), (.ref a)])) (fun t k => X4.ldcInt hx hown (mvT hZ (hw _ (List.mem_of_getElem? (i := 16) rfl))) (g := (mkF m 5 #[rv a, rv kk, rv vv] [(.ref a)])) rfl (hb hby own_d_prog_5_method_1_code_5) _ k) ?_
  obtain ⟨T5, h5, X5, e5, W5, st5⟩ := putF X4 hx hZ hown (host := "") (Or.inl (hw _ (List.mem_of_getElem? (i := 17) rfl))) Via.refl e4 F_sz E_a (Or.inl (hw _ (List.mem_of_getElem? (i := 18) rfl))) (hw _ (List.mem_of_getElem? (i := 1) rfl)) (ty := .int) (by decide) rfl rfl (g := (mkF m 7 #[rv a, rv kk, rv vv] [(.int (-2147483647 : Int32)), (.ref a)])) rfl rfl (hb hby own_d_prog_5_method_1_code_7)
  have hz5 : n0 ≤ h5.size := Nat.le_trans Z0 (Keep.of_wr W5).1
  have N5 := Fr.snoc X5 N0 g_a
  have K5 := (Keep.refl h0 [a]).wr W5 (Or.inl (List.mem_of_getElem? (i := 0) rfl))
  have c6 := E_a.wr W5
  have c7 := F_sz.same W5
  have c8 := F_k.other W5 (Or.inr (slot_ne (Or.inr (hw _ (List.mem_of_getElem? (i := 20) rfl))) (Or.inl (hw _ (List.mem_of_getElem? (i := 18) rfl))) (by decide) (t := (.object "java/lang/Object")) (t' := .int) (by decide) (by decide)))
  have c9 := F_v.other W5 (Or.inr (slot_ne (Or.inl (hw _ (List.mem_of_getElem? (i := 22) rfl))) (Or.inl (hw _ (List.mem_of_getElem? (i := 18) rfl))) (by decide) (t := (.object "java/lang/Object")) (t' := .int) (by decide) (by decide)))
  have c10 := F_l.other W5 (Or.inr (slot_ne (Or.inl (hw _ (List.mem_of_getElem? (i := 30) rfl))) (Or.inl (hw _ (List.mem_of_getElem? (i := 18) rfl))) (by decide) (t := (.object "com/example/treeline/treeline/Node")) (t' := .int) (by decide) (by decide)))
  have c11 := F_r.other W5 (Or.inr (slot_ne (Or.inl (hw _ (List.mem_of_getElem? (i := 28) rfl))) (Or.inl (hw _ (List.mem_of_getElem? (i := 18) rfl))) (by decide) (t := (.object "com/example/treeline/treeline/Node")) (t' := .int) (by decide) (by decide)))
  refine own_go (T' := T5) (g' := (mkF m 10 #[rv a, rv kk, rv vv] [])) (st5) ?_
  refine own_go (T' := T5) (g' := (mkF m 11 #[rv a, rv kk, rv vv] [(.ref a)])) (fun t k => XS.aloadN X5.here hx rfl (hb hby own_d_prog_5_method_1_code_10) rfl rfl k) ?_
  refine own_go (T' := T5) (g' := (mkF m 12 #[rv a, rv kk, rv vv] [(.ref kk), (.ref a)])) (fun t k => XS.aloadN X5.here hx rfl (hb hby own_d_prog_5_method_1_code_11) rfl rfl k) ?_
  obtain ⟨T12, h12, X12, e12, W12, st12⟩ := putF X5 hx hZ hown (host := "") (Or.inl (hw _ (List.mem_of_getElem? (i := 19) rfl))) Via.refl e5 c8 c6 (Or.inr ⟨(hw _ (List.mem_of_getElem? (i := 20) rfl)), rfl, hnm⟩) (hw _ (List.mem_of_getElem? (i := 1) rfl)) (ty := (.object "java/lang/Object")) (by decide) rfl rfl (g := (mkF m 12 #[rv a, rv kk, rv vv] [(.ref kk), (.ref a)])) rfl rfl (hb hby own_d_prog_5_method_1_code_12)
  have hz12 : n0 ≤ h12.size := Nat.le_trans hz5 (Keep.of_wr W12).1
  have N12 := Fr.snoc X12 N5 g_a
  have K12 := K5.wr W12 (Or.inl (List.mem_of_getElem? (i := 0) rfl))
  have c13 := c6.wr W12
  have c14 := c7.other W12 (Or.inr (slot_ne (Or.inl (hw _ (List.mem_of_getElem? (i := 18) rfl))) (Or.inr (hw _ (List.mem_of_getElem? (i := 20) rfl))) (by decide) (t := .int) (t' := (.object "java/lang/Object")) (by decide) (by decide)))
  have c15 := c8.same W12
  have c16 := c9.other W12 (Or.inr (slot_ne (Or.inl (hw _ (List.mem_of_getElem? (i := 22) rfl))) (Or.inr (hw _ (List.mem_of_getElem? (i := 20) rfl))) (by decide) (t := (.object "java/lang/Object")) (t' := (.object "java/lang/Object")) (by decide) (by decide)))
  have c17 := c10.other W12 (Or.inr (slot_ne (Or.inl (hw _ (List.mem_of_getElem? (i := 30) rfl))) (Or.inr (hw _ (List.mem_of_getElem? (i := 20) rfl))) (by decide) (t := (.object "com/example/treeline/treeline/Node")) (t' := (.object "java/lang/Object")) (by decide) (by decide)))
  have c18 := c11.other W12 (Or.inr (slot_ne (Or.inl (hw _ (List.mem_of_getElem? (i := 28) rfl))) (Or.inr (hw _ (List.mem_of_getElem? (i := 20) rfl))) (by decide) (t := (.object "com/example/treeline/treeline/Node")) (t' := (.object "java/lang/Object")) (by decide) (by decide)))
  refine own_go (T' := T12) (g' := (mkF m 15 #[rv a, rv kk, rv vv] [])) (st12) ?_
  refine own_go (T' := T12) (g' := (mkF m 16 #[rv a, rv kk, rv vv] [(.ref a)])) (fun t k => XS.aloadN X12.here hx rfl (hb hby own_d_prog_5_method_1_code_15) rfl rfl k) ?_
  refine own_go (T' := T12) (g' := (mkF m 17 #[rv a, rv kk, rv vv] [(.ref vv), (.ref a)])) (fun t k => XS.aloadN X12.here hx rfl (hb hby own_d_prog_5_method_1_code_16) rfl rfl k) ?_
  obtain ⟨T19, h19, X19, e19, W19, st19⟩ := putF X12 hx hZ hown (host := "") (Or.inl (hw _ (List.mem_of_getElem? (i := 21) rfl))) Via.refl e12 c16 c13 (Or.inl (hw _ (List.mem_of_getElem? (i := 22) rfl))) (hw _ (List.mem_of_getElem? (i := 1) rfl)) (ty := (.object "java/lang/Object")) (by decide) rfl rfl (g := (mkF m 17 #[rv a, rv kk, rv vv] [(.ref vv), (.ref a)])) rfl rfl (hb hby own_d_prog_5_method_1_code_17)
  have hz19 : n0 ≤ h19.size := Nat.le_trans hz12 (Keep.of_wr W19).1
  have N19 := Fr.snoc X19 N12 g_a
  have K19 := K12.wr W19 (Or.inl (List.mem_of_getElem? (i := 0) rfl))
  have c20 := c13.wr W19
  have c21 := c14.other W19 (Or.inr (slot_ne (Or.inl (hw _ (List.mem_of_getElem? (i := 18) rfl))) (Or.inl (hw _ (List.mem_of_getElem? (i := 22) rfl))) (by decide) (t := .int) (t' := (.object "java/lang/Object")) (by decide) (by decide)))
  have c22 := c15.other W19 (Or.inr (slot_ne (Or.inr (hw _ (List.mem_of_getElem? (i := 20) rfl))) (Or.inl (hw _ (List.mem_of_getElem? (i := 22) rfl))) (by decide) (t := (.object "java/lang/Object")) (t' := (.object "java/lang/Object")) (by decide) (by decide)))
  have c23 := c16.same W19
  have c24 := c17.other W19 (Or.inr (slot_ne (Or.inl (hw _ (List.mem_of_getElem? (i := 30) rfl))) (Or.inl (hw _ (List.mem_of_getElem? (i := 22) rfl))) (by decide) (t := (.object "com/example/treeline/treeline/Node")) (t' := (.object "java/lang/Object")) (by decide) (by decide)))
  have c25 := c18.other W19 (Or.inr (slot_ne (Or.inl (hw _ (List.mem_of_getElem? (i := 28) rfl))) (Or.inl (hw _ (List.mem_of_getElem? (i := 22) rfl))) (by decide) (t := (.object "com/example/treeline/treeline/Node")) (t' := (.object "java/lang/Object")) (by decide) (by decide)))
  refine own_go (T' := T19) (g' := (mkF m 20 #[rv a, rv kk, rv vv] [])) (st19) ?_
  exact own_ret0 X19 hlk hx Bd.returns (hb hby own_d_prog_5_method_1_code_20) (by rw [e19]; exact ⟨rfl, N19, K19, c20, c24, c25⟩) (by decide) (by decide)

theorem own_d_prog_5_method_20_code_0 : decode prog_5_method_20_code 0 = .ok (.aload_n 0, 1) := by decide +kernel
theorem own_d_prog_5_method_20_code_1 : decode prog_5_method_20_code 1 = .ok (.astore_n 1, 1) := by decide +kernel
theorem own_d_prog_5_method_20_code_2 : decode prog_5_method_20_code 2 = .ok (.aload_n 1, 1) := by decide +kernel
theorem own_d_prog_5_method_20_code_3 : decode prog_5_method_20_code 3 = .ok (.ifnull 18, 3) := by decide +kernel
theorem own_d_prog_5_method_20_code_21 : decode prog_5_method_20_code 21 = .ok (.aload_n 1, 1) := by decide +kernel
theorem own_d_prog_5_method_20_code_22 : decode prog_5_method_20_code 22 = .ok (.areturn, 1) := by decide +kernel
def Q_own_rhi0  (h0 : Heap) (n0 : Nat) (v : Option Value) (h : Heap) (L : List Loc) : Prop := v = some .null ∧ L = [] ∧ h = h0
set_option maxRecDepth 65536 in
set_option maxHeartbeats 40000000 in
theorem own_rhi0 (l : Launch) (Z : State) (a0 : Array Value) (hw : ∀ d ∈ tables_1, d.before a0 Z = true) (ws : List Jvm.Cond)  (h0 : Heap) (n0 : Nat) (Z0 : n0 ≤ h0.size)  :
    MetFree l (⟨"com/example/treeline/treeline/Node", "highest", "(Lcom/example/treeline/treeline/Node;)Lcom/example/treeline/treeline/Node;"⟩ : MethodName) (head1 (Jvm.Cond.code (⟨"com/example/treeline/treeline/Node", "highest", "(Lcom/example/treeline/treeline/Node;)Lcom/example/treeline/treeline/Node;"⟩ : MethodName) prog_5_method_20_code 2 (some (.object "com/example/treeline/treeline/Node")) :: ws) ({ frames := 0, cells := 0, slots := 0, locals := 0 } : Room)) (fun au Uu => au = #[.null] ∧ Z.Warmed39 Uu.vm ∧ Uu.heap = h0) (fun _ _ _ _ _ => True) (fun _ Uu ou Uw => ∃ vu Lu, ou = .returned vu ∧ Q_own_rhi0  h0 n0 vu Uw.heap Lu ∧ FrameEnd Uu ou Uw Lu ({ frames := 0, cells := 0, slots := 0, locals := 0 } : Room).cells ({ frames := 0, cells := 0, slots := 0, locals := 0 } : Room).slots) := by
  refine MetFree.of_bodySF (plainFor_of_name (by first | (simp [plainName, overriddenIn]; done) | decide +kernel)) hisR ?_
  intro p e s m args below meth c s₁ Bd hml0 hP hK
  obtain ⟨rfl, hZ, hh⟩ := hP
  have hx := Bd.exec
  have hby := Bd.bytes
  have hlk := Bd.notSynchronized
  have hml : c.maxLocals = 2 := hml0
  have hown : s.vm.findClass "com/example/treeline/treeline/Node" = some m.cls := findClass_of_methodNamed Bd.named
  have hnm := (name_of_methodNamed Bd.named Bd.method).1
  have X0 : Stand p l e ({ frames := 0, cells := 0, slots := 0, locals := 0 } : Room) s m #[.null] below meth c s₁ [] 0 0 := Stand.of_body Bd
  have e0 : s₁.heap = h0 := by rw [← hh, Bd.state]; rfl
  have N0 := Fr.nil n0
  show own_Ends p e below s₁ (entryFrame m #[.null] 2) (fun ou Uw => ∃ vu Lu, ou = .returned vu ∧ Q_own_rhi0  h0 n0 vu Uw.heap Lu ∧ FrameEnd s ou Uw Lu ({ frames := 0, cells := 0, slots := 0, locals := 0 } : Room).cells ({ frames := 0, cells := 0, slots := 0, locals := 0 } : Room).slots)
  refine own_start (g' := (mkF m 0 #[.val .null, .unset] [])) (by first | (simp [entryFrame, mkF, argsToLocals, Value.category, iv, rv]; done) | rfl) ?_
  refine own_go (T' := s₁) (g' := (mkF m 1 #[.val .null, .unset] [.null])) (fun t k => XS.aloadN X0.here hx rfl (hb hby own_d_prog_5_method_20_code_0) rfl rfl k) ?_
  refine own_go (T' := s₁) (g' := (mkF m 2 #[.val .null, .val .null] [])) (fun t k => XS.astoreN X0.here hx rfl (hb hby own_d_prog_5_method_20_code_1) rfl rfl (l' := #[.val .null, .val .null]) rfl k) ?_
  refine own_go (T' := s₁) (g' := (mkF m 3 #[.val .null, .val .null] [.null])) (fun t k => XS.aloadN X0.here hx rfl (hb hby own_d_prog_5_method_20_code_2) rfl rfl k) ?_
  refine own_go (T' := s₁) (g' := (mkF m 21 #[.val .null, .val .null] [])) (fun t k => XS.ifnullYes X0.here hx rfl (pc0 := 3) (pc' := 21) rfl (hb hby own_d_prog_5_method_20_code_3) rfl (by decide) (by decide) k) ?_
  refine own_go (T' := s₁) (g' := (mkF m 22 #[.val .null, .val .null] [.null])) (fun t k => XS.aloadN X0.here hx rfl (hb hby own_d_prog_5_method_20_code_21) rfl rfl k) ?_
  exact own_ret X0 hlk hx Bd.returns rfl (Or.inr (Or.inr (Or.inr (Or.inr ⟨rfl, rfl, rfl⟩)))) (hb hby own_d_prog_5_method_20_code_22) ⟨rfl, rfl, e0⟩ (by decide) (by decide)

theorem own_d_prog_5_method_20_code_6 : decode prog_5_method_20_code 6 = .ok (.aload_n 1, 1) := by decide +kernel
theorem own_d_prog_5_method_20_code_7 : decode prog_5_method_20_code 7 = .ok (.getfield 35, 3) := by decide +kernel
theorem own_d_prog_5_method_20_code_10 : decode prog_5_method_20_code 10 = .ok (.ifnull 11, 3) := by decide +kernel
def Q_own_rhi1 (u0 : Addr) (h0 : Heap) (n0 : Nat) (v : Option Value) (h : Heap) (L : List Loc) : Prop := v = some (.ref u0) ∧ L = [] ∧ h = h0
set_option maxRecDepth 65536 in
set_option maxHeartbeats 40000000 in
theorem own_rhi1 (l : Launch) (Z : State) (a0 : Array Value) (hw : ∀ d ∈ tables_1, d.before a0 Z = true) (ws : List Jvm.Cond) (u0 : Addr) (h0 : Heap) (n0 : Nat) (Z0 : n0 ≤ h0.size) (F0 : Fld Z h0 u0 "com/example/treeline/treeline/Node" "right" "Lcom/example/treeline/treeline/Node;" .null) :
    MetFree l (⟨"com/example/treeline/treeline/Node", "highest", "(Lcom/example/treeline/treeline/Node;)Lcom/example/treeline/treeline/Node;"⟩ : MethodName) (head1 (Jvm.Cond.code (⟨"com/example/treeline/treeline/Node", "highest", "(Lcom/example/treeline/treeline/Node;)Lcom/example/treeline/treeline/Node;"⟩ : MethodName) prog_5_method_20_code 2 (some (.object "com/example/treeline/treeline/Node")) :: ws) ({ frames := 0, cells := 0, slots := 0, locals := 0 } : Room)) (fun au Uu => au = #[(.ref u0)] ∧ Z.Warmed39 Uu.vm ∧ Uu.heap = h0) (fun _ _ _ _ _ => True) (fun _ Uu ou Uw => ∃ vu Lu, ou = .returned vu ∧ Q_own_rhi1 u0 h0 n0 vu Uw.heap Lu ∧ FrameEnd Uu ou Uw Lu ({ frames := 0, cells := 0, slots := 0, locals := 0 } : Room).cells ({ frames := 0, cells := 0, slots := 0, locals := 0 } : Room).slots) := by
  refine MetFree.of_bodySF (plainFor_of_name (by first | (simp [plainName, overriddenIn]; done) | decide +kernel)) hisR ?_
  intro p e s m args below meth c s₁ Bd hml0 hP hK
  obtain ⟨rfl, hZ, hh⟩ := hP
  have hx := Bd.exec
  have hby := Bd.bytes
  have hlk := Bd.notSynchronized
  have hml : c.maxLocals = 2 := hml0
  have hown : s.vm.findClass "com/example/treeline/treeline/Node" = some m.cls := findClass_of_methodNamed Bd.named
  have hnm := (name_of_methodNamed Bd.named Bd.method).1
  have X0 : Stand p l e ({ frames := 0, cells := 0, slots := 0, locals := 0 } : Room) s m #[(.ref u0)] below meth c s₁ [] 0 0 := Stand.of_body Bd
  have e0 : s₁.heap = h0 := by rw [← hh, Bd.state]; rfl
  have N0 := Fr.nil n0
  show own_Ends p e below s₁ (entryFrame m #[(.ref u0)] 2) (fun ou Uw => ∃ vu Lu, ou = .returned vu ∧ Q_own_rhi1 u0 h0 n0 vu Uw.heap Lu ∧ FrameEnd s ou Uw Lu ({ frames := 0, cells := 0, slots := 0, locals := 0 } : Room).cells ({ frames := 0, cells := 0, slots := 0, locals := 0 } : Room).slots)
  refine own_start (g' := (mkF m 0 #[rv u0, .unset] [])) (by first | (simp [entryFrame, mkF, argsToLocals, Value.category, iv, rv]; done) | rfl) ?_
  refine own_go (T' := s₁) (g' := (mkF m 1 #[rv u0, .unset] [(.ref u0)])) (fun t k => XS.aloadN X0.here hx rfl (hb hby own_d_prog_5_method_20_code_0) rfl rfl k) ?_
  refine own_go (T' := s₁) (g' := (mkF m 2 #[rv u0, rv u0] [])) (fun t k => XS.astoreN X0.here hx rfl (hb hby own_d_prog_5_method_20_code_1) rfl rfl (l' := #[rv u0, rv u0]) rfl k) ?_
  refine own_go (T' := s₁) (g' := (mkF m 3 #[rv u0, rv u0] [(.ref u0)])) (fun t k => XS.aloadN X0.here hx rfl (hb hby own_d_prog_5_method_20_code_2) rfl rfl k) ?_
  refine own_go (T' := s₁) (g' := (mkF m 6 #[rv u0, rv u0] [])) (fun t k => XS.ifnullNo X0.here hx rfl (hb hby own_d_prog_5_method_20_code_3) rfl k) ?_
  refine own_go (T' := s₁) (g' := (mkF m 7 #[rv u0, rv u0] [(.ref u0)])) (fun t k => XS.aloadN X0.here hx rfl (hb hby own_d_prog_5_method_20_code_6) rfl rfl k) ?_
  obtain ⟨T26, X26, e26, st26⟩ := getF X0 hx hZ hown (host := "") (Or.inl (hw _ (List.mem_of_getElem? (i := 31) rfl))) Via.refl e0 F0 (g := (mkF m 7 #[rv u0, rv u0] [(.ref u0)])) rfl rfl (hb hby own_d_prog_5_method_20_code_7)
  refine own_go (T' := T26) (g' := (mkF m 10 #[rv u0, rv u0] [.null])) (st26) ?_
  refine own_go (T' := T26) (g' := (mkF m 21 #[rv u0, rv u0] [])) (fun t k => XS.ifnullYes X26.here hx rfl (pc0 := 10) (pc' := 21) rfl (hb hby own_d_prog_5_method_20_code_10) rfl (by decide) (by decide) k) ?_
  refine own_go (T' := T26) (g' := (mkF m 22 #[rv u0, rv u0] [(.ref u0)])) (fun t k => XS.aloadN X26.here hx rfl (hb hby own_d_prog_5_method_20_code_21) rfl rfl k) ?_
  exact own_ret X26 hlk hx Bd.returns rfl (Or.inr (Or.inr (Or.inr (Or.inr ⟨rfl, rfl, rfl⟩)))) (hb hby own_d_prog_5_method_20_code_22) ⟨rfl, rfl, e26⟩ (by decide) (by decide)

theorem own_d_prog_5_method_20_code_13 : decode prog_5_method_20_code 13 = .ok (.aload_n 1, 1) := by decide +kernel
theorem own_d_prog_5_method_20_code_14 : decode prog_5_method_20_code 14 = .ok (.getfield 35, 3) := by decide +kernel
theorem own_d_prog_5_method_20_code_17 : decode prog_5_method_20_code 17 = .ok (.astore_n 1, 1) := by decide +kernel
theorem own_d_prog_5_method_20_code_18 : decode prog_5_method_20_code 18 = .ok (.goto (-12), 3) := by decide +kernel
def Q_own_rhi2 (u0 u1 : Addr) (h0 : Heap) (n0 : Nat) (v : Option Value) (h : Heap) (L : List Loc) : Prop := v = some (.ref u1) ∧ L = [] ∧ h = h0
set_option maxRecDepth 65536 in
set_option maxHeartbeats 40000000 in
theorem own_rhi2 (l : Launch) (Z : State) (a0 : Array Value) (hw : ∀ d ∈ tables_1, d.before a0 Z = true) (ws : List Jvm.Cond) (u0 u1 : Addr) (h0 : Heap) (n0 : Nat) (Z0 : n0 ≤ h0.size) (F0 : Fld Z h0 u0 "com/example/treeline/treeline/Node" "right" "Lcom/example/treeline/treeline/Node;" (.ref u1)) (F1 : Fld Z h0 u1 "com/example/treeline/treeline/Node" "right" "Lcom/example/treeline/treeline/Node;" .null) :
    MetFree l (⟨"com/example/treeline/treeline/Node", "highest", "(Lcom/example/treeline/treeline/Node;)Lcom/example/treeline/treeline/Node;"⟩ : MethodName) (head1 (Jvm.Cond.code (⟨"com/example/treeline/treeline/Node", "highest", "(Lcom/example/treeline/treeline/Node;)Lcom/example/treeline/treeline/Node;"⟩ : MethodName) prog_5_method_20_code 2 (some (.object "com/example/treeline/treeline/Node")) :: ws) ({ frames := 0, cells := 0, slots := 0, locals := 0 } : Room)) (fun au Uu => au = #[(.ref u0)] ∧ Z.Warmed39 Uu.vm ∧ Uu.heap = h0) (fun _ _ _ _ _ => True) (fun _ Uu ou Uw => ∃ vu Lu, ou = .returned vu ∧ Q_own_rhi2 u0 u1 h0 n0 vu Uw.heap Lu ∧ FrameEnd Uu ou Uw Lu ({ frames := 0, cells := 0, slots := 0, locals := 0 } : Room).cells ({ frames := 0, cells := 0, slots := 0, locals := 0 } : Room).slots) := by
  refine MetFree.of_bodySF (plainFor_of_name (by first | (simp [plainName, overriddenIn]; done) | decide +kernel)) hisR ?_
  intro p e s m args below meth c s₁ Bd hml0 hP hK
  obtain ⟨rfl, hZ, hh⟩ := hP
  have hx := Bd.exec
  have hby := Bd.bytes
  have hlk := Bd.notSynchronized
  have hml : c.maxLocals = 2 := hml0
  have hown : s.vm.findClass "com/example/treeline/treeline/Node" = some m.cls := findClass_of_methodNamed Bd.named
  have hnm := (name_of_methodNamed Bd.named Bd.method).1
  have X0 : Stand p l e ({ frames := 0, cells := 0, slots := 0, locals := 0 } : Room) s m #[(.ref u0)] below meth c s₁ [] 0 0 := Stand.of_body Bd
  have e0 : s₁.heap = h0 := by rw [← hh, Bd.state]; rfl
  have N0 := Fr.nil n0
  show own_Ends p e below s₁ (entryFrame m #[(.ref u0)] 2) (fun ou Uw => ∃ vu Lu, ou = .returned vu ∧ Q_own_rhi2 u0 u1 h0 n0 vu Uw.heap Lu ∧ FrameEnd s ou Uw Lu ({ frames := 0, cells := 0, slots := 0, locals := 0 } : Room).cells ({ frames := 0, cells := 0, slots := 0, locals := 0 } : Room).slots)
  refine own_start (g' := (mkF m 0 #[rv u0, .unset] [])) (by first | (simp [entryFrame, mkF, argsToLocals, Value.category, iv, rv]; done) | rfl) ?_
  refine own_go (T' := s₁) (g' := (mkF m 1 #[rv u0, .unset] [(.ref u0)])) (fun t k => XS.aloadN X0.here hx rfl (hb hby own_d_prog_5_method_20_code_0) rfl rfl k) ?_
  refine own_go (T' := s₁) (g' := (mkF m 2 #[rv u0, rv u0] [])) (fun t k => XS.astoreN X0.here hx rfl (hb hby own_d_prog_5_method_20_code_1) rfl rfl (l' := #[rv u0, rv u0]) rfl k) ?_
  refine own_go (T' := s₁) (g' := (mkF m 3 #[rv u0, rv u0] [(.ref u0)])) (fun t k => XS.aloadN X0.here hx rfl (hb hby own_d_prog_5_method_20_code_2) rfl rfl k) ?_
  refine own_go (T' := s₁) (g' := (mkF m 6 #[rv u0, rv u0] [])) (fun t k => XS.ifnullNo X0.here hx rfl (hb hby own_d_prog_5_method_20_code_3) rfl k) ?_
  refine own_go (T' := s₁) (g' := (mkF m 7 #[rv u0, rv u0] [(.ref u0)])) (fun t k => XS.aloadN X0.here hx rfl (hb hby own_d_prog_5_method_20_code_6) rfl rfl k) ?_
  obtain ⟨T27, X27, e27, st27⟩ := getF X0 hx hZ hown (host := "") (Or.inl (hw _ (List.mem_of_getElem? (i := 31) rfl))) Via.refl e0 F0 (g := (mkF m 7 #[rv u0, rv u0] [(.ref u0)])) rfl rfl (hb hby own_d_prog_5_method_20_code_7)
  refine own_go (T' := T27) (g' := (mkF m 10 #[rv u0, rv u0] [(.ref u1)])) (st27) ?_
  refine own_go (T' := T27) (g' := (mkF m 13 #[rv u0, rv u0] [])) (fun t k => XS.ifnullNo X27.here hx rfl (hb hby own_d_prog_5_method_20_code_10) rfl k) ?_
  refine own_go (T' := T27) (g' := (mkF m 14 #[rv u0, rv u0] [(.ref u0)])) (fun t k => XS.aloadN X27.here hx rfl (hb hby own_d_prog_5_method_20_code_13) rfl rfl k) ?_
  obtain ⟨T28, X28, e28, st28⟩ := getF X27 hx hZ hown (host := "") (Or.inl (hw _ (List.mem_of_getElem? (i := 31) rfl))) Via.refl e27 F0 (g := (mkF m 14 #[rv u0, rv u0] [(.ref u0)])) rfl rfl (hb hby own_d_prog_5_method_20_code_14)
  refine own_go (T' := T28) (g' := (mkF m 17 #[rv u0, rv u0] [(.ref u1)])) (st28) ?_
  refine own_go (T' := T28) (g' := (mkF m 18 #[rv u0, rv u1] [])) (fun t k => XS.astoreN X28.here hx rfl (hb hby own_d_prog_5_method_20_code_17) rfl rfl (l' := #[rv u0, rv u1]) rfl k) ?_
  refine own_go (T' := T28) (g' := (mkF m 6 #[rv u0, rv u1] [])) (fun t k => XS.goto X28.here hx rfl (pc0 := 18) (pc' := 6) rfl (hb hby own_d_prog_5_method_20_code_18) (by decide) (by decide) k) ?_
  refine own_go (T' := T28) (g' := (mkF m 7 #[rv u0, rv u1] [(.ref u1)])) (fun t k => XS.aloadN X28.here hx rfl (hb hby own_d_prog_5_method_20_code_6) rfl rfl k) ?_
  obtain ⟨T29, X29, e29, st29⟩ := getF X28 hx hZ hown (host := "") (Or.inl (hw _ (List.mem_of_getElem? (i := 31) rfl))) Via.refl e28 F1 (g := (mkF m 7 #[rv u0, rv u1] [(.ref u1)])) rfl rfl (hb hby own_d_prog_5_method_20_code_7)
  refine own_go (T' := T29) (g' := (mkF m 10 #[rv u0, rv u1] [.null])) (st29) ?_
  refine own_go (T' := T29) (g' := (mkF m 21 #[rv u0, rv u1] [])) (fun t k => XS.ifnullYes X29.here hx rfl (pc0 := 10) (pc' := 21) rfl (hb hby own_d_prog_5_method_20_code_10) rfl (by decide) (by decide) k) ?_
  refine own_go (T' := T29) (g' := (mkF m 22 #[rv u0, rv u1] [(.ref u1)])) (fun t k => XS.aloadN X29.here hx rfl (hb hby own_d_prog_5_method_20_code_21) rfl rfl k) ?_
  exact own_ret X29 hlk hx Bd.returns rfl (Or.inr (Or.inr (Or.inr (Or.inr ⟨rfl, rfl, rfl⟩)))) (hb hby own_d_prog_5_method_20_code_22) ⟨rfl, rfl, e29⟩ (by decide) (by decide)

def Q_own_rhi3 (u0 u1 u2 : Addr) (h0 : Heap) (n0 : Nat) (v : Option Value) (h : Heap) (L : List Loc) : Prop := v = some (.ref u2) ∧ L = [] ∧ h = h0
set_option maxRecDepth 65536 in
set_option maxHeartbeats 40000000 in
theorem own_rhi3 (l : Launch) (Z : State) (a0 : Array Value) (hw : ∀ d ∈ tables_1, d.before a0 Z = true) (ws : List Jvm.Cond) (u0 u1 u2 : Addr) (h0 : Heap) (n0 : Nat) (Z0 : n0 ≤ h0.size) (F0 : Fld Z h0 u0 "com/example/treeline/treeline/Node" "right" "Lcom/example/treeline/treeline/Node;" (.ref u1)) (F1 : Fld Z h0 u1 "com/example/treeline/treeline/Node" "right" "Lcom/example/treeline/treeline/Node;" (.ref u2)) (F2 : Fld Z h0 u2 "com/example/treeline/treeline/Node" "right" "Lcom/example/treeline/treeline/Node;" .null) :
    MetFree l (⟨"com/example/treeline/treeline/Node", "highest", "(Lcom/example/treeline/treeline/Node;)Lcom/example/treeline/treeline/Node;"⟩ : MethodName) (head1 (Jvm.Cond.code (⟨"com/example/treeline/treeline/Node", "highest", "(Lcom/example/treeline/treeline/Node;)Lcom/example/treeline/treeline/Node;"⟩ : MethodName) prog_5_method_20_code 2 (some (.object "com/example/treeline/treeline/Node")) :: ws) ({ frames := 0, cells := 0, slots := 0, locals := 0 } : Room)) (fun au Uu => au = #[(.ref u0)] ∧ Z.Warmed39 Uu.vm ∧ Uu.heap = h0) (fun _ _ _ _ _ => True) (fun _ Uu ou Uw => ∃ vu Lu, ou = .returned vu ∧ Q_own_rhi3 u0 u1 u2 h0 n0 vu Uw.heap Lu ∧ FrameEnd Uu ou Uw Lu ({ frames := 0, cells := 0, slots := 0, locals := 0 } : Room).cells ({ frames := 0, cells := 0, slots := 0, locals := 0 } : Room).slots) := by
  refine MetFree.of_bodySF (plainFor_of_name (by first | (simp [plainName, overriddenIn]; done) | decide +kernel)) hisR ?_
  intro p e s m args below meth c s₁ Bd hml0 hP hK
  obtain ⟨rfl, hZ, hh⟩ := hP
  have hx := Bd.exec
  have hby := Bd.bytes
  have hlk := Bd.notSynchronized
  have hml : c.maxLocals = 2 := hml0
  have hown : s.vm.findClass "com/example/treeline/treeline/Node" = some m.cls := findClass_of_methodNamed Bd.named
  have hnm := (name_of_methodNamed Bd.named Bd.method).1
  have X0 : Stand p l e ({ frames := 0, cells := 0, slots := 0, locals := 0 } : Room) s m #[(.ref u0)] below meth c s₁ [] 0 0 := Stand.of_body Bd
  have e0 : s₁.heap = h0 := by rw [← hh, Bd.state]; rfl
  have N0 := Fr.nil n0
  show own_Ends p e below s₁ (entryFrame m #[(.ref u0)] 2) (fun ou Uw => ∃ vu Lu, ou = .returned vu ∧ Q_own_rhi3 u0 u1 u2 h0 n0 vu Uw.heap Lu ∧ FrameEnd s ou Uw Lu ({ frames := 0, cells := 0, slots := 0, locals := 0 } : Room).cells ({ frames := 0, cells := 0, slots := 0, locals := 0 } : Room).slots)
  refine own_start (g' := (mkF m 0 #[rv u0, .unset] [])) (by first | (simp [entryFrame, mkF, argsToLocals, Value.category, iv, rv]; done) | rfl) ?_
  refine own_go (T' := s₁) (g' := (mkF m 1 #[rv u0, .unset] [(.ref u0)])) (fun t k => XS.aloadN X0.here hx rfl (hb hby own_d_prog_5_method_20_code_0) rfl rfl k) ?_
  refine own_go (T' := s₁) (g' := (mkF m 2 #[rv u0, rv u0] [])) (fun t k => XS.astoreN X0.here hx rfl (hb hby own_d_prog_5_method_20_code_1) rfl rfl (l' := #[rv u0, rv u0]) rfl k) ?_
  refine own_go (T' := s₁) (g' := (mkF m 3 #[rv u0, rv u0] [(.ref u0)])) (fun t k => XS.aloadN X0.here hx rfl (hb hby own_d_prog_5_method_20_code_2) rfl rfl k) ?_
  refine own_go (T' := s₁) (g' := (mkF m 6 #[rv u0, rv u0] [])) (fun t k => XS.ifnullNo X0.here hx rfl (hb hby own_d_prog_5_method_20_code_3) rfl k) ?_
  refine own_go (T' := s₁) (g' := (mkF m 7 #[rv u0, rv u0] [(.ref u0)])) (fun t k => XS.aloadN X0.here hx rfl (hb hby own_d_prog_5_method_20_code_6) rfl rfl k) ?_
  obtain ⟨T30, X30, e30, st30⟩ := getF X0 hx hZ hown (host := "") (Or.inl (hw _ (List.mem_of_getElem? (i := 31) rfl))) Via.refl e0 F0 (g := (mkF m 7 #[rv u0, rv u0] [(.ref u0)])) rfl rfl (hb hby own_d_prog_5_method_20_code_7)
  refine own_go (T' := T30) (g' := (mkF m 10 #[rv u0, rv u0] [(.ref u1)])) (st30) ?_
  refine own_go (T' := T30) (g' := (mkF m 13 #[rv u0, rv u0] [])) (fun t k => XS.ifnullNo X30.here hx rfl (hb hby own_d_prog_5_method_20_code_10) rfl k) ?_
  refine own_go (T' := T30) (g' := (mkF m 14 #[rv u0, rv u0] [(.ref u0)])) (fun t k => XS.aloadN X30.here hx rfl (hb hby own_d_prog_5_method_20_code_13) rfl rfl k) ?_
  obtain ⟨T31, X31, e31, st31⟩ := getF X30 hx hZ hown (host := "") (Or.inl (hw _ (List.mem_of_getElem? (i := 31) rfl))) Via.refl e30 F0 (g := (mkF m 14 #[rv u0, rv u0] [(.ref u0)])) rfl rfl (hb hby own_d_prog_5_method_20_code_14)
  refine own_go (T' := T31) (g' := (mkF m 17 #[rv u0, rv u0] [(.ref u1)])) (st31) ?_
  refine own_go (T' := T31) (g' := (mkF m 18 #[rv u0, rv u1] [])) (fun t k => XS.astoreN X31.here hx rfl (hb hby own_d_prog_5_method_20_code_17) rfl rfl (l' := #[rv u0, rv u1]) rfl k) ?_
  refine own_go (T' := T31) (g' := (mkF m 6 #[rv u0, rv u1] [])) (fun t k => XS.goto X31.here hx rfl (pc0 := 18) (pc' := 6) rfl (hb hby own_d_prog_5_method_20_code_18) (by decide) (by decide) k) ?_
  refine own_go (T' := T31) (g' := (mkF m 7 #[rv u0, rv u1] [(.ref u1)])) (fun t k => XS.aloadN X31.here hx rfl (hb hby own_d_prog_5_method_20_code_6) rfl rfl k) ?_
  obtain ⟨T32, X32, e32, st32⟩ := getF X31 hx hZ hown (host := "") (Or.inl (hw _ (List.mem_of_getElem? (i := 31) rfl))) Via.refl e31 F1 (g := (mkF m 7 #[rv u0, rv u1] [(.ref u1)])) rfl rfl (hb hby own_d_prog_5_method_20_code_7)
  refine own_go (T' := T32) (g' := (mkF m 10 #[rv u0, rv u1] [(.ref u2)])) (st32) ?_
  refine own_go (T' := T32) (g' := (mkF m 13 #[rv u0, rv u1] [])) (fun t k => XS.ifnullNo X32.here hx rfl (hb hby own_d_prog_5_method_20_code_10) rfl k) ?_
  refine own_go (T' := T32) (g' := (mkF m 14 #[rv u0, rv u1] [(.ref u1)])) (fun t k => XS.aloadN X32.here hx rfl (hb hby own_d_prog_5_method_20_code_13) rfl rfl k) ?_
  obtain ⟨T33, X33, e33, st33⟩ := getF X32 hx hZ hown (host := "") (Or.inl (hw _ (List.mem_of_getElem? (i := 31) rfl))) Via.refl e32 F1 (g := (mkF m 14 #[rv u0, rv u1] [(.ref u1)])) rfl rfl (hb hby own_d_prog_5_method_20_code_14)
  refine own_go (T' := T33) (g' := (mkF m 17 #[rv u0, rv u1] [(.ref u2)])) (st33) ?_
  refine own_go (T' := T33) (g' := (mkF m 18 #[rv u0, rv u2] [])) (fun t k => XS.astoreN X33.here hx rfl (hb hby own_d_prog_5_method_20_code_17) rfl rfl (l' := #[rv u0, rv u2]) rfl k) ?_
  refine own_go (T' := T33) (g' := (mkF m 6 #[rv u0, rv u2] [])) (fun t k => XS.goto X33.here hx rfl (pc0 := 18) (pc' := 6) rfl (hb hby own_d_prog_5_method_20_code_18) (by decide) (by decide) k) ?_
  refine own_go (T' := T33) (g' := (mkF m 7 #[rv u0, rv u2] [(.ref u2)])) (fun t k => XS.aloadN X33.here hx rfl (hb hby own_d_prog_5_method_20_code_6) rfl rfl k) ?_
  obtain ⟨T34, X34, e34, st34⟩ := getF X33 hx hZ hown (host := "") (Or.inl (hw _ (List.mem_of_getElem? (i := 31) rfl))) Via.refl e33 F2 (g := (mkF m 7 #[rv u0, rv u2] [(.ref u2)])) rfl rfl (hb hby own_d_prog_5_method_20_code_7)
  refine own_go (T' := T34) (g' := (mkF m 10 #[rv u0, rv u2] [.null])) (st34) ?_
  refine own_go (T' := T34) (g' := (mkF m 21 #[rv u0, rv u2] [])) (fun t k => XS.ifnullYes X34.here hx rfl (pc0 := 10) (pc' := 21) rfl (hb hby own_d_prog_5_method_20_code_10) rfl (by decide) (by decide) k) ?_
  refine own_go (T' := T34) (g' := (mkF m 22 #[rv u0, rv u2] [(.ref u2)])) (fun t k => XS.aloadN X34.here hx rfl (hb hby own_d_prog_5_method_20_code_21) rfl rfl k) ?_
  exact own_ret X34 hlk hx Bd.returns rfl (Or.inr (Or.inr (Or.inr (Or.inr ⟨rfl, rfl, rfl⟩)))) (hb hby own_d_prog_5_method_20_code_22) ⟨rfl, rfl, e34⟩ (by decide) (by decide)

def Q_own_rhi4 (u0 u1 u2 u3 : Addr) (h0 : Heap) (n0 : Nat) (v : Option Value) (h : Heap) (L : List Loc) : Prop := v = some (.ref u3) ∧ L = [] ∧ h = h0
set_option maxRecDepth 65536 in
set_option maxHeartbeats 40000000 in
theorem own_rhi4 (l : Launch) (Z : State) (a0 : Array Value) (hw : ∀ d ∈ tables_1, d.before a0 Z = true) (ws : List Jvm.Cond) (u0 u1 u2 u3 : Addr) (h0 : Heap) (n0 : Nat) (Z0 : n0 ≤ h0.size) (F0 : Fld Z h0 u0 "com/example/treeline/treeline/Node" "right" "Lcom/example/treeline/treeline/Node;" (.ref u1)) (F1 : Fld Z h0 u1 "com/example/treeline/treeline/Node" "right" "Lcom/example/treeline/treeline/Node;" (.ref u2)) (F2 : Fld Z h0 u2 "com/example/treeline/treeline/Node" "right" "Lcom/example/treeline/treeline/Node;" (.ref u3)) (F3 : Fld Z h0 u3 "com/example/treeline/treeline/Node" "right" "Lcom/example/treeline/treeline/Node;" .null) :
    MetFree l (⟨"com/example/treeline/treeline/Node", "highest", "(Lcom/example/treeline/treeline/Node;)Lcom/example/treeline/treeline/Node;"⟩ : MethodName) (head1 (Jvm.Cond.code (⟨"com/example/treeline/treeline/Node", "highest", "(Lcom/example/treeline/treeline/Node;)Lcom/example/treeline/treeline/Node;"⟩ : MethodName) prog_5_method_20_code 2 (some (.object "com/example/treeline/treeline/Node")) :: ws) ({ frames := 0, cells := 0, slots := 0, locals := 0 } : Room)) (fun au Uu => au = #[(.ref u0)] ∧ Z.Warmed39 Uu.vm ∧ Uu.heap = h0) (fun _ _ _ _ _ => True) (fun _ Uu ou Uw => ∃ vu Lu, ou = .returned vu ∧ Q_own_rhi4 u0 u1 u2 u3 h0 n0 vu Uw.heap Lu ∧ FrameEnd Uu ou Uw Lu ({ frames := 0, cells := 0, slots := 0, locals := 0 } : Room).cells ({ frames := 0, cells := 0, slots := 0, locals := 0 } : Room).slots) := by
  refine MetFree.of_bodySF (plainFor_of_name (by first | (simp [plainName, overriddenIn]; done) | decide +kernel)) hisR ?_
  intro p e s m args below meth c s₁ Bd hml0 hP hK
  obtain ⟨rfl, hZ, hh⟩ := hP
  have hx := Bd.exec
  have hby := Bd.bytes
  have hlk := Bd.notSynchronized
  have hml : c.maxLocals = 2 := hml0
  have hown : s.vm.findClass "com/example/treeline/treeline/Node" = some m.cls := findClass_of_methodNamed Bd.named
  have hnm := (name_of_methodNamed Bd.named Bd.method).1
  have X0 : Stand p l e ({ frames := 0, cells := 0, slots := 0, locals := 0 } : Room) s m #[(.ref u0)] below meth c s₁ [] 0 0 := Stand.of_body Bd
  have e0 : s₁.heap = h0 := by rw [← hh, Bd.state]; rfl
  have N0 := Fr.nil n0
  show own_Ends p e below s₁ (entryFrame m #[(.ref u0)] 2) (fun ou Uw => ∃ vu Lu, ou = .returned vu ∧ Q_own_rhi4 u0 u1 u2 u3 h0 n0 vu Uw.heap Lu ∧ FrameEnd s ou Uw Lu ({ frames := 0, cells := 0, slots := 0, locals := 0 } : Room).cells ({ frames := 0, cells := 0, slots := 0, locals := 0 } : Room).slots)
  refine own_start (g' := (mkF m 0 #[rv u0, .unset] [])) (by first | (simp [entryFrame, mkF, argsToLocals, Value.category, iv, rv]; done) | rfl) ?_
  refine own_go (T' := s₁) (g' := (mkF m 1 #[rv u0, .unset] [(.ref u0)])) (fun t k => XS.aloadN X0.here hx rfl (hb hby own_d_prog_5_method_20_code_0) rfl rfl k) ?_
  refine own_go (T' := s₁) (g' := (mkF m 2 #[rv u0, rv u0] [])) (fun t k => XS.astoreN X0.here hx rfl (hb hby own_d_prog_5_method_20_code_1) rfl rfl (l' := #[rv u0, rv u0]) rfl k) ?_
  refine own_go (T' := s₁) (g' := (mkF m 3 #[rv u0, rv u0] [(.ref u0)])) (fun t k => XS.aloadN X0.here hx rfl (hb hby own_d_prog_5_method_20_code_2) rfl rfl k) ?_
  refine own_go (T' := s₁) (g' := (mkF m 6 #[rv u0, rv u0] [])) (fun t k => XS.ifnullNo X0.here hx rfl (hb hby own_d_prog_5_method_20_code_3) rfl k) ?_
  refine own_go (T' := s₁) (g' := (mkF m 7 #[rv u0, rv u0] [(.ref u0)])) (fun t k => XS.aloadN X0.here hx rfl (hb hby own_d_prog_5_method_20_code_6) rfl rfl k) ?_
  obtain ⟨T35, X35, e35, st35⟩ := getF X0 hx hZ hown (host := "") (Or.inl (hw _ (List.mem_of_getElem? (i := 31) rfl))) Via.refl e0 F0 (g := (mkF m 7 #[rv u0, rv u0] [(.ref u0)])) rfl rfl (hb hby own_d_prog_5_method_20_code_7)
  refine own_go (T' := T35) (g' := (mkF m 10 #[rv u0, rv u0] [(.ref u1)])) (st35) ?_
  refine own_go (T' := T35) (g' := (mkF m 13 #[rv u0, rv u0] [])) (fun t k => XS.ifnullNo X35.here hx rfl (hb hby own_d_prog_5_method_20_code_10) rfl k) ?_
  refine own_go (T' := T35) (g' := (mkF m 14 #[rv u0, rv u0] [(.ref u0)])) (fun t k => XS.aloadN X35.here hx rfl (hb hby own_d_prog_5_method_20_code_13) rfl rfl k) ?_
  obtain ⟨T36, X36, e36, st36⟩ := getF X35 hx hZ hown (host := "") (Or.inl (hw _ (List.mem_of_getElem? (i := 31) rfl))) Via.refl e35 F0 (g := (mkF m 14 #[rv u0, rv u0] [(.ref u0)])) rfl rfl (hb hby own_d_prog_5_method_20_code_14)
  refine own_go (T' := T36) (g' := (mkF m 17 #[rv u0, rv u0] [(.ref u1)])) (st36) ?_
  refine own_go (T' := T36) (g' := (mkF m 18 #[rv u0, rv u1] [])) (fun t k => XS.astoreN X36.here hx rfl (hb hby own_d_prog_5_method_20_code_17) rfl rfl (l' := #[rv u0, rv u1]) rfl k) ?_
  refine own_go (T' := T36) (g' := (mkF m 6 #[rv u0, rv u1] [])) (fun t k => XS.goto X36.here hx rfl (pc0 := 18) (pc' := 6) rfl (hb hby own_d_prog_5_method_20_code_18) (by decide) (by decide) k) ?_
  refine own_go (T' := T36) (g' := (mkF m 7 #[rv u0, rv u1] [(.ref u1)])) (fun t k => XS.aloadN X36.here hx rfl (hb hby own_d_prog_5_method_20_code_6) rfl rfl k) ?_
  obtain ⟨T37, X37, e37, st37⟩ := getF X36 hx hZ hown (host := "") (Or.inl (hw _ (List.mem_of_getElem? (i := 31) rfl))) Via.refl e36 F1 (g := (mkF m 7 #[rv u0, rv u1] [(.ref u1)])) rfl rfl (hb hby own_d_prog_5_method_20_code_7)
  refine own_go (T' := T37) (g' := (mkF m 10 #[rv u0, rv u1] [(.ref u2)])) (st37) ?_
  refine own_go (T' := T37) (g' := (mkF m 13 #[rv u0, rv u1] [])) (fun t k => XS.ifnullNo X37.here hx rfl (hb hby own_d_prog_5_method_20_code_10) rfl k) ?_
  refine own_go (T' := T37) (g' := (mkF m 14 #[rv u0, rv u1] [(.ref u1)])) (fun t k => XS.aloadN X37.here hx rfl (hb hby own_d_prog_5_method_20_code_13) rfl rfl k) ?_
  obtain ⟨T38, X38, e38, st38⟩ := getF X37 hx hZ hown (host := "") (Or.inl (hw _ (List.mem_of_getElem? (i := 31) rfl))) Via.refl e37 F1 (g := (mkF m 14 #[rv u0, rv u1] [(.ref u1)])) rfl rfl (hb hby own_d_prog_5_method_20_code_14)
  refine own_go (T' := T38) (g' := (mkF m 17 #[rv u0, rv u1] [(.ref u2)])) (st38) ?_
  refine own_go (T' := T38) (g' := (mkF m 18 #[rv u0, rv u2] [])) (fun t k => XS.astoreN X38.here hx rfl (hb hby own_d_prog_5_method_20_code_17) rfl rfl (l' := #[rv u0, rv u2]) rfl k) ?_
  refine own_go (T' := T38) (g' := (mkF m 6 #[rv u0, rv u2] [])) (fun t k => XS.goto X38.here hx rfl (pc0 := 18) (pc' := 6) rfl (hb hby own_d_prog_5_method_20_code_18) (by decide) (by decide) k) ?_
  refine own_go (T' := T38) (g' := (mkF m 7 #[rv u0, rv u2] [(.ref u2)])) (fun t k => XS.aloadN X38.here hx rfl (hb hby own_d_prog_5_method_20_code_6) rfl rfl k) ?_
  obtain ⟨T39, X39, e39, st39⟩ := getF X38 hx hZ hown (host := "") (Or.inl (hw _ (List.mem_of_getElem? (i := 31) rfl))) Via.refl e38 F2 (g := (mkF m 7 #[rv u0, rv u2] [(.ref u2)])) rfl rfl (hb hby own_d_prog_5_method_20_code_7)
  refine own_go (T' := T39) (g' := (mkF m 10 #[rv u0, rv u2] [(.ref u3)])) (st39) ?_
  refine own_go (T' := T39) (g' := (mkF m 13 #[rv u0, rv u2] [])) (fun t k => XS.ifnullNo X39.here hx rfl (hb hby own_d_prog_5_method_20_code_10) rfl k) ?_
  refine own_go (T' := T39) (g' := (mkF m 14 #[rv u0, rv u2] [(.ref u2)])) (fun t k => XS.aloadN X39.here hx rfl (hb hby own_d_prog_5_method_20_code_13) rfl rfl k) ?_
  obtain ⟨T40, X40, e40, st40⟩ := getF X39 hx hZ hown (host := "") (Or.inl (hw _ (List.mem_of_getElem? (i := 31) rfl))) Via.refl e39 F2 (g := (mkF m 14 #[rv u0, rv u2] [(.ref u2)])) rfl rfl (hb hby own_d_prog_5_method_20_code_14)
  refine own_go (T' := T40) (g' := (mkF m 17 #[rv u0, rv u2] [(.ref u3)])) (st40) ?_
  refine own_go (T' := T40) (g' := (mkF m 18 #[rv u0, rv u3] [])) (fun t k => XS.astoreN X40.here hx rfl (hb hby own_d_prog_5_method_20_code_17) rfl rfl (l' := #[rv u0, rv u3]) rfl k) ?_
  refine own_go (T' := T40) (g' := (mkF m 6 #[rv u0, rv u3] [])) (fun t k => XS.goto X40.here hx rfl (pc0 := 18) (pc' := 6) rfl (hb hby own_d_prog_5_method_20_code_18) (by decide) (by decide) k) ?_
  refine own_go (T' := T40) (g' := (mkF m 7 #[rv u0, rv u3] [(.ref u3)])) (fun t k => XS.aloadN X40.here hx rfl (hb hby own_d_prog_5_method_20_code_6) rfl rfl k) ?_
  obtain ⟨T41, X41, e41, st41⟩ := getF X40 hx hZ hown (host := "") (Or.inl (hw _ (List.mem_of_getElem? (i := 31) rfl))) Via.refl e40 F3 (g := (mkF m 7 #[rv u0, rv u3] [(.ref u3)])) rfl rfl (hb hby own_d_prog_5_method_20_code_7)
  refine own_go (T' := T41) (g' := (mkF m 10 #[rv u0, rv u3] [.null])) (st41) ?_
  refine own_go (T' := T41) (g' := (mkF m 21 #[rv u0, rv u3] [])) (fun t k => XS.ifnullYes X41.here hx rfl (pc0 := 10) (pc' := 21) rfl (hb hby own_d_prog_5_method_20_code_10) rfl (by decide) (by decide) k) ?_
  refine own_go (T' := T41) (g' := (mkF m 22 #[rv u0, rv u3] [(.ref u3)])) (fun t k => XS.aloadN X41.here hx rfl (hb hby own_d_prog_5_method_20_code_21) rfl rfl k) ?_
  exact own_ret X41 hlk hx Bd.returns rfl (Or.inr (Or.inr (Or.inr (Or.inr ⟨rfl, rfl, rfl⟩)))) (hb hby own_d_prog_5_method_20_code_22) ⟨rfl, rfl, e41⟩ (by decide) (by decide)

theorem own_pd0 : parseMethodDescriptor "(I)Ljava/lang/Integer;" = some ⟨[.int], some (.object "java/lang/Integer")⟩ := by decide +kernel
theorem own_pd2 : parseMethodDescriptor "(Lcom/example/treeline/treeline/Node;)Lcom/example/treeline/treeline/Node;" = some ⟨[(.object "com/example/treeline/treeline/Node")], some (.object "com/example/treeline/treeline/Node")⟩ := by decide +kernel
theorem own_pd1 : parseMethodDescriptor "(Ljava/lang/Object;Ljava/lang/Object;)V" = some ⟨[(.object "java/lang/Object"), (.object "java/lang/Object")], none⟩ := by decide +kernel
def Q_own_law (h0 : Heap) (n0 : Nat) (v : Option Value) (h : Heap) (L : List Loc) : Prop := v = some (.int 1) ∧ Fr n0 L
set_option maxRecDepth 65536 in
set_option maxHeartbeats 40000000 in
theorem own_law (l : Launch) (Z : State) (a0 : Array Value) (hw : ∀ d ∈ tables_1, d.before a0 Z = true) (ws : List Jvm.Cond) (x0 x1 : Int32) (aC : Addr) (h0 : Heap) (n0 : Nat) (Z0 : n0 ≤ h0.size) (S_high : Sta Z h0 "java/lang/Integer$IntegerCache" "high" "I" (.int (127 : Int32))) (S_cache : Sta Z h0 "java/lang/Integer$IntegerCache" "cache" "[Ljava/lang/Integer;" (.ref aC)) (C_cache : own_Cache Z h0 aC) :
    MetFree l x (head1 (Jvm.Cond.code x code maxLocals ret :: ws) room_1) (fun au Uu => au = #[(.int x0), (.int x1)] ∧ Z.Warmed39 Uu.vm ∧ Uu.heap = h0) (fun _ _ _ _ _ => True) (fun _ Uu ou Uw => ∃ vu Lu, ou = .returned vu ∧ Q_own_law h0 n0 vu Uw.heap Lu ∧ FrameEnd Uu ou Uw Lu 24 192) := by
  refine MetFree.of_bodySF (plainFor_of_name (by first | (simp [plainName, overriddenIn]; done) | decide +kernel)) hisR ?_
  intro p e s m args below meth c s₁ Bd hml0 hP hK
  obtain ⟨rfl, hZ, hh⟩ := hP
  have hx := Bd.exec
  have hby := Bd.bytes
  have hlk := Bd.notSynchronized
  have hml : c.maxLocals = 16 := hml0
  have hown : s.vm.findClass "com/example/treeline/treeline/NodeHighestPinLaw" = some m.cls := findClass_of_methodNamed Bd.named
  have hnm := (name_of_methodNamed Bd.named Bd.method).1
  have X0 : Stand p l e room_1 s m #[(.int x0), (.int x1)] below meth c s₁ [] 0 0 := Stand.of_body Bd
  have e0 : s₁.heap = h0 := by rw [← hh, Bd.state]; rfl
  have N0 := Fr.nil n0
  show own_Ends p e below s₁ (entryFrame m #[(.int x0), (.int x1)] maxLocals) (fun ou Uw => ∃ vu Lu, ou = .returned vu ∧ Q_own_law h0 n0 vu Uw.heap Lu ∧ FrameEnd s ou Uw Lu 24 192)
  refine own_start (g' := (mkF m 0 #[iv x0, iv x1, .unset, .unset, .unset, .unset, .unset, .unset, .unset, .unset, .unset, .unset, .unset, .unset, .unset, .unset] [])) (by first | (simp [entryFrame, mkF, argsToLocals, Value.category, iv, rv, maxLocals]; done) | rfl) ?_
  obtain ⟨T42, h42, X42, e42, E42, A42, D42, -, st42⟩ := newO X0 hx hZ hown (hw _ (List.mem_of_getElem? (i := 0) rfl)) (hw _ (List.mem_of_getElem? (i := 1) rfl)) (hw _ (List.mem_of_getElem? (i := 2) rfl)) e0 (g := (mkF m 0 #[iv x0, iv x1, .unset, .unset, .unset, .unset, .unset, .unset, .unset, .unset, .unset, .unset, .unset, .unset, .unset, .unset] [])) rfl (hb hby at_0) (by decide) (by decide)
  obtain ⟨b42, g42⟩ : ∃ z, z = h0.size := ⟨_, rfl⟩
  rw [← g42] at A42 D42 st42
  have gn42 : n0 ≤ b42 := Nat.le_trans Z0 (Nat.le_of_eq g42.symm)
  have hz42 : n0 ≤ h42.size := Nat.le_trans Z0 E42.1
  have c43 := S_high.ext E42
  have c44 := S_cache.ext E42
  have c45 := C_cache.ext E42
  have ne46 : aC ≠ b42 := Nat.ne_of_lt (Nat.lt_of_lt_of_le C_cache.lt (Nat.le_of_eq g42.symm))
  have F42_sizeAndParity : Fld Z h42 b42 "com/example/treeline/treeline/Node" "sizeAndParity" "I" (.int (0 : Int32)) := D42 (Or.inl (hw _ (List.mem_of_getElem? (i := 18) rfl))) (ty := .int) (by decide)
  have F42_key : Fld Z h42 b42 "com/example/treeline/treeline/Node" "key" "Ljava/lang/Object;" .null := D42 (Or.inr (hw _ (List.mem_of_getElem? (i := 20) rfl))) (ty := (.object "java/lang/Object")) (by decide)
  have F42_value : Fld Z h42 b42 "com/example/treeline/treeline/Node" "value" "Ljava/lang/Object;" .null := D42 (Or.inl (hw _ (List.mem_of_getElem? (i := 22) rfl))) (ty := (.object "java/lang/Object")) (by decide)
  have F42_right : Fld Z h42 b42 "com/example/treeline/treeline/Node" "right" "Lcom/example/treeline/treeline/Node;" .null := D42 (Or.inl (hw _ (List.mem_of_getElem? (i := 28) rfl))) (ty := (.object "com/example/treeline/treeline/Node")) (by decide)
  have F42_left : Fld Z h42 b42 "com/example/treeline/treeline/Node" "left" "Lcom/example/treeline/treeline/Node;" .null := D42 (Or.inl (hw _ (List.mem_of_getElem? (i := 30) rfl))) (ty := (.object "com/example/treeline/treeline/Node")) (by decide)
  refine own_go (T' := T42) (g' := (mkF m 3 #[iv x0, iv x1, .unset, .unset, .unset, .unset, .unset, .unset, .unset, .unset, .unset, .unset, .unset, .unset, .unset, .unset] [(.ref b42)])) (st42) ?_
  refine own_go (T' := T42) (g' := (mkF m 4 #[iv x0, iv x1, .unset, .unset, .unset, .unset, .unset, .unset, .unset, .unset, .unset, .unset, .unset, .unset, .unset, .unset] [(.ref b42), (.ref b42)])) (fun t k => XS.dup X42.here hx rfl (hb hby at_3) rfl rfl k) ?_
  refine own_go (T' := T42) (g' := (mkF m 5 #[iv x0, iv x1, .unset, .unset, .unset, .unset, .unset, .unset, .unset, .unset, .unset, .unset, .unset, .unset, .unset, .unset] [(.int (0 : Int32)), (.ref b42), (.ref b42)])) (fun t k => XS.iconst X42.here hx rfl (hb hby at_4) k) ?_
  obtain ⟨_, _, ⟨T47, L47, k47, n47⟩, -, X47, ⟨Lc47, hQ47, l47, y47, z47⟩, st47⟩ := Jvm.LawKit.callS X42 hx (y := (⟨"java/lang/Integer", "valueOf", "(I)Ljava/lang/Integer;"⟩ : MethodName)) hown (mvT hZ (hw _ (List.mem_of_getElem? (i := 3) rfl))) (mvT hZ (hw _ (List.mem_of_getElem? (i := 4) rfl))) (mvT hZ (hw _ (List.mem_of_getElem? (i := 5) rfl))) (mvT hZ (hw _ (List.mem_of_getElem? (i := 6) rfl))) (by decide) (backOf (W := 2) (own_rval l Z a0 hw [] (0 : Int32) aC h42 n0 hz42 c43 c44 c45 (by decide) (by decide)) hZ (hw _ (List.mem_of_getElem? (i := 6) rfl)) (hw _ (List.mem_of_getElem? (i := 5) rfl)) (by decide) (by decide)) (g := (mkF m 5 #[iv x0, iv x1, .unset, .unset, .unset, .unset, .unset, .unset, .unset, .unset, .unset, .unset, .unset, .unset, .unset, .unset] [(.int (0 : Int32)), (.ref b42), (.ref b42)])) rfl (by rw [hml]; rfl) (argsL := [(.int (0 : Int32))]) (rest := [(.ref b42), (.ref b42)]) (lenOf own_pd0 rfl) rfl (by show 2 * 0 + _ ≤ _; exact Nat.le_of_eq rfl) (hb hby at_5) (fun _ _ => ⟨rfl, e42, (by decide : 1 + 0 ≤ _), (by decide : 5 + 0 ≤ _)⟩)
  dsimp only [Pt.U, Pt.locs, Pt.cells, Pt.slots] at X47 l47 y47 z47 st47 hQ47
  subst l47 y47 z47
  obtain ⟨y_47, rfl, rfl, e47⟩ := hQ47
  have E47q : T47.heap = h42 := e47
  have N47 := Fr.app N0 (Fr.nil n0)
  refine own_go (T' := T47) (g' := (mkF m 8 #[iv x0, iv x1, .unset, .unset, .unset, .unset, .unset, .unset, .unset, .unset, .unset, .unset, .unset, .unset, .unset, .unset] [(.ref y_47), (.ref b42), (.ref b42)])) (st47) ?_
  refine own_go (T' := T47) (g' := (mkF m 9 #[iv x0, iv x1, .unset, .unset, .unset, .unset, .unset, .unset, .unset, .unset, .unset, .unset, .unset, .unset, .unset, .unset] [(.int (0 : Int32)), (.ref y_47), (.ref b42), (.ref b42)])) (fun t k => XS.iconst X47.here hx rfl (hb hby at_8) k) ?_
  obtain ⟨_, _, ⟨T48, L48, k48, n48⟩, -, X48, ⟨Lc48, hQ48, l48, y48, z48⟩, st48⟩ := Jvm.LawKit.callS X47 hx (y := (⟨"java/lang/Integer", "valueOf", "(I)Ljava/lang/Integer;"⟩ : MethodName)) hown (mvT hZ (hw _ (List.mem_of_getElem? (i := 3) rfl))) (mvT hZ (hw _ (List.mem_of_getElem? (i := 4) rfl))) (mvT hZ (hw _ (List.mem_of_getElem? (i := 5) rfl))) (mvT hZ (hw _ (List.mem_of_getElem? (i := 6) rfl))) (by decide) (backOf (W := 3) (own_rval l Z a0 hw [] (0 : Int32) aC h42 n0 hz42 c43 c44 c45 (by decide) (by decide)) hZ (hw _ (List.mem_of_getElem? (i := 6) rfl)) (hw _ (List.mem_of_getElem? (i := 5) rfl)) (by decide) (by decide)) (g := (mkF m 9 #[iv x0, iv x1, .unset, .unset, .unset, .unset, .unset, .unset, .unset, .unset, .unset, .unset, .unset, .unset, .unset, .unset] [(.int (0 : Int32)), (.ref y_47), (.ref b42), (.ref b42)])) rfl (by rw [hml]; rfl) (argsL := [(.int (0 : Int32))]) (rest := [(.ref y_47), (.ref b42), (.ref b42)]) (lenOf own_pd0 rfl) rfl (by show 2 * 0 + _ ≤ _; exact Nat.le_of_eq rfl) (hb hby at_9) (fun _ _ => ⟨rfl, E47q, (by decide : 1 + 0 ≤ _), (by decide : 5 + 0 ≤ _)⟩)
  dsimp only [Pt.U, Pt.locs, Pt.cells, Pt.slots] at X48 l48 y48 z48 st48 hQ48
  subst l48 y48 z48
  obtain ⟨y_48, rfl, rfl, e48⟩ := hQ48
  have E48q : T48.heap = h42 := e48
  have N48 := Fr.app N47 (Fr.nil n0)
  refine own_go (T' := T48) (g' := (mkF m 12 #[iv x0, iv x1, .unset, .unset, .unset, .unset, .unset, .unset, .unset, .unset, .unset, .unset, .unset, .unset, .unset, .unset] [(.ref y_48), (.ref y_47), (.ref b42), (.ref b42)])) (st48) ?_
  obtain ⟨_, _, ⟨T49, L49, k49, n49⟩, -, X49, ⟨Lc49, hQ49, l49, y49, z49⟩, st49⟩ := X48.specialBack hx (y := (⟨"com/example/treeline/treeline/Node", "<init>", "(Ljava/lang/Object;Ljava/lang/Object;)V"⟩ : MethodName)) rfl hown (mvT hZ (hw _ (List.mem_of_getElem? (i := 10) rfl))) (mvT hZ (hw _ (List.mem_of_getElem? (i := 11) rfl))) (mvT hZ (hw _ (List.mem_of_getElem? (i := 12) rfl))) (by decide) (backOf (W := 1) (own_rinit l Z a0 hw [] b42 y_47 y_48 h42 n0 hz42 A42 gn42 F42_sizeAndParity F42_key F42_value F42_left F42_right) hZ (hw _ (List.mem_of_getElem? (i := 12) rfl)) (hw _ (List.mem_of_getElem? (i := 2) rfl)) (by decide) (by decide)) (g := (mkF m 12 #[iv x0, iv x1, .unset, .unset, .unset, .unset, .unset, .unset, .unset, .unset, .unset, .unset, .unset, .unset, .unset, .unset] [(.ref y_48), (.ref y_47), (.ref b42), (.ref b42)])) rfl (by rw [hml]; rfl) (Steps.refl _) (a := b42) (argsL := [(.ref y_47), (.ref y_48)]) (rest := [(.ref b42)]) (lenOf own_pd1 rfl) rfl (by show 2 * 0 + _ ≤ _; exact Nat.le_of_eq rfl) (hb hby at_12) (fun _ _ => ⟨rfl, E48q, (by decide : 1 + 0 ≤ _), (by decide : 5 + 0 ≤ _)⟩)
  dsimp only [Pt.U, Pt.locs, Pt.cells, Pt.slots] at X49 l49 y49 z49 st49 hQ49
  subst l49 y49 z49
  obtain ⟨rfl, N49q, K_49, e_49, l_49, r_49⟩ := hQ49
  have N49 := Fr.app N48 N49q
  have c50 := own_sta_keep c43 K_49 (own_nsS (own_nse A42) own_ns0)
  have c51 := own_sta_keep c44 K_49 (own_nsS (own_nse A42) own_ns0)
  have c52 := c45.keep K_49 (ninS ne46 nin0)
  have c55 := A42.keep K_49
  have hz49 : n0 ≤ T49.heap.size := Nat.le_trans hz42 K_49.1
  refine own_go (T' := T49) (g' := (mkF m 15 #[iv x0, iv x1, .unset, .unset, .unset, .unset, .unset, .unset, .unset, .unset, .unset, .unset, .unset, .unset, .unset, .unset] [(.ref b42)])) (fun t k => st49.trans k) ?_
  refine own_go (T' := T49) (g' := (mkF m 16 #[iv x0, iv x1, rv b42, .unset, .unset, .unset, .unset, .unset, .unset, .unset, .unset, .unset, .unset, .unset, .unset, .unset] [])) (fun t k => XS.astoreN X49.here hx rfl (hb hby at_15) rfl rfl (l' := #[iv x0, iv x1, rv b42, .unset, .unset, .unset, .unset, .unset, .unset, .unset, .unset, .unset, .unset, .unset, .unset, .unset]) rfl k) ?_
  obtain ⟨T61, h61, X61, e61, E61, A61, D61, -, st61⟩ := newO X49 hx hZ hown (hw _ (List.mem_of_getElem? (i := 0) rfl)) (hw _ (List.mem_of_getElem? (i := 1) rfl)) (hw _ (List.mem_of_getElem? (i := 2) rfl)) rfl (g := (mkF m 16 #[iv x0, iv x1, rv b42, .unset, .unset, .unset, .unset, .unset, .unset, .unset, .unset, .unset, .unset, .unset, .unset, .unset] [])) rfl (hb hby at_16) (by decide) (by decide)
  obtain ⟨b61, g61⟩ : ∃ z, z = T49.heap.size := ⟨_, rfl⟩
  rw [← g61] at A61 D61 st61
  have gn61 : n0 ≤ b61 := Nat.le_trans hz49 (Nat.le_of_eq g61.symm)
  have hz61 : n0 ≤ h61.size := Nat.le_trans hz49 E61.1
  have c62 := c50.ext E61
  have c63 := c51.ext E61
  have c64 := c52.ext E61
  have ne65 : aC ≠ b61 := Nat.ne_of_lt (Nat.lt_of_lt_of_le c52.lt (Nat.le_of_eq g61.symm))
  have c66 := e_49.ext E61
  have ne67 : b42 ≠ b61 := Nat.ne_of_lt (Nat.lt_of_lt_of_le e_49.lt (Nat.le_of_eq g61.symm))
  have c68 := l_49.ext E61
  have c69 := r_49.ext E61
  have F61_sizeAndParity : Fld Z h61 b61 "com/example/treeline/treeline/Node" "sizeAndParity" "I" (.int (0 : Int32)) := D61 (Or.inl (hw _ (List.mem_of_getElem? (i := 18) rfl))) (ty := .int) (by decide)
  have F61_key : Fld Z h61 b61 "com/example/treeline/treeline/Node" "key" "Ljava/lang/Object;" .null := D61 (Or.inr (hw _ (List.mem_of_getElem? (i := 20) rfl))) (ty := (.object "java/lang/Object")) (by decide)
  have F61_value : Fld Z h61 b61 "com/example/treeline/treeline/Node" "value" "Ljava/lang/Object;" .null := D61 (Or.inl (hw _ (List.mem_of_getElem? (i := 22) rfl))) (ty := (.object "java/lang/Object")) (by decide)
  have F61_right : Fld Z h61 b61 "com/example/treeline/treeline/Node" "right" "Lcom/example/treeline/treeline/Node;" .null := D61 (Or.inl (hw _ (List.mem_of_getElem? (i := 28) rfl))) (ty := (.object "com/example/treeline/treeline/Node")) (by decide)
  have F61_left : Fld Z h61 b61 "com/example/treeline/treeline/Node" "left" "Lcom/example/treeline/treeline/Node;" .null := D61 (Or.inl (hw _ (List.mem_of_getElem? (i := 30) rfl))) (ty := (.object "com/example/treeline/treeline/Node")) (by decide)
  refine own_go (T' := T61) (g' := (mkF m 19 #[iv x0, iv x1, rv b42, .unset, .unset, .unset, .unset, .unset, .unset, .unset, .unset, .unset, .unset, .unset, .unset, .unset] [(.ref b61)])) (st61) ?_
  refine own_go (T' := T61) (g' := (mkF m 20 #[iv x0, iv x1, rv b42, .unset, .unset, .unset, .unset, .unset, .unset, .unset, .unset, .unset, .unset, .unset, .unset, .unset] [(.ref b61), (.ref b61)])) (fun t k => XS.dup X61.here hx rfl (hb hby at_19) rfl rfl k) ?_
  refine own_go (T' := T61) (g' := (mkF m 21 #[iv x0, iv x1, rv b42, .unset, .unset, .unset, .unset, .unset, .unset, .unset, .unset, .unset, .unset, .unset, .unset, .unset] [(.int (1 : Int32)), (.ref b61), (.ref b61)])) (fun t k => XS.iconst X61.here hx rfl (hb hby at_20) k) ?_
  obtain ⟨_, _, ⟨T70, L70, k70, n70⟩, -, X70, ⟨Lc70, hQ70, l70, y70, z70⟩, st70⟩ := Jvm.LawKit.callS X61 hx (y := (⟨"java/lang/Integer", "valueOf", "(I)Ljava/lang/Integer;"⟩ : MethodName)) hown (mvT hZ (hw _ (List.mem_of_getElem? (i := 3) rfl))) (mvT hZ (hw _ (List.mem_of_getElem? (i := 4) rfl))) (mvT hZ (hw _ (List.mem_of_getElem? (i := 5) rfl))) (mvT hZ (hw _ (List.mem_of_getElem? (i := 6) rfl))) (by decide) (backOf (W := 2) (own_rval l Z a0 hw [] (1 : Int32) aC h61 n0 hz61 c62 c63 c64 (by decide) (by decide)) hZ (hw _ (List.mem_of_getElem? (i := 6) rfl)) (hw _ (List.mem_of_getElem? (i := 5) rfl)) (by decide) (by decide)) (g := (mkF m 21 #[iv x0, iv x1, rv b42, .unset, .unset, .unset, .unset, .unset, .unset, .unset, .unset, .unset, .unset, .unset, .unset, .unset] [(.int (1 : Int32)), (.ref b61), (.ref b61)])) rfl (by rw [hml]; rfl) (argsL := [(.int (1 : Int32))]) (rest := [(.ref b61), (.ref b61)]) (lenOf own_pd0 rfl) rfl (by show 2 * 0 + _ ≤ _; exact Nat.le_of_eq rfl) (hb hby at_21) (fun _ _ => ⟨rfl, e61, (by decide : 2 + 0 ≤ _), (by decide : 10 + 0 ≤ _)⟩)
  dsimp only [Pt.U, Pt.locs, Pt.cells, Pt.slots] at X70 l70 y70 z70 st70 hQ70
  subst l70 y70 z70
  obtain ⟨y_70, rfl, rfl, e70⟩ := hQ70
  have E70q : T70.heap = h61 := e70
  have N70 := Fr.app N49 (Fr.nil n0)
  refine own_go (T' := T70) (g' := (mkF m 24 #[iv x0, iv x1, rv b42, .unset, .unset, .unset, .unset, .unset, .unset, .unset, .unset, .unset, .unset, .unset, .unset, .unset] [(.ref y_70), (.ref b61), (.ref b61)])) (st70) ?_
  refine own_go (T' := T70) (g' := (mkF m 25 #[iv x0, iv x1, rv b42, .unset, .unset, .unset, .unset, .unset, .unset, .unset, .unset, .unset, .unset, .unset, .unset, .unset] [(.int (1 : Int32)), (.ref y_70), (.ref b61), (.ref b61)])) (fun t k => XS.iconst X70.here hx rfl (hb hby at_24) k) ?_
  obtain ⟨_, _, ⟨T71, L71, k71, n71⟩, -, X71, ⟨Lc71, hQ71, l71, y71, z71⟩, st71⟩ := Jvm.LawKit.callS X70 hx (y := (⟨"java/lang/Integer", "valueOf", "(I)Ljava/lang/Integer;"⟩ : MethodName)) hown (mvT hZ (hw _ (List.mem_of_getElem? (i := 3) rfl))) (mvT hZ (hw _ (List.mem_of_getElem? (i := 4) rfl))) (mvT hZ (hw _ (List.mem_of_getElem? (i := 5) rfl))) (mvT hZ (hw _ (List.mem_of_getElem? (i := 6) rfl))) (by decide) (backOf (W := 3) (own_rval l Z a0 hw [] (1 : Int32) aC h61 n0 hz61 c62 c63 c64 (by decide) (by decide)) hZ (hw _ (List.mem_of_getElem? (i := 6) rfl)) (hw _ (List.mem_of_getElem? (i := 5) rfl)) (by decide) (by decide)) (g := (mkF m 25 #[iv x0, iv x1, rv b42, .unset, .unset, .unset, .unset, .unset, .unset, .unset, .unset, .unset, .unset, .unset, .unset, .unset] [(.int (1 : Int32)), (.ref y_70), (.ref b61), (.ref b61)])) rfl (by rw [hml]; rfl) (argsL := [(.int (1 : Int32))]) (rest := [(.ref y_70), (.ref b61), (.ref b61)]) (lenOf own_pd0 rfl) rfl (by show 2 * 0 + _ ≤ _; exact Nat.le_of_eq rfl) (hb hby at_25) (fun _ _ => ⟨rfl, E70q, (by decide : 2 + 0 ≤ _), (by decide : 10 + 0 ≤ _)⟩)
  dsimp only [Pt.U, Pt.locs, Pt.cells, Pt.slots] at X71 l71 y71 z71 st71 hQ71
  subst l71 y71 z71
  obtain ⟨y_71, rfl, rfl, e71⟩ := hQ71
  have E71q : T71.heap = h61 := e71
  have N71 := Fr.app N70 (Fr.nil n0)
  refine own_go (T' := T71) (g' := (mkF m 28 #[iv x0, iv x1, rv b42, .unset, .unset, .unset, .unset, .unset, .unset, .unset, .unset, .unset, .unset, .unset, .unset, .unset] [(.ref y_71), (.ref y_70), (.ref b61), (.ref b61)])) (st71) ?_
  obtain ⟨_, _, ⟨T72, L72, k72, n72⟩, -, X72, ⟨Lc72, hQ72, l72, y72, z72⟩, st72⟩ := X71.specialBack hx (y := (⟨"com/example/treeline/treeline/Node", "<init>", "(Ljava/lang/Object;Ljava/lang/Object;)V"⟩ : MethodName)) rfl hown (mvT hZ (hw _ (List.mem_of_getElem? (i := 10) rfl))) (mvT hZ (hw _ (List.mem_of_getElem? (i := 11) rfl))) (mvT hZ (hw _ (List.mem_of_getElem? (i := 12) rfl))) (by decide) (backOf (W := 1) (own_rinit l Z a0 hw [] b61 y_70 y_71 h61 n0 hz61 A61 gn61 F61_sizeAndParity F61_key F61_value F61_left F61_right) hZ (hw _ (List.mem_of_getElem? (i := 12) rfl)) (hw _ (List.mem_of_getElem? (i := 2) rfl)) (by decide) (by decide)) (g := (mkF m 28 #[iv x0, iv x1, rv b42, .unset, .unset, .unset, .unset, .unset, .unset, .unset, .unset, .unset, .unset, .unset, .unset, .unset] [(.ref y_71), (.ref y_70), (.ref b61), (.ref b61)])) rfl (by rw [hml]; rfl) (Steps.refl _) (a := b61) (argsL := [(.ref y_70), (.ref y_71)]) (rest := [(.ref b61)]) (lenOf own_pd1 rfl) rfl (by show 2 * 0 + _ ≤ _; exact Nat.le_of_eq rfl) (hb hby at_28) (fun _ _ => ⟨rfl, E71q, (by decide : 2 + 0 ≤ _), (by decide : 10 + 0 ≤ _)⟩)
  dsimp only [Pt.U, Pt.locs, Pt.cells, Pt.slots] at X72 l72 y72 z72 st72 hQ72
  subst l72 y72 z72
  obtain ⟨rfl, N72q, K_72, e_72, l_72, r_72⟩ := hQ72
  have N72 := Fr.app N71 N72q
  have c73 := own_sta_keep c62 K_72 (own_nsS (own_nse A61) own_ns0)
  have c74 := own_sta_keep c63 K_72 (own_nsS (own_nse A61) own_ns0)
  have c75 := c64.keep K_72 (ninS ne65 nin0)
  have c78 := c66.keep K_72
  have c79 := c68.keep K_72 (ninS ne67 nin0)
  have c80 := c69.keep K_72 (ninS ne67 nin0)
  have c84 := A61.keep K_72
  have hz72 : n0 ≤ T72.heap.size := Nat.le_trans hz61 K_72.1
  refine own_go (T' := T72) (g' := (mkF m 31 #[iv x0, iv x1, rv b42, .unset, .unset, .unset, .unset, .unset, .unset, .unset, .unset, .unset, .unset, .unset, .unset, .unset] [(.ref b61)])) (fun t k => st72.trans k) ?_
  refine own_go (T' := T72) (g' := (mkF m 32 #[iv x0, iv x1, rv b42, rv b61, .unset, .unset, .unset, .unset, .unset, .unset, .unset, .unset, .unset, .unset, .unset, .unset] [])) (fun t k => XS.astoreN X72.here hx rfl (hb hby at_31) rfl rfl (l' := #[iv x0, iv x1, rv b42, rv b61, .unset, .unset, .unset, .unset, .unset, .unset, .unset, .unset, .unset, .unset, .unset, .unset]) rfl k) ?_
  obtain ⟨T90, h90, X90, e90, E90, A90, D90, -, st90⟩ := newO X72 hx hZ hown (hw _ (List.mem_of_getElem? (i := 0) rfl)) (hw _ (List.mem_of_getElem? (i := 1) rfl)) (hw _ (List.mem_of_getElem? (i := 2) rfl)) rfl (g := (mkF m 32 #[iv x0, iv x1, rv b42, rv b61, .unset, .unset, .unset, .unset, .unset, .unset, .unset, .unset, .unset, .unset, .unset, .unset] [])) rfl (hb hby at_32) (by decide) (by decide)
  obtain ⟨b90, g90⟩ : ∃ z, z = T72.heap.size := ⟨_, rfl⟩
  rw [← g90] at A90 D90 st90
  have gn90 : n0 ≤ b90 := Nat.le_trans hz72 (Nat.le_of_eq g90.symm)
  have hz90 : n0 ≤ h90.size := Nat.le_trans hz72 E90.1
  have c91 := c73.ext E90
  have c92 := c74.ext E90
  have c93 := c75.ext E90
  have ne94 : aC ≠ b90 := Nat.ne_of_lt (Nat.lt_of_lt_of_le c75.lt (Nat.le_of_eq g90.symm))
  have c95 := c78.ext E90
  have ne96 : b42 ≠ b90 := Nat.ne_of_lt (Nat.lt_of_lt_of_le c78.lt (Nat.le_of_eq g90.symm))
  have c97 := c79.ext E90
  have c98 := c80.ext E90
  have c99 := e_72.ext E90
  have ne100 : b61 ≠ b90 := Nat.ne_of_lt (Nat.lt_of_lt_of_le e_72.lt (Nat.le_of_eq g90.symm))
  have c101 := l_72.ext E90
  have c102 := r_72.ext E90
  have F90_sizeAndParity : Fld Z h90 b90 "com/example/treeline/treeline/Node" "sizeAndParity" "I" (.int (0 : Int32)) := D90 (Or.inl (hw _ (List.mem_of_getElem? (i := 18) rfl))) (ty := .int) (by decide)
  have F90_key : Fld Z h90 b90 "com/example/treeline/treeline/Node" "key" "Ljava/lang/Object;" .null := D90 (Or.inr (hw _ (List.mem_of_getElem? (i := 20) rfl))) (ty := (.object "java/lang/Object")) (by decide)
  have F90_value : Fld Z h90 b90 "com/example/treeline/treeline/Node" "value" "Ljava/lang/Object;" .null := D90 (Or.inl (hw _ (List.mem_of_getElem? (i := 22) rfl))) (ty := (.object "java/lang/Object")) (by decide)
  have F90_right : Fld Z h90 b90 "com/example/treeline/treeline/Node" "right" "Lcom/example/treeline/treeline/Node;" .null := D90 (Or.inl (hw _ (List.mem_of_getElem? (i := 28) rfl))) (ty := (.object "com/example/treeline/treeline/Node")) (by decide)
  have F90_left : Fld Z h90 b90 "com/example/treeline/treeline/Node" "left" "Lcom/example/treeline/treeline/Node;" .null := D90 (Or.inl (hw _ (List.mem_of_getElem? (i := 30) rfl))) (ty := (.object "com/example/treeline/treeline/Node")) (by decide)
  refine own_go (T' := T90) (g' := (mkF m 35 #[iv x0, iv x1, rv b42, rv b61, .unset, .unset, .unset, .unset, .unset, .unset, .unset, .unset, .unset, .unset, .unset, .unset] [(.ref b90)])) (st90) ?_
  refine own_go (T' := T90) (g' := (mkF m 36 #[iv x0, iv x1, rv b42, rv b61, .unset, .unset, .unset, .unset, .unset, .unset, .unset, .unset, .unset, .unset, .unset, .unset] [(.ref b90), (.ref b90)])) (fun t k => XS.dup X90.here hx rfl (hb hby at_35) rfl rfl k) ?_
  refine own_go (T' := T90) (g' := (mkF m 37 #[iv x0, iv x1, rv b42, rv b61, .unset, .unset, .unset, .unset, .unset, .unset, .unset, .unset, .unset, .unset, .unset, .unset] [(.int (2 : Int32)), (.ref b90), (.ref b90)])) (fun t k => XS.iconst X90.here hx rfl (hb hby at_36) k) ?_
  obtain ⟨_, _, ⟨T103, L103, k103, n103⟩, -, X103, ⟨Lc103, hQ103, l103, y103, z103⟩, st103⟩ := Jvm.LawKit.callS X90 hx (y := (⟨"java/lang/Integer", "valueOf", "(I)Ljava/lang/Integer;"⟩ : MethodName)) hown (mvT hZ (hw _ (List.mem_of_getElem? (i := 3) rfl))) (mvT hZ (hw _ (List.mem_of_getElem? (i := 4) rfl))) (mvT hZ (hw _ (List.mem_of_getElem? (i := 5) rfl))) (mvT hZ (hw _ (List.mem_of_getElem? (i := 6) rfl))) (by decide) (backOf (W := 2) (own_rval l Z a0 hw [] (2 : Int32) aC h90 n0 hz90 c91 c92 c93 (by decide) (by decide)) hZ (hw _ (List.mem_of_getElem? (i := 6) rfl)) (hw _ (List.mem_of_getElem? (i := 5) rfl)) (by decide) (by decide)) (g := (mkF m 37 #[iv x0, iv x1, rv b42, rv b61, .unset, .unset, .unset, .unset, .unset, .unset, .unset, .unset, .unset, .unset, .unset, .unset] [(.int (2 : Int32)), (.ref b90), (.ref b90)])) rfl (by rw [hml]; rfl) (argsL := [(.int (2 : Int32))]) (rest := [(.ref b90), (.ref b90)]) (lenOf own_pd0 rfl) rfl (by show 2 * 0 + _ ≤ _; exact Nat.le_of_eq rfl) (hb hby at_37) (fun _ _ => ⟨rfl, e90, (by decide : 3 + 0 ≤ _), (by decide : 15 + 0 ≤ _)⟩)
  dsimp only [Pt.U, Pt.locs, Pt.cells, Pt.slots] at X103 l103 y103 z103 st103 hQ103
  subst l103 y103 z103
  obtain ⟨y_103, rfl, rfl, e103⟩ := hQ103
  have E103q : T103.heap = h90 := e103
  have N103 := Fr.app N72 (Fr.nil n0)
  refine own_go (T' := T103) (g' := (mkF m 40 #[iv x0, iv x1, rv b42, rv b61, .unset, .unset, .unset, .unset, .unset, .unset, .unset, .unset, .unset, .unset, .unset, .unset] [(.ref y_103), (.ref b90), (.ref b90)])) (st103) ?_
  refine own_go (T' := T103) (g' := (mkF m 41 #[iv x0, iv x1, rv b42, rv b61, .unset, .unset, .unset, .unset, .unset, .unset, .unset, .unset, .unset, .unset, .unset, .unset] [(.int (2 : Int32)), (.ref y_103), (.ref b90), (.ref b90)])) (fun t k => XS.iconst X103.here hx rfl (hb hby at_40) k) ?_
  obtain ⟨_, _, ⟨T104, L104, k104, n104⟩, -, X104, ⟨Lc104, hQ104, l104, y104, z104⟩, st104⟩ := Jvm.LawKit.callS X103 hx (y := (⟨"java/lang/Integer", "valueOf", "(I)Ljava/lang/Integer;"⟩ : MethodName)) hown (mvT hZ (hw _ (List.mem_of_getElem? (i := 3) rfl))) (mvT hZ (hw _ (List.mem_of_getElem? (i := 4) rfl))) (mvT hZ (hw _ (List.mem_of_getElem? (i := 5) rfl))) (mvT hZ (hw _ (List.mem_of_getElem? (i := 6) rfl))) (by decide) (backOf (W := 3) (own_rval l Z a0 hw [] (2 : Int32) aC h90 n0 hz90 c91 c92 c93 (by decide) (by decide)) hZ (hw _ (List.mem_of_getElem? (i := 6) rfl)) (hw _ (List.mem_of_getElem? (i := 5) rfl)) (by decide) (by decide)) (g := (mkF m 41 #[iv x0, iv x1, rv b42, rv b61, .unset, .unset, .unset, .unset, .unset, .unset, .unset, .unset, .unset, .unset, .unset, .unset] [(.int (2 : Int32)), (.ref y_103), (.ref b90), (.ref b90)])) rfl (by rw [hml]; rfl) (argsL := [(.int (2 : Int32))]) (rest := [(.ref y_103), (.ref b90), (.ref b90)]) (lenOf own_pd0 rfl) rfl (by show 2 * 0 + _ ≤ _; exact Nat.le_of_eq rfl) (hb hby at_41) (fun _ _ => ⟨rfl, E103q, (by decide : 3 + 0 ≤ _), (by decide : 15 + 0 ≤ _)⟩)
  dsimp only [Pt.U, Pt.locs, Pt.cells, Pt.slots] at X104 l104 y104 z104 st104 hQ104
  subst l104 y104 z104
  obtain ⟨y_104, rfl, rfl, e104⟩ := hQ104
  have E104q : T104.heap = h90 := e104
  have N104 := Fr.app N103 (Fr.nil n0)
  refine own_go (T' := T104) (g' := (mkF m 44 #[iv x0, iv x1, rv b42, rv b61, .unset, .unset, .unset, .unset, .unset, .unset, .unset, .unset, .unset, .unset, .unset, .unset] [(.ref y_104), (.ref y_103), (.ref b90), (.ref b90)])) (st104) ?_
  obtain ⟨_, _, ⟨T105, L105, k105, n105⟩, -, X105, ⟨Lc105, hQ105, l105, y105, z105⟩, st105⟩ := X104.specialBack hx (y := (⟨"com/example/treeline/treeline/Node", "<init>", "(Ljava/lang/Object;Ljava/lang/Object;)V"⟩ : MethodName)) rfl hown (mvT hZ (hw _ (List.mem_of_getElem? (i := 10) rfl))) (mvT hZ (hw _ (List.mem_of_getElem? (i := 11) rfl))) (mvT hZ (hw _ (List.mem_of_getElem? (i := 12) rfl))) (by decide) (backOf (W := 1) (own_rinit l Z a0 hw [] b90 y_103 y_104 h90 n0 hz90 A90 gn90 F90_sizeAndParity F90_key F90_value F90_left F90_right) hZ (hw _ (List.mem_of_getElem? (i := 12) rfl)) (hw _ (List.mem_of_getElem? (i := 2) rfl)) (by decide) (by decide)) (g := (mkF m 44 #[iv x0, iv x1, rv b42, rv b61, .unset, .unset, .unset, .unset, .unset, .unset, .unset, .unset, .unset, .unset, .unset, .unset] [(.ref y_104), (.ref y_103), (.ref b90), (.ref b90)])) rfl (by rw [hml]; rfl) (Steps.refl _) (a := b90) (argsL := [(.ref y_103), (.ref y_104)]) (rest := [(.ref b90)]) (lenOf own_pd1 rfl) rfl (by show 2 * 0 + _ ≤ _; exact Nat.le_of_eq rfl) (hb hby at_44) (fun _ _ => ⟨rfl, E104q, (by decide : 3 + 0 ≤ _), (by decide : 15 + 0 ≤ _)⟩)
  dsimp only [Pt.U, Pt.locs, Pt.cells, Pt.slots] at X105 l105 y105 z105 st105 hQ105
  subst l105 y105 z105
  obtain ⟨rfl, N105q, K_105, e_105, l_105, r_105⟩ := hQ105
  have N105 := Fr.app N104 N105q
  have c106 := own_sta_keep c91 K_105 (own_nsS (own_nse A90) own_ns0)
  have c107 := own_sta_keep c92 K_105 (own_nsS (own_nse A90) own_ns0)
  have c108 := c93.keep K_105 (ninS ne94 nin0)
  have c111 := c95.keep K_105
  have c112 := c97.keep K_105 (ninS ne96 nin0)
  have c113 := c98.keep K_105 (ninS ne96 nin0)
  have c117 := c99.keep K_105
  have c118 := c101.keep K_105 (ninS ne100 nin0)
  have c119 := c102.keep K_105 (ninS ne100 nin0)
  have c124 := A90.keep K_105
  have hz105 : n0 ≤ T105.heap.size := Nat.le_trans hz90 K_105.1
  refine own_go (T' := T105) (g' := (mkF m 47 #[iv x0, iv x1, rv b42, rv b61, .unset, .unset, .unset, .unset, .unset, .unset, .unset, .unset, .unset, .unset, .unset, .unset] [(.ref b90)])) (fun t k => st105.trans k) ?_
  refine own_go (T' := T105) (g' := (mkF m 49 #[iv x0, iv x1, rv b42, rv b61, rv b90, .unset, .unset, .unset, .unset, .unset, .unset, .unset, .unset, .unset, .unset, .unset] [])) (fun t k => XS.astore X105.here hx rfl (hb hby at_47) rfl rfl (l' := #[iv x0, iv x1, rv b42, rv b61, rv b90, .unset, .unset, .unset, .unset, .unset, .unset, .unset, .unset, .unset, .unset, .unset]) rfl k) ?_
  obtain ⟨T130, h130, X130, e130, E130, A130, D130, -, st130⟩ := newO X105 hx hZ hown (hw _ (List.mem_of_getElem? (i := 0) rfl)) (hw _ (List.mem_of_getElem? (i := 1) rfl)) (hw _ (List.mem_of_getElem? (i := 2) rfl)) rfl (g := (mkF m 49 #[iv x0, iv x1, rv b42, rv b61, rv b90, .unset, .unset, .unset, .unset, .unset, .unset, .unset, .unset, .unset, .unset, .unset] [])) rfl (hb hby at_49) (by decide) (by decide)
  obtain ⟨b130, g130⟩ : ∃ z, z = T105.heap.size := ⟨_, rfl⟩
  rw [← g130] at A130 D130 st130
  have gn130 : n0 ≤ b130 := Nat.le_trans hz105 (Nat.le_of_eq g130.symm)
  have hz130 : n0 ≤ h130.size := Nat.le_trans hz105 E130.1
  have c131 := c106.ext E130
  have c132 := c107.ext E130
  have c133 := c108.ext E130
  have ne134 : aC ≠ b130 := Nat.ne_of_lt (Nat.lt_of_lt_of_le c108.lt (Nat.le_of_eq g130.symm))
  have c135 := c111.ext E130
  have ne136 : b42 ≠ b130 := Nat.ne_of_lt (Nat.lt_of_lt_of_le c111.lt (Nat.le_of_eq g130.symm))
  have c137 := c112.ext E130
  have c138 := c113.ext E130
  have c139 := c117.ext E130
  have ne140 : b61 ≠ b130 := Nat.ne_of_lt (Nat.lt_of_lt_of_le c117.lt (Nat.le_of_eq g130.symm))
  have c141 := c118.ext E130
  have c142 := c119.ext E130
  have c143 := e_105.ext E130
  have ne144 : b90 ≠ b130 := Nat.ne_of_lt (Nat.lt_of_lt_of_le e_105.lt (Nat.le_of_eq g130.symm))
  have c145 := l_105.ext E130
  have c146 := r_105.ext E130
  have F130_sizeAndParity : Fld Z h130 b130 "com/example/treeline/treeline/Node" "sizeAndParity" "I" (.int (0 : Int32)) := D130 (Or.inl (hw _ (List.mem_of_getElem? (i := 18) rfl))) (ty := .int) (by decide)
  have F130_key : Fld Z h130 b130 "com/example/treeline/treeline/Node" "key" "Ljava/lang/Object;" .null := D130 (Or.inr (hw _ (List.mem_of_getElem? (i := 20) rfl))) (ty := (.object "java/lang/Object")) (by decide)
  have F130_value : Fld Z h130 b130 "com/example/treeline/treeline/Node" "value" "Ljava/lang/Object;" .null := D130 (Or.inl (hw _ (List.mem_of_getElem? (i := 22) rfl))) (ty := (.object "java/lang/Object")) (by decide)
  have F130_right : Fld Z h130 b130 "com/example/treeline/treeline/Node" "right" "Lcom/example/treeline/treeline/Node;" .null := D130 (Or.inl (hw _ (List.mem_of_getElem? (i := 28) rfl))) (ty := (.object "com/example/treeline/treeline/Node")) (by decide)
  have F130_left : Fld Z h130 b130 "com/example/treeline/treeline/Node" "left" "Lcom/example/treeline/treeline/Node;" .null := D130 (Or.inl (hw _ (List.mem_of_getElem? (i := 30) rfl))) (ty := (.object "com/example/treeline/treeline/Node")) (by decide)
  refine own_go (T' := T130) (g' := (mkF m 52 #[iv x0, iv x1, rv b42, rv b61, rv b90, .unset, .unset, .unset, .unset, .unset, .unset, .unset, .unset, .unset, .unset, .unset] [(.ref b130)])) (st130) ?_
  refine own_go (T' := T130) (g' := (mkF m 53 #[iv x0, iv x1, rv b42, rv b61, rv b90, .unset, .unset, .unset, .unset, .unset, .unset, .unset, .unset, .unset, .unset, .unset] [(.ref b130), (.ref b130)])) (fun t k => XS.dup X130.here hx rfl (hb hby at_52) rfl rfl k) ?_
  refine own_go (T' := T130) (g' := (mkF m 54 #[iv x0, iv x1, rv b42, rv b61, rv b90, .unset, .unset, .unset, .unset, .unset, .unset, .unset, .unset, .unset, .unset, .unset] [(.int (3 : Int32)), (.ref b130), (.ref b130)])) (fun t k => XS.iconst X130.here hx rfl (hb hby at_53) k) ?_
  obtain ⟨_, _, ⟨T147, L147, k147, n147⟩, -, X147, ⟨Lc147, hQ147, l147, y147, z147⟩, st147⟩ := Jvm.LawKit.callS X130 hx (y := (⟨"java/lang/Integer", "valueOf", "(I)Ljava/lang/Integer;"⟩ : MethodName)) hown (mvT hZ (hw _ (List.mem_of_getElem? (i := 3) rfl))) (mvT hZ (hw _ (List.mem_of_getElem? (i := 4) rfl))) (mvT hZ (hw _ (List.mem_of_getElem? (i := 5) rfl))) (mvT hZ (hw _ (List.mem_of_getElem? (i := 6) rfl))) (by decide) (backOf (W := 2) (own_rval l Z a0 hw [] (3 : Int32) aC h130 n0 hz130 c131 c132 c133 (by decide) (by decide)) hZ (hw _ (List.mem_of_getElem? (i := 6) rfl)) (hw _ (List.mem_of_getElem? (i := 5) rfl)) (by decide) (by decide)) (g := (mkF m 54 #[iv x0, iv x1, rv b42, rv b61, rv b90, .unset, .unset, .unset, .unset, .unset, .unset, .unset, .unset, .unset, .unset, .unset] [(.int (3 : Int32)), (.ref b130), (.ref b130)])) rfl (by rw [hml]; rfl) (argsL := [(.int (3 : Int32))]) (rest := [(.ref b130), (.ref b130)]) (lenOf own_pd0 rfl) rfl (by show 2 * 0 + _ ≤ _; exact Nat.le_of_eq rfl) (hb hby at_54) (fun _ _ => ⟨rfl, e130, (by decide : 4 + 0 ≤ _), (by decide : 20 + 0 ≤ _)⟩)
  dsimp only [Pt.U, Pt.locs, Pt.cells, Pt.slots] at X147 l147 y147 z147 st147 hQ147
  subst l147 y147 z147
  obtain ⟨y_147, rfl, rfl, e147⟩ := hQ147
  have E147q : T147.heap = h130 := e147
  have N147 := Fr.app N105 (Fr.nil n0)
  refine own_go (T' := T147) (g' := (mkF m 57 #[iv x0, iv x1, rv b42, rv b61, rv b90, .unset, .unset, .unset, .unset, .unset, .unset, .unset, .unset, .unset, .unset, .unset] [(.ref y_147), (.ref b130), (.ref b130)])) (st147) ?_
  refine own_go (T' := T147) (g' := (mkF m 58 #[iv x0, iv x1, rv b42, rv b61, rv b90, .unset, .unset, .unset, .unset, .unset, .unset, .unset, .unset, .unset, .unset, .unset] [(.int (3 : Int32)), (.ref y_147), (.ref b130), (.ref b130)])) (fun t k => XS.iconst X147.here hx rfl (hb hby at_57) k) ?_
  obtain ⟨_, _, ⟨T148, L148, k148, n148⟩, -, X148, ⟨Lc148, hQ148, l148, y148, z148⟩, st148⟩ := Jvm.LawKit.callS X147 hx (y := (⟨"java/lang/Integer", "valueOf", "(I)Ljava/lang/Integer;"⟩ : MethodName)) hown (mvT hZ (hw _ (List.mem_of_getElem? (i := 3) rfl))) (mvT hZ (hw _ (List.mem_of_getElem? (i := 4) rfl))) (mvT hZ (hw _ (List.mem_of_getElem? (i := 5) rfl))) (mvT hZ (hw _ (List.mem_of_getElem? (i := 6) rfl))) (by decide) (backOf (W := 3) (own_rval l Z a0 hw [] (3 : Int32) aC h130 n0 hz130 c131 c132 c133 (by decide) (by decide)) hZ (hw _ (List.mem_of_getElem? (i := 6) rfl)) (hw _ (List.mem_of_getElem? (i := 5) rfl)) (by decide) (by decide)) (g := (mkF m 58 #[iv x0, iv x1, rv b42, rv b61, rv b90, .unset, .unset, .unset, .unset, .unset, .unset, .unset, .unset, .unset, .unset, .unset] [(.int (3 : Int32)), (.ref y_147), (.ref b130), (.ref b130)])) rfl (by rw [hml]; rfl) (argsL := [(.int (3 : Int32))]) (rest := [(.ref y_147), (.ref b130), (.ref b130)]) (lenOf own_pd0 rfl) rfl (by show 2 * 0 + _ ≤ _; exact Nat.le_of_eq rfl) (hb hby at_58) (fun _ _ => ⟨rfl, E147q, (by decide : 4 + 0 ≤ _), (by decide : 20 + 0 ≤ _)⟩)
  dsimp only [Pt.U, Pt.locs, Pt.cells, Pt.slots] at X148 l148 y148 z148 st148 hQ148
  subst l148 y148 z148
  obtain ⟨y_148, rfl, rfl, e148⟩ := hQ148
  have E148q : T148.heap = h130 := e148
  have N148 := Fr.app N147 (Fr.nil n0)
  refine own_go (T' := T148) (g' := (mkF m 61 #[iv x0, iv x1, rv b42, rv b61, rv b90, .unset, .unset, .unset, .unset, .unset, .unset, .unset, .unset, .unset, .unset, .unset] [(.ref y_148), (.ref y_147), (.ref b130), (.ref b130)])) (st148) ?_
  obtain ⟨_, _, ⟨T149, L149, k149, n149⟩, -, X149, ⟨Lc149, hQ149, l149, y149, z149⟩, st149⟩ := X148.specialBack hx (y := (⟨"com/example/treeline/treeline/Node", "<init>", "(Ljava/lang/Object;Ljava/lang/Object;)V"⟩ : MethodName)) rfl hown (mvT hZ (hw _ (List.mem_of_getElem? (i := 10) rfl))) (mvT hZ (hw _ (List.mem_of_getElem? (i := 11) rfl))) (mvT hZ (hw _ (List.mem_of_getElem? (i := 12) rfl))) (by decide) (backOf (W := 1) (own_rinit l Z a0 hw [] b130 y_147 y_148 h130 n0 hz130 A130 gn130 F130_sizeAndParity F130_key F130_value F130_left F130_right) hZ (hw _ (List.mem_of_getElem? (i := 12) rfl)) (hw _ (List.mem_of_getElem? (i := 2) rfl)) (by decide) (by decide)) (g := (mkF m 61 #[iv x0, iv x1, rv b42, rv b61, rv b90, .unset, .unset, .unset, .unset, .unset, .unset, .unset, .unset, .unset, .unset, .unset] [(.ref y_148), (.ref y_147), (.ref b130), (.ref b130)])) rfl (by rw [hml]; rfl) (Steps.refl _) (a := b130) (argsL := [(.ref y_147), (.ref y_148)]) (rest := [(.ref b130)]) (lenOf own_pd1 rfl) rfl (by show 2 * 0 + _ ≤ _; exact Nat.le_of_eq rfl) (hb hby at_61) (fun _ _ => ⟨rfl, E148q, (by decide : 4 + 0 ≤ _), (by decide : 20 + 0 ≤ _)⟩)
  dsimp only [Pt.U, Pt.locs, Pt.cells, Pt.slots] at X149 l149 y149 z149 st149 hQ149
  subst l149 y149 z149
  obtain ⟨rfl, N149q, K_149, e_149, l_149, r_149⟩ := hQ149
  have N149 := Fr.app N148 N149q
  have c150 := own_sta_keep c131 K_149 (own_nsS (own_nse A130) own_ns0)
  have c151 := own_sta_keep c132 K_149 (own_nsS (own_nse A130) own_ns0)
  have c152 := c133.keep K_149 (ninS ne134 nin0)
  have c155 := c135.keep K_149
  have c156 := c137.keep K_149 (ninS ne136 nin0)
  have c157 := c138.keep K_149 (ninS ne136 nin0)
  have c161 := c139.keep K_149
  have c162 := c141.keep K_149 (ninS ne140 nin0)
  have c163 := c142.keep K_149 (ninS ne140 nin0)
  have c168 := c143.keep K_149
  have c169 := c145.keep K_149 (ninS ne144 nin0)
  have c170 := c146.keep K_149 (ninS ne144 nin0)
  have c176 := A130.keep K_149
  have hz149 : n0 ≤ T149.heap.size := Nat.le_trans hz130 K_149.1
  refine own_go (T' := T149) (g' := (mkF m 64 #[iv x0, iv x1, rv b42, rv b61, rv b90, .unset, .unset, .unset, .unset, .unset, .unset, .unset, .unset, .unset, .unset, .unset] [(.ref b130)])) (fun t k => st149.trans k) ?_
  refine own_go (T' := T149) (g' := (mkF m 66 #[iv x0, iv x1, rv b42, rv b61, rv b90, rv b130, .unset, .unset, .unset, .unset, .unset, .unset, .unset, .unset, .unset, .unset] [])) (fun t k => XS.astore X149.here hx rfl (hb hby at_64) rfl rfl (l' := #[iv x0, iv x1, rv b42, rv b61, rv b90, rv b130, .unset, .unset, .unset, .unset, .unset, .unset, .unset, .unset, .unset, .unset]) rfl k) ?_
  obtain ⟨T182, h182, X182, e182, E182, A182, D182, -, st182⟩ := newO X149 hx hZ hown (hw _ (List.mem_of_getElem? (i := 0) rfl)) (hw _ (List.mem_of_getElem? (i := 1) rfl)) (hw _ (List.mem_of_getElem? (i := 2) rfl)) rfl (g := (mkF m 66 #[iv x0, iv x1, rv b42, rv b61, rv b90, rv b130, .unset, .unset, .unset, .unset, .unset, .unset, .unset, .unset, .unset, .unset] [])) rfl (hb hby at_66) (by decide) (by decide)
  obtain ⟨b182, g182⟩ : ∃ z, z = T149.heap.size := ⟨_, rfl⟩
  rw [← g182] at A182 D182 st182
  have gn182 : n0 ≤ b182 := Nat.le_trans hz149 (Nat.le_of_eq g182.symm)
  have hz182 : n0 ≤ h182.size := Nat.le_trans hz149 E182.1
  have c183 := c150.ext E182
  have c184 := c151.ext E182
  have c185 := c152.ext E182
  have ne186 : aC ≠ b182 := Nat.ne_of_lt (Nat.lt_of_lt_of_le c152.lt (Nat.le_of_eq g182.symm))
  have c187 := c155.ext E182
  have ne188 : b42 ≠ b182 := Nat.ne_of_lt (Nat.lt_of_lt_of_le c155.lt (Nat.le_of_eq g182.symm))
  have c189 := c156.ext E182
  have c190 := c157.ext E182
  have c191 := c161.ext E182
  have ne192 : b61 ≠ b182 := Nat.ne_of_lt (Nat.lt_of_lt_of_le c161.lt (Nat.le_of_eq g182.symm))
  have c193 := c162.ext E182
  have c194 := c163.ext E182
  have c195 := c168.ext E182
  have ne196 : b90 ≠ b182 := Nat.ne_of_lt (Nat.lt_of_lt_of_le c168.lt (Nat.le_of_eq g182.symm))
  have c197 := c169.ext E182
  have c198 := c170.ext E182
  have c199 := e_149.ext E182
  have ne200 : b130 ≠ b182 := Nat.ne_of_lt (Nat.lt_of_lt_of_le e_149.lt (Nat.le_of_eq g182.symm))
  have c201 := l_149.ext E182
  have c202 := r_149.ext E182
  have F182_sizeAndParity : Fld Z h182 b182 "com/example/treeline/treeline/Node" "sizeAndParity" "I" (.int (0 : Int32)) := D182 (Or.inl (hw _ (List.mem_of_getElem? (i := 18) rfl))) (ty := .int) (by decide)
  have F182_key : Fld Z h182 b182 "com/example/treeline/treeline/Node" "key" "Ljava/lang/Object;" .null := D182 (Or.inr (hw _ (List.mem_of_getElem? (i := 20) rfl))) (ty := (.object "java/lang/Object")) (by decide)
  have F182_value : Fld Z h182 b182 "com/example/treeline/treeline/Node" "value" "Ljava/lang/Object;" .null := D182 (Or.inl (hw _ (List.mem_of_getElem? (i := 22) rfl))) (ty := (.object "java/lang/Object")) (by decide)
  have F182_right : Fld Z h182 b182 "com/example/treeline/treeline/Node" "right" "Lcom/example/treeline/treeline/Node;" .null := D182 (Or.inl (hw _ (List.mem_of_getElem? (i := 28) rfl))) (ty := (.object "com/example/treeline/treeline/Node")) (by decide)
  have F182_left : Fld Z h182 b182 "com/example/treeline/treeline/Node" "left" "Lcom/example/treeline/treeline/Node;" .null := D182 (Or.inl (hw _ (List.mem_of_getElem? (i := 30) rfl))) (ty := (.object "com/example/treeline/treeline/Node")) (by decide)
  refine own_go (T' := T182) (g' := (mkF m 69 #[iv x0, iv x1, rv b42, rv b61, rv b90, rv b130, .unset, .unset, .unset, .unset, .unset, .unset, .unset, .unset, .unset, .unset] [(.ref b182)])) (st182) ?_
  refine own_go (T' := T182) (g' := (mkF m 70 #[iv x0, iv x1, rv b42, rv b61, rv b90, rv b130, .unset, .unset, .unset, .unset, .unset, .unset, .unset, .unset, .unset, .unset] [(.ref b182), (.ref b182)])) (fun t k => XS.dup X182.here hx rfl (hb hby at_69) rfl rfl k) ?_
  refine own_go (T' := T182) (g' := (mkF m 71 #[iv x0, iv x1, rv b42, rv b61, rv b90, rv b130, .unset, .unset, .unset, .unset, .unset, .unset, .unset, .unset, .unset, .unset] [(.int (4 : Int32)), (.ref b182), (.ref b182)])) (fun t k => XS.iconst X182.here hx rfl (hb hby at_70) k) ?_
  obtain ⟨_, _, ⟨T203, L203, k203, n203⟩, -, X203, ⟨Lc203, hQ203, l203, y203, z203⟩, st203⟩ := Jvm.LawKit.callS X182 hx (y := (⟨"java/lang/Integer", "valueOf", "(I)Ljava/lang/Integer;"⟩ : MethodName)) hown (mvT hZ (hw _ (List.mem_of_getElem? (i := 3) rfl))) (mvT hZ (hw _ (List.mem_of_getElem? (i := 4) rfl))) (mvT hZ (hw _ (List.mem_of_getElem? (i := 5) rfl))) (mvT hZ (hw _ (List.mem_of_getElem? (i := 6) rfl))) (by decide) (backOf (W := 2) (own_rval l Z a0 hw [] (4 : Int32) aC h182 n0 hz182 c183 c184 c185 (by decide) (by decide)) hZ (hw _ (List.mem_of_getElem? (i := 6) rfl)) (hw _ (List.mem_of_getElem? (i := 5) rfl)) (by decide) (by decide)) (g := (mkF m 71 #[iv x0, iv x1, rv b42, rv b61, rv b90, rv b130, .unset, .unset, .unset, .unset, .unset, .unset, .unset, .unset, .unset, .unset] [(.int (4 : Int32)), (.ref b182), (.ref b182)])) rfl (by rw [hml]; rfl) (argsL := [(.int (4 : Int32))]) (rest := [(.ref b182), (.ref b182)]) (lenOf own_pd0 rfl) rfl (by show 2 * 0 + _ ≤ _; exact Nat.le_of_eq rfl) (hb hby at_71) (fun _ _ => ⟨rfl, e182, (by decide : 5 + 0 ≤ _), (by decide : 25 + 0 ≤ _)⟩)
  dsimp only [Pt.U, Pt.locs, Pt.cells, Pt.slots] at X203 l203 y203 z203 st203 hQ203
  subst l203 y203 z203
  obtain ⟨y_203, rfl, rfl, e203⟩ := hQ203
  have E203q : T203.heap = h182 := e203
  have N203 := Fr.app N149 (Fr.nil n0)
  refine own_go (T' := T203) (g' := (mkF m 74 #[iv x0, iv x1, rv b42, rv b61, rv b90, rv b130, .unset, .unset, .unset, .unset, .unset, .unset, .unset, .unset, .unset, .unset] [(.ref y_203), (.ref b182), (.ref b182)])) (st203) ?_
  refine own_go (T' := T203) (g' := (mkF m 75 #[iv x0, iv x1, rv b42, rv b61, rv b90, rv b130, .unset, .unset, .unset, .unset, .unset, .unset, .unset, .unset, .unset, .unset] [(.int (4 : Int32)), (.ref y_203), (.ref b182), (.ref b182)])) (fun t k => XS.iconst X203.here hx rfl (hb hby at_74) k) ?_
  obtain ⟨_, _, ⟨T204, L204, k204, n204⟩, -, X204, ⟨Lc204, hQ204, l204, y204, z204⟩, st204⟩ := Jvm.LawKit.callS X203 hx (y := (⟨"java/lang/Integer", "valueOf", "(I)Ljava/lang/Integer;"⟩ : MethodName)) hown (mvT hZ (hw _ (List.mem_of_getElem? (i := 3) rfl))) (mvT hZ (hw _ (List.mem_of_getElem? (i := 4) rfl))) (mvT hZ (hw _ (List.mem_of_getElem? (i := 5) rfl))) (mvT hZ (hw _ (List.mem_of_getElem? (i := 6) rfl))) (by decide) (backOf (W := 3) (own_rval l Z a0 hw [] (4 : Int32) aC h182 n0 hz182 c183 c184 c185 (by decide) (by decide)) hZ (hw _ (List.mem_of_getElem? (i := 6) rfl)) (hw _ (List.mem_of_getElem? (i := 5) rfl)) (by decide) (by decide)) (g := (mkF m 75 #[iv x0, iv x1, rv b42, rv b61, rv b90, rv b130, .unset, .unset, .unset, .unset, .unset, .unset, .unset, .unset, .unset, .unset] [(.int (4 : Int32)), (.ref y_203), (.ref b182), (.ref b182)])) rfl (by rw [hml]; rfl) (argsL := [(.int (4 : Int32))]) (rest := [(.ref y_203), (.ref b182), (.ref b182)]) (lenOf own_pd0 rfl) rfl (by show 2 * 0 + _ ≤ _; exact Nat.le_of_eq rfl) (hb hby at_75) (fun _ _ => ⟨rfl, E203q, (by decide : 5 + 0 ≤ _), (by decide : 25 + 0 ≤ _)⟩)
  dsimp only [Pt.U, Pt.locs, Pt.cells, Pt.slots] at X204 l204 y204 z204 st204 hQ204
  subst l204 y204 z204
  obtain ⟨y_204, rfl, rfl, e204⟩ := hQ204
  have E204q : T204.heap = h182 := e204
  have N204 := Fr.app N203 (Fr.nil n0)
  refine own_go (T' := T204) (g' := (mkF m 78 #[iv x0, iv x1, rv b42, rv b61, rv b90, rv b130, .unset, .unset, .unset, .unset, .unset, .unset, .unset, .unset, .unset, .unset] [(.ref y_204), (.ref y_203), (.ref b182), (.ref b182)])) (st204) ?_
  obtain ⟨_, _, ⟨T205, L205, k205, n205⟩, -, X205, ⟨Lc205, hQ205, l205, y205, z205⟩, st205⟩ := X204.specialBack hx (y := (⟨"com/example/treeline/treeline/Node", "<init>", "(Ljava/lang/Object;Ljava/lang/Object;)V"⟩ : MethodName)) rfl hown (mvT hZ (hw _ (List.mem_of_getElem? (i := 10) rfl))) (mvT hZ (hw _ (List.mem_of_getElem? (i := 11) rfl))) (mvT hZ (hw _ (List.mem_of_getElem? (i := 12) rfl))) (by decide) (backOf (W := 1) (own_rinit l Z a0 hw [] b182 y_203 y_204 h182 n0 hz182 A182 gn182 F182_sizeAndParity F182_key F182_value F182_left F182_right) hZ (hw _ (List.mem_of_getElem? (i := 12) rfl)) (hw _ (List.mem_of_getElem? (i := 2) rfl)) (by decide) (by decide)) (g := (mkF m 78 #[iv x0, iv x1, rv b42, rv b61, rv b90, rv b130, .unset, .unset, .unset, .unset, .unset, .unset, .unset, .unset, .unset, .unset] [(.ref y_204), (.ref y_203), (.ref b182), (.ref b182)])) rfl (by rw [hml]; rfl) (Steps.refl _) (a := b182) (argsL := [(.ref y_203), (.ref y_204)]) (rest := [(.ref b182)]) (lenOf own_pd1 rfl) rfl (by show 2 * 0 + _ ≤ _; exact Nat.le_of_eq rfl) (hb hby at_78) (fun _ _ => ⟨rfl, E204q, (by decide : 5 + 0 ≤ _), (by decide : 25 + 0 ≤ _)⟩)
  dsimp only [Pt.U, Pt.locs, Pt.cells, Pt.slots] at X205 l205 y205 z205 st205 hQ205
  subst l205 y205 z205
  obtain ⟨rfl, N205q, K_205, e_205, l_205, r_205⟩ := hQ205
  have N205 := Fr.app N204 N205q
  have c206 := own_sta_keep c183 K_205 (own_nsS (own_nse A182) own_ns0)
  have c207 := own_sta_keep c184 K_205 (own_nsS (own_nse A182) own_ns0)
  have c208 := c185.keep K_205 (ninS ne186 nin0)
  have c211 := c187.keep K_205
  have c212 := c189.keep K_205 (ninS ne188 nin0)
  have c213 := c190.keep K_205 (ninS ne188 nin0)
  have c217 := c191.keep K_205
  have c218 := c193.keep K_205 (ninS ne192 nin0)
  have c219 := c194.keep K_205 (ninS ne192 nin0)
  have c224 := c195.keep K_205
  have c225 := c197.keep K_205 (ninS ne196 nin0)
  have c226 := c198.keep K_205 (ninS ne196 nin0)
  have c232 := c199.keep K_205
  have c233 := c201.keep K_205 (ninS ne200 nin0)
  have c234 := c202.keep K_205 (ninS ne200 nin0)
  have c241 := A182.keep K_205
  have hz205 : n0 ≤ T205.heap.size := Nat.le_trans hz182 K_205.1
  refine own_go (T' := T205) (g' := (mkF m 81 #[iv x0, iv x1, rv b42, rv b61, rv b90, rv b130, .unset, .unset, .unset, .unset, .unset, .unset, .unset, .unset, .unset, .unset] [(.ref b182)])) (fun t k => st205.trans k) ?_
  refine own_go (T' := T205) (g' := (mkF m 83 #[iv x0, iv x1, rv b42, rv b61, rv b90, rv b130, rv b182, .unset, .unset, .unset, .unset, .unset, .unset, .unset, .unset, .unset] [])) (fun t k => XS.astore X205.here hx rfl (hb hby at_81) rfl rfl (l' := #[iv x0, iv x1, rv b42, rv b61, rv b90, rv b130, rv b182, .unset, .unset, .unset, .unset, .unset, .unset, .unset, .unset, .unset]) rfl k) ?_
  obtain ⟨T247, h247, X247, e247, E247, A247, D247, -, st247⟩ := newO X205 hx hZ hown (hw _ (List.mem_of_getElem? (i := 0) rfl)) (hw _ (List.mem_of_getElem? (i := 1) rfl)) (hw _ (List.mem_of_getElem? (i := 2) rfl)) rfl (g := (mkF m 83 #[iv x0, iv x1, rv b42, rv b61, rv b90, rv b130, rv b182, .unset, .unset, .unset, .unset, .unset, .unset, .unset, .unset, .unset] [])) rfl (hb hby at_83) (by decide) (by decide)
  obtain ⟨b247, g247⟩ : ∃ z, z = T205.heap.size := ⟨_, rfl⟩
  rw [← g247] at A247 D247 st247
  have gn247 : n0 ≤ b247 := Nat.le_trans hz205 (Nat.le_of_eq g247.symm)
  have hz247 : n0 ≤ h247.size := Nat.le_trans hz205 E247.1
  have c248 := c206.ext E247
  have c249 := c207.ext E247
  have c250 := c208.ext E247
  have ne251 : aC ≠ b247 := Nat.ne_of_lt (Nat.lt_of_lt_of_le c208.lt (Nat.le_of_eq g247.symm))
  have c252 := c211.ext E247
  have ne253 : b42 ≠ b247 := Nat.ne_of_lt (Nat.lt_of_lt_of_le c211.lt (Nat.le_of_eq g247.symm))
  have c254 := c212.ext E247
  have c255 := c213.ext E247
  have c256 := c217.ext E247
  have ne257 : b61 ≠ b247 := Nat.ne_of_lt (Nat.lt_of_lt_of_le c217.lt (Nat.le_of_eq g247.symm))
  have c258 := c218.ext E247
  have c259 := c219.ext E247
  have c260 := c224.ext E247
  have ne261 : b90 ≠ b247 := Nat.ne_of_lt (Nat.lt_of_lt_of_le c224.lt (Nat.le_of_eq g247.symm))
  have c262 := c225.ext E247
  have c263 := c226.ext E247
  have c264 := c232.ext E247
  have ne265 : b130 ≠ b247 := Nat.ne_of_lt (Nat.lt_of_lt_of_le c232.lt (Nat.le_of_eq g247.symm))
  have c266 := c233.ext E247
  have c267 := c234.ext E247
  have c268 := e_205.ext E247
  have ne269 : b182 ≠ b247 := Nat.ne_of_lt (Nat.lt_of_lt_of_le e_205.lt (Nat.le_of_eq g247.symm))
  have c270 := l_205.ext E247
  have c271 := r_205.ext E247
  have F247_sizeAndParity : Fld Z h247 b247 "com/example/treeline/treeline/Node" "sizeAndParity" "I" (.int (0 : Int32)) := D247 (Or.inl (hw _ (List.mem_of_getElem? (i := 18) rfl))) (ty := .int) (by decide)
  have F247_key : Fld Z h247 b247 "com/example/treeline/treeline/Node" "key" "Ljava/lang/Object;" .null := D247 (Or.inr (hw _ (List.mem_of_getElem? (i := 20) rfl))) (ty := (.object "java/lang/Object")) (by decide)
  have F247_value : Fld Z h247 b247 "com/example/treeline/treeline/Node" "value" "Ljava/lang/Object;" .null := D247 (Or.inl (hw _ (List.mem_of_getElem? (i := 22) rfl))) (ty := (.object "java/lang/Object")) (by decide)
  have F247_right : Fld Z h247 b247 "com/example/treeline/treeline/Node" "right" "Lcom/example/treeline/treeline/Node;" .null := D247 (Or.inl (hw _ (List.mem_of_getElem? (i := 28) rfl))) (ty := (.object "com/example/treeline/treeline/Node")) (by decide)
  have F247_left : Fld Z h247 b247 "com/example/treeline/treeline/Node" "left" "Lcom/example/treeline/treeline/Node;" .null := D247 (Or.inl (hw _ (List.mem_of_getElem? (i := 30) rfl))) (ty := (.object "com/example/treeline/treeline/Node")) (by decide)
  refine own_go (T' := T247) (g' := (mkF m 86 #[iv x0, iv x1, rv b42, rv b61, rv b90, rv b130, rv b182, .unset, .unset, .unset, .unset, .unset, .unset, .unset, .unset, .unset] [(.ref b247)])) (st247) ?_
  refine own_go (T' := T247) (g' := (mkF m 87 #[iv x0, iv x1, rv b42, rv b61, rv b90, rv b130, rv b182, .unset, .unset, .unset, .unset, .unset, .unset, .unset, .unset, .unset] [(.ref b247), (.ref b247)])) (fun t k => XS.dup X247.here hx rfl (hb hby at_86) rfl rfl k) ?_
  refine own_go (T' := T247) (g' := (mkF m 88 #[iv x0, iv x1, rv b42, rv b61, rv b90, rv b130, rv b182, .unset, .unset, .unset, .unset, .unset, .unset, .unset, .unset, .unset] [(.int (5 : Int32)), (.ref b247), (.ref b247)])) (fun t k => XS.iconst X247.here hx rfl (hb hby at_87) k) ?_
  obtain ⟨_, _, ⟨T272, L272, k272, n272⟩, -, X272, ⟨Lc272, hQ272, l272, y272, z272⟩, st272⟩ := Jvm.LawKit.callS X247 hx (y := (⟨"java/lang/Integer", "valueOf", "(I)Ljava/lang/Integer;"⟩ : MethodName)) hown (mvT hZ (hw _ (List.mem_of_getElem? (i := 3) rfl))) (mvT hZ (hw _ (List.mem_of_getElem? (i := 4) rfl))) (mvT hZ (hw _ (List.mem_of_getElem? (i := 5) rfl))) (mvT hZ (hw _ (List.mem_of_getElem? (i := 6) rfl))) (by decide) (backOf (W := 2) (own_rval l Z a0 hw [] (5 : Int32) aC h247 n0 hz247 c248 c249 c250 (by decide) (by decide)) hZ (hw _ (List.mem_of_getElem? (i := 6) rfl)) (hw _ (List.mem_of_getElem? (i := 5) rfl)) (by decide) (by decide)) (g := (mkF m 88 #[iv x0, iv x1, rv b42, rv b61, rv b90, rv b130, rv b182, .unset, .unset, .unset, .unset, .unset, .unset, .unset, .unset, .unset] [(.int (5 : Int32)), (.ref b247), (.ref b247)])) rfl (by rw [hml]; rfl) (argsL := [(.int (5 : Int32))]) (rest := [(.ref b247), (.ref b247)]) (lenOf own_pd0 rfl) rfl (by show 2 * 0 + _ ≤ _; exact Nat.le_of_eq rfl) (hb hby at_88) (fun _ _ => ⟨rfl, e247, (by decide : 6 + 0 ≤ _), (by decide : 30 + 0 ≤ _)⟩)
  dsimp only [Pt.U, Pt.locs, Pt.cells, Pt.slots] at X272 l272 y272 z272 st272 hQ272
  subst l272 y272 z272
  obtain ⟨y_272, rfl, rfl, e272⟩ := hQ272
  have E272q : T272.heap = h247 := e272
  have N272 := Fr.app N205 (Fr.nil n0)
  refine own_go (T' := T272) (g' := (mkF m 91 #[iv x0, iv x1, rv b42, rv b61, rv b90, rv b130, rv b182, .unset, .unset, .unset, .unset, .unset, .unset, .unset, .unset, .unset] [(.ref y_272), (.ref b247), (.ref b247)])) (st272) ?_
  refine own_go (T' := T272) (g' := (mkF m 92 #[iv x0, iv x1, rv b42, rv b61, rv b90, rv b130, rv b182, .unset, .unset, .unset, .unset, .unset, .unset, .unset, .unset, .unset] [(.int (5 : Int32)), (.ref y_272), (.ref b247), (.ref b247)])) (fun t k => XS.iconst X272.here hx rfl (hb hby at_91) k) ?_
  obtain ⟨_, _, ⟨T273, L273, k273, n273⟩, -, X273, ⟨Lc273, hQ273, l273, y273, z273⟩, st273⟩ := Jvm.LawKit.callS X272 hx (y := (⟨"java/lang/Integer", "valueOf", "(I)Ljava/lang/Integer;"⟩ : MethodName)) hown (mvT hZ (hw _ (List.mem_of_getElem? (i := 3) rfl))) (mvT hZ (hw _ (List.mem_of_getElem? (i := 4) rfl))) (mvT hZ (hw _ (List.mem_of_getElem? (i := 5) rfl))) (mvT hZ (hw _ (List.mem_of_getElem? (i := 6) rfl))) (by decide) (backOf (W := 3) (own_rval l Z a0 hw [] (5 : Int32) aC h247 n0 hz247 c248 c249 c250 (by decide) (by decide)) hZ (hw _ (List.mem_of_getElem? (i := 6) rfl)) (hw _ (List.mem_of_getElem? (i := 5) rfl)) (by decide) (by decide)) (g := (mkF m 92 #[iv x0, iv x1, rv b42, rv b61, rv b90, rv b130, rv b182, .unset, .unset, .unset, .unset, .unset, .unset, .unset, .unset, .unset] [(.int (5 : Int32)), (.ref y_272), (.ref b247), (.ref b247)])) rfl (by rw [hml]; rfl) (argsL := [(.int (5 : Int32))]) (rest := [(.ref y_272), (.ref b247), (.ref b247)]) (lenOf own_pd0 rfl) rfl (by show 2 * 0 + _ ≤ _; exact Nat.le_of_eq rfl) (hb hby at_92) (fun _ _ => ⟨rfl, E272q, (by decide : 6 + 0 ≤ _), (by decide : 30 + 0 ≤ _)⟩)
  dsimp only [Pt.U, Pt.locs, Pt.cells, Pt.slots] at X273 l273 y273 z273 st273 hQ273
  subst l273 y273 z273
  obtain ⟨y_273, rfl, rfl, e273⟩ := hQ273
  have E273q : T273.heap = h247 := e273
  have N273 := Fr.app N272 (Fr.nil n0)
  refine own_go (T' := T273) (g' := (mkF m 95 #[iv x0, iv x1, rv b42, rv b61, rv b90, rv b130, rv b182, .unset, .unset, .unset, .unset, .unset, .unset, .unset, .unset, .unset] [(.ref y_273), (.ref y_272), (.ref b247), (.ref b247)])) (st273) ?_
  obtain ⟨_, _, ⟨T274, L274, k274, n274⟩, -, X274, ⟨Lc274, hQ274, l274, y274, z274⟩, st274⟩ := X273.specialBack hx (y := (⟨"com/example/treeline/treeline/Node", "<init>", "(Ljava/lang/Object;Ljava/lang/Object;)V"⟩ : MethodName)) rfl hown (mvT hZ (hw _ (List.mem_of_getElem? (i := 10) rfl))) (mvT hZ (hw _ (List.mem_of_getElem? (i := 11) rfl))) (mvT hZ (hw _ (List.mem_of_getElem? (i := 12) rfl))) (by decide) (backOf (W := 1) (own_rinit l Z a0 hw [] b247 y_272 y_273 h247 n0 hz247 A247 gn247 F247_sizeAndParity F247_key F247_value F247_left F247_right) hZ (hw _ (List.mem_of_getElem? (i := 12) rfl)) (hw _ (List.mem_of_getElem? (i := 2) rfl)) (by decide) (by decide)) (g := (mkF m 95 #[iv x0, iv x1, rv b42, rv b61, rv b90, rv b130, rv b182, .unset, .unset, .unset, .unset, .unset, .unset, .unset, .unset, .unset] [(.ref y_273), (.ref y_272), (.ref b247), (.ref b247)])) rfl (by rw [hml]; rfl) (Steps.refl _) (a := b247) (argsL := [(.ref y_272), (.ref y_273)]) (rest := [(.ref b247)]) (lenOf own_pd1 rfl) rfl (by show 2 * 0 + _ ≤ _; exact Nat.le_of_eq rfl) (hb hby at_95) (fun _ _ => ⟨rfl, E273q, (by decide : 6 + 0 ≤ _), (by decide : 30 + 0 ≤ _)⟩)
  dsimp only [Pt.U, Pt.locs, Pt.cells, Pt.slots] at X274 l274 y274 z274 st274 hQ274
  subst l274 y274 z274
  obtain ⟨rfl, N274q, K_274, e_274, l_274, r_274⟩ := hQ274
  have N274 := Fr.app N273 N274q
  have c275 := own_sta_keep c248 K_274 (own_nsS (own_nse A247) own_ns0)
  have c276 := own_sta_keep c249 K_274 (own_nsS (own_nse A247) own_ns0)
  have c277 := c250.keep K_274 (ninS ne251 nin0)
  have c280 := c252.keep K_274
  have c281 := c254.keep K_274 (ninS ne253 nin0)
  have c282 := c255.keep K_274 (ninS ne253 nin0)
  have c286 := c256.keep K_274
  have c287 := c258.keep K_274 (ninS ne257 nin0)
  have c288 := c259.keep K_274 (ninS ne257 nin0)
  have c293 := c260.keep K_274
  have c294 := c262.keep K_274 (ninS ne261 nin0)
  have c295 := c263.keep K_274 (ninS ne261 nin0)
  have c301 := c264.keep K_274
  have c302 := c266.keep K_274 (ninS ne265 nin0)
  have c303 := c267.keep K_274 (ninS ne265 nin0)
  have c310 := c268.keep K_274
  have c311 := c270.keep K_274 (ninS ne269 nin0)
  have c312 := c271.keep K_274 (ninS ne269 nin0)
  have c320 := A247.keep K_274
  have hz274 : n0 ≤ T274.heap.size := Nat.le_trans hz247 K_274.1
  refine own_go (T' := T274) (g' := (mkF m 98 #[iv x0, iv x1, rv b42, rv b61, rv b90, rv b130, rv b182, .unset, .unset, .unset, .unset, .unset, .unset, .unset, .unset, .unset] [(.ref b247)])) (fun t k => st274.trans k) ?_
  refine own_go (T' := T274) (g' := (mkF m 100 #[iv x0, iv x1, rv b42, rv b61, rv b90, rv b130, rv b182, rv b247, .unset, .unset, .unset, .unset, .unset, .unset, .unset, .unset] [])) (fun t k => XS.astore X274.here hx rfl (hb hby at_98) rfl rfl (l' := #[iv x0, iv x1, rv b42, rv b61, rv b90, rv b130, rv b182, rv b247, .unset, .unset, .unset, .unset, .unset, .unset, .unset, .unset]) rfl k) ?_
  obtain ⟨T326, h326, X326, e326, E326, A326, D326, -, st326⟩ := newO X274 hx hZ hown (hw _ (List.mem_of_getElem? (i := 0) rfl)) (hw _ (List.mem_of_getElem? (i := 1) rfl)) (hw _ (List.mem_of_getElem? (i := 2) rfl)) rfl (g := (mkF m 100 #[iv x0, iv x1, rv b42, rv b61, rv b90, rv b130, rv b182, rv b247, .unset, .unset, .unset, .unset, .unset, .unset, .unset, .unset] [])) rfl (hb hby at_100) (by decide) (by decide)
  obtain ⟨b326, g326⟩ : ∃ z, z = T274.heap.size := ⟨_, rfl⟩
  rw [← g326] at A326 D326 st326
  have gn326 : n0 ≤ b326 := Nat.le_trans hz274 (Nat.le_of_eq g326.symm)
  have hz326 : n0 ≤ h326.size := Nat.le_trans hz274 E326.1
  have c327 := c275.ext E326
  have c328 := c276.ext E326
  have c329 := c277.ext E326
  have ne330 : aC ≠ b326 := Nat.ne_of_lt (Nat.lt_of_lt_of_le c277.lt (Nat.le_of_eq g326.symm))
  have c331 := c280.ext E326
  have ne332 : b42 ≠ b326 := Nat.ne_of_lt (Nat.lt_of_lt_of_le c280.lt (Nat.le_of_eq g326.symm))
  have c333 := c281.ext E326
  have c334 := c282.ext E326
  have c335 := c286.ext E326
  have ne336 : b61 ≠ b326 := Nat.ne_of_lt (Nat.lt_of_lt_of_le c286.lt (Nat.le_of_eq g326.symm))
  have c337 := c287.ext E326
  have c338 := c288.ext E326
  have c339 := c293.ext E326
  have ne340 : b90 ≠ b326 := Nat.ne_of_lt (Nat.lt_of_lt_of_le c293.lt (Nat.le_of_eq g326.symm))
  have c341 := c294.ext E326
  have c342 := c295.ext E326
  have c343 := c301.ext E326
  have ne344 : b130 ≠ b326 := Nat.ne_of_lt (Nat.lt_of_lt_of_le c301.lt (Nat.le_of_eq g326.symm))
  have c345 := c302.ext E326
  have c346 := c303.ext E326
  have c347 := c310.ext E326
  have ne348 : b182 ≠ b326 := Nat.ne_of_lt (Nat.lt_of_lt_of_le c310.lt (Nat.le_of_eq g326.symm))
  have c349 := c311.ext E326
  have c350 := c312.ext E326
  have c351 := e_274.ext E326
  have ne352 : b247 ≠ b326 := Nat.ne_of_lt (Nat.lt_of_lt_of_le e_274.lt (Nat.le_of_eq g326.symm))
  have c353 := l_274.ext E326
  have c354 := r_274.ext E326
  have F326_sizeAndParity : Fld Z h326 b326 "com/example/treeline/treeline/Node" "sizeAndParity" "I" (.int (0 : Int32)) := D326 (Or.inl (hw _ (List.mem_of_getElem? (i := 18) rfl))) (ty := .int) (by decide)
  have F326_key : Fld Z h326 b326 "com/example/treeline/treeline/Node" "key" "Ljava/lang/Object;" .null := D326 (Or.inr (hw _ (List.mem_of_getElem? (i := 20) rfl))) (ty := (.object "java/lang/Object")) (by decide)
  have F326_value : Fld Z h326 b326 "com/example/treeline/treeline/Node" "value" "Ljava/lang/Object;" .null := D326 (Or.inl (hw _ (List.mem_of_getElem? (i := 22) rfl))) (ty := (.object "java/lang/Object")) (by decide)
  have F326_right : Fld Z h326 b326 "com/example/treeline/treeline/Node" "right" "Lcom/example/treeline/treeline/Node;" .null := D326 (Or.inl (hw _ (List.mem_of_getElem? (i := 28) rfl))) (ty := (.object "com/example/treeline/treeline/Node")) (by decide)
  have F326_left : Fld Z h326 b326 "com/example/treeline/treeline/Node" "left" "Lcom/example/treeline/treeline/Node;" .null := D326 (Or.inl (hw _ (List.mem_of_getElem? (i := 30) rfl))) (ty := (.object "com/example/treeline/treeline/Node")) (by decide)
  refine own_go (T' := T326) (g' := (mkF m 103 #[iv x0, iv x1, rv b42, rv b61, rv b90, rv b130, rv b182, rv b247, .unset, .unset, .unset, .unset, .unset, .unset, .unset, .unset] [(.ref b326)])) (st326) ?_
  refine own_go (T' := T326) (g' := (mkF m 104 #[iv x0, iv x1, rv b42, rv b61, rv b90, rv b130, rv b182, rv b247, .unset, .unset, .unset, .unset, .unset, .unset, .unset, .unset] [(.ref b326), (.ref b326)])) (fun t k => XS.dup X326.here hx rfl (hb hby at_103) rfl rfl k) ?_
  refine own_go (T' := T326) (g' := (mkF m 106 #[iv x0, iv x1, rv b42, rv b61, rv b90, rv b130, rv b182, rv b247, .unset, .unset, .unset, .unset, .unset, .unset, .unset, .unset] [(.int (6 : Int32)), (.ref b326), (.ref b326)])) (fun t k => XS.bipush X326.here hx rfl (hb hby at_104) k) ?_
  obtain ⟨_, _, ⟨T355, L355, k355, n355⟩, -, X355, ⟨Lc355, hQ355, l355, y355, z355⟩, st355⟩ := Jvm.LawKit.callS X326 hx (y := (⟨"java/lang/Integer", "valueOf", "(I)Ljava/lang/Integer;"⟩ : MethodName)) hown (mvT hZ (hw _ (List.mem_of_getElem? (i := 3) rfl))) (mvT hZ (hw _ (List.mem_of_getElem? (i := 4) rfl))) (mvT hZ (hw _ (List.mem_of_getElem? (i := 5) rfl))) (mvT hZ (hw _ (List.mem_of_getElem? (i := 6) rfl))) (by decide) (backOf (W := 2) (own_rval l Z a0 hw [] (6 : Int32) aC h326 n0 hz326 c327 c328 c329 (by decide) (by decide)) hZ (hw _ (List.mem_of_getElem? (i := 6) rfl)) (hw _ (List.mem_of_getElem? (i := 5) rfl)) (by decide) (by decide)) (g := (mkF m 106 #[iv x0, iv x1, rv b42, rv b61, rv b90, rv b130, rv b182, rv b247, .unset, .unset, .unset, .unset, .unset, .unset, .unset, .unset] [(.int (6 : Int32)), (.ref b326), (.ref b326)])) rfl (by rw [hml]; rfl) (argsL := [(.int (6 : Int32))]) (rest := [(.ref b326), (.ref b326)]) (lenOf own_pd0 rfl) rfl (by show 2 * 0 + _ ≤ _; exact Nat.le_of_eq rfl) (hb hby at_106) (fun _ _ => ⟨rfl, e326, (by decide : 7 + 0 ≤ _), (by decide : 35 + 0 ≤ _)⟩)
  dsimp only [Pt.U, Pt.locs, Pt.cells, Pt.slots] at X355 l355 y355 z355 st355 hQ355
  subst l355 y355 z355
  obtain ⟨y_355, rfl, rfl, e355⟩ := hQ355
  have E355q : T355.heap = h326 := e355
  have N355 := Fr.app N274 (Fr.nil n0)
  refine own_go (T' := T355) (g' := (mkF m 109 #[iv x0, iv x1, rv b42, rv b61, rv b90, rv b130, rv b182, rv b247, .unset, .unset, .unset, .unset, .unset, .unset, .unset, .unset] [(.ref y_355), (.ref b326), (.ref b326)])) (st355) ?_
  refine own_go (T' := T355) (g' := (mkF m 111 #[iv x0, iv x1, rv b42, rv b61, rv b90, rv b130, rv b182, rv b247, .unset, .unset, .unset, .unset, .unset, .unset, .unset, .unset] [(.int (6 : Int32)), (.ref y_355), (.ref b326), (.ref b326)])) (fun t k => XS.bipush X355.here hx rfl (hb hby at_109) k) ?_
  obtain ⟨_, _, ⟨T356, L356, k356, n356⟩, -, X356, ⟨Lc356, hQ356, l356, y356, z356⟩, st356⟩ := Jvm.LawKit.callS X355 hx (y := (⟨"java/lang/Integer", "valueOf", "(I)Ljava/lang/Integer;"⟩ : MethodName)) hown (mvT hZ (hw _ (List.mem_of_getElem? (i := 3) rfl))) (mvT hZ (hw _ (List.mem_of_getElem? (i := 4) rfl))) (mvT hZ (hw _ (List.mem_of_getElem? (i := 5) rfl))) (mvT hZ (hw _ (List.mem_of_getElem? (i := 6) rfl))) (by decide) (backOf (W := 3) (own_rval l Z a0 hw [] (6 : Int32) aC h326 n0 hz326 c327 c328 c329 (by decide) (by decide)) hZ (hw _ (List.mem_of_getElem? (i := 6) rfl)) (hw _ (List.mem_of_getElem? (i := 5) rfl)) (by decide) (by decide)) (g := (mkF m 111 #[iv x0, iv x1, rv b42, rv b61, rv b90, rv b130, rv b182, rv b247, .unset, .unset, .unset, .unset, .unset, .unset, .unset, .unset] [(.int (6 : Int32)), (.ref y_355), (.ref b326), (.ref b326)])) rfl (by rw [hml]; rfl) (argsL := [(.int (6 : Int32))]) (rest := [(.ref y_355), (.ref b326), (.ref b326)]) (lenOf own_pd0 rfl) rfl (by show 2 * 0 + _ ≤ _; exact Nat.le_of_eq rfl) (hb hby at_111) (fun _ _ => ⟨rfl, E355q, (by decide : 7 + 0 ≤ _), (by decide : 35 + 0 ≤ _)⟩)
  dsimp only [Pt.U, Pt.locs, Pt.cells, Pt.slots] at X356 l356 y356 z356 st356 hQ356
  subst l356 y356 z356
  obtain ⟨y_356, rfl, rfl, e356⟩ := hQ356
  have E356q : T356.heap = h326 := e356
  have N356 := Fr.app N355 (Fr.nil n0)
  refine own_go (T' := T356) (g' := (mkF m 114 #[iv x0, iv x1, rv b42, rv b61, rv b90, rv b130, rv b182, rv b247, .unset, .unset, .unset, .unset, .unset, .unset, .unset, .unset] [(.ref y_356), (.ref y_355), (.ref b326), (.ref b326)])) (st356) ?_
  obtain ⟨_, _, ⟨T357, L357, k357, n357⟩, -, X357, ⟨Lc357, hQ357, l357, y357, z357⟩, st357⟩ := X356.specialBack hx (y := (⟨"com/example/treeline/treeline/Node", "<init>", "(Ljava/lang/Object;Ljava/lang/Object;)V"⟩ : MethodName)) rfl hown (mvT hZ (hw _ (List.mem_of_getElem? (i := 10) rfl))) (mvT hZ (hw _ (List.mem_of_getElem? (i := 11) rfl))) (mvT hZ (hw _ (List.mem_of_getElem? (i := 12) rfl))) (by decide) (backOf (W := 1) (own_rinit l Z a0 hw [] b326 y_355 y_356 h326 n0 hz326 A326 gn326 F326_sizeAndParity F326_key F326_value F326_left F326_right) hZ (hw _ (List.mem_of_getElem? (i := 12) rfl)) (hw _ (List.mem_of_getElem? (i := 2) rfl)) (by decide) (by decide)) (g := (mkF m 114 #[iv x0, iv x1, rv b42, rv b61, rv b90, rv b130, rv b182, rv b247, .unset, .unset, .unset, .unset, .unset, .unset, .unset, .unset] [(.ref y_356), (.ref y_355), (.ref b326), (.ref b326)])) rfl (by rw [hml]; rfl) (Steps.refl _) (a := b326) (argsL := [(.ref y_355), (.ref y_356)]) (rest := [(.ref b326)]) (lenOf own_pd1 rfl) rfl (by show 2 * 0 + _ ≤ _; exact Nat.le_of_eq rfl) (hb hby at_114) (fun _ _ => ⟨rfl, E356q, (by decide : 7 + 0 ≤ _), (by decide : 35 + 0 ≤ _)⟩)
  dsimp only [Pt.U, Pt.locs, Pt.cells, Pt.slots] at X357 l357 y357 z357 st357 hQ357
  subst l357 y357 z357
  obtain ⟨rfl, N357q, K_357, e_357, l_357, r_357⟩ := hQ357
  have N357 := Fr.app N356 N357q
  have c358 := own_sta_keep c327 K_357 (own_nsS (own_nse A326) own_ns0)
  have c359 := own_sta_keep c328 K_357 (own_nsS (own_nse A326) own_ns0)
  have c360 := c329.keep K_357 (ninS ne330 nin0)
  have c363 := c331.keep K_357
  have c364 := c333.keep K_357 (ninS ne332 nin0)
  have c365 := c334.keep K_357 (ninS ne332 nin0)
  have c369 := c335.keep K_357
  have c370 := c337.keep K_357 (ninS ne336 nin0)
  have c371 := c338.keep K_357 (ninS ne336 nin0)
  have c376 := c339.keep K_357
  have c377 := c341.keep K_357 (ninS ne340 nin0)
  have c378 := c342.keep K_357 (ninS ne340 nin0)
  have c384 := c343.keep K_357
  have c385 := c345.keep K_357 (ninS ne344 nin0)
  have c386 := c346.keep K_357 (ninS ne344 nin0)
  have c393 := c347.keep K_357
  have c394 := c349.keep K_357 (ninS ne348 nin0)
  have c395 := c350.keep K_357 (ninS ne348 nin0)
  have c403 := c351.keep K_357
  have c404 := c353.keep K_357 (ninS ne352 nin0)
  have c405 := c354.keep K_357 (ninS ne352 nin0)
  have c414 := A326.keep K_357
  have hz357 : n0 ≤ T357.heap.size := Nat.le_trans hz326 K_357.1
  refine own_go (T' := T357) (g' := (mkF m 117 #[iv x0, iv x1, rv b42, rv b61, rv b90, rv b130, rv b182, rv b247, .unset, .unset, .unset, .unset, .unset, .unset, .unset, .unset] [(.ref b326)])) (fun t k => st357.trans k) ?_
  refine own_go (T' := T357) (g' := (mkF m 119 #[iv x0, iv x1, rv b42, rv b61, rv b90, rv b130, rv b182, rv b247, rv b326, .unset, .unset, .unset, .unset, .unset, .unset, .unset] [])) (fun t k => XS.astore X357.here hx rfl (hb hby at_117) rfl rfl (l' := #[iv x0, iv x1, rv b42, rv b61, rv b90, rv b130, rv b182, rv b247, rv b326, .unset, .unset, .unset, .unset, .unset, .unset, .unset]) rfl k) ?_
  refine own_go (T' := T357) (g' := (mkF m 120 #[iv x0, iv x1, rv b42, rv b61, rv b90, rv b130, rv b182, rv b247, rv b326, .unset, .unset, .unset, .unset, .unset, .unset, .unset] [(.int x0)])) (fun t k => XS.iloadN X357.here hx rfl (hb hby at_119) rfl k) ?_
  refine own_go (T' := T357) (g' := (mkF m 122 #[iv x0, iv x1, rv b42, rv b61, rv b90, rv b130, rv b182, rv b247, rv b326, .unset, .unset, .unset, .unset, .unset, .unset, .unset] [(.int (2147483647 : Int32)), (.int x0)])) (fun t k => X357.ldcInt hx hown (mvT hZ (hw _ (List.mem_of_getElem? (i := 23) rfl))) (g := (mkF m 120 #[iv x0, iv x1, rv b42, rv b61, rv b90, rv b130, rv b182, rv b247, rv b326, .unset, .unset, .unset, .unset, .unset, .unset, .unset] [(.int x0)])) rfl (hb hby at_120) _ k) ?_
  refine own_go (T' := T357) (g' := (mkF m 123 #[iv x0, iv x1, rv b42, rv b61, rv b90, rv b130, rv b182, rv b247, rv b326, .unset, .unset, .unset, .unset, .unset, .unset, .unset] [(.int (x0 &&& (2147483647 : Int32)))])) (fun t k => XS.iand X357.here hx rfl (hb hby at_122) rfl k) ?_
  refine own_go (T' := T357) (g' := (mkF m 124 #[iv x0, iv x1, rv b42, rv b61, rv b90, rv b130, rv b182, rv b247, rv b326, .unset, .unset, .unset, .unset, .unset, .unset, .unset] [(.int (5 : Int32)), (.int (x0 &&& (2147483647 : Int32)))])) (fun t k => XS.iconst X357.here hx rfl (hb hby at_123) k) ?_
  refine own_go (T' := T357) (g' := (mkF m 125 #[iv x0, iv x1, rv b42, rv b61, rv b90, rv b130, rv b182, rv b247, rv b326, .unset, .unset, .unset, .unset, .unset, .unset, .unset] [(.int ((x0 &&& (2147483647 : Int32)) % (5 : Int32)))])) (fun t k => Jvm.RoadKit.iremM X357 hx rfl (hb hby at_124) rfl (by decide) k) ?_
  refine own_go (T' := T357) (g' := (mkF m 127 #[iv x0, iv x1, rv b42, rv b61, rv b90, rv b130, rv b182, rv b247, rv b326, iv ((x0 &&& (2147483647 : Int32)) % (5 : Int32)), .unset, .unset, .unset, .unset, .unset, .unset] [])) (fun t k => XS.istore X357.here hx rfl (hb hby at_125) rfl (l' := #[iv x0, iv x1, rv b42, rv b61, rv b90, rv b130, rv b182, rv b247, rv b326, iv ((x0 &&& (2147483647 : Int32)) % (5 : Int32)), .unset, .unset, .unset, .unset, .unset, .unset]) rfl k) ?_
  have jn421 : ∀ (w422 : Int32) (T421 : State) (h421 : Heap) (L421 : List Loc), Stand p l e room_1 s m #[(.int x0), (.int x1)] below meth c T421 L421 7 35 → T421.heap = h421 → Fr n0 L421 → n0 ≤ h421.size → Sta Z h421 "java/lang/Integer$IntegerCache" "high" "I" (.int (127 : Int32)) → Sta Z h421 "java/lang/Integer$IntegerCache" "cache" "[Ljava/lang/Integer;" (.ref aC) → own_Cache Z h421 aC → Exa Z h421 b42 "com/example/treeline/treeline/Node" → Fld Z h421 b42 "com/example/treeline/treeline/Node" "left" "Lcom/example/treeline/treeline/Node;" .null → Fld Z h421 b42 "com/example/treeline/treeline/Node" "right" "Lcom/example/treeline/treeline/Node;" .null → Exa Z h421 b61 "com/example/treeline/treeline/Node" → Fld Z h421 b61 "com/example/treeline/treeline/Node" "left" "Lcom/example/treeline/treeline/Node;" .null → Fld Z h421 b61 "com/example/treeline/treeline/Node" "right" "Lcom/example/treeline/treeline/Node;" .null → Exa Z h421 b90 "com/example/treeline/treeline/Node" → Fld Z h421 b90 "com/example/treeline/treeline/Node" "left" "Lcom/example/treeline/treeline/Node;" .null → Fld Z h421 b90 "com/example/treeline/treeline/Node" "right" "Lcom/example/treeline/treeline/Node;" .null → Exa Z h421 b130 "com/example/treeline/treeline/Node" → Fld Z h421 b130 "com/example/treeline/treeline/Node" "left" "Lcom/example/treeline/treeline/Node;" .null → Fld Z h421 b130 "com/example/treeline/treeline/Node" "right" "Lcom/example/treeline/treeline/Node;" .null → Exa Z h421 b182 "com/example/treeline/treeline/Node" → Fld Z h421 b182 "com/example/treeline/treeline/Node" "left" "Lcom/example/treeline/treeline/Node;" .null → Fld Z h421 b182 "com/example/treeline/treeline/Node" "right" "Lcom/example/treeline/treeline/Node;" .null → Exa Z h421 b247 "com/example/treeline/treeline/Node" → Fld Z h421 b247 "com/example/treeline/treeline/Node" "left" "Lcom/example/treeline/treeline/Node;" .null → Fld Z h421 b247 "com/example/treeline/treeline/Node" "right" "Lcom/example/treeline/treeline/Node;" .null → Exa Z h421 b326 "com/example/treeline/treeline/Node" → Fld Z h421 b326 "com/example/treeline/treeline/Node" "left" "Lcom/example/treeline/treeline/Node;" .null → Fld Z h421 b326 "com/example/treeline/treeline/Node" "right" "Lcom/example/treeline/treeline/Node;" .null → own_Ends p e below T421 (mkF m 138 #[iv x0, iv x1, rv b42, rv b61, rv b90, rv b130, rv b182, rv b247, rv b326, iv ((x0 &&& (2147483647 : Int32)) % (5 : Int32)), .unset, .unset, .unset, .unset, .unset, .unset] [(.int w422)]) (fun ou Uw => ∃ vu Lu, ou = .returned vu ∧ Q_own_law h0 n0 vu Uw.heap Lu ∧ FrameEnd s ou Uw Lu 24 192) := by
    intro w422 T421 h421 L421 X421 e421 N421 hz421 j423 j424 j425 j426 j427 j428 j429 j430 j431 j432 j433 j434 j435 j436 j437 j438 j439 j440 j441 j442 j443 j444 j445 j446
    refine own_go (T' := T421) (g' := (mkF m 140 #[iv x0, iv x1, rv b42, rv b61, rv b90, rv b130, rv b182, rv b247, rv b326, iv ((x0 &&& (2147483647 : Int32)) % (5 : Int32)), iv w422, .unset, .unset, .unset, .unset, .unset] [])) (fun t k => XS.istore X421.here hx rfl (hb hby at_138) rfl (l' := #[iv x0, iv x1, rv b42, rv b61, rv b90, rv b130, rv b182, rv b247, rv b326, iv ((x0 &&& (2147483647 : Int32)) % (5 : Int32)), iv w422, .unset, .unset, .unset, .unset, .unset]) rfl k) ?_
    have jn448 : ∀ (w449 : Int32) (T448 : State) (h448 : Heap) (L448 : List Loc), Stand p l e room_1 s m #[(.int x0), (.int x1)] below meth c T448 L448 7 35 → T448.heap = h448 → Fr n0 L448 → n0 ≤ h448.size → Sta Z h448 "java/lang/Integer$IntegerCache" "high" "I" (.int (127 : Int32)) → Sta Z h448 "java/lang/Integer$IntegerCache" "cache" "[Ljava/lang/Integer;" (.ref aC) → own_Cache Z h448 aC → Exa Z h448 b42 "com/example/treeline/treeline/Node" → Fld Z h448 b42 "com/example/treeline/treeline/Node" "left" "Lcom/example/treeline/treeline/Node;" .null → Fld Z h448 b42 "com/example/treeline/treeline/Node" "right" "Lcom/example/treeline/treeline/Node;" .null → Exa Z h448 b61 "com/example/treeline/treeline/Node" → Fld Z h448 b61 "com/example/treeline/treeline/Node" "left" "Lcom/example/treeline/treeline/Node;" .null → Fld Z h448 b61 "com/example/treeline/treeline/Node" "right" "Lcom/example/treeline/treeline/Node;" .null → Exa Z h448 b90 "com/example/treeline/treeline/Node" → Fld Z h448 b90 "com/example/treeline/treeline/Node" "left" "Lcom/example/treeline/treeline/Node;" .null → Fld Z h448 b90 "com/example/treeline/treeline/Node" "right" "Lcom/example/treeline/treeline/Node;" .null → Exa Z h448 b130 "com/example/treeline/treeline/Node" → Fld Z h448 b130 "com/example/treeline/treeline/Node" "left" "Lcom/example/treeline/treeline/Node;" .null → Fld Z h448 b130 "com/example/treeline/treeline/Node" "right" "Lcom/example/treeline/treeline/Node;" .null → Exa Z h448 b182 "com/example/treeline/treeline/Node" → Fld Z h448 b182 "com/example/treeline/treeline/Node" "left" "Lcom/example/treeline/treeline/Node;" .null → Fld Z h448 b182 "com/example/treeline/treeline/Node" "right" "Lcom/example/treeline/treeline/Node;" .null → Exa Z h448 b247 "com/example/treeline/treeline/Node" → Fld Z h448 b247 "com/example/treeline/treeline/Node" "left" "Lcom/example/treeline/treeline/Node;" .null → Fld Z h448 b247 "com/example/treeline/treeline/Node" "right" "Lcom/example/treeline/treeline/Node;" .null → Exa Z h448 b326 "com/example/treeline/treeline/Node" → Fld Z h448 b326 "com/example/treeline/treeline/Node" "left" "Lcom/example/treeline/treeline/Node;" .null → Fld Z h448 b326 "com/example/treeline/treeline/Node" "right" "Lcom/example/treeline/treeline/Node;" .null → own_Ends p e below T448 (mkF m 151 #[iv x0, iv x1, rv b42, rv b61, rv b90, rv b130, rv b182, rv b247, rv b326, iv ((x0 &&& (2147483647 : Int32)) % (5 : Int32)), iv w422, .unset, .unset, .unset, .unset, .unset] [(.int w449)]) (fun ou Uw => ∃ vu Lu, ou = .returned vu ∧ Q_own_law h0 n0 vu Uw.heap Lu ∧ FrameEnd s ou Uw Lu 24 192) := by
      intro w449 T448 h448 L448 X448 e448 N448 hz448 j450 j451 j452 j453 j454 j455 j456 j457 j458 j459 j460 j461 j462 j463 j464 j465 j466 j467 j468 j469 j470 j471 j472 j473
      refine own_go (T' := T448) (g' := (mkF m 153 #[iv x0, iv x1, rv b42, rv b61, rv b90, rv b130, rv b182, rv b247, rv b326, iv ((x0 &&& (2147483647 : Int32)) % (5 : Int32)), iv w422, iv w449, .unset, .unset, .unset, .unset] [])) (fun t k => XS.istore X448.here hx rfl (hb hby at_151) rfl (l' := #[iv x0, iv x1, rv b42, rv b61, rv b90, rv b130, rv b182, rv b247, rv b326, iv ((x0 &&& (2147483647 : Int32)) % (5 : Int32)), iv w422, iv w449, .unset, .unset, .unset, .unset]) rfl k) ?_
      have jn475 : ∀ (w476 : Int32) (T475 : State) (h475 : Heap) (L475 : List Loc), Stand p l e room_1 s m #[(.int x0), (.int x1)] below meth c T475 L475 7 35 → T475.heap = h475 → Fr n0 L475 → n0 ≤ h475.size → Sta Z h475 "java/lang/Integer$IntegerCache" "high" "I" (.int (127 : Int32)) → Sta Z h475 "java/lang/Integer$IntegerCache" "cache" "[Ljava/lang/Integer;" (.ref aC) → own_Cache Z h475 aC → Exa Z h475 b42 "com/example/treeline/treeline/Node" → Fld Z h475 b42 "com/example/treeline/treeline/Node" "left" "Lcom/example/treeline/treeline/Node;" .null → Fld Z h475 b42 "com/example/treeline/treeline/Node" "right" "Lcom/example/treeline/treeline/Node;" .null → Exa Z h475 b61 "com/example/treeline/treeline/Node" → Fld Z h475 b61 "com/example/treeline/treeline/Node" "left" "Lcom/example/treeline/treeline/Node;" .null → Fld Z h475 b61 "com/example/treeline/treeline/Node" "right" "Lcom/example/treeline/treeline/Node;" .null → Exa Z h475 b90 "com/example/treeline/treeline/Node" → Fld Z h475 b90 "com/example/treeline/treeline/Node" "left" "Lcom/example/treeline/treeline/Node;" .null → Fld Z h475 b90 "com/example/treeline/treeline/Node" "right" "Lcom/example/treeline/treeline/Node;" .null → Exa Z h475 b130 "com/example/treeline/treeline/Node" → Fld Z h475 b130 "com/example/treeline/treeline/Node" "left" "Lcom/example/treeline/treeline/Node;" .null → Fld Z h475 b130 "com/example/treeline/treeline/Node" "right" "Lcom/example/treeline/treeline/Node;" .null → Exa Z h475 b182 "com/example/treeline/treeline/Node" → Fld Z h475 b182 "com/example/treeline/treeline/Node" "left" "Lcom/example/treeline/treeline/Node;" .null → Fld Z h475 b182 "com/example/treeline/treeline/Node" "right" "Lcom/example/treeline/treeline/Node;" .null → Exa Z h475 b247 "com/example/treeline/treeline/Node" → Fld Z h475 b247 "com/example/treeline/treeline/Node" "left" "Lcom/example/treeline/treeline/Node;" .null → Fld Z h475 b247 "com/example/treeline/treeline/Node" "right" "Lcom/example/treeline/treeline/Node;" .null → Exa Z h475 b326 "com/example/treeline/treeline/Node" → Fld Z h475 b326 "com/example/treeline/treeline/Node" "left" "Lcom/example/treeline/treeline/Node;" .null → Fld Z h475 b326 "com/example/treeline/treeline/Node" "right" "Lcom/example/treeline/treeline/Node;" .null → own_Ends p e below T475 (mkF m 164 #[iv x0, iv x1, rv b42, rv b61, rv b90, rv b130, rv b182, rv b247, rv b326, iv ((x0 &&& (2147483647 : Int32)) % (5 : Int32)), iv w422, iv w449, .unset, .unset, .unset, .unset] [(.int w476)]) (fun ou Uw => ∃ vu Lu, ou = .returned vu ∧ Q_own_law h0 n0 vu Uw.heap Lu ∧ FrameEnd s ou Uw Lu 24 192) := by
        intro w476 T475 h475 L475 X475 e475 N475 hz475 j477 j478 j479 j480 j481 j482 j483 j484 j485 j486 j487 j488 j489 j490 j491 j492 j493 j494 j495 j496 j497 j498 j499 j500
        refine own_go (T' := T475) (g' := (mkF m 166 #[iv x0, iv x1, rv b42, rv b61, rv b90, rv b130, rv b182, rv b247, rv b326, iv ((x0 &&& (2147483647 : Int32)) % (5 : Int32)), iv w422, iv w449, iv w476, .unset, .unset, .unset] [])) (fun t k => XS.istore X475.here hx rfl (hb hby at_164) rfl (l' := #[iv x0, iv x1, rv b42, rv b61, rv b90, rv b130, rv b182, rv b247, rv b326, iv ((x0 &&& (2147483647 : Int32)) % (5 : Int32)), iv w422, iv w449, iv w476, .unset, .unset, .unset]) rfl k) ?_
        refine own_go (T' := T475) (g' := (mkF m 168 #[iv x0, iv x1, rv b42, rv b61, rv b90, rv b130, rv b182, rv b247, rv b326, iv ((x0 &&& (2147483647 : Int32)) % (5 : Int32)), iv w422, iv w449, iv w476, .unset, .unset, .unset] [(.int ((x0 &&& (2147483647 : Int32)) % (5 : Int32)))])) (fun t k => XS.iload X475.here hx rfl (hb hby at_166) rfl k) ?_
        rcases own_m5 x0 with hk | hk | hk | hk | hk
        · rw [hk]
          refine own_go (T' := T475) (g' := (mkF m 171 #[iv x0, iv x1, rv b42, rv b61, rv b90, rv b130, rv b182, rv b247, rv b326, iv (0 : Int32), iv w422, iv w449, iv w476, .unset, .unset, .unset] [])) (fun t k => XS.ifNo X475.here hx rfl (hb hby at_168) rfl ((if0 _ _).trans (teq (by decide : ((0 : Int32) = (0 : Int32)))).2) k) ?_
          refine own_go (T' := T475) (g' := (mkF m 172 #[iv x0, iv x1, rv b42, rv b61, rv b90, rv b130, rv b182, rv b247, rv b326, iv (0 : Int32), iv w422, iv w449, iv w476, .unset, .unset, .unset] [.null])) (fun t k => XS.aconstNull X475.here hx rfl (hb hby at_171) k) ?_
          refine own_go (T' := T475) (g' := (mkF m 174 #[iv x0, iv x1, rv b42, rv b61, rv b90, rv b130, rv b182, rv b247, rv b326, iv (0 : Int32), iv w422, iv w449, iv w476, .val .null, .unset, .unset] [])) (fun t k => XS.astore X475.here hx rfl (hb hby at_172) rfl rfl (l' := #[iv x0, iv x1, rv b42, rv b61, rv b90, rv b130, rv b182, rv b247, rv b326, iv (0 : Int32), iv w422, iv w449, iv w476, .val .null, .unset, .unset]) rfl k) ?_
          refine own_go (T' := T475) (g' := (mkF m 175 #[iv x0, iv x1, rv b42, rv b61, rv b90, rv b130, rv b182, rv b247, rv b326, iv (0 : Int32), iv w422, iv w449, iv w476, .val .null, .unset, .unset] [.null])) (fun t k => XS.aconstNull X475.here hx rfl (hb hby at_174) k) ?_
          refine own_go (T' := T475) (g' := (mkF m 177 #[iv x0, iv x1, rv b42, rv b61, rv b90, rv b130, rv b182, rv b247, rv b326, iv (0 : Int32), iv w422, iv w449, iv w476, .val .null, .val .null, .unset] [])) (fun t k => XS.astore X475.here hx rfl (hb hby at_175) rfl rfl (l' := #[iv x0, iv x1, rv b42, rv b61, rv b90, rv b130, rv b182, rv b247, rv b326, iv (0 : Int32), iv w422, iv w449, iv w476, .val .null, .val .null, .unset]) rfl k) ?_
          refine own_go (T' := T475) (g' := (mkF m 301 #[iv x0, iv x1, rv b42, rv b61, rv b90, rv b130, rv b182, rv b247, rv b326, iv (0 : Int32), iv w422, iv w449, iv w476, .val .null, .val .null, .unset] [])) (fun t k => XS.goto X475.here hx rfl (pc0 := 177) (pc' := 301) rfl (hb hby at_177) (by decide) (by decide) k) ?_
          refine own_go (T' := T475) (g' := (mkF m 303 #[iv x0, iv x1, rv b42, rv b61, rv b90, rv b130, rv b182, rv b247, rv b326, iv (0 : Int32), iv w422, iv w449, iv w476, .val .null, .val .null, .unset] [.null])) (fun t k => XS.aload X475.here hx rfl (hb hby at_301) rfl rfl k) ?_
          obtain ⟨_, _, ⟨T501, L501, k501, n501⟩, -, X501, ⟨Lc501, hQ501, l501, y501, z501⟩, st501⟩ := Jvm.LawKit.callS X475 hx (y := (⟨"com/example/treeline/treeline/Node", "highest", "(Lcom/example/treeline/treeline/Node;)Lcom/example/treeline/treeline/Node;"⟩ : MethodName)) hown (mvT hZ (hw _ (List.mem_of_getElem? (i := 24) rfl))) (mvT hZ (hw _ (List.mem_of_getElem? (i := 25) rfl))) (mvT hZ (hw _ (List.mem_of_getElem? (i := 2) rfl))) (mvT hZ (hw _ (List.mem_of_getElem? (i := 26) rfl))) (by decide) (backOf (W := 0) (own_rhi0 l Z a0 hw []  h475 n0 hz475 ) hZ (hw _ (List.mem_of_getElem? (i := 26) rfl)) (hw _ (List.mem_of_getElem? (i := 2) rfl)) (by decide) (by decide)) (g := (mkF m 303 #[iv x0, iv x1, rv b42, rv b61, rv b90, rv b130, rv b182, rv b247, rv b326, iv (0 : Int32), iv w422, iv w449, iv w476, .val .null, .val .null, .unset] [.null])) rfl (by rw [hml]; rfl) (argsL := [.null]) (rest := []) (lenOf own_pd2 rfl) rfl (by show 2 * 0 + _ ≤ _; exact Nat.le_of_eq rfl) (hb hby at_303) (fun _ _ => ⟨rfl, e475, (by decide : 7 + 0 ≤ _), (by decide : 35 + 0 ≤ _)⟩)
          dsimp only [Pt.U, Pt.locs, Pt.cells, Pt.slots] at X501 l501 y501 z501 st501 hQ501
          subst l501 y501 z501
          obtain ⟨rfl, rfl, e501⟩ := hQ501
          have E501q : T501.heap = h475 := e501
          have N501 := Fr.app N475 (Fr.nil n0)
          refine own_go (T' := T501) (g' := (mkF m 306 #[iv x0, iv x1, rv b42, rv b61, rv b90, rv b130, rv b182, rv b247, rv b326, iv (0 : Int32), iv w422, iv w449, iv w476, .val .null, .val .null, .unset] [.null])) (st501) ?_
          refine own_go (T' := T501) (g' := (mkF m 308 #[iv x0, iv x1, rv b42, rv b61, rv b90, rv b130, rv b182, rv b247, rv b326, iv (0 : Int32), iv w422, iv w449, iv w476, .val .null, .val .null, .val .null] [])) (fun t k => XS.astore X501.here hx rfl (hb hby at_306) rfl rfl (l' := #[iv x0, iv x1, rv b42, rv b61, rv b90, rv b130, rv b182, rv b247, rv b326, iv (0 : Int32), iv w422, iv w449, iv w476, .val .null, .val .null, .val .null]) rfl k) ?_
          refine own_go (T' := T501) (g' := (mkF m 310 #[iv x0, iv x1, rv b42, rv b61, rv b90, rv b130, rv b182, rv b247, rv b326, iv (0 : Int32), iv w422, iv w449, iv w476, .val .null, .val .null, .val .null] [.null])) (fun t k => XS.aload X501.here hx rfl (hb hby at_308) rfl rfl k) ?_
          refine own_go (T' := T501) (g' := (mkF m 312 #[iv x0, iv x1, rv b42, rv b61, rv b90, rv b130, rv b182, rv b247, rv b326, iv (0 : Int32), iv w422, iv w449, iv w476, .val .null, .val .null, .val .null] [.null, .null])) (fun t k => XS.aload X501.here hx rfl (hb hby at_310) rfl rfl k) ?_
          refine own_go (T' := T501) (g' := (mkF m 315 #[iv x0, iv x1, rv b42, rv b61, rv b90, rv b130, rv b182, rv b247, rv b326, iv (0 : Int32), iv w422, iv w449, iv w476, .val .null, .val .null, .val .null] [])) (fun t k => Jvm.RoadKit.acmp (g := (mkF m 312 #[iv x0, iv x1, rv b42, rv b61, rv b90, rv b130, rv b182, rv b247, rv b326, iv (0 : Int32), iv w422, iv w449, iv w476, .val .null, .val .null, .val .null] [.null, .null])) X501 hx rfl (x := .null) (y := .null) rfl rfl (pc0 := 312) (pc' := 315) (same := true) rfl (hb hby at_312) rfl (decide_eq_true rfl) (by decide) (by decide) k) ?_
          refine own_go (T' := T501) (g' := (mkF m 316 #[iv x0, iv x1, rv b42, rv b61, rv b90, rv b130, rv b182, rv b247, rv b326, iv (0 : Int32), iv w422, iv w449, iv w476, .val .null, .val .null, .val .null] [(.int (1 : Int32))])) (fun t k => XS.iconst X501.here hx rfl (hb hby at_315) k) ?_
          refine own_go (T' := T501) (g' := (mkF m 320 #[iv x0, iv x1, rv b42, rv b61, rv b90, rv b130, rv b182, rv b247, rv b326, iv (0 : Int32), iv w422, iv w449, iv w476, .val .null, .val .null, .val .null] [(.int (1 : Int32))])) (fun t k => XS.goto X501.here hx rfl (pc0 := 316) (pc' := 320) rfl (hb hby at_316) (by decide) (by decide) k) ?_
          exact own_ret X501 hlk hx Bd.returns rfl (Or.inl ⟨rfl, Or.inr (Or.inl rfl), _, rfl⟩) (hb hby at_320) (by first | exact ⟨rfl, N501⟩ | (rw [Fr] at *; exact ⟨rfl, by simpa using N501⟩)) (by decide) (by decide)
        · rw [hk]
          refine own_go (T' := T475) (g' := (mkF m 180 #[iv x0, iv x1, rv b42, rv b61, rv b90, rv b130, rv b182, rv b247, rv b326, iv (1 : Int32), iv w422, iv w449, iv w476, .unset, .unset, .unset] [])) (fun t k => XS.ifYes X475.here hx rfl (pc0 := 168) (pc' := 180) rfl (hb hby at_168) rfl ((if0 _ _).trans (feq (by decide : ¬ ((1 : Int32) = (0 : Int32)))).2) (by decide) (by decide) k) ?_
          refine own_go (T' := T475) (g' := (mkF m 181 #[iv x0, iv x1, rv b42, rv b61, rv b90, rv b130, rv b182, rv b247, rv b326, iv (1 : Int32), iv w422, iv w449, iv w476, .unset, .unset, .unset] [(.ref b42)])) (fun t k => XS.aloadN X475.here hx rfl (hb hby at_180) rfl rfl k) ?_
          refine own_go (T' := T475) (g' := (mkF m 183 #[iv x0, iv x1, rv b42, rv b61, rv b90, rv b130, rv b182, rv b247, rv b326, iv (1 : Int32), iv w422, iv w449, iv w476, rv b42, .unset, .unset] [])) (fun t k => XS.astore X475.here hx rfl (hb hby at_181) rfl rfl (l' := #[iv x0, iv x1, rv b42, rv b61, rv b90, rv b130, rv b182, rv b247, rv b326, iv (1 : Int32), iv w422, iv w449, iv w476, rv b42, .unset, .unset]) rfl k) ?_
          refine own_go (T' := T475) (g' := (mkF m 185 #[iv x0, iv x1, rv b42, rv b61, rv b90, rv b130, rv b182, rv b247, rv b326, iv (1 : Int32), iv w422, iv w449, iv w476, rv b42, .unset, .unset] [(.int (1 : Int32))])) (fun t k => XS.iload X475.here hx rfl (hb hby at_183) rfl k) ?_
          refine own_go (T' := T475) (g' := (mkF m 186 #[iv x0, iv x1, rv b42, rv b61, rv b90, rv b130, rv b182, rv b247, rv b326, iv (1 : Int32), iv w422, iv w449, iv w476, rv b42, .unset, .unset] [(.int (2 : Int32)), (.int (1 : Int32))])) (fun t k => XS.iconst X475.here hx rfl (hb hby at_185) k) ?_
          refine own_go (T' := T475) (g' := (mkF m 194 #[iv x0, iv x1, rv b42, rv b61, rv b90, rv b130, rv b182, rv b247, rv b326, iv (1 : Int32), iv w422, iv w449, iv w476, rv b42, .unset, .unset] [])) (fun t k => XS.icmpYes X475.here hx rfl (pc0 := 186) (pc' := 194) rfl (hb hby at_186) rfl (tlt (by decide : ((1 : Int32) < (2 : Int32)))).1 (by decide) (by decide) k) ?_
          refine own_go (T' := T475) (g' := (mkF m 196 #[iv x0, iv x1, rv b42, rv b61, rv b90, rv b130, rv b182, rv b247, rv b326, iv (1 : Int32), iv w422, iv w449, iv w476, rv b42, .unset, .unset] [(.int (1 : Int32))])) (fun t k => XS.iload X475.here hx rfl (hb hby at_194) rfl k) ?_
          refine own_go (T' := T475) (g' := (mkF m 197 #[iv x0, iv x1, rv b42, rv b61, rv b90, rv b130, rv b182, rv b247, rv b326, iv (1 : Int32), iv w422, iv w449, iv w476, rv b42, .unset, .unset] [(.int (3 : Int32)), (.int (1 : Int32))])) (fun t k => XS.iconst X475.here hx rfl (hb hby at_196) k) ?_
          refine own_go (T' := T475) (g' := (mkF m 206 #[iv x0, iv x1, rv b42, rv b61, rv b90, rv b130, rv b182, rv b247, rv b326, iv (1 : Int32), iv w422, iv w449, iv w476, rv b42, .unset, .unset] [])) (fun t k => XS.icmpYes X475.here hx rfl (pc0 := 197) (pc' := 206) rfl (hb hby at_197) rfl (tlt (by decide : ((1 : Int32) < (3 : Int32)))).1 (by decide) (by decide) k) ?_
          refine own_go (T' := T475) (g' := (mkF m 208 #[iv x0, iv x1, rv b42, rv b61, rv b90, rv b130, rv b182, rv b247, rv b326, iv (1 : Int32), iv w422, iv w449, iv w476, rv b42, .unset, .unset] [(.int (1 : Int32))])) (fun t k => XS.iload X475.here hx rfl (hb hby at_206) rfl k) ?_
          refine own_go (T' := T475) (g' := (mkF m 209 #[iv x0, iv x1, rv b42, rv b61, rv b90, rv b130, rv b182, rv b247, rv b326, iv (1 : Int32), iv w422, iv w449, iv w476, rv b42, .unset, .unset] [(.int (4 : Int32)), (.int (1 : Int32))])) (fun t k => XS.iconst X475.here hx rfl (hb hby at_208) k) ?_
          refine own_go (T' := T475) (g' := (mkF m 219 #[iv x0, iv x1, rv b42, rv b61, rv b90, rv b130, rv b182, rv b247, rv b326, iv (1 : Int32), iv w422, iv w449, iv w476, rv b42, .unset, .unset] [])) (fun t k => XS.icmpYes X475.here hx rfl (pc0 := 209) (pc' := 219) rfl (hb hby at_209) rfl (tlt (by decide : ((1 : Int32) < (4 : Int32)))).1 (by decide) (by decide) k) ?_
          refine own_go (T' := T475) (g' := (mkF m 221 #[iv x0, iv x1, rv b42, rv b61, rv b90, rv b130, rv b182, rv b247, rv b326, iv (1 : Int32), iv w422, iv w449, iv w476, rv b42, .unset, .unset] [(.int (1 : Int32))])) (fun t k => XS.iload X475.here hx rfl (hb hby at_219) rfl k) ?_
          refine own_go (T' := T475) (g' := (mkF m 222 #[iv x0, iv x1, rv b42, rv b61, rv b90, rv b130, rv b182, rv b247, rv b326, iv (1 : Int32), iv w422, iv w449, iv w476, rv b42, .unset, .unset] [(.int (1 : Int32)), (.int (1 : Int32))])) (fun t k => XS.iconst X475.here hx rfl (hb hby at_221) k) ?_
          refine own_go (T' := T475) (g' := (mkF m 225 #[iv x0, iv x1, rv b42, rv b61, rv b90, rv b130, rv b182, rv b247, rv b326, iv (1 : Int32), iv w422, iv w449, iv w476, rv b42, .unset, .unset] [])) (fun t k => XS.icmpNo X475.here hx rfl (hb hby at_222) rfl (teq (by decide : ((1 : Int32) = (1 : Int32)))).2 k) ?_
          refine own_go (T' := T475) (g' := (mkF m 226 #[iv x0, iv x1, rv b42, rv b61, rv b90, rv b130, rv b182, rv b247, rv b326, iv (1 : Int32), iv w422, iv w449, iv w476, rv b42, .unset, .unset] [(.ref b42)])) (fun t k => XS.aloadN X475.here hx rfl (hb hby at_225) rfl rfl k) ?_
          refine own_go (T' := T475) (g' := (mkF m 228 #[iv x0, iv x1, rv b42, rv b61, rv b90, rv b130, rv b182, rv b247, rv b326, iv (1 : Int32), iv w422, iv w449, iv w476, rv b42, rv b42, .unset] [])) (fun t k => XS.astore X475.here hx rfl (hb hby at_226) rfl rfl (l' := #[iv x0, iv x1, rv b42, rv b61, rv b90, rv b130, rv b182, rv b247, rv b326, iv (1 : Int32), iv w422, iv w449, iv w476, rv b42, rv b42, .unset]) rfl k) ?_
          refine own_go (T' := T475) (g' := (mkF m 260 #[iv x0, iv x1, rv b42, rv b61, rv b90, rv b130, rv b182, rv b247, rv b326, iv (1 : Int32), iv w422, iv w449, iv w476, rv b42, rv b42, .unset] [])) (fun t k => XS.goto X475.here hx rfl (pc0 := 228) (pc' := 260) rfl (hb hby at_228) (by decide) (by decide) k) ?_
          refine own_go (T' := T475) (g' := (mkF m 262 #[iv x0, iv x1, rv b42, rv b61, rv b90, rv b130, rv b182, rv b247, rv b326, iv (1 : Int32), iv w422, iv w449, iv w476, rv b42, rv b42, .unset] [(.int w422)])) (fun t k => XS.iload X475.here hx rfl (hb hby at_260) rfl k) ?_
          by_cases hc502 : w422 = (0 : Int32)
          · refine own_go (T' := T475) (g' := (mkF m 284 #[iv x0, iv x1, rv b42, rv b61, rv b90, rv b130, rv b182, rv b247, rv b326, iv (1 : Int32), iv w422, iv w449, iv w476, rv b42, rv b42, .unset] [])) (fun t k => XS.ifYes X475.here hx rfl (pc0 := 262) (pc' := 284) rfl (hb hby at_262) rfl ((if0 _ _).trans (teq hc502).1) (by decide) (by decide) k) ?_
            refine own_go (T' := T475) (g' := (mkF m 286 #[iv x0, iv x1, rv b42, rv b61, rv b90, rv b130, rv b182, rv b247, rv b326, iv (1 : Int32), iv w422, iv w449, iv w476, rv b42, rv b42, .unset] [(.int w476)])) (fun t k => XS.iload X475.here hx rfl (hb hby at_284) rfl k) ?_
            by_cases hc503 : w476 = (0 : Int32)
            · refine own_go (T' := T475) (g' := (mkF m 301 #[iv x0, iv x1, rv b42, rv b61, rv b90, rv b130, rv b182, rv b247, rv b326, iv (1 : Int32), iv w422, iv w449, iv w476, rv b42, rv b42, .unset] [])) (fun t k => XS.ifYes X475.here hx rfl (pc0 := 286) (pc' := 301) rfl (hb hby at_286) rfl ((if0 _ _).trans (teq hc503).1) (by decide) (by decide) k) ?_
              refine own_go (T' := T475) (g' := (mkF m 303 #[iv x0, iv x1, rv b42, rv b61, rv b90, rv b130, rv b182, rv b247, rv b326, iv (1 : Int32), iv w422, iv w449, iv w476, rv b42, rv b42, .unset] [(.ref b42)])) (fun t k => XS.aload X475.here hx rfl (hb hby at_301) rfl rfl k) ?_
              obtain ⟨_, _, ⟨T504, L504, k504, n504⟩, -, X504, ⟨Lc504, hQ504, l504, y504, z504⟩, st504⟩ := Jvm.LawKit.callS X475 hx (y := (⟨"com/example/treeline/treeline/Node", "highest", "(Lcom/example/treeline/treeline/Node;)Lcom/example/treeline/treeline/Node;"⟩ : MethodName)) hown (mvT hZ (hw _ (List.mem_of_getElem? (i := 24) rfl))) (mvT hZ (hw _ (List.mem_of_getElem? (i := 25) rfl))) (mvT hZ (hw _ (List.mem_of_getElem? (i := 2) rfl))) (mvT hZ (hw _ (List.mem_of_getElem? (i := 26) rfl))) (by decide) (backOf (W := 0) (own_rhi1 l Z a0 hw [] b42 h475 n0 hz475 j482) hZ (hw _ (List.mem_of_getElem? (i := 26) rfl)) (hw _ (List.mem_of_getElem? (i := 2) rfl)) (by decide) (by decide)) (g := (mkF m 303 #[iv x0, iv x1, rv b42, rv b61, rv b90, rv b130, rv b182, rv b247, rv b326, iv (1 : Int32), iv w422, iv w449, iv w476, rv b42, rv b42, .unset] [(.ref b42)])) rfl (by rw [hml]; rfl) (argsL := [(.ref b42)]) (rest := []) (lenOf own_pd2 rfl) rfl (by show 2 * 0 + _ ≤ _; exact Nat.le_of_eq rfl) (hb hby at_303) (fun _ _ => ⟨rfl, e475, (by decide : 7 + 0 ≤ _), (by decide : 35 + 0 ≤ _)⟩)
              dsimp only [Pt.U, Pt.locs, Pt.cells, Pt.slots] at X504 l504 y504 z504 st504 hQ504
              subst l504 y504 z504
              obtain ⟨rfl, rfl, e504⟩ := hQ504
              have E504q : T504.heap = h475 := e504
              have N504 := Fr.app N475 (Fr.nil n0)
              refine own_go (T' := T504) (g' := (mkF m 306 #[iv x0, iv x1, rv b42, rv b61, rv b90, rv b130, rv b182, rv b247, rv b326, iv (1 : Int32), iv w422, iv w449, iv w476, rv b42, rv b42, .unset] [(.ref b42)])) (st504) ?_
              refine own_go (T' := T504) (g' := (mkF m 308 #[iv x0, iv x1, rv b42, rv b61, rv b90, rv b130, rv b182, rv b247, rv b326, iv (1 : Int32), iv w422, iv w449, iv w476, rv b42, rv b42, rv b42] [])) (fun t k => XS.astore X504.here hx rfl (hb hby at_306) rfl rfl (l' := #[iv x0, iv x1, rv b42, rv b61, rv b90, rv b130, rv b182, rv b247, rv b326, iv (1 : Int32), iv w422, iv w449, iv w476, rv b42, rv b42, rv b42]) rfl k) ?_
              refine own_go (T' := T504) (g' := (mkF m 310 #[iv x0, iv x1, rv b42, rv b61, rv b90, rv b130, rv b182, rv b247, rv b326, iv (1 : Int32), iv w422, iv w449, iv w476, rv b42, rv b42, rv b42] [(.ref b42)])) (fun t k => XS.aload X504.here hx rfl (hb hby at_308) rfl rfl k) ?_
              refine own_go (T' := T504) (g' := (mkF m 312 #[iv x0, iv x1, rv b42, rv b61, rv b90, rv b130, rv b182, rv b247, rv b326, iv (1 : Int32), iv w422, iv w449, iv w476, rv b42, rv b42, rv b42] [(.ref b42), (.ref b42)])) (fun t k => XS.aload X504.here hx rfl (hb hby at_310) rfl rfl k) ?_
              refine own_go (T' := T504) (g' := (mkF m 315 #[iv x0, iv x1, rv b42, rv b61, rv b90, rv b130, rv b182, rv b247, rv b326, iv (1 : Int32), iv w422, iv w449, iv w476, rv b42, rv b42, rv b42] [])) (fun t k => Jvm.RoadKit.acmp (g := (mkF m 312 #[iv x0, iv x1, rv b42, rv b61, rv b90, rv b130, rv b182, rv b247, rv b326, iv (1 : Int32), iv w422, iv w449, iv w476, rv b42, rv b42, rv b42] [(.ref b42), (.ref b42)])) X504 hx rfl (x := (.ref b42)) (y := (.ref b42)) rfl rfl (pc0 := 312) (pc' := 315) (same := true) rfl (hb hby at_312) rfl (decide_eq_true rfl) (by decide) (by decide) k) ?_
              refine own_go (T' := T504) (g' := (mkF m 316 #[iv x0, iv x1, rv b42, rv b61, rv b90, rv b130, rv b182, rv b247, rv b326, iv (1 : Int32), iv w422, iv w449, iv w476, rv b42, rv b42, rv b42] [(.int (1 : Int32))])) (fun t k => XS.iconst X504.here hx rfl (hb hby at_315) k) ?_
              refine own_go (T' := T504) (g' := (mkF m 320 #[iv x0, iv x1, rv b42, rv b61, rv b90, rv b130, rv b182, rv b247, rv b326, iv (1 : Int32), iv w422, iv w449, iv w476, rv b42, rv b42, rv b42] [(.int (1 : Int32))])) (fun t k => XS.goto X504.here hx rfl (pc0 := 316) (pc' := 320) rfl (hb hby at_316) (by decide) (by decide) k) ?_
              exact own_ret X504 hlk hx Bd.returns rfl (Or.inl ⟨rfl, Or.inr (Or.inl rfl), _, rfl⟩) (hb hby at_320) (by first | exact ⟨rfl, N504⟩ | (rw [Fr] at *; exact ⟨rfl, by simpa using N504⟩)) (by decide) (by decide)
            · refine own_go (T' := T475) (g' := (mkF m 289 #[iv x0, iv x1, rv b42, rv b61, rv b90, rv b130, rv b182, rv b247, rv b326, iv (1 : Int32), iv w422, iv w449, iv w476, rv b42, rv b42, .unset] [])) (fun t k => XS.ifNo X475.here hx rfl (hb hby at_286) rfl ((if0 _ _).trans (feq hc503).1) k) ?_
              refine own_go (T' := T475) (g' := (mkF m 291 #[iv x0, iv x1, rv b42, rv b61, rv b90, rv b130, rv b182, rv b247, rv b326, iv (1 : Int32), iv w422, iv w449, iv w476, rv b42, rv b42, .unset] [(.ref b42)])) (fun t k => XS.aload X475.here hx rfl (hb hby at_289) rfl rfl k) ?_
              refine own_go (T' := T475) (g' := (mkF m 292 #[iv x0, iv x1, rv b42, rv b61, rv b90, rv b130, rv b182, rv b247, rv b326, iv (1 : Int32), iv w422, iv w449, iv w476, rv b42, rv b42, .unset] [(.ref b42), (.ref b42)])) (fun t k => XS.aloadN X475.here hx rfl (hb hby at_291) rfl rfl k) ?_
              refine own_go (T' := T475) (g' := (mkF m 301 #[iv x0, iv x1, rv b42, rv b61, rv b90, rv b130, rv b182, rv b247, rv b326, iv (1 : Int32), iv w422, iv w449, iv w476, rv b42, rv b42, .unset] [])) (fun t k => Jvm.RoadKit.acmp (g := (mkF m 292 #[iv x0, iv x1, rv b42, rv b61, rv b90, rv b130, rv b182, rv b247, rv b326, iv (1 : Int32), iv w422, iv w449, iv w476, rv b42, rv b42, .unset] [(.ref b42), (.ref b42)])) X475 hx rfl (x := (.ref b42)) (y := (.ref b42)) rfl rfl (pc0 := 292) (pc' := 301) (same := true) rfl (hb hby at_292) rfl (decide_eq_true rfl) (by decide) (by decide) k) ?_
              refine own_go (T' := T475) (g' := (mkF m 303 #[iv x0, iv x1, rv b42, rv b61, rv b90, rv b130, rv b182, rv b247, rv b326, iv (1 : Int32), iv w422, iv w449, iv w476, rv b42, rv b42, .unset] [(.ref b42)])) (fun t k => XS.aload X475.here hx rfl (hb hby at_301) rfl rfl k) ?_
              obtain ⟨_, _, ⟨T505, L505, k505, n505⟩, -, X505, ⟨Lc505, hQ505, l505, y505, z505⟩, st505⟩ := Jvm.LawKit.callS X475 hx (y := (⟨"com/example/treeline/treeline/Node", "highest", "(Lcom/example/treeline/treeline/Node;)Lcom/example/treeline/treeline/Node;"⟩ : MethodName)) hown (mvT hZ (hw _ (List.mem_of_getElem? (i := 24) rfl))) (mvT hZ (hw _ (List.mem_of_getElem? (i := 25) rfl))) (mvT hZ (hw _ (List.mem_of_getElem? (i := 2) rfl))) (mvT hZ (hw _ (List.mem_of_getElem? (i := 26) rfl))) (by decide) (backOf (W := 0) (own_rhi1 l Z a0 hw [] b42 h475 n0 hz475 j482) hZ (hw _ (List.mem_of_getElem? (i := 26) rfl)) (hw _ (List.mem_of_getElem? (i := 2) rfl)) (by decide) (by decide)) (g := (mkF m 303 #[iv x0, iv x1, rv b42, rv b61, rv b90, rv b130, rv b182, rv b247, rv b326, iv (1 : Int32), iv w422, iv w449, iv w476, rv b42, rv b42, .unset] [(.ref b42)])) rfl (by rw [hml]; rfl) (argsL := [(.ref b42)]) (rest := []) (lenOf own_pd2 rfl) rfl (by show 2 * 0 + _ ≤ _; exact Nat.le_of_eq rfl) (hb hby at_303) (fun _ _ => ⟨rfl, e475, (by decide : 7 + 0 ≤ _), (by decide : 35 + 0 ≤ _)⟩)
              dsimp only [Pt.U, Pt.locs, Pt.cells, Pt.slots] at X505 l505 y505 z505 st505 hQ505
              subst l505 y505 z505
              obtain ⟨rfl, rfl, e505⟩ := hQ505
              have E505q : T505.heap = h475 := e505
              have N505 := Fr.app N475 (Fr.nil n0)
              refine own_go (T' := T505) (g' := (mkF m 306 #[iv x0, iv x1, rv b42, rv b61, rv b90, rv b130, rv b182, rv b247, rv b326, iv (1 : Int32), iv w422, iv w449, iv w476, rv b42, rv b42, .unset] [(.ref b42)])) (st505) ?_
              refine own_go (T' := T505) (g' := (mkF m 308 #[iv x0, iv x1, rv b42, rv b61, rv b90, rv b130, rv b182, rv b247, rv b326, iv (1 : Int32), iv w422, iv w449, iv w476, rv b42, rv b42, rv b42] [])) (fun t k => XS.astore X505.here hx rfl (hb hby at_306) rfl rfl (l' := #[iv x0, iv x1, rv b42, rv b61, rv b90, rv b130, rv b182, rv b247, rv b326, iv (1 : Int32), iv w422, iv w449, iv w476, rv b42, rv b42, rv b42]) rfl k) ?_
              refine own_go (T' := T505) (g' := (mkF m 310 #[iv x0, iv x1, rv b42, rv b61, rv b90, rv b130, rv b182, rv b247, rv b326, iv (1 : Int32), iv w422, iv w449, iv w476, rv b42, rv b42, rv b42] [(.ref b42)])) (fun t k => XS.aload X505.here hx rfl (hb hby at_308) rfl rfl k) ?_
              refine own_go (T' := T505) (g' := (mkF m 312 #[iv x0, iv x1, rv b42, rv b61, rv b90, rv b130, rv b182, rv b247, rv b326, iv (1 : Int32), iv w422, iv w449, iv w476, rv b42, rv b42, rv b42] [(.ref b42), (.ref b42)])) (fun t k => XS.aload X505.here hx rfl (hb hby at_310) rfl rfl k) ?_
              refine own_go (T' := T505) (g' := (mkF m 315 #[iv x0, iv x1, rv b42, rv b61, rv b90, rv b130, rv b182, rv b247, rv b326, iv (1 : Int32), iv w422, iv w449, iv w476, rv b42, rv b42, rv b42] [])) (fun t k => Jvm.RoadKit.acmp (g := (mkF m 312 #[iv x0, iv x1, rv b42, rv b61, rv b90, rv b130, rv b182, rv b247, rv b326, iv (1 : Int32), iv w422, iv w449, iv w476, rv b42, rv b42, rv b42] [(.ref b42), (.ref b42)])) X505 hx rfl (x := (.ref b42)) (y := (.ref b42)) rfl rfl (pc0 := 312) (pc' := 315) (same := true) rfl (hb hby at_312) rfl (decide_eq_true rfl) (by decide) (by decide) k) ?_
              refine own_go (T' := T505) (g' := (mkF m 316 #[iv x0, iv x1, rv b42, rv b61, rv b90, rv b130, rv b182, rv b247, rv b326, iv (1 : Int32), iv w422, iv w449, iv w476, rv b42, rv b42, rv b42] [(.int (1 : Int32))])) (fun t k => XS.iconst X505.here hx rfl (hb hby at_315) k) ?_
              refine own_go (T' := T505) (g' := (mkF m 320 #[iv x0, iv x1, rv b42, rv b61, rv b90, rv b130, rv b182, rv b247, rv b326, iv (1 : Int32), iv w422, iv w449, iv w476, rv b42, rv b42, rv b42] [(.int (1 : Int32))])) (fun t k => XS.goto X505.here hx rfl (pc0 := 316) (pc' := 320) rfl (hb hby at_316) (by decide) (by decide) k) ?_
              exact own_ret X505 hlk hx Bd.returns rfl (Or.inl ⟨rfl, Or.inr (Or.inl rfl), _, rfl⟩) (hb hby at_320) (by first | exact ⟨rfl, N505⟩ | (rw [Fr] at *; exact ⟨rfl, by simpa using N505⟩)) (by decide) (by decide)
          · refine own_go (T' := T475) (g' := (mkF m 265 #[iv x0, iv x1, rv b42, rv b61, rv b90, rv b130, rv b182, rv b247, rv b326, iv (1 : Int32), iv w422, iv w449, iv w476, rv b42, rv b42, .unset] [])) (fun t k => XS.ifNo X475.here hx rfl (hb hby at_262) rfl ((if0 _ _).trans (feq hc502).1) k) ?_
            refine own_go (T' := T475) (g' := (mkF m 267 #[iv x0, iv x1, rv b42, rv b61, rv b90, rv b130, rv b182, rv b247, rv b326, iv (1 : Int32), iv w422, iv w449, iv w476, rv b42, rv b42, .unset] [(.ref b42)])) (fun t k => XS.aload X475.here hx rfl (hb hby at_265) rfl rfl k) ?_
            refine own_go (T' := T475) (g' := (mkF m 269 #[iv x0, iv x1, rv b42, rv b61, rv b90, rv b130, rv b182, rv b247, rv b326, iv (1 : Int32), iv w422, iv w449, iv w476, rv b42, rv b42, .unset] [(.ref b182), (.ref b42)])) (fun t k => XS.aload X475.here hx rfl (hb hby at_267) rfl rfl k) ?_
            obtain ⟨T506, h506, X506, e506, W506, st506⟩ := putF X475 hx hZ hown (host := "") (Or.inl (hw _ (List.mem_of_getElem? (i := 29) rfl))) Via.refl e475 j481 j480 (Or.inl (hw _ (List.mem_of_getElem? (i := 30) rfl))) (hw _ (List.mem_of_getElem? (i := 1) rfl)) (ty := (.object "com/example/treeline/treeline/Node")) (by decide) rfl rfl (g := (mkF m 269 #[iv x0, iv x1, rv b42, rv b61, rv b90, rv b130, rv b182, rv b247, rv b326, iv (1 : Int32), iv w422, iv w449, iv w476, rv b42, rv b42, .unset] [(.ref b182), (.ref b42)])) rfl rfl (hb hby at_269)
            have hz506 : n0 ≤ h506.size := Nat.le_trans hz475 (Keep.of_wr W506).1
            have N506 := Fr.snoc X506 N475 gn42
            have c507 := j480.wr W506
            have c508 := j481.same W506
            have c509 := j482.other W506 (Or.inr (slot_ne (Or.inl (hw _ (List.mem_of_getElem? (i := 28) rfl))) (Or.inl (hw _ (List.mem_of_getElem? (i := 30) rfl))) (by decide) (t := (.object "com/example/treeline/treeline/Node")) (t' := (.object "com/example/treeline/treeline/Node")) (by decide) (by decide)))
            have c510 := j483.wr W506
            have c511 := j484.other W506 (Or.inl (Ne.symm ne67))
            have c512 := j485.other W506 (Or.inl (Ne.symm ne67))
            have c513 := j486.wr W506
            have c514 := j487.other W506 (Or.inl (Ne.symm ne96))
            have c515 := j488.other W506 (Or.inl (Ne.symm ne96))
            have c516 := j489.wr W506
            have c517 := j490.other W506 (Or.inl (Ne.symm ne136))
            have c518 := j491.other W506 (Or.inl (Ne.symm ne136))
            have c519 := j492.wr W506
            have c520 := j493.other W506 (Or.inl (Ne.symm ne188))
            have c521 := j494.other W506 (Or.inl (Ne.symm ne188))
            have c522 := j495.wr W506
            have c523 := j496.other W506 (Or.inl (Ne.symm ne253))
            have c524 := j497.other W506 (Or.inl (Ne.symm ne253))
            have c525 := j498.wr W506
            have c526 := j499.other W506 (Or.inl (Ne.symm ne332))
            have c527 := j500.other W506 (Or.inl (Ne.symm ne332))
            refine own_go (T' := T506) (g' := (mkF m 272 #[iv x0, iv x1, rv b42, rv b61, rv b90, rv b130, rv b182, rv b247, rv b326, iv (1 : Int32), iv w422, iv w449, iv w476, rv b42, rv b42, .unset] [])) (st506) ?_
            refine own_go (T' := T506) (g' := (mkF m 274 #[iv x0, iv x1, rv b42, rv b61, rv b90, rv b130, rv b182, rv b247, rv b326, iv (1 : Int32), iv w422, iv w449, iv w476, rv b42, rv b42, .unset] [(.int w449)])) (fun t k => XS.iload X506.here hx rfl (hb hby at_272) rfl k) ?_
            by_cases hc528 : w449 = (0 : Int32)
            · refine own_go (T' := T506) (g' := (mkF m 284 #[iv x0, iv x1, rv b42, rv b61, rv b90, rv b130, rv b182, rv b247, rv b326, iv (1 : Int32), iv w422, iv w449, iv w476, rv b42, rv b42, .unset] [])) (fun t k => XS.ifYes X506.here hx rfl (pc0 := 274) (pc' := 284) rfl (hb hby at_274) rfl ((if0 _ _).trans (teq hc528).1) (by decide) (by decide) k) ?_
              refine own_go (T' := T506) (g' := (mkF m 286 #[iv x0, iv x1, rv b42, rv b61, rv b90, rv b130, rv b182, rv b247, rv b326, iv (1 : Int32), iv w422, iv w449, iv w476, rv b42, rv b42, .unset] [(.int w476)])) (fun t k => XS.iload X506.here hx rfl (hb hby at_284) rfl k) ?_
              by_cases hc529 : w476 = (0 : Int32)
              · refine own_go (T' := T506) (g' := (mkF m 301 #[iv x0, iv x1, rv b42, rv b61, rv b90, rv b130, rv b182, rv b247, rv b326, iv (1 : Int32), iv w422, iv w449, iv w476, rv b42, rv b42, .unset] [])) (fun t k => XS.ifYes X506.here hx rfl (pc0 := 286) (pc' := 301) rfl (hb hby at_286) rfl ((if0 _ _).trans (teq hc529).1) (by decide) (by decide) k) ?_
                refine own_go (T' := T506) (g' := (mkF m 303 #[iv x0, iv x1, rv b42, rv b61, rv b90, rv b130, rv b182, rv b247, rv b326, iv (1 : Int32), iv w422, iv w449, iv w476, rv b42, rv b42, .unset] [(.ref b42)])) (fun t k => XS.aload X506.here hx rfl (hb hby at_301) rfl rfl k) ?_
                obtain ⟨_, _, ⟨T530, L530, k530, n530⟩, -, X530, ⟨Lc530, hQ530, l530, y530, z530⟩, st530⟩ := Jvm.LawKit.callS X506 hx (y := (⟨"com/example/treeline/treeline/Node", "highest", "(Lcom/example/treeline/treeline/Node;)Lcom/example/treeline/treeline/Node;"⟩ : MethodName)) hown (mvT hZ (hw _ (List.mem_of_getElem? (i := 24) rfl))) (mvT hZ (hw _ (List.mem_of_getElem? (i := 25) rfl))) (mvT hZ (hw _ (List.mem_of_getElem? (i := 2) rfl))) (mvT hZ (hw _ (List.mem_of_getElem? (i := 26) rfl))) (by decide) (backOf (W := 0) (own_rhi1 l Z a0 hw [] b42 h506 n0 hz506 c509) hZ (hw _ (List.mem_of_getElem? (i := 26) rfl)) (hw _ (List.mem_of_getElem? (i := 2) rfl)) (by decide) (by decide)) (g := (mkF m 303 #[iv x0, iv x1, rv b42, rv b61, rv b90, rv b130, rv b182, rv b247, rv b326, iv (1 : Int32), iv w422, iv w449, iv w476, rv b42, rv b42, .unset] [(.ref b42)])) rfl (by rw [hml]; rfl) (argsL := [(.ref b42)]) (rest := []) (lenOf own_pd2 rfl) rfl (by show 2 * 0 + _ ≤ _; exact Nat.le_of_eq rfl) (hb hby at_303) (fun _ _ => ⟨rfl, e506, (by decide : 7 + 0 ≤ _), (by decide : 35 + 0 ≤ _)⟩)
                dsimp only [Pt.U, Pt.locs, Pt.cells, Pt.slots] at X530 l530 y530 z530 st530 hQ530
                subst l530 y530 z530
                obtain ⟨rfl, rfl, e530⟩ := hQ530
                have E530q : T530.heap = h506 := e530
                have N530 := Fr.app N506 (Fr.nil n0)
                refine own_go (T' := T530) (g' := (mkF m 306 #[iv x0, iv x1, rv b42, rv b61, rv b90, rv b130, rv b182, rv b247, rv b326, iv (1 : Int32), iv w422, iv w449, iv w476, rv b42, rv b42, .unset] [(.ref b42)])) (st530) ?_
                refine own_go (T' := T530) (g' := (mkF m 308 #[iv x0, iv x1, rv b42, rv b61, rv b90, rv b130, rv b182, rv b247, rv b326, iv (1 : Int32), iv w422, iv w449, iv w476, rv b42, rv b42, rv b42] [])) (fun t k => XS.astore X530.here hx rfl (hb hby at_306) rfl rfl (l' := #[iv x0, iv x1, rv b42, rv b61, rv b90, rv b130, rv b182, rv b247, rv b326, iv (1 : Int32), iv w422, iv w449, iv w476, rv b42, rv b42, rv b42]) rfl k) ?_
                refine own_go (T' := T530) (g' := (mkF m 310 #[iv x0, iv x1, rv b42, rv b61, rv b90, rv b130, rv b182, rv b247, rv b326, iv (1 : Int32), iv w422, iv w449, iv w476, rv b42, rv b42, rv b42] [(.ref b42)])) (fun t k => XS.aload X530.here hx rfl (hb hby at_308) rfl rfl k) ?_
                refine own_go (T' := T530) (g' := (mkF m 312 #[iv x0, iv x1, rv b42, rv b61, rv b90, rv b130, rv b182, rv b247, rv b326, iv (1 : Int32), iv w422, iv w449, iv w476, rv b42, rv b42, rv b42] [(.ref b42), (.ref b42)])) (fun t k => XS.aload X530.here hx rfl (hb hby at_310) rfl rfl k) ?_
                refine own_go (T' := T530) (g' := (mkF m 315 #[iv x0, iv x1, rv b42, rv b61, rv b90, rv b130, rv b182, rv b247, rv b326, iv (1 : Int32), iv w422, iv w449, iv w476, rv b42, rv b42, rv b42] [])) (fun t k => Jvm.RoadKit.acmp (g := (mkF m 312 #[iv x0, iv x1, rv b42, rv b61, rv b90, rv b130, rv b182, rv b247, rv b326, iv (1 : Int32), iv w422, iv w449, iv w476, rv b42, rv b42, rv b42] [(.ref b42), (.ref b42)])) X530 hx rfl (x := (.ref b42)) (y := (.ref b42)) rfl rfl (pc0 := 312) (pc' := 315) (same := true) rfl (hb hby at_312) rfl (decide_eq_true rfl) (by decide) (by decide) k) ?_
                refine own_go (T' := T530) (g' := (mkF m 316 #[iv x0, iv x1, rv b42, rv b61, rv b90, rv b130, rv b182, rv b247, rv b326, iv (1 : Int32), iv w422, iv w449, iv w476, rv b42, rv b42, rv b42] [(.int (1 : Int32))])) (fun t k => XS.iconst X530.here hx rfl (hb hby at_315) k) ?_
                refine own_go (T' := T530) (g' := (mkF m 320 #[iv x0, iv x1, rv b42, rv b61, rv b90, rv b130, rv b182, rv b247, rv b326, iv (1 : Int32), iv w422, iv w449, iv w476, rv b42, rv b42, rv b42] [(.int (1 : Int32))])) (fun t k => XS.goto X530.here hx rfl (pc0 := 316) (pc' := 320) rfl (hb hby at_316) (by decide) (by decide) k) ?_
                exact own_ret X530 hlk hx Bd.returns rfl (Or.inl ⟨rfl, Or.inr (Or.inl rfl), _, rfl⟩) (hb hby at_320) (by first | exact ⟨rfl, N530⟩ | (rw [Fr] at *; exact ⟨rfl, by simpa using N530⟩)) (by decide) (by decide)
              · refine own_go (T' := T506) (g' := (mkF m 289 #[iv x0, iv x1, rv b42, rv b61, rv b90, rv b130, rv b182, rv b247, rv b326, iv (1 : Int32), iv w422, iv w449, iv w476, rv b42, rv b42, .unset] [])) (fun t k => XS.ifNo X506.here hx rfl (hb hby at_286) rfl ((if0 _ _).trans (feq hc529).1) k) ?_
                refine own_go (T' := T506) (g' := (mkF m 291 #[iv x0, iv x1, rv b42, rv b61, rv b90, rv b130, rv b182, rv b247, rv b326, iv (1 : Int32), iv w422, iv w449, iv w476, rv b42, rv b42, .unset] [(.ref b42)])) (fun t k => XS.aload X506.here hx rfl (hb hby at_289) rfl rfl k) ?_
                refine own_go (T' := T506) (g' := (mkF m 292 #[iv x0, iv x1, rv b42, rv b61, rv b90, rv b130, rv b182, rv b247, rv b326, iv (1 : Int32), iv w422, iv w449, iv w476, rv b42, rv b42, .unset] [(.ref b42), (.ref b42)])) (fun t k => XS.aloadN X506.here hx rfl (hb hby at_291) rfl rfl k) ?_
                refine own_go (T' := T506) (g' := (mkF m 301 #[iv x0, iv x1, rv b42, rv b61, rv b90, rv b130, rv b182, rv b247, rv b326, iv (1 : Int32), iv w422, iv w449, iv w476, rv b42, rv b42, .unset] [])) (fun t k => Jvm.RoadKit.acmp (g := (mkF m 292 #[iv x0, iv x1, rv b42, rv b61, rv b90, rv b130, rv b182, rv b247, rv b326, iv (1 : Int32), iv w422, iv w449, iv w476, rv b42, rv b42, .unset] [(.ref b42), (.ref b42)])) X506 hx rfl (x := (.ref b42)) (y := (.ref b42)) rfl rfl (pc0 := 292) (pc' := 301) (same := true) rfl (hb hby at_292) rfl (decide_eq_true rfl) (by decide) (by decide) k) ?_
                refine own_go (T' := T506) (g' := (mkF m 303 #[iv x0, iv x1, rv b42, rv b61, rv b90, rv b130, rv b182, rv b247, rv b326, iv (1 : Int32), iv w422, iv w449, iv w476, rv b42, rv b42, .unset] [(.ref b42)])) (fun t k => XS.aload X506.here hx rfl (hb hby at_301) rfl rfl k) ?_
                obtain ⟨_, _, ⟨T531, L531, k531, n531⟩, -, X531, ⟨Lc531, hQ531, l531, y531, z531⟩, st531⟩ := Jvm.LawKit.callS X506 hx (y := (⟨"com/example/treeline/treeline/Node", "highest", "(Lcom/example/treeline/treeline/Node;)Lcom/example/treeline/treeline/Node;"⟩ : MethodName)) hown (mvT hZ (hw _ (List.mem_of_getElem? (i := 24) rfl))) (mvT hZ (hw _ (List.mem_of_getElem? (i := 25) rfl))) (mvT hZ (hw _ (List.mem_of_getElem? (i := 2) rfl))) (mvT hZ (hw _ (List.mem_of_getElem? (i := 26) rfl))) (by decide) (backOf (W := 0) (own_rhi1 l Z a0 hw [] b42 h506 n0 hz506 c509) hZ (hw _ (List.mem_of_getElem? (i := 26) rfl)) (hw _ (List.mem_of_getElem? (i := 2) rfl)) (by decide) (by decide)) (g := (mkF m 303 #[iv x0, iv x1, rv b42, rv b61, rv b90, rv b130, rv b182, rv b247, rv b326, iv (1 : Int32), iv w422, iv w449, iv w476, rv b42, rv b42, .unset] [(.ref b42)])) rfl (by rw [hml]; rfl) (argsL := [(.ref b42)]) (rest := []) (lenOf own_pd2 rfl) rfl (by show 2 * 0 + _ ≤ _; exact Nat.le_of_eq rfl) (hb hby at_303) (fun _ _ => ⟨rfl, e506, (by decide : 7 + 0 ≤ _), (by decide : 35 + 0 ≤ _)⟩)
                dsimp only [Pt.U, Pt.locs, Pt.cells, Pt.slots] at X531 l531 y531 z531 st531 hQ531
                subst l531 y531 z531
                obtain ⟨rfl, rfl, e531⟩ := hQ531
                have E531q : T531.heap = h506 := e531
                have N531 := Fr.app N506 (Fr.nil n0)
                refine own_go (T' := T531) (g' := (mkF m 306 #[iv x0, iv x1, rv b42, rv b61, rv b90, rv b130, rv b182, rv b247, rv b326, iv (1 : Int32), iv w422, iv w449, iv w476, rv b42, rv b42, .unset] [(.ref b42)])) (st531) ?_
                refine own_go (T' := T531) (g' := (mkF m 308 #[iv x0, iv x1, rv b42, rv b61, rv b90, rv b130, rv b182, rv b247, rv b326, iv (1 : Int32), iv w422, iv w449, iv w476, rv b42, rv b42, rv b42] [])) (fun t k => XS.astore X531.here hx rfl (hb hby at_306) rfl rfl (l' := #[iv x0, iv x1, rv b42, rv b61, rv b90, rv b130, rv b182, rv b247, rv b326, iv (1 : Int32), iv w422, iv w449, iv w476, rv b42, rv b42, rv b42]) rfl k) ?_
                refine own_go (T' := T531) (g' := (mkF m 310 #[iv x0, iv x1, rv b42, rv b61, rv b90, rv b130, rv b182, rv b247, rv b326, iv (1 : Int32), iv w422, iv w449, iv w476, rv b42, rv b42, rv b42] [(.ref b42)])) (fun t k => XS.aload X531.here hx rfl (hb hby at_308) rfl rfl k) ?_
                refine own_go (T' := T531) (g' := (mkF m 312 #[iv x0, iv x1, rv b42, rv b61, rv b90, rv b130, rv b182, rv b247, rv b326, iv (1 : Int32), iv w422, iv w449, iv w476, rv b42, rv b42, rv b42] [(.ref b42), (.ref b42)])) (fun t k => XS.aload X531.here hx rfl (hb hby at_310) rfl rfl k) ?_
                refine own_go (T' := T531) (g' := (mkF m 315 #[iv x0, iv x1, rv b42, rv b61, rv b90, rv b130, rv b182, rv b247, rv b326, iv (1 : Int32), iv w422, iv w449, iv w476, rv b42, rv b42, rv b42] [])) (fun t k => Jvm.RoadKit.acmp (g := (mkF m 312 #[iv x0, iv x1, rv b42, rv b61, rv b90, rv b130, rv b182, rv b247, rv b326, iv (1 : Int32), iv w422, iv w449, iv w476, rv b42, rv b42, rv b42] [(.ref b42), (.ref b42)])) X531 hx rfl (x := (.ref b42)) (y := (.ref b42)) rfl rfl (pc0 := 312) (pc' := 315) (same := true) rfl (hb hby at_312) rfl (decide_eq_true rfl) (by decide) (by decide) k) ?_
                refine own_go (T' := T531) (g' := (mkF m 316 #[iv x0, iv x1, rv b42, rv b61, rv b90, rv b130, rv b182, rv b247, rv b326, iv (1 : Int32), iv w422, iv w449, iv w476, rv b42, rv b42, rv b42] [(.int (1 : Int32))])) (fun t k => XS.iconst X531.here hx rfl (hb hby at_315) k) ?_
                refine own_go (T' := T531) (g' := (mkF m 320 #[iv x0, iv x1, rv b42, rv b61, rv b90, rv b130, rv b182, rv b247, rv b326, iv (1 : Int32), iv w422, iv w449, iv w476, rv b42, rv b42, rv b42] [(.int (1 : Int32))])) (fun t k => XS.goto X531.here hx rfl (pc0 := 316) (pc' := 320) rfl (hb hby at_316) (by decide) (by decide) k) ?_
                exact own_ret X531 hlk hx Bd.returns rfl (Or.inl ⟨rfl, Or.inr (Or.inl rfl), _, rfl⟩) (hb hby at_320) (by first | exact ⟨rfl, N531⟩ | (rw [Fr] at *; exact ⟨rfl, by simpa using N531⟩)) (by decide) (by decide)
            · refine own_go (T' := T506) (g' := (mkF m 277 #[iv x0, iv x1, rv b42, rv b61, rv b90, rv b130, rv b182, rv b247, rv b326, iv (1 : Int32), iv w422, iv w449, iv w476, rv b42, rv b42, .unset] [])) (fun t k => XS.ifNo X506.here hx rfl (hb hby at_274) rfl ((if0 _ _).trans (feq hc528).1) k) ?_
              refine own_go (T' := T506) (g' := (mkF m 279 #[iv x0, iv x1, rv b42, rv b61, rv b90, rv b130, rv b182, rv b247, rv b326, iv (1 : Int32), iv w422, iv w449, iv w476, rv b42, rv b42, .unset] [(.ref b182)])) (fun t k => XS.aload X506.here hx rfl (hb hby at_277) rfl rfl k) ?_
              refine own_go (T' := T506) (g' := (mkF m 281 #[iv x0, iv x1, rv b42, rv b61, rv b90, rv b130, rv b182, rv b247, rv b326, iv (1 : Int32), iv w422, iv w449, iv w476, rv b42, rv b42, .unset] [(.ref b247), (.ref b182)])) (fun t k => XS.aload X506.here hx rfl (hb hby at_279) rfl rfl k) ?_
              obtain ⟨T532, h532, X532, e532, W532, st532⟩ := putF X506 hx hZ hown (host := "") (Or.inl (hw _ (List.mem_of_getElem? (i := 27) rfl))) Via.refl e506 c521 c519 (Or.inl (hw _ (List.mem_of_getElem? (i := 28) rfl))) (hw _ (List.mem_of_getElem? (i := 1) rfl)) (ty := (.object "com/example/treeline/treeline/Node")) (by decide) rfl rfl (g := (mkF m 281 #[iv x0, iv x1, rv b42, rv b61, rv b90, rv b130, rv b182, rv b247, rv b326, iv (1 : Int32), iv w422, iv w449, iv w476, rv b42, rv b42, .unset] [(.ref b247), (.ref b182)])) rfl rfl (hb hby at_281)
              have hz532 : n0 ≤ h532.size := Nat.le_trans hz506 (Keep.of_wr W532).1
              have N532 := Fr.snoc X532 N506 gn182
              have c533 := c507.wr W532
              have c534 := c508.other W532 (Or.inl ne188)
              have c535 := c509.other W532 (Or.inl ne188)
              have c536 := c510.wr W532
              have c537 := c511.other W532 (Or.inl ne192)
              have c538 := c512.other W532 (Or.inl ne192)
              have c539 := c513.wr W532
              have c540 := c514.other W532 (Or.inl ne196)
              have c541 := c515.other W532 (Or.inl ne196)
              have c542 := c516.wr W532
              have c543 := c517.other W532 (Or.inl ne200)
              have c544 := c518.other W532 (Or.inl ne200)
              have c545 := c519.wr W532
              have c546 := c520.other W532 (Or.inr (slot_ne (Or.inl (hw _ (List.mem_of_getElem? (i := 30) rfl))) (Or.inl (hw _ (List.mem_of_getElem? (i := 28) rfl))) (by decide) (t := (.object "com/example/treeline/treeline/Node")) (t' := (.object "com/example/treeline/treeline/Node")) (by decide) (by decide)))
              have c547 := c521.same W532
              have c548 := c522.wr W532
              have c549 := c523.other W532 (Or.inl (Ne.symm ne269))
              have c550 := c524.other W532 (Or.inl (Ne.symm ne269))
              have c551 := c525.wr W532
              have c552 := c526.other W532 (Or.inl (Ne.symm ne348))
              have c553 := c527.other W532 (Or.inl (Ne.symm ne348))
              refine own_go (T' := T532) (g' := (mkF m 284 #[iv x0, iv x1, rv b42, rv b61, rv b90, rv b130, rv b182, rv b247, rv b326, iv (1 : Int32), iv w422, iv w449, iv w476, rv b42, rv b42, .unset] [])) (st532) ?_
              refine own_go (T' := T532) (g' := (mkF m 286 #[iv x0, iv x1, rv b42, rv b61, rv b90, rv b130, rv b182, rv b247, rv b326, iv (1 : Int32), iv w422, iv w449, iv w476, rv b42, rv b42, .unset] [(.int w476)])) (fun t k => XS.iload X532.here hx rfl (hb hby at_284) rfl k) ?_
              by_cases hc554 : w476 = (0 : Int32)
              · refine own_go (T' := T532) (g' := (mkF m 301 #[iv x0, iv x1, rv b42, rv b61, rv b90, rv b130, rv b182, rv b247, rv b326, iv (1 : Int32), iv w422, iv w449, iv w476, rv b42, rv b42, .unset] [])) (fun t k => XS.ifYes X532.here hx rfl (pc0 := 286) (pc' := 301) rfl (hb hby at_286) rfl ((if0 _ _).trans (teq hc554).1) (by decide) (by decide) k) ?_
                refine own_go (T' := T532) (g' := (mkF m 303 #[iv x0, iv x1, rv b42, rv b61, rv b90, rv b130, rv b182, rv b247, rv b326, iv (1 : Int32), iv w422, iv w449, iv w476, rv b42, rv b42, .unset] [(.ref b42)])) (fun t k => XS.aload X532.here hx rfl (hb hby at_301) rfl rfl k) ?_
                obtain ⟨_, _, ⟨T555, L555, k555, n555⟩, -, X555, ⟨Lc555, hQ555, l555, y555, z555⟩, st555⟩ := Jvm.LawKit.callS X532 hx (y := (⟨"com/example/treeline/treeline/Node", "highest", "(Lcom/example/treeline/treeline/Node;)Lcom/example/treeline/treeline/Node;"⟩ : MethodName)) hown (mvT hZ (hw _ (List.mem_of_getElem? (i := 24) rfl))) (mvT hZ (hw _ (List.mem_of_getElem? (i := 25) rfl))) (mvT hZ (hw _ (List.mem_of_getElem? (i := 2) rfl))) (mvT hZ (hw _ (List.mem_of_getElem? (i := 26) rfl))) (by decide) (backOf (W := 0) (own_rhi1 l Z a0 hw [] b42 h532 n0 hz532 c535) hZ (hw _ (List.mem_of_getElem? (i := 26) rfl)) (hw _ (List.mem_of_getElem? (i := 2) rfl)) (by decide) (by decide)) (g := (mkF m 303 #[iv x0, iv x1, rv b42, rv b61, rv b90, rv b130, rv b182, rv b247, rv b326, iv (1 : Int32), iv w422, iv w449, iv w476, rv b42, rv b42, .unset] [(.ref b42)])) rfl (by rw [hml]; rfl) (argsL := [(.ref b42)]) (rest := []) (lenOf own_pd2 rfl) rfl (by show 2 * 0 + _ ≤ _; exact Nat.le_of_eq rfl) (hb hby at_303) (fun _ _ => ⟨rfl, e532, (by decide : 7 + 0 ≤ _), (by decide : 35 + 0 ≤ _)⟩)
                dsimp only [Pt.U, Pt.locs, Pt.cells, Pt.slots] at X555 l555 y555 z555 st555 hQ555
                subst l555 y555 z555
                obtain ⟨rfl, rfl, e555⟩ := hQ555
                have E555q : T555.heap = h532 := e555
                have N555 := Fr.app N532 (Fr.nil n0)
                refine own_go (T' := T555) (g' := (mkF m 306 #[iv x0, iv x1, rv b42, rv b61, rv b90, rv b130, rv b182, rv b247, rv b326, iv (1 : Int32), iv w422, iv w449, iv w476, rv b42, rv b42, .unset] [(.ref b42)])) (st555) ?_
                refine own_go (T' := T555) (g' := (mkF m 308 #[iv x0, iv x1, rv b42, rv b61, rv b90, rv b130, rv b182, rv b247, rv b326, iv (1 : Int32), iv w422, iv w449, iv w476, rv b42, rv b42, rv b42] [])) (fun t k => XS.astore X555.here hx rfl (hb hby at_306) rfl rfl (l' := #[iv x0, iv x1, rv b42, rv b61, rv b90, rv b130, rv b182, rv b247, rv b326, iv (1 : Int32), iv w422, iv w449, iv w476, rv b42, rv b42, rv b42]) rfl k) ?_
                refine own_go (T' := T555) (g' := (mkF m 310 #[iv x0, iv x1, rv b42, rv b61, rv b90, rv b130, rv b182, rv b247, rv b326, iv (1 : Int32), iv w422, iv w449, iv w476, rv b42, rv b42, rv b42] [(.ref b42)])) (fun t k => XS.aload X555.here hx rfl (hb hby at_308) rfl rfl k) ?_
                refine own_go (T' := T555) (g' := (mkF m 312 #[iv x0, iv x1, rv b42, rv b61, rv b90, rv b130, rv b182, rv b247, rv b326, iv (1 : Int32), iv w422, iv w449, iv w476, rv b42, rv b42, rv b42] [(.ref b42), (.ref b42)])) (fun t k => XS.aload X555.here hx rfl (hb hby at_310) rfl rfl k) ?_
                refine own_go (T' := T555) (g' := (mkF m 315 #[iv x0, iv x1, rv b42, rv b61, rv b90, rv b130, rv b182, rv b247, rv b326, iv (1 : Int32), iv w422, iv w449, iv w476, rv b42, rv b42, rv b42] [])) (fun t k => Jvm.RoadKit.acmp (g := (mkF m 312 #[iv x0, iv x1, rv b42, rv b61, rv b90, rv b130, rv b182, rv b247, rv b326, iv (1 : Int32), iv w422, iv w449, iv w476, rv b42, rv b42, rv b42] [(.ref b42), (.ref b42)])) X555 hx rfl (x := (.ref b42)) (y := (.ref b42)) rfl rfl (pc0 := 312) (pc' := 315) (same := true) rfl (hb hby at_312) rfl (decide_eq_true rfl) (by decide) (by decide) k) ?_
                refine own_go (T' := T555) (g' := (mkF m 316 #[iv x0, iv x1, rv b42, rv b61, rv b90, rv b130, rv b182, rv b247, rv b326, iv (1 : Int32), iv w422, iv w449, iv w476, rv b42, rv b42, rv b42] [(.int (1 : Int32))])) (fun t k => XS.iconst X555.here hx rfl (hb hby at_315) k) ?_
                refine own_go (T' := T555) (g' := (mkF m 320 #[iv x0, iv x1, rv b42, rv b61, rv b90, rv b130, rv b182, rv b247, rv b326, iv (1 : Int32), iv w422, iv w449, iv w476, rv b42, rv b42, rv b42] [(.int (1 : Int32))])) (fun t k => XS.goto X555.here hx rfl (pc0 := 316) (pc' := 320) rfl (hb hby at_316) (by decide) (by decide) k) ?_
                exact own_ret X555 hlk hx Bd.returns rfl (Or.inl ⟨rfl, Or.inr (Or.inl rfl), _, rfl⟩) (hb hby at_320) (by first | exact ⟨rfl, N555⟩ | (rw [Fr] at *; exact ⟨rfl, by simpa using N555⟩)) (by decide) (by decide)
              · refine own_go (T' := T532) (g' := (mkF m 289 #[iv x0, iv x1, rv b42, rv b61, rv b90, rv b130, rv b182, rv b247, rv b326, iv (1 : Int32), iv w422, iv w449, iv w476, rv b42, rv b42, .unset] [])) (fun t k => XS.ifNo X532.here hx rfl (hb hby at_286) rfl ((if0 _ _).trans (feq hc554).1) k) ?_
                refine own_go (T' := T532) (g' := (mkF m 291 #[iv x0, iv x1, rv b42, rv b61, rv b90, rv b130, rv b182, rv b247, rv b326, iv (1 : Int32), iv w422, iv w449, iv w476, rv b42, rv b42, .unset] [(.ref b42)])) (fun t k => XS.aload X532.here hx rfl (hb hby at_289) rfl rfl k) ?_
                refine own_go (T' := T532) (g' := (mkF m 292 #[iv x0, iv x1, rv b42, rv b61, rv b90, rv b130, rv b182, rv b247, rv b326, iv (1 : Int32), iv w422, iv w449, iv w476, rv b42, rv b42, .unset] [(.ref b42), (.ref b42)])) (fun t k => XS.aloadN X532.here hx rfl (hb hby at_291) rfl rfl k) ?_
                refine own_go (T' := T532) (g' := (mkF m 301 #[iv x0, iv x1, rv b42, rv b61, rv b90, rv b130, rv b182, rv b247, rv b326, iv (1 : Int32), iv w422, iv w449, iv w476, rv b42, rv b42, .unset] [])) (fun t k => Jvm.RoadKit.acmp (g := (mkF m 292 #[iv x0, iv x1, rv b42, rv b61, rv b90, rv b130, rv b182, rv b247, rv b326, iv (1 : Int32), iv w422, iv w449, iv w476, rv b42, rv b42, .unset] [(.ref b42), (.ref b42)])) X532 hx rfl (x := (.ref b42)) (y := (.ref b42)) rfl rfl (pc0 := 292) (pc' := 301) (same := true) rfl (hb hby at_292) rfl (decide_eq_true rfl) (by decide) (by decide) k) ?_
                refine own_go (T' := T532) (g' := (mkF m 303 #[iv x0, iv x1, rv b42, rv b61, rv b90, rv b130, rv b182, rv b247, rv b326, iv (1 : Int32), iv w422, iv w449, iv w476, rv b42, rv b42, .unset] [(.ref b42)])) (fun t k => XS.aload X532.here hx rfl (hb hby at_301) rfl rfl k) ?_
                obtain ⟨_, _, ⟨T556, L556, k556, n556⟩, -, X556, ⟨Lc556, hQ556, l556, y556, z556⟩, st556⟩ := Jvm.LawKit.callS X532 hx (y := (⟨"com/example/treeline/treeline/Node", "highest", "(Lcom/example/treeline/treeline/Node;)Lcom/example/treeline/treeline/Node;"⟩ : MethodName)) hown (mvT hZ (hw _ (List.mem_of_getElem? (i := 24) rfl))) (mvT hZ (hw _ (List.mem_of_getElem? (i := 25) rfl))) (mvT hZ (hw _ (List.mem_of_getElem? (i := 2) rfl))) (mvT hZ (hw _ (List.mem_of_getElem? (i := 26) rfl))) (by decide) (backOf (W := 0) (own_rhi1 l Z a0 hw [] b42 h532 n0 hz532 c535) hZ (hw _ (List.mem_of_getElem? (i := 26) rfl)) (hw _ (List.mem_of_getElem? (i := 2) rfl)) (by decide) (by decide)) (g := (mkF m 303 #[iv x0, iv x1, rv b42, rv b61, rv b90, rv b130, rv b182, rv b247, rv b326, iv (1 : Int32), iv w422, iv w449, iv w476, rv b42, rv b42, .unset] [(.ref b42)])) rfl (by rw [hml]; rfl) (argsL := [(.ref b42)]) (rest := []) (lenOf own_pd2 rfl) rfl (by show 2 * 0 + _ ≤ _; exact Nat.le_of_eq rfl) (hb hby at_303) (fun _ _ => ⟨rfl, e532, (by decide : 7 + 0 ≤ _), (by decide : 35 + 0 ≤ _)⟩)
                dsimp only [Pt.U, Pt.locs, Pt.cells, Pt.slots] at X556 l556 y556 z556 st556 hQ556
                subst l556 y556 z556
                obtain ⟨rfl, rfl, e556⟩ := hQ556
                have E556q : T556.heap = h532 := e556
                have N556 := Fr.app N532 (Fr.nil n0)
                refine own_go (T' := T556) (g' := (mkF m 306 #[iv x0, iv x1, rv b42, rv b61, rv b90, rv b130, rv b182, rv b247, rv b326, iv (1 : Int32), iv w422, iv w449, iv w476, rv b42, rv b42, .unset] [(.ref b42)])) (st556) ?_
                refine own_go (T' := T556) (g' := (mkF m 308 #[iv x0, iv x1, rv b42, rv b61, rv b90, rv b130, rv b182, rv b247, rv b326, iv (1 : Int32), iv w422, iv w449, iv w476, rv b42, rv b42, rv b42] [])) (fun t k => XS.astore X556.here hx rfl (hb hby at_306) rfl rfl (l' := #[iv x0, iv x1, rv b42, rv b61, rv b90, rv b130, rv b182, rv b247, rv b326, iv (1 : Int32), iv w422, iv w449, iv w476, rv b42, rv b42, rv b42]) rfl k) ?_
                refine own_go (T' := T556) (g' := (mkF m 310 #[iv x0, iv x1, rv b42, rv b61, rv b90, rv b130, rv b182, rv b247, rv b326, iv (1 : Int32), iv w422, iv w449, iv w476, rv b42, rv b42, rv b42] [(.ref b42)])) (fun t k => XS.aload X556.here hx rfl (hb hby at_308) rfl rfl k) ?_
                refine own_go (T' := T556) (g' := (mkF m 312 #[iv x0, iv x1, rv b42, rv b61, rv b90, rv b130, rv b182, rv b247, rv b326, iv (1 : Int32), iv w422, iv w449, iv w476, rv b42, rv b42, rv b42] [(.ref b42), (.ref b42)])) (fun t k => XS.aload X556.here hx rfl (hb hby at_310) rfl rfl k) ?_
                refine own_go (T' := T556) (g' := (mkF m 315 #[iv x0, iv x1, rv b42, rv b61, rv b90, rv b130, rv b182, rv b247, rv b326, iv (1 : Int32), iv w422, iv w449, iv w476, rv b42, rv b42, rv b42] [])) (fun t k => Jvm.RoadKit.acmp (g := (mkF m 312 #[iv x0, iv x1, rv b42, rv b61, rv b90, rv b130, rv b182, rv b247, rv b326, iv (1 : Int32), iv w422, iv w449, iv w476, rv b42, rv b42, rv b42] [(.ref b42), (.ref b42)])) X556 hx rfl (x := (.ref b42)) (y := (.ref b42)) rfl rfl (pc0 := 312) (pc' := 315) (same := true) rfl (hb hby at_312) rfl (decide_eq_true rfl) (by decide) (by decide) k) ?_
                refine own_go (T' := T556) (g' := (mkF m 316 #[iv x0, iv x1, rv b42, rv b61, rv b90, rv b130, rv b182, rv b247, rv b326, iv (1 : Int32), iv w422, iv w449, iv w476, rv b42, rv b42, rv b42] [(.int (1 : Int32))])) (fun t k => XS.iconst X556.here hx rfl (hb hby at_315) k) ?_
                refine own_go (T' := T556) (g' := (mkF m 320 #[iv x0, iv x1, rv b42, rv b61, rv b90, rv b130, rv b182, rv b247, rv b326, iv (1 : Int32), iv w422, iv w449, iv w476, rv b42, rv b42, rv b42] [(.int (1 : Int32))])) (fun t k => XS.goto X556.here hx rfl (pc0 := 316) (pc' := 320) rfl (hb hby at_316) (by decide) (by decide) k) ?_
                exact own_ret X556 hlk hx Bd.returns rfl (Or.inl ⟨rfl, Or.inr (Or.inl rfl), _, rfl⟩) (hb hby at_320) (by first | exact ⟨rfl, N556⟩ | (rw [Fr] at *; exact ⟨rfl, by simpa using N556⟩)) (by decide) (by decide)
        · rw [hk]
          refine own_go (T' := T475) (g' := (mkF m 180 #[iv x0, iv x1, rv b42, rv b61, rv b90, rv b130, rv b182, rv b247, rv b326, iv (2 : Int32), iv w422, iv w449, iv w476, .unset, .unset, .unset] [])) (fun t k => XS.ifYes X475.here hx rfl (pc0 := 168) (pc' := 180) rfl (hb hby at_168) rfl ((if0 _ _).trans (feq (by decide : ¬ ((2 : Int32) = (0 : Int32)))).2) (by decide) (by decide) k) ?_
          refine own_go (T' := T475) (g' := (mkF m 181 #[iv x0, iv x1, rv b42, rv b61, rv b90, rv b130, rv b182, rv b247, rv b326, iv (2 : Int32), iv w422, iv w449, iv w476, .unset, .unset, .unset] [(.ref b42)])) (fun t k => XS.aloadN X475.here hx rfl (hb hby at_180) rfl rfl k) ?_
          refine own_go (T' := T475) (g' := (mkF m 183 #[iv x0, iv x1, rv b42, rv b61, rv b90, rv b130, rv b182, rv b247, rv b326, iv (2 : Int32), iv w422, iv w449, iv w476, rv b42, .unset, .unset] [])) (fun t k => XS.astore X475.here hx rfl (hb hby at_181) rfl rfl (l' := #[iv x0, iv x1, rv b42, rv b61, rv b90, rv b130, rv b182, rv b247, rv b326, iv (2 : Int32), iv w422, iv w449, iv w476, rv b42, .unset, .unset]) rfl k) ?_
          refine own_go (T' := T475) (g' := (mkF m 185 #[iv x0, iv x1, rv b42, rv b61, rv b90, rv b130, rv b182, rv b247, rv b326, iv (2 : Int32), iv w422, iv w449, iv w476, rv b42, .unset, .unset] [(.int (2 : Int32))])) (fun t k => XS.iload X475.here hx rfl (hb hby at_183) rfl k) ?_
          refine own_go (T' := T475) (g' := (mkF m 186 #[iv x0, iv x1, rv b42, rv b61, rv b90, rv b130, rv b182, rv b247, rv b326, iv (2 : Int32), iv w422, iv w449, iv w476, rv b42, .unset, .unset] [(.int (2 : Int32)), (.int (2 : Int32))])) (fun t k => XS.iconst X475.here hx rfl (hb hby at_185) k) ?_
          refine own_go (T' := T475) (g' := (mkF m 189 #[iv x0, iv x1, rv b42, rv b61, rv b90, rv b130, rv b182, rv b247, rv b326, iv (2 : Int32), iv w422, iv w449, iv w476, rv b42, .unset, .unset] [])) (fun t k => XS.icmpNo X475.here hx rfl (hb hby at_186) rfl (flt (by decide : ¬ ((2 : Int32) < (2 : Int32)))).1 k) ?_
          refine own_go (T' := T475) (g' := (mkF m 190 #[iv x0, iv x1, rv b42, rv b61, rv b90, rv b130, rv b182, rv b247, rv b326, iv (2 : Int32), iv w422, iv w449, iv w476, rv b42, .unset, .unset] [(.ref b42)])) (fun t k => XS.aloadN X475.here hx rfl (hb hby at_189) rfl rfl k) ?_
          refine own_go (T' := T475) (g' := (mkF m 191 #[iv x0, iv x1, rv b42, rv b61, rv b90, rv b130, rv b182, rv b247, rv b326, iv (2 : Int32), iv w422, iv w449, iv w476, rv b42, .unset, .unset] [(.ref b61), (.ref b42)])) (fun t k => XS.aloadN X475.here hx rfl (hb hby at_190) rfl rfl k) ?_
          obtain ⟨T557, h557, X557, e557, W557, st557⟩ := putF X475 hx hZ hown (host := "") (Or.inl (hw _ (List.mem_of_getElem? (i := 27) rfl))) Via.refl e475 j482 j480 (Or.inl (hw _ (List.mem_of_getElem? (i := 28) rfl))) (hw _ (List.mem_of_getElem? (i := 1) rfl)) (ty := (.object "com/example/treeline/treeline/Node")) (by decide) rfl rfl (g := (mkF m 191 #[iv x0, iv x1, rv b42, rv b61, rv b90, rv b130, rv b182, rv b247, rv b326, iv (2 : Int32), iv w422, iv w449, iv w476, rv b42, .unset, .unset] [(.ref b61), (.ref b42)])) rfl rfl (hb hby at_191)
          have hz557 : n0 ≤ h557.size := Nat.le_trans hz475 (Keep.of_wr W557).1
          have N557 := Fr.snoc X557 N475 gn42
          have c558 := j480.wr W557
          have c559 := j481.other W557 (Or.inr (slot_ne (Or.inl (hw _ (List.mem_of_getElem? (i := 30) rfl))) (Or.inl (hw _ (List.mem_of_getElem? (i := 28) rfl))) (by decide) (t := (.object "com/example/treeline/treeline/Node")) (t' := (.object "com/example/treeline/treeline/Node")) (by decide) (by decide)))
          have c560 := j482.same W557
          have c561 := j483.wr W557
          have c562 := j484.other W557 (Or.inl (Ne.symm ne67))
          have c563 := j485.other W557 (Or.inl (Ne.symm ne67))
          have c564 := j486.wr W557
          have c565 := j487.other W557 (Or.inl (Ne.symm ne96))
          have c566 := j488.other W557 (Or.inl (Ne.symm ne96))
          have c567 := j489.wr W557
          have c568 := j490.other W557 (Or.inl (Ne.symm ne136))
          have c569 := j491.other W557 (Or.inl (Ne.symm ne136))
          have c570 := j492.wr W557
          have c571 := j493.other W557 (Or.inl (Ne.symm ne188))
          have c572 := j494.other W557 (Or.inl (Ne.symm ne188))
          have c573 := j495.wr W557
          have c574 := j496.other W557 (Or.inl (Ne.symm ne253))
          have c575 := j497.other W557 (Or.inl (Ne.symm ne253))
          have c576 := j498.wr W557
          have c577 := j499.other W557 (Or.inl (Ne.symm ne332))
          have c578 := j500.other W557 (Or.inl (Ne.symm ne332))
          refine own_go (T' := T557) (g' := (mkF m 194 #[iv x0, iv x1, rv b42, rv b61, rv b90, rv b130, rv b182, rv b247, rv b326, iv (2 : Int32), iv w422, iv w449, iv w476, rv b42, .unset, .unset] [])) (st557) ?_
          refine own_go (T' := T557) (g' := (mkF m 196 #[iv x0, iv x1, rv b42, rv b61, rv b90, rv b130, rv b182, rv b247, rv b326, iv (2 : Int32), iv w422, iv w449, iv w476, rv b42, .unset, .unset] [(.int (2 : Int32))])) (fun t k => XS.iload X557.here hx rfl (hb hby at_194) rfl k) ?_
          refine own_go (T' := T557) (g' := (mkF m 197 #[iv x0, iv x1, rv b42, rv b61, rv b90, rv b130, rv b182, rv b247, rv b326, iv (2 : Int32), iv w422, iv w449, iv w476, rv b42, .unset, .unset] [(.int (3 : Int32)), (.int (2 : Int32))])) (fun t k => XS.iconst X557.here hx rfl (hb hby at_196) k) ?_
          refine own_go (T' := T557) (g' := (mkF m 206 #[iv x0, iv x1, rv b42, rv b61, rv b90, rv b130, rv b182, rv b247, rv b326, iv (2 : Int32), iv w422, iv w449, iv w476, rv b42, .unset, .unset] [])) (fun t k => XS.icmpYes X557.here hx rfl (pc0 := 197) (pc' := 206) rfl (hb hby at_197) rfl (tlt (by decide : ((2 : Int32) < (3 : Int32)))).1 (by decide) (by decide) k) ?_
          refine own_go (T' := T557) (g' := (mkF m 208 #[iv x0, iv x1, rv b42, rv b61, rv b90, rv b130, rv b182, rv b247, rv b326, iv (2 : Int32), iv w422, iv w449, iv w476, rv b42, .unset, .unset] [(.int (2 : Int32))])) (fun t k => XS.iload X557.here hx rfl (hb hby at_206) rfl k) ?_
          refine own_go (T' := T557) (g' := (mkF m 209 #[iv x0, iv x1, rv b42, rv b61, rv b90, rv b130, rv b182, rv b247, rv b326, iv (2 : Int32), iv w422, iv w449, iv w476, rv b42, .unset, .unset] [(.int (4 : Int32)), (.int (2 : Int32))])) (fun t k => XS.iconst X557.here hx rfl (hb hby at_208) k) ?_
          refine own_go (T' := T557) (g' := (mkF m 219 #[iv x0, iv x1, rv b42, rv b61, rv b90, rv b130, rv b182, rv b247, rv b326, iv (2 : Int32), iv w422, iv w449, iv w476, rv b42, .unset, .unset] [])) (fun t k => XS.icmpYes X557.here hx rfl (pc0 := 209) (pc' := 219) rfl (hb hby at_209) rfl (tlt (by decide : ((2 : Int32) < (4 : Int32)))).1 (by decide) (by decide) k) ?_
          refine own_go (T' := T557) (g' := (mkF m 221 #[iv x0, iv x1, rv b42, rv b61, rv b90, rv b130, rv b182, rv b247, rv b326, iv (2 : Int32), iv w422, iv w449, iv w476, rv b42, .unset, .unset] [(.int (2 : Int32))])) (fun t k => XS.iload X557.here hx rfl (hb hby at_219) rfl k) ?_
          refine own_go (T' := T557) (g' := (mkF m 222 #[iv x0, iv x1, rv b42, rv b61, rv b90, rv b130, rv b182, rv b247, rv b326, iv (2 : Int32), iv w422, iv w449, iv w476, rv b42, .unset, .unset] [(.int (1 : Int32)), (.int (2 : Int32))])) (fun t k => XS.iconst X557.here hx rfl (hb hby at_221) k) ?_
          refine own_go (T' := T557) (g' := (mkF m 231 #[iv x0, iv x1, rv b42, rv b61, rv b90, rv b130, rv b182, rv b247, rv b326, iv (2 : Int32), iv w422, iv w449, iv w476, rv b42, .unset, .unset] [])) (fun t k => XS.icmpYes X557.here hx rfl (pc0 := 222) (pc' := 231) rfl (hb hby at_222) rfl (feq (by decide : ¬ ((2 : Int32) = (1 : Int32)))).2 (by decide) (by decide) k) ?_
          refine own_go (T' := T557) (g' := (mkF m 233 #[iv x0, iv x1, rv b42, rv b61, rv b90, rv b130, rv b182, rv b247, rv b326, iv (2 : Int32), iv w422, iv w449, iv w476, rv b42, .unset, .unset] [(.int (2 : Int32))])) (fun t k => XS.iload X557.here hx rfl (hb hby at_231) rfl k) ?_
          refine own_go (T' := T557) (g' := (mkF m 234 #[iv x0, iv x1, rv b42, rv b61, rv b90, rv b130, rv b182, rv b247, rv b326, iv (2 : Int32), iv w422, iv w449, iv w476, rv b42, .unset, .unset] [(.int (2 : Int32)), (.int (2 : Int32))])) (fun t k => XS.iconst X557.here hx rfl (hb hby at_233) k) ?_
          refine own_go (T' := T557) (g' := (mkF m 237 #[iv x0, iv x1, rv b42, rv b61, rv b90, rv b130, rv b182, rv b247, rv b326, iv (2 : Int32), iv w422, iv w449, iv w476, rv b42, .unset, .unset] [])) (fun t k => XS.icmpNo X557.here hx rfl (hb hby at_234) rfl (teq (by decide : ((2 : Int32) = (2 : Int32)))).2 k) ?_
          refine own_go (T' := T557) (g' := (mkF m 238 #[iv x0, iv x1, rv b42, rv b61, rv b90, rv b130, rv b182, rv b247, rv b326, iv (2 : Int32), iv w422, iv w449, iv w476, rv b42, .unset, .unset] [(.ref b61)])) (fun t k => XS.aloadN X557.here hx rfl (hb hby at_237) rfl rfl k) ?_
          refine own_go (T' := T557) (g' := (mkF m 240 #[iv x0, iv x1, rv b42, rv b61, rv b90, rv b130, rv b182, rv b247, rv b326, iv (2 : Int32), iv w422, iv w449, iv w476, rv b42, rv b61, .unset] [])) (fun t k => XS.astore X557.here hx rfl (hb hby at_238) rfl rfl (l' := #[iv x0, iv x1, rv b42, rv b61, rv b90, rv b130, rv b182, rv b247, rv b326, iv (2 : Int32), iv w422, iv w449, iv w476, rv b42, rv b61, .unset]) rfl k) ?_
          refine own_go (T' := T557) (g' := (mkF m 260 #[iv x0, iv x1, rv b42, rv b61, rv b90, rv b130, rv b182, rv b247, rv b326, iv (2 : Int32), iv w422, iv w449, iv w476, rv b42, rv b61, .unset] [])) (fun t k => XS.goto X557.here hx rfl (pc0 := 240) (pc' := 260) rfl (hb hby at_240) (by decide) (by decide) k) ?_
          refine own_go (T' := T557) (g' := (mkF m 262 #[iv x0, iv x1, rv b42, rv b61, rv b90, rv b130, rv b182, rv b247, rv b326, iv (2 : Int32), iv w422, iv w449, iv w476, rv b42, rv b61, .unset] [(.int w422)])) (fun t k => XS.iload X557.here hx rfl (hb hby at_260) rfl k) ?_
          by_cases hc579 : w422 = (0 : Int32)
          · refine own_go (T' := T557) (g' := (mkF m 284 #[iv x0, iv x1, rv b42, rv b61, rv b90, rv b130, rv b182, rv b247, rv b326, iv (2 : Int32), iv w422, iv w449, iv w476, rv b42, rv b61, .unset] [])) (fun t k => XS.ifYes X557.here hx rfl (pc0 := 262) (pc' := 284) rfl (hb hby at_262) rfl ((if0 _ _).trans (teq hc579).1) (by decide) (by decide) k) ?_
            refine own_go (T' := T557) (g' := (mkF m 286 #[iv x0, iv x1, rv b42, rv b61, rv b90, rv b130, rv b182, rv b247, rv b326, iv (2 : Int32), iv w422, iv w449, iv w476, rv b42, rv b61, .unset] [(.int w476)])) (fun t k => XS.iload X557.here hx rfl (hb hby at_284) rfl k) ?_
            by_cases hc580 : w476 = (0 : Int32)
            · refine own_go (T' := T557) (g' := (mkF m 301 #[iv x0, iv x1, rv b42, rv b61, rv b90, rv b130, rv b182, rv b247, rv b326, iv (2 : Int32), iv w422, iv w449, iv w476, rv b42, rv b61, .unset] [])) (fun t k => XS.ifYes X557.here hx rfl (pc0 := 286) (pc' := 301) rfl (hb hby at_286) rfl ((if0 _ _).trans (teq hc580).1) (by decide) (by decide) k) ?_
              refine own_go (T' := T557) (g' := (mkF m 303 #[iv x0, iv x1, rv b42, rv b61, rv b90, rv b130, rv b182, rv b247, rv b326, iv (2 : Int32), iv w422, iv w449, iv w476, rv b42, rv b61, .unset] [(.ref b42)])) (fun t k => XS.aload X557.here hx rfl (hb hby at_301) rfl rfl k) ?_
              obtain ⟨_, _, ⟨T581, L581, k581, n581⟩, -, X581, ⟨Lc581, hQ581, l581, y581, z581⟩, st581⟩ := Jvm.LawKit.callS X557 hx (y := (⟨"com/example/treeline/treeline/Node", "highest", "(Lcom/example/treeline/treeline/Node;)Lcom/example/treeline/treeline/Node;"⟩ : MethodName)) hown (mvT hZ (hw _ (List.mem_of_getElem? (i := 24) rfl))) (mvT hZ (hw _ (List.mem_of_getElem? (i := 25) rfl))) (mvT hZ (hw _ (List.mem_of_getElem? (i := 2) rfl))) (mvT hZ (hw _ (List.mem_of_getElem? (i := 26) rfl))) (by decide) (backOf (W := 0) (own_rhi2 l Z a0 hw [] b42 b61 h557 n0 hz557 c560 c563) hZ (hw _ (List.mem_of_getElem? (i := 26) rfl)) (hw _ (List.mem_of_getElem? (i := 2) rfl)) (by decide) (by decide)) (g := (mkF m 303 #[iv x0, iv x1, rv b42, rv b61, rv b90, rv b130, rv b182, rv b247, rv b326, iv (2 : Int32), iv w422, iv w449, iv w476, rv b42, rv b61, .unset] [(.ref b42)])) rfl (by rw [hml]; rfl) (argsL := [(.ref b42)]) (rest := []) (lenOf own_pd2 rfl) rfl (by show 2 * 0 + _ ≤ _; exact Nat.le_of_eq rfl) (hb hby at_303) (fun _ _ => ⟨rfl, e557, (by decide : 7 + 0 ≤ _), (by decide : 35 + 0 ≤ _)⟩)
              dsimp only [Pt.U, Pt.locs, Pt.cells, Pt.slots] at X581 l581 y581 z581 st581 hQ581
              subst l581 y581 z581
              obtain ⟨rfl, rfl, e581⟩ := hQ581
              have E581q : T581.heap = h557 := e581
              have N581 := Fr.app N557 (Fr.nil n0)
              refine own_go (T' := T581) (g' := (mkF m 306 #[iv x0, iv x1, rv b42, rv b61, rv b90, rv b130, rv b182, rv b247, rv b326, iv (2 : Int32), iv w422, iv w449, iv w476, rv b42, rv b61, .unset] [(.ref b61)])) (st581) ?_
              refine own_go (T' := T581) (g' := (mkF m 308 #[iv x0, iv x1, rv b42, rv b61, rv b90, rv b130, rv b182, rv b247, rv b326, iv (2 : Int32), iv w422, iv w449, iv w476, rv b42, rv b61, rv b61] [])) (fun t k => XS.astore X581.here hx rfl (hb hby at_306) rfl rfl (l' := #[iv x0, iv x1, rv b42, rv b61, rv b90, rv b130, rv b182, rv b247, rv b326, iv (2 : Int32), iv w422, iv w449, iv w476, rv b42, rv b61, rv b61]) rfl k) ?_
              refine own_go (T' := T581) (g' := (mkF m 310 #[iv x0, iv x1, rv b42, rv b61, rv b90, rv b130, rv b182, rv b247, rv b326, iv (2 : Int32), iv w422, iv w449, iv w476, rv b42, rv b61, rv b61] [(.ref b61)])) (fun t k => XS.aload X581.here hx rfl (hb hby at_308) rfl rfl k) ?_
              refine own_go (T' := T581) (g' := (mkF m 312 #[iv x0, iv x1, rv b42, rv b61, rv b90, rv b130, rv b182, rv b247, rv b326, iv (2 : Int32), iv w422, iv w449, iv w476, rv b42, rv b61, rv b61] [(.ref b61), (.ref b61)])) (fun t k => XS.aload X581.here hx rfl (hb hby at_310) rfl rfl k) ?_
              refine own_go (T' := T581) (g' := (mkF m 315 #[iv x0, iv x1, rv b42, rv b61, rv b90, rv b130, rv b182, rv b247, rv b326, iv (2 : Int32), iv w422, iv w449, iv w476, rv b42, rv b61, rv b61] [])) (fun t k => Jvm.RoadKit.acmp (g := (mkF m 312 #[iv x0, iv x1, rv b42, rv b61, rv b90, rv b130, rv b182, rv b247, rv b326, iv (2 : Int32), iv w422, iv w449, iv w476, rv b42, rv b61, rv b61] [(.ref b61), (.ref b61)])) X581 hx rfl (x := (.ref b61)) (y := (.ref b61)) rfl rfl (pc0 := 312) (pc' := 315) (same := true) rfl (hb hby at_312) rfl (decide_eq_true rfl) (by decide) (by decide) k) ?_
              refine own_go (T' := T581) (g' := (mkF m 316 #[iv x0, iv x1, rv b42, rv b61, rv b90, rv b130, rv b182, rv b247, rv b326, iv (2 : Int32), iv w422, iv w449, iv w476, rv b42, rv b61, rv b61] [(.int (1 : Int32))])) (fun t k => XS.iconst X581.here hx rfl (hb hby at_315) k) ?_
              refine own_go (T' := T581) (g' := (mkF m 320 #[iv x0, iv x1, rv b42, rv b61, rv b90, rv b130, rv b182, rv b247, rv b326, iv (2 : Int32), iv w422, iv w449, iv w476, rv b42, rv b61, rv b61] [(.int (1 : Int32))])) (fun t k => XS.goto X581.here hx rfl (pc0 := 316) (pc' := 320) rfl (hb hby at_316) (by decide) (by decide) k) ?_
              exact own_ret X581 hlk hx Bd.returns rfl (Or.inl ⟨rfl, Or.inr (Or.inl rfl), _, rfl⟩) (hb hby at_320) (by first | exact ⟨rfl, N581⟩ | (rw [Fr] at *; exact ⟨rfl, by simpa using N581⟩)) (by decide) (by decide)
            · refine own_go (T' := T557) (g' := (mkF m 289 #[iv x0, iv x1, rv b42, rv b61, rv b90, rv b130, rv b182, rv b247, rv b326, iv (2 : Int32), iv w422, iv w449, iv w476, rv b42, rv b61, .unset] [])) (fun t k => XS.ifNo X557.here hx rfl (hb hby at_286) rfl ((if0 _ _).trans (feq hc580).1) k) ?_
              refine own_go (T' := T557) (g' := (mkF m 291 #[iv x0, iv x1, rv b42, rv b61, rv b90, rv b130, rv b182, rv b247, rv b326, iv (2 : Int32), iv w422, iv w449, iv w476, rv b42, rv b61, .unset] [(.ref b61)])) (fun t k => XS.aload X557.here hx rfl (hb hby at_289) rfl rfl k) ?_
              refine own_go (T' := T557) (g' := (mkF m 292 #[iv x0, iv x1, rv b42, rv b61, rv b90, rv b130, rv b182, rv b247, rv b326, iv (2 : Int32), iv w422, iv w449, iv w476, rv b42, rv b61, .unset] [(.ref b42), (.ref b61)])) (fun t k => XS.aloadN X557.here hx rfl (hb hby at_291) rfl rfl k) ?_
              refine own_go (T' := T557) (g' := (mkF m 295 #[iv x0, iv x1, rv b42, rv b61, rv b90, rv b130, rv b182, rv b247, rv b326, iv (2 : Int32), iv w422, iv w449, iv w476, rv b42, rv b61, .unset] [])) (fun t k => Jvm.RoadKit.acmp (g := (mkF m 292 #[iv x0, iv x1, rv b42, rv b61, rv b90, rv b130, rv b182, rv b247, rv b326, iv (2 : Int32), iv w422, iv w449, iv w476, rv b42, rv b61, .unset] [(.ref b42), (.ref b61)])) X557 hx rfl (x := (.ref b61)) (y := (.ref b42)) rfl rfl (pc0 := 292) (pc' := 295) (same := false) rfl (hb hby at_292) rfl (decide_eq_false fun q => (Ne.symm ne67) (Value.ref.inj q)) (by decide) (by decide) k) ?_
              refine own_go (T' := T557) (g' := (mkF m 296 #[iv x0, iv x1, rv b42, rv b61, rv b90, rv b130, rv b182, rv b247, rv b326, iv (2 : Int32), iv w422, iv w449, iv w476, rv b42, rv b61, .unset] [(.ref b42)])) (fun t k => XS.aloadN X557.here hx rfl (hb hby at_295) rfl rfl k) ?_
              refine own_go (T' := T557) (g' := (mkF m 298 #[iv x0, iv x1, rv b42, rv b61, rv b90, rv b130, rv b182, rv b247, rv b326, iv (2 : Int32), iv w422, iv w449, iv w476, rv b42, rv b61, .unset] [(.ref b326), (.ref b42)])) (fun t k => XS.aload X557.here hx rfl (hb hby at_296) rfl rfl k) ?_
              obtain ⟨T582, h582, X582, e582, W582, st582⟩ := putF X557 hx hZ hown (host := "") (Or.inl (hw _ (List.mem_of_getElem? (i := 29) rfl))) Via.refl e557 c559 c558 (Or.inl (hw _ (List.mem_of_getElem? (i := 30) rfl))) (hw _ (List.mem_of_getElem? (i := 1) rfl)) (ty := (.object "com/example/treeline/treeline/Node")) (by decide) rfl rfl (g := (mkF m 298 #[iv x0, iv x1, rv b42, rv b61, rv b90, rv b130, rv b182, rv b247, rv b326, iv (2 : Int32), iv w422, iv w449, iv w476, rv b42, rv b61, .unset] [(.ref b326), (.ref b42)])) rfl rfl (hb hby at_298)
              have hz582 : n0 ≤ h582.size := Nat.le_trans hz557 (Keep.of_wr W582).1
              have N582 := Fr.snoc X582 N557 gn42
              have c583 := c558.wr W582
              have c584 := c559.same W582
              have c585 := c560.other W582 (Or.inr (slot_ne (Or.inl (hw _ (List.mem_of_getElem? (i := 28) rfl))) (Or.inl (hw _ (List.mem_of_getElem? (i := 30) rfl))) (by decide) (t := (.object "com/example/treeline/treeline/Node")) (t' := (.object "com/example/treeline/treeline/Node")) (by decide) (by decide)))
              have c586 := c561.wr W582
              have c587 := c562.other W582 (Or.inl (Ne.symm ne67))
              have c588 := c563.other W582 (Or.inl (Ne.symm ne67))
              have c589 := c564.wr W582
              have c590 := c565.other W582 (Or.inl (Ne.symm ne96))
              have c591 := c566.other W582 (Or.inl (Ne.symm ne96))
              have c592 := c567.wr W582
              have c593 := c568.other W582 (Or.inl (Ne.symm ne136))
              have c594 := c569.other W582 (Or.inl (Ne.symm ne136))
              have c595 := c570.wr W582
              have c596 := c571.other W582 (Or.inl (Ne.symm ne188))
              have c597 := c572.other W582 (Or.inl (Ne.symm ne188))
              have c598 := c573.wr W582
              have c599 := c574.other W582 (Or.inl (Ne.symm ne253))
              have c600 := c575.other W582 (Or.inl (Ne.symm ne253))
              have c601 := c576.wr W582
              have c602 := c577.other W582 (Or.inl (Ne.symm ne332))
              have c603 := c578.other W582 (Or.inl (Ne.symm ne332))
              refine own_go (T' := T582) (g' := (mkF m 301 #[iv x0, iv x1, rv b42, rv b61, rv b90, rv b130, rv b182, rv b247, rv b326, iv (2 : Int32), iv w422, iv w449, iv w476, rv b42, rv b61, .unset] [])) (st582) ?_
              refine own_go (T' := T582) (g' := (mkF m 303 #[iv x0, iv x1, rv b42, rv b61, rv b90, rv b130, rv b182, rv b247, rv b326, iv (2 : Int32), iv w422, iv w449, iv w476, rv b42, rv b61, .unset] [(.ref b42)])) (fun t k => XS.aload X582.here hx rfl (hb hby at_301) rfl rfl k) ?_
              obtain ⟨_, _, ⟨T604, L604, k604, n604⟩, -, X604, ⟨Lc604, hQ604, l604, y604, z604⟩, st604⟩ := Jvm.LawKit.callS X582 hx (y := (⟨"com/example/treeline/treeline/Node", "highest", "(Lcom/example/treeline/treeline/Node;)Lcom/example/treeline/treeline/Node;"⟩ : MethodName)) hown (mvT hZ (hw _ (List.mem_of_getElem? (i := 24) rfl))) (mvT hZ (hw _ (List.mem_of_getElem? (i := 25) rfl))) (mvT hZ (hw _ (List.mem_of_getElem? (i := 2) rfl))) (mvT hZ (hw _ (List.mem_of_getElem? (i := 26) rfl))) (by decide) (backOf (W := 0) (own_rhi2 l Z a0 hw [] b42 b61 h582 n0 hz582 c585 c588) hZ (hw _ (List.mem_of_getElem? (i := 26) rfl)) (hw _ (List.mem_of_getElem? (i := 2) rfl)) (by decide) (by decide)) (g := (mkF m 303 #[iv x0, iv x1, rv b42, rv b61, rv b90, rv b130, rv b182, rv b247, rv b326, iv (2 : Int32), iv w422, iv w449, iv w476, rv b42, rv b61, .unset] [(.ref b42)])) rfl (by rw [hml]; rfl) (argsL := [(.ref b42)]) (rest := []) (lenOf own_pd2 rfl) rfl (by show 2 * 0 + _ ≤ _; exact Nat.le_of_eq rfl) (hb hby at_303) (fun _ _ => ⟨rfl, e582, (by decide : 7 + 0 ≤ _), (by decide : 35 + 0 ≤ _)⟩)
              dsimp only [Pt.U, Pt.locs, Pt.cells, Pt.slots] at X604 l604 y604 z604 st604 hQ604
              subst l604 y604 z604
              obtain ⟨rfl, rfl, e604⟩ := hQ604
              have E604q : T604.heap = h582 := e604
              have N604 := Fr.app N582 (Fr.nil n0)
              refine own_go (T' := T604) (g' := (mkF m 306 #[iv x0, iv x1, rv b42, rv b61, rv b90, rv b130, rv b182, rv b247, rv b326, iv (2 : Int32), iv w422, iv w449, iv w476, rv b42, rv b61, .unset] [(.ref b61)])) (st604) ?_
              refine own_go (T' := T604) (g' := (mkF m 308 #[iv x0, iv x1, rv b42, rv b61, rv b90, rv b130, rv b182, rv b247, rv b326, iv (2 : Int32), iv w422, iv w449, iv w476, rv b42, rv b61, rv b61] [])) (fun t k => XS.astore X604.here hx rfl (hb hby at_306) rfl rfl (l' := #[iv x0, iv x1, rv b42, rv b61, rv b90, rv b130, rv b182, rv b247, rv b326, iv (2 : Int32), iv w422, iv w449, iv w476, rv b42, rv b61, rv b61]) rfl k) ?_
              refine own_go (T' := T604) (g' := (mkF m 310 #[iv x0, iv x1, rv b42, rv b61, rv b90, rv b130, rv b182, rv b247, rv b326, iv (2 : Int32), iv w422, iv w449, iv w476, rv b42, rv b61, rv b61] [(.ref b61)])) (fun t k => XS.aload X604.here hx rfl (hb hby at_308) rfl rfl k) ?_
              refine own_go (T' := T604) (g' := (mkF m 312 #[iv x0, iv x1, rv b42, rv b61, rv b90, rv b130, rv b182, rv b247, rv b326, iv (2 : Int32), iv w422, iv w449, iv w476, rv b42, rv b61, rv b61] [(.ref b61), (.ref b61)])) (fun t k => XS.aload X604.here hx rfl (hb hby at_310) rfl rfl k) ?_
              refine own_go (T' := T604) (g' := (mkF m 315 #[iv x0, iv x1, rv b42, rv b61, rv b90, rv b130, rv b182, rv b247, rv b326, iv (2 : Int32), iv w422, iv w449, iv w476, rv b42, rv b61, rv b61] [])) (fun t k => Jvm.RoadKit.acmp (g := (mkF m 312 #[iv x0, iv x1, rv b42, rv b61, rv b90, rv b130, rv b182, rv b247, rv b326, iv (2 : Int32), iv w422, iv w449, iv w476, rv b42, rv b61, rv b61] [(.ref b61), (.ref b61)])) X604 hx rfl (x := (.ref b61)) (y := (.ref b61)) rfl rfl (pc0 := 312) (pc' := 315) (same := true) rfl (hb hby at_312) rfl (decide_eq_true rfl) (by decide) (by decide) k) ?_
              refine own_go (T' := T604) (g' := (mkF m 316 #[iv x0, iv x1, rv b42, rv b61, rv b90, rv b130, rv b182, rv b247, rv b326, iv (2 : Int32), iv w422, iv w449, iv w476, rv b42, rv b61, rv b61] [(.int (1 : Int32))])) (fun t k => XS.iconst X604.here hx rfl (hb hby at_315) k) ?_
              refine own_go (T' := T604) (g' := (mkF m 320 #[iv x0, iv x1, rv b42, rv b61, rv b90, rv b130, rv b182, rv b247, rv b326, iv (2 : Int32), iv w422, iv w449, iv w476, rv b42, rv b61, rv b61] [(.int (1 : Int32))])) (fun t k => XS.goto X604.here hx rfl (pc0 := 316) (pc' := 320) rfl (hb hby at_316) (by decide) (by decide) k) ?_
              exact own_ret X604 hlk hx Bd.returns rfl (Or.inl ⟨rfl, Or.inr (Or.inl rfl), _, rfl⟩) (hb hby at_320) (by first | exact ⟨rfl, N604⟩ | (rw [Fr] at *; exact ⟨rfl, by simpa using N604⟩)) (by decide) (by decide)
          · refine own_go (T' := T557) (g' := (mkF m 265 #[iv x0, iv x1, rv b42, rv b61, rv b90, rv b130, rv b182, rv b247, rv b326, iv (2 : Int32), iv w422, iv w449, iv w476, rv b42, rv b61, .unset] [])) (fun t k => XS.ifNo X557.here hx rfl (hb hby at_262) rfl ((if0 _ _).trans (feq hc579).1) k) ?_
            refine own_go (T' := T557) (g' := (mkF m 267 #[iv x0, iv x1, rv b42, rv b61, rv b90, rv b130, rv b182, rv b247, rv b326, iv (2 : Int32), iv w422, iv w449, iv w476, rv b42, rv b61, .unset] [(.ref b61)])) (fun t k => XS.aload X557.here hx rfl (hb hby at_265) rfl rfl k) ?_
            refine own_go (T' := T557) (g' := (mkF m 269 #[iv x0, iv x1, rv b42, rv b61, rv b90, rv b130, rv b182, rv b247, rv b326, iv (2 : Int32), iv w422, iv w449, iv w476, rv b42, rv b61, .unset] [(.ref b182), (.ref b61)])) (fun t k => XS.aload X557.here hx rfl (hb hby at_267) rfl rfl k) ?_
            obtain ⟨T605, h605, X605, e605, W605, st605⟩ := putF X557 hx hZ hown (host := "") (Or.inl (hw _ (List.mem_of_getElem? (i := 29) rfl))) Via.refl e557 c562 c561 (Or.inl (hw _ (List.mem_of_getElem? (i := 30) rfl))) (hw _ (List.mem_of_getElem? (i := 1) rfl)) (ty := (.object "com/example/treeline/treeline/Node")) (by decide) rfl rfl (g := (mkF m 269 #[iv x0, iv x1, rv b42, rv b61, rv b90, rv b130, rv b182, rv b247, rv b326, iv (2 : Int32), iv w422, iv w449, iv w476, rv b42, rv b61, .unset] [(.ref b182), (.ref b61)])) rfl rfl (hb hby at_269)
            have hz605 : n0 ≤ h605.size := Nat.le_trans hz557 (Keep.of_wr W605).1
            have N605 := Fr.snoc X605 N557 gn61
            have c606 := c558.wr W605
            have c607 := c559.other W605 (Or.inl ne67)
            have c608 := c560.other W605 (Or.inl ne67)
            have c609 := c561.wr W605
            have c610 := c562.same W605
            have c611 := c563.other W605 (Or.inr (slot_ne (Or.inl (hw _ (List.mem_of_getElem? (i := 28) rfl))) (Or.inl (hw _ (List.mem_of_getElem? (i := 30) rfl))) (by decide) (t := (.object "com/example/treeline/treeline/Node")) (t' := (.object "com/example/treeline/treeline/Node")) (by decide) (by decide)))
            have c612 := c564.wr W605
            have c613 := c565.other W605 (Or.inl (Ne.symm ne100))
            have c614 := c566.other W605 (Or.inl (Ne.symm ne100))
            have c615 := c567.wr W605
            have c616 := c568.other W605 (Or.inl (Ne.symm ne140))
            have c617 := c569.other W605 (Or.inl (Ne.symm ne140))
            have c618 := c570.wr W605
            have c619 := c571.other W605 (Or.inl (Ne.symm ne192))
            have c620 := c572.other W605 (Or.inl (Ne.symm ne192))
            have c621 := c573.wr W605
            have c622 := c574.other W605 (Or.inl (Ne.symm ne257))
            have c623 := c575.other W605 (Or.inl (Ne.symm ne257))
            have c624 := c576.wr W605
            have c625 := c577.other W605 (Or.inl (Ne.symm ne336))
            have c626 := c578.other W605 (Or.inl (Ne.symm ne336))
            refine own_go (T' := T605) (g' := (mkF m 272 #[iv x0, iv x1, rv b42, rv b61, rv b90, rv b130, rv b182, rv b247, rv b326, iv (2 : Int32), iv w422, iv w449, iv w476, rv b42, rv b61, .unset] [])) (st605) ?_
            refine own_go (T' := T605) (g' := (mkF m 274 #[iv x0, iv x1, rv b42, rv b61, rv b90, rv b130, rv b182, rv b247, rv b326, iv (2 : Int32), iv w422, iv w449, iv w476, rv b42, rv b61, .unset] [(.int w449)])) (fun t k => XS.iload X605.here hx rfl (hb hby at_272) rfl k) ?_
            by_cases hc627 : w449 = (0 : Int32)
            · refine own_go (T' := T605) (g' := (mkF m 284 #[iv x0, iv x1, rv b42, rv b61, rv b90, rv b130, rv b182, rv b247, rv b326, iv (2 : Int32), iv w422, iv w449, iv w476, rv b42, rv b61, .unset] [])) (fun t k => XS.ifYes X605.here hx rfl (pc0 := 274) (pc' := 284) rfl (hb hby at_274) rfl ((if0 _ _).trans (teq hc627).1) (by decide) (by decide) k) ?_
              refine own_go (T' := T605) (g' := (mkF m 286 #[iv x0, iv x1, rv b42, rv b61, rv b90, rv b130, rv b182, rv b247, rv b326, iv (2 : Int32), iv w422, iv w449, iv w476, rv b42, rv b61, .unset] [(.int w476)])) (fun t k => XS.iload X605.here hx rfl (hb hby at_284) rfl k) ?_
              by_cases hc628 : w476 = (0 : Int32)
              · refine own_go (T' := T605) (g' := (mkF m 301 #[iv x0, iv x1, rv b42, rv b61, rv b90, rv b130, rv b182, rv b247, rv b326, iv (2 : Int32), iv w422, iv w449, iv w476, rv b42, rv b61, .unset] [])) (fun t k => XS.ifYes X605.here hx rfl (pc0 := 286) (pc' := 301) rfl (hb hby at_286) rfl ((if0 _ _).trans (teq hc628).1) (by decide) (by decide) k) ?_
                refine own_go (T' := T605) (g' := (mkF m 303 #[iv x0, iv x1, rv b42, rv b61, rv b90, rv b130, rv b182, rv b247, rv b326, iv (2 : Int32), iv w422, iv w449, iv w476, rv b42, rv b61, .unset] [(.ref b42)])) (fun t k => XS.aload X605.here hx rfl (hb hby at_301) rfl rfl k) ?_
                obtain ⟨_, _, ⟨T629, L629, k629, n629⟩, -, X629, ⟨Lc629, hQ629, l629, y629, z629⟩, st629⟩ := Jvm.LawKit.callS X605 hx (y := (⟨"com/example/treeline/treeline/Node", "highest", "(Lcom/example/treeline/treeline/Node;)Lcom/example/treeline/treeline/Node;"⟩ : MethodName)) hown (mvT hZ (hw _ (List.mem_of_getElem? (i := 24) rfl))) (mvT hZ (hw _ (List.mem_of_getElem? (i := 25) rfl))) (mvT hZ (hw _ (List.mem_of_getElem? (i := 2) rfl))) (mvT hZ (hw _ (List.mem_of_getElem? (i := 26) rfl))) (by decide) (backOf (W := 0) (own_rhi2 l Z a0 hw [] b42 b61 h605 n0 hz605 c608 c611) hZ (hw _ (List.mem_of_getElem? (i := 26) rfl)) (hw _ (List.mem_of_getElem? (i := 2) rfl)) (by decide) (by decide)) (g := (mkF m 303 #[iv x0, iv x1, rv b42, rv b61, rv b90, rv b130, rv b182, rv b247, rv b326, iv (2 : Int32), iv w422, iv w449, iv w476, rv b42, rv b61, .unset] [(.ref b42)])) rfl (by rw [hml]; rfl) (argsL := [(.ref b42)]) (rest := []) (lenOf own_pd2 rfl) rfl (by show 2 * 0 + _ ≤ _; exact Nat.le_of_eq rfl) (hb hby at_303) (fun _ _ => ⟨rfl, e605, (by decide : 7 + 0 ≤ _), (by decide : 35 + 0 ≤ _)⟩)
                dsimp only [Pt.U, Pt.locs, Pt.cells, Pt.slots] at X629 l629 y629 z629 st629 hQ629
                subst l629 y629 z629
                obtain ⟨rfl, rfl, e629⟩ := hQ629
                have E629q : T629.heap = h605 := e629
                have N629 := Fr.app N605 (Fr.nil n0)
                refine own_go (T' := T629) (g' := (mkF m 306 #[iv x0, iv x1, rv b42, rv b61, rv b90, rv b130, rv b182, rv b247, rv b326, iv (2 : Int32), iv w422, iv w449, iv w476, rv b42, rv b61, .unset] [(.ref b61)])) (st629) ?_
                refine own_go (T' := T629) (g' := (mkF m 308 #[iv x0, iv x1, rv b42, rv b61, rv b90, rv b130, rv b182, rv b247, rv b326, iv (2 : Int32), iv w422, iv w449, iv w476, rv b42, rv b61, rv b61] [])) (fun t k => XS.astore X629.here hx rfl (hb hby at_306) rfl rfl (l' := #[iv x0, iv x1, rv b42, rv b61, rv b90, rv b130, rv b182, rv b247, rv b326, iv (2 : Int32), iv w422, iv w449, iv w476, rv b42, rv b61, rv b61]) rfl k) ?_
                refine own_go (T' := T629) (g' := (mkF m 310 #[iv x0, iv x1, rv b42, rv b61, rv b90, rv b130, rv b182, rv b247, rv b326, iv (2 : Int32), iv w422, iv w449, iv w476, rv b42, rv b61, rv b61] [(.ref b61)])) (fun t k => XS.aload X629.here hx rfl (hb hby at_308) rfl rfl k) ?_
                refine own_go (T' := T629) (g' := (mkF m 312 #[iv x0, iv x1, rv b42, rv b61, rv b90, rv b130, rv b182, rv b247, rv b326, iv (2 : Int32), iv w422, iv w449, iv w476, rv b42, rv b61, rv b61] [(.ref b61), (.ref b61)])) (fun t k => XS.aload X629.here hx rfl (hb hby at_310) rfl rfl k) ?_
                refine own_go (T' := T629) (g' := (mkF m 315 #[iv x0, iv x1, rv b42, rv b61, rv b90, rv b130, rv b182, rv b247, rv b326, iv (2 : Int32), iv w422, iv w449, iv w476, rv b42, rv b61, rv b61] [])) (fun t k => Jvm.RoadKit.acmp (g := (mkF m 312 #[iv x0, iv x1, rv b42, rv b61, rv b90, rv b130, rv b182, rv b247, rv b326, iv (2 : Int32), iv w422, iv w449, iv w476, rv b42, rv b61, rv b61] [(.ref b61), (.ref b61)])) X629 hx rfl (x := (.ref b61)) (y := (.ref b61)) rfl rfl (pc0 := 312) (pc' := 315) (same := true) rfl (hb hby at_312) rfl (decide_eq_true rfl) (by decide) (by decide) k) ?_
                refine own_go (T' := T629) (g' := (mkF m 316 #[iv x0, iv x1, rv b42, rv b61, rv b90, rv b130, rv b182, rv b247, rv b326, iv (2 : Int32), iv w422, iv w449, iv w476, rv b42, rv b61, rv b61] [(.int (1 : Int32))])) (fun t k => XS.iconst X629.here hx rfl (hb hby at_315) k) ?_
                refine own_go (T' := T629) (g' := (mkF m 320 #[iv x0, iv x1, rv b42, rv b61, rv b90, rv b130, rv b182, rv b247, rv b326, iv (2 : Int32), iv w422, iv w449, iv w476, rv b42, rv b61, rv b61] [(.int (1 : Int32))])) (fun t k => XS.goto X629.here hx rfl (pc0 := 316) (pc' := 320) rfl (hb hby at_316) (by decide) (by decide) k) ?_
                exact own_ret X629 hlk hx Bd.returns rfl (Or.inl ⟨rfl, Or.inr (Or.inl rfl), _, rfl⟩) (hb hby at_320) (by first | exact ⟨rfl, N629⟩ | (rw [Fr] at *; exact ⟨rfl, by simpa using N629⟩)) (by decide) (by decide)
              · refine own_go (T' := T605) (g' := (mkF m 289 #[iv x0, iv x1, rv b42, rv b61, rv b90, rv b130, rv b182, rv b247, rv b326, iv (2 : Int32), iv w422, iv w449, iv w476, rv b42, rv b61, .unset] [])) (fun t k => XS.ifNo X605.here hx rfl (hb hby at_286) rfl ((if0 _ _).trans (feq hc628).1) k) ?_
                refine own_go (T' := T605) (g' := (mkF m 291 #[iv x0, iv x1, rv b42, rv b61, rv b90, rv b130, rv b182, rv b247, rv b326, iv (2 : Int32), iv w422, iv w449, iv w476, rv b42, rv b61, .unset] [(.ref b61)])) (fun t k => XS.aload X605.here hx rfl (hb hby at_289) rfl rfl k) ?_
                refine own_go (T' := T605) (g' := (mkF m 292 #[iv x0, iv x1, rv b42, rv b61, rv b90, rv b130, rv b182, rv b247, rv b326, iv (2 : Int32), iv w422, iv w449, iv w476, rv b42, rv b61, .unset] [(.ref b42), (.ref b61)])) (fun t k => XS.aloadN X605.here hx rfl (hb hby at_291) rfl rfl k) ?_
                refine own_go (T' := T605) (g' := (mkF m 295 #[iv x0, iv x1, rv b42, rv b61, rv b90, rv b130, rv b182, rv b247, rv b326, iv (2 : Int32), iv w422, iv w449, iv w476, rv b42, rv b61, .unset] [])) (fun t k => Jvm.RoadKit.acmp (g := (mkF m 292 #[iv x0, iv x1, rv b42, rv b61, rv b90, rv b130, rv b182, rv b247, rv b326, iv (2 : Int32), iv w422, iv w449, iv w476, rv b42, rv b61, .unset] [(.ref b42), (.ref b61)])) X605 hx rfl (x := (.ref b61)) (y := (.ref b42)) rfl rfl (pc0 := 292) (pc' := 295) (same := false) rfl (hb hby at_292) rfl (decide_eq_false fun q => (Ne.symm ne67) (Value.ref.inj q)) (by decide) (by decide) k) ?_
                refine own_go (T' := T605) (g' := (mkF m 296 #[iv x0, iv x1, rv b42, rv b61, rv b90, rv b130, rv b182, rv b247, rv b326, iv (2 : Int32), iv w422, iv w449, iv w476, rv b42, rv b61, .unset] [(.ref b42)])) (fun t k => XS.aloadN X605.here hx rfl (hb hby at_295) rfl rfl k) ?_
                refine own_go (T' := T605) (g' := (mkF m 298 #[iv x0, iv x1, rv b42, rv b61, rv b90, rv b130, rv b182, rv b247, rv b326, iv (2 : Int32), iv w422, iv w449, iv w476, rv b42, rv b61, .unset] [(.ref b326), (.ref b42)])) (fun t k => XS.aload X605.here hx rfl (hb hby at_296) rfl rfl k) ?_
                obtain ⟨T630, h630, X630, e630, W630, st630⟩ := putF X605 hx hZ hown (host := "") (Or.inl (hw _ (List.mem_of_getElem? (i := 29) rfl))) Via.refl e605 c607 c606 (Or.inl (hw _ (List.mem_of_getElem? (i := 30) rfl))) (hw _ (List.mem_of_getElem? (i := 1) rfl)) (ty := (.object "com/example/treeline/treeline/Node")) (by decide) rfl rfl (g := (mkF m 298 #[iv x0, iv x1, rv b42, rv b61, rv b90, rv b130, rv b182, rv b247, rv b326, iv (2 : Int32), iv w422, iv w449, iv w476, rv b42, rv b61, .unset] [(.ref b326), (.ref b42)])) rfl rfl (hb hby at_298)
                have hz630 : n0 ≤ h630.size := Nat.le_trans hz605 (Keep.of_wr W630).1
                have N630 := Fr.snoc X630 N605 gn42
                have c631 := c606.wr W630
                have c632 := c607.same W630
                have c633 := c608.other W630 (Or.inr (slot_ne (Or.inl (hw _ (List.mem_of_getElem? (i := 28) rfl))) (Or.inl (hw _ (List.mem_of_getElem? (i := 30) rfl))) (by decide) (t := (.object "com/example/treeline/treeline/Node")) (t' := (.object "com/example/treeline/treeline/Node")) (by decide) (by decide)))
                have c634 := c609.wr W630
                have c635 := c610.other W630 (Or.inl (Ne.symm ne67))
                have c636 := c611.other W630 (Or.inl (Ne.symm ne67))
                have c637 := c612.wr W630
                have c638 := c613.other W630 (Or.inl (Ne.symm ne96))
                have c639 := c614.other W630 (Or.inl (Ne.symm ne96))
                have c640 := c615.wr W630
                have c641 := c616.other W630 (Or.inl (Ne.symm ne136))
                have c642 := c617.other W630 (Or.inl (Ne.symm ne136))
                have c643 := c618.wr W630
                have c644 := c619.other W630 (Or.inl (Ne.symm ne188))
                have c645 := c620.other W630 (Or.inl (Ne.symm ne188))
                have c646 := c621.wr W630
                have c647 := c622.other W630 (Or.inl (Ne.symm ne253))
                have c648 := c623.other W630 (Or.inl (Ne.symm ne253))
                have c649 := c624.wr W630
                have c650 := c625.other W630 (Or.inl (Ne.symm ne332))
                have c651 := c626.other W630 (Or.inl (Ne.symm ne332))
                refine own_go (T' := T630) (g' := (mkF m 301 #[iv x0, iv x1, rv b42, rv b61, rv b90, rv b130, rv b182, rv b247, rv b326, iv (2 : Int32), iv w422, iv w449, iv w476, rv b42, rv b61, .unset] [])) (st630) ?_
                refine own_go (T' := T630) (g' := (mkF m 303 #[iv x0, iv x1, rv b42, rv b61, rv b90, rv b130, rv b182, rv b247, rv b326, iv (2 : Int32), iv w422, iv w449, iv w476, rv b42, rv b61, .unset] [(.ref b42)])) (fun t k => XS.aload X630.here hx rfl (hb hby at_301) rfl rfl k) ?_
                obtain ⟨_, _, ⟨T652, L652, k652, n652⟩, -, X652, ⟨Lc652, hQ652, l652, y652, z652⟩, st652⟩ := Jvm.LawKit.callS X630 hx (y := (⟨"com/example/treeline/treeline/Node", "highest", "(Lcom/example/treeline/treeline/Node;)Lcom/example/treeline/treeline/Node;"⟩ : MethodName)) hown (mvT hZ (hw _ (List.mem_of_getElem? (i := 24) rfl))) (mvT hZ (hw _ (List.mem_of_getElem? (i := 25) rfl))) (mvT hZ (hw _ (List.mem_of_getElem? (i := 2) rfl))) (mvT hZ (hw _ (List.mem_of_getElem? (i := 26) rfl))) (by decide) (backOf (W := 0) (own_rhi2 l Z a0 hw [] b42 b61 h630 n0 hz630 c633 c636) hZ (hw _ (List.mem_of_getElem? (i := 26) rfl)) (hw _ (List.mem_of_getElem? (i := 2) rfl)) (by decide) (by decide)) (g := (mkF m 303 #[iv x0, iv x1, rv b42, rv b61, rv b90, rv b130, rv b182, rv b247, rv b326, iv (2 : Int32), iv w422, iv w449, iv w476, rv b42, rv b61, .unset] [(.ref b42)])) rfl (by rw [hml]; rfl) (argsL := [(.ref b42)]) (rest := []) (lenOf own_pd2 rfl) rfl (by show 2 * 0 + _ ≤ _; exact Nat.le_of_eq rfl) (hb hby at_303) (fun _ _ => ⟨rfl, e630, (by decide : 7 + 0 ≤ _), (by decide : 35 + 0 ≤ _)⟩)
                dsimp only [Pt.U, Pt.locs, Pt.cells, Pt.slots] at X652 l652 y652 z652 st652 hQ652
                subst l652 y652 z652
                obtain ⟨rfl, rfl, e652⟩ := hQ652
                have E652q : T652.heap = h630 := e652
                have N652 := Fr.app N630 (Fr.nil n0)
                refine own_go (T' := T652) (g' := (mkF m 306 #[iv x0, iv x1, rv b42, rv b61, rv b90, rv b130, rv b182, rv b247, rv b326, iv (2 : Int32), iv w422, iv w449, iv w476, rv b42, rv b61, .unset] [(.ref b61)])) (st652) ?_
                refine own_go (T' := T652) (g' := (mkF m 308 #[iv x0, iv x1, rv b42, rv b61, rv b90, rv b130, rv b182, rv b247, rv b326, iv (2 : Int32), iv w422, iv w449, iv w476, rv b42, rv b61, rv b61] [])) (fun t k => XS.astore X652.here hx rfl (hb hby at_306) rfl rfl (l' := #[iv x0, iv x1, rv b42, rv b61, rv b90, rv b130, rv b182, rv b247, rv b326, iv (2 : Int32), iv w422, iv w449, iv w476, rv b42, rv b61, rv b61]) rfl k) ?_
                refine own_go (T' := T652) (g' := (mkF m 310 #[iv x0, iv x1, rv b42, rv b61, rv b90, rv b130, rv b182, rv b247, rv b326, iv (2 : Int32), iv w422, iv w449, iv w476, rv b42, rv b61, rv b61] [(.ref b61)])) (fun t k => XS.aload X652.here hx rfl (hb hby at_308) rfl rfl k) ?_
                refine own_go (T' := T652) (g' := (mkF m 312 #[iv x0, iv x1, rv b42, rv b61, rv b90, rv b130, rv b182, rv b247, rv b326, iv (2 : Int32), iv w422, iv w449, iv w476, rv b42, rv b61, rv b61] [(.ref b61), (.ref b61)])) (fun t k => XS.aload X652.here hx rfl (hb hby at_310) rfl rfl k) ?_
                refine own_go (T' := T652) (g' := (mkF m 315 #[iv x0, iv x1, rv b42, rv b61, rv b90, rv b130, rv b182, rv b247, rv b326, iv (2 : Int32), iv w422, iv w449, iv w476, rv b42, rv b61, rv b61] [])) (fun t k => Jvm.RoadKit.acmp (g := (mkF m 312 #[iv x0, iv x1, rv b42, rv b61, rv b90, rv b130, rv b182, rv b247, rv b326, iv (2 : Int32), iv w422, iv w449, iv w476, rv b42, rv b61, rv b61] [(.ref b61), (.ref b61)])) X652 hx rfl (x := (.ref b61)) (y := (.ref b61)) rfl rfl (pc0 := 312) (pc' := 315) (same := true) rfl (hb hby at_312) rfl (decide_eq_true rfl) (by decide) (by decide) k) ?_
                refine own_go (T' := T652) (g' := (mkF m 316 #[iv x0, iv x1, rv b42, rv b61, rv b90, rv b130, rv b182, rv b247, rv b326, iv (2 : Int32), iv w422, iv w449, iv w476, rv b42, rv b61, rv b61] [(.int (1 : Int32))])) (fun t k => XS.iconst X652.here hx rfl (hb hby at_315) k) ?_
                refine own_go (T' := T652) (g' := (mkF m 320 #[iv x0, iv x1, rv b42, rv b61, rv b90, rv b130, rv b182, rv b247, rv b326, iv (2 : Int32), iv w422, iv w449, iv w476, rv b42, rv b61, rv b61] [(.int (1 : Int32))])) (fun t k => XS.goto X652.here hx rfl (pc0 := 316) (pc' := 320) rfl (hb hby at_316) (by decide) (by decide) k) ?_
                exact own_ret X652 hlk hx Bd.returns rfl (Or.inl ⟨rfl, Or.inr (Or.inl rfl), _, rfl⟩) (hb hby at_320) (by first | exact ⟨rfl, N652⟩ | (rw [Fr] at *; exact ⟨rfl, by simpa using N652⟩)) (by decide) (by decide)
            · refine own_go (T' := T605) (g' := (mkF m 277 #[iv x0, iv x1, rv b42, rv b61, rv b90, rv b130, rv b182, rv b247, rv b326, iv (2 : Int32), iv w422, iv w449, iv w476, rv b42, rv b61, .unset] [])) (fun t k => XS.ifNo X605.here hx rfl (hb hby at_274) rfl ((if0 _ _).trans (feq hc627).1) k) ?_
              refine own_go (T' := T605) (g' := (mkF m 279 #[iv x0, iv x1, rv b42, rv b61, rv b90, rv b130, rv b182, rv b247, rv b326, iv (2 : Int32), iv w422, iv w449, iv w476, rv b42, rv b61, .unset] [(.ref b182)])) (fun t k => XS.aload X605.here hx rfl (hb hby at_277) rfl rfl k) ?_
              refine own_go (T' := T605) (g' := (mkF m 281 #[iv x0, iv x1, rv b42, rv b61, rv b90, rv b130, rv b182, rv b247, rv b326, iv (2 : Int32), iv w422, iv w449, iv w476, rv b42, rv b61, .unset] [(.ref b247), (.ref b182)])) (fun t k => XS.aload X605.here hx rfl (hb hby at_279) rfl rfl k) ?_
              obtain ⟨T653, h653, X653, e653, W653, st653⟩ := putF X605 hx hZ hown (host := "") (Or.inl (hw _ (List.mem_of_getElem? (i := 27) rfl))) Via.refl e605 c620 c618 (Or.inl (hw _ (List.mem_of_getElem? (i := 28) rfl))) (hw _ (List.mem_of_getElem? (i := 1) rfl)) (ty := (.object "com/example/treeline/treeline/Node")) (by decide) rfl rfl (g := (mkF m 281 #[iv x0, iv x1, rv b42, rv b61, rv b90, rv b130, rv b182, rv b247, rv b326, iv (2 : Int32), iv w422, iv w449, iv w476, rv b42, rv b61, .unset] [(.ref b247), (.ref b182)])) rfl rfl (hb hby at_281)
              have hz653 : n0 ≤ h653.size := Nat.le_trans hz605 (Keep.of_wr W653).1
              have N653 := Fr.snoc X653 N605 gn182
              have c654 := c606.wr W653
              have c655 := c607.other W653 (Or.inl ne188)
              have c656 := c608.other W653 (Or.inl ne188)
              have c657 := c609.wr W653
              have c658 := c610.other W653 (Or.inl ne192)
              have c659 := c611.other W653 (Or.inl ne192)
              have c660 := c612.wr W653
              have c661 := c613.other W653 (Or.inl ne196)
              have c662 := c614.other W653 (Or.inl ne196)
              have c663 := c615.wr W653
              have c664 := c616.other W653 (Or.inl ne200)
              have c665 := c617.other W653 (Or.inl ne200)
              have c666 := c618.wr W653
              have c667 := c619.other W653 (Or.inr (slot_ne (Or.inl (hw _ (List.mem_of_getElem? (i := 30) rfl))) (Or.inl (hw _ (List.mem_of_getElem? (i := 28) rfl))) (by decide) (t := (.object "com/example/treeline/treeline/Node")) (t' := (.object "com/example/treeline/treeline/Node")) (by decide) (by decide)))
              have c668 := c620.same W653
              have c669 := c621.wr W653
              have c670 := c622.other W653 (Or.inl (Ne.symm ne269))
              have c671 := c623.other W653 (Or.inl (Ne.symm ne269))
              have c672 := c624.wr W653
              have c673 := c625.other W653 (Or.inl (Ne.symm ne348))
              have c674 := c626.other W653 (Or.inl (Ne.symm ne348))
              refine own_go (T' := T653) (g' := (mkF m 284 #[iv x0, iv x1, rv b42, rv b61, rv b90, rv b130, rv b182, rv b247, rv b326, iv (2 : Int32), iv w422, iv w449, iv w476, rv b42, rv b61, .unset] [])) (st653) ?_
              refine own_go (T' := T653) (g' := (mkF m 286 #[iv x0, iv x1, rv b42, rv b61, rv b90, rv b130, rv b182, rv b247, rv b326, iv (2 : Int32), iv w422, iv w449, iv w476, rv b42, rv b61, .unset] [(.int w476)])) (fun t k => XS.iload X653.here hx rfl (hb hby at_284) rfl k) ?_
              by_cases hc675 : w476 = (0 : Int32)
              · refine own_go (T' := T653) (g' := (mkF m 301 #[iv x0, iv x1, rv b42, rv b61, rv b90, rv b130, rv b182, rv b247, rv b326, iv (2 : Int32), iv w422, iv w449, iv w476, rv b42, rv b61, .unset] [])) (fun t k => XS.ifYes X653.here hx rfl (pc0 := 286) (pc' := 301) rfl (hb hby at_286) rfl ((if0 _ _).trans (teq hc675).1) (by decide) (by decide) k) ?_
                refine own_go (T' := T653) (g' := (mkF m 303 #[iv x0, iv x1, rv b42, rv b61, rv b90, rv b130, rv b182, rv b247, rv b326, iv (2 : Int32), iv w422, iv w449, iv w476, rv b42, rv b61, .unset] [(.ref b42)])) (fun t k => XS.aload X653.here hx rfl (hb hby at_301) rfl rfl k) ?_
                obtain ⟨_, _, ⟨T676, L676, k676, n676⟩, -, X676, ⟨Lc676, hQ676, l676, y676, z676⟩, st676⟩ := Jvm.LawKit.callS X653 hx (y := (⟨"com/example/treeline/treeline/Node", "highest", "(Lcom/example/treeline/treeline/Node;)Lcom/example/treeline/treeline/Node;"⟩ : MethodName)) hown (mvT hZ (hw _ (List.mem_of_getElem? (i := 24) rfl))) (mvT hZ (hw _ (List.mem_of_getElem? (i := 25) rfl))) (mvT hZ (hw _ (List.mem_of_getElem? (i := 2) rfl))) (mvT hZ (hw _ (List.mem_of_getElem? (i := 26) rfl))) (by decide) (backOf (W := 0) (own_rhi2 l Z a0 hw [] b42 b61 h653 n0 hz653 c656 c659) hZ (hw _ (List.mem_of_getElem? (i := 26) rfl)) (hw _ (List.mem_of_getElem? (i := 2) rfl)) (by decide) (by decide)) (g := (mkF m 303 #[iv x0, iv x1, rv b42, rv b61, rv b90, rv b130, rv b182, rv b247, rv b326, iv (2 : Int32), iv w422, iv w449, iv w476, rv b42, rv b61, .unset] [(.ref b42)])) rfl (by rw [hml]; rfl) (argsL := [(.ref b42)]) (rest := []) (lenOf own_pd2 rfl) rfl (by show 2 * 0 + _ ≤ _; exact Nat.le_of_eq rfl) (hb hby at_303) (fun _ _ => ⟨rfl, e653, (by decide : 7 + 0 ≤ _), (by decide : 35 + 0 ≤ _)⟩)
                dsimp only [Pt.U, Pt.locs, Pt.cells, Pt.slots] at X676 l676 y676 z676 st676 hQ676
                subst l676 y676 z676
                obtain ⟨rfl, rfl, e676⟩ := hQ676
                have E676q : T676.heap = h653 := e676
                have N676 := Fr.app N653 (Fr.nil n0)
                refine own_go (T' := T676) (g' := (mkF m 306 #[iv x0, iv x1, rv b42, rv b61, rv b90, rv b130, rv b182, rv b247, rv b326, iv (2 : Int32), iv w422, iv w449, iv w476, rv b42, rv b61, .unset] [(.ref b61)])) (st676) ?_
                refine own_go (T' := T676) (g' := (mkF m 308 #[iv x0, iv x1, rv b42, rv b61, rv b90, rv b130, rv b182, rv b247, rv b326, iv (2 : Int32), iv w422, iv w449, iv w476, rv b42, rv b61, rv b61] [])) (fun t k => XS.astore X676.here hx rfl (hb hby at_306) rfl rfl (l' := #[iv x0, iv x1, rv b42, rv b61, rv b90, rv b130, rv b182, rv b247, rv b326, iv (2 : Int32), iv w422, iv w449, iv w476, rv b42, rv b61, rv b61]) rfl k) ?_
                refine own_go (T' := T676) (g' := (mkF m 310 #[iv x0, iv x1, rv b42, rv b61, rv b90, rv b130, rv b182, rv b247, rv b326, iv (2 : Int32), iv w422, iv w449, iv w476, rv b42, rv b61, rv b61] [(.ref b61)])) (fun t k => XS.aload X676.here hx rfl (hb hby at_308) rfl rfl k) ?_
                refine own_go (T' := T676) (g' := (mkF m 312 #[iv x0, iv x1, rv b42, rv b61, rv b90, rv b130, rv b182, rv b247, rv b326, iv (2 : Int32), iv w422, iv w449, iv w476, rv b42, rv b61, rv b61] [(.ref b61), (.ref b61)])) (fun t k => XS.aload X676.here hx rfl (hb hby at_310) rfl rfl k) ?_
                refine own_go (T' := T676) (g' := (mkF m 315 #[iv x0, iv x1, rv b42, rv b61, rv b90, rv b130, rv b182, rv b247, rv b326, iv (2 : Int32), iv w422, iv w449, iv w476, rv b42, rv b61, rv b61] [])) (fun t k => Jvm.RoadKit.acmp (g := (mkF m 312 #[iv x0, iv x1, rv b42, rv b61, rv b90, rv b130, rv b182, rv b247, rv b326, iv (2 : Int32), iv w422, iv w449, iv w476, rv b42, rv b61, rv b61] [(.ref b61), (.ref b61)])) X676 hx rfl (x := (.ref b61)) (y := (.ref b61)) rfl rfl (pc0 := 312) (pc' := 315) (same := true) rfl (hb hby at_312) rfl (decide_eq_true rfl) (by decide) (by decide) k) ?_
                refine own_go (T' := T676) (g' := (mkF m 316 #[iv x0, iv x1, rv b42, rv b61, rv b90, rv b130, rv b182, rv b247, rv b326, iv (2 : Int32), iv w422, iv w449, iv w476, rv b42, rv b61, rv b61] [(.int (1 : Int32))])) (fun t k => XS.iconst X676.here hx rfl (hb hby at_315) k) ?_
                refine own_go (T' := T676) (g' := (mkF m 320 #[iv x0, iv x1, rv b42, rv b61, rv b90, rv b130, rv b182, rv b247, rv b326, iv (2 : Int32), iv w422, iv w449, iv w476, rv b42, rv b61, rv b61] [(.int (1 : Int32))])) (fun t k => XS.goto X676.here hx rfl (pc0 := 316) (pc' := 320) rfl (hb hby at_316) (by decide) (by decide) k) ?_
                exact own_ret X676 hlk hx Bd.returns rfl (Or.inl ⟨rfl, Or.inr (Or.inl rfl), _, rfl⟩) (hb hby at_320) (by first | exact ⟨rfl, N676⟩ | (rw [Fr] at *; exact ⟨rfl, by simpa using N676⟩)) (by decide) (by decide)
              · refine own_go (T' := T653) (g' := (mkF m 289 #[iv x0, iv x1, rv b42, rv b61, rv b90, rv b130, rv b182, rv b247, rv b326, iv (2 : Int32), iv w422, iv w449, iv w476, rv b42, rv b61, .unset] [])) (fun t k => XS.ifNo X653.here hx rfl (hb hby at_286) rfl ((if0 _ _).trans (feq hc675).1) k) ?_
                refine own_go (T' := T653) (g' := (mkF m 291 #[iv x0, iv x1, rv b42, rv b61, rv b90, rv b130, rv b182, rv b247, rv b326, iv (2 : Int32), iv w422, iv w449, iv w476, rv b42, rv b61, .unset] [(.ref b61)])) (fun t k => XS.aload X653.here hx rfl (hb hby at_289) rfl rfl k) ?_
                refine own_go (T' := T653) (g' := (mkF m 292 #[iv x0, iv x1, rv b42, rv b61, rv b90, rv b130, rv b182, rv b247, rv b326, iv (2 : Int32), iv w422, iv w449, iv w476, rv b42, rv b61, .unset] [(.ref b42), (.ref b61)])) (fun t k => XS.aloadN X653.here hx rfl (hb hby at_291) rfl rfl k) ?_
                refine own_go (T' := T653) (g' := (mkF m 295 #[iv x0, iv x1, rv b42, rv b61, rv b90, rv b130, rv b182, rv b247, rv b326, iv (2 : Int32), iv w422, iv w449, iv w476, rv b42, rv b61, .unset] [])) (fun t k => Jvm.RoadKit.acmp (g := (mkF m 292 #[iv x0, iv x1, rv b42, rv b61, rv b90, rv b130, rv b182, rv b247, rv b326, iv (2 : Int32), iv w422, iv w449, iv w476, rv b42, rv b61, .unset] [(.ref b42), (.ref b61)])) X653 hx rfl (x := (.ref b61)) (y := (.ref b42)) rfl rfl (pc0 := 292) (pc' := 295) (same := false) rfl (hb hby at_292) rfl (decide_eq_false fun q => (Ne.symm ne67) (Value.ref.inj q)) (by decide) (by decide) k) ?_
                refine own_go (T' := T653) (g' := (mkF m 296 #[iv x0, iv x1, rv b42, rv b61, rv b90, rv b130, rv b182, rv b247, rv b326, iv (2 : Int32), iv w422, iv w449, iv w476, rv b42, rv b61, .unset] [(.ref b42)])) (fun t k => XS.aloadN X653.here hx rfl (hb hby at_295) rfl rfl k) ?_
                refine own_go (T' := T653) (g' := (mkF m 298 #[iv x0, iv x1, rv b42, rv b61, rv b90, rv b130, rv b182, rv b247, rv b326, iv (2 : Int32), iv w422, iv w449, iv w476, rv b42, rv b61, .unset] [(.ref b326), (.ref b42)])) (fun t k => XS.aload X653.here hx rfl (hb hby at_296) rfl rfl k) ?_
                obtain ⟨T677, h677, X677, e677, W677, st677⟩ := putF X653 hx hZ hown (host := "") (Or.inl (hw _ (List.mem_of_getElem? (i := 29) rfl))) Via.refl e653 c655 c654 (Or.inl (hw _ (List.mem_of_getElem? (i := 30) rfl))) (hw _ (List.mem_of_getElem? (i := 1) rfl)) (ty := (.object "com/example/treeline/treeline/Node")) (by decide) rfl rfl (g := (mkF m 298 #[iv x0, iv x1, rv b42, rv b61, rv b90, rv b130, rv b182, rv b247, rv b326, iv (2 : Int32), iv w422, iv w449, iv w476, rv b42, rv b61, .unset] [(.ref b326), (.ref b42)])) rfl rfl (hb hby at_298)
                have hz677 : n0 ≤ h677.size := Nat.le_trans hz653 (Keep.of_wr W677).1
                have N677 := Fr.snoc X677 N653 gn42
                have c678 := c654.wr W677
                have c679 := c655.same W677
                have c680 := c656.other W677 (Or.inr (slot_ne (Or.inl (hw _ (List.mem_of_getElem? (i := 28) rfl))) (Or.inl (hw _ (List.mem_of_getElem? (i := 30) rfl))) (by decide) (t := (.object "com/example/treeline/treeline/Node")) (t' := (.object "com/example/treeline/treeline/Node")) (by decide) (by decide)))
                have c681 := c657.wr W677
                have c682 := c658.other W677 (Or.inl (Ne.symm ne67))
                have c683 := c659.other W677 (Or.inl (Ne.symm ne67))
                have c684 := c660.wr W677
                have c685 := c661.other W677 (Or.inl (Ne.symm ne96))
                have c686 := c662.other W677 (Or.inl (Ne.symm ne96))
                have c687 := c663.wr W677
                have c688 := c664.other W677 (Or.inl (Ne.symm ne136))
                have c689 := c665.other W677 (Or.inl (Ne.symm ne136))
                have c690 := c666.wr W677
                have c691 := c667.other W677 (Or.inl (Ne.symm ne188))
                have c692 := c668.other W677 (Or.inl (Ne.symm ne188))
                have c693 := c669.wr W677
                have c694 := c670.other W677 (Or.inl (Ne.symm ne253))
                have c695 := c671.other W677 (Or.inl (Ne.symm ne253))
                have c696 := c672.wr W677
                have c697 := c673.other W677 (Or.inl (Ne.symm ne332))
                have c698 := c674.other W677 (Or.inl (Ne.symm ne332))
                refine own_go (T' := T677) (g' := (mkF m 301 #[iv x0, iv x1, rv b42, rv b61, rv b90, rv b130, rv b182, rv b247, rv b326, iv (2 : Int32), iv w422, iv w449, iv w476, rv b42, rv b61, .unset] [])) (st677) ?_
                refine own_go (T' := T677) (g' := (mkF m 303 #[iv x0, iv x1, rv b42, rv b61, rv b90, rv b130, rv b182, rv b247, rv b326, iv (2 : Int32), iv w422, iv w449, iv w476, rv b42, rv b61, .unset] [(.ref b42)])) (fun t k => XS.aload X677.here hx rfl (hb hby at_301) rfl rfl k) ?_
                obtain ⟨_, _, ⟨T699, L699, k699, n699⟩, -, X699, ⟨Lc699, hQ699, l699, y699, z699⟩, st699⟩ := Jvm.LawKit.callS X677 hx (y := (⟨"com/example/treeline/treeline/Node", "highest", "(Lcom/example/treeline/treeline/Node;)Lcom/example/treeline/treeline/Node;"⟩ : MethodName)) hown (mvT hZ (hw _ (List.mem_of_getElem? (i := 24) rfl))) (mvT hZ (hw _ (List.mem_of_getElem? (i := 25) rfl))) (mvT hZ (hw _ (List.mem_of_getElem? (i := 2) rfl))) (mvT hZ (hw _ (List.mem_of_getElem? (i := 26) rfl))) (by decide) (backOf (W := 0) (own_rhi2 l Z a0 hw [] b42 b61 h677 n0 hz677 c680 c683) hZ (hw _ (List.mem_of_getElem? (i := 26) rfl)) (hw _ (List.mem_of_getElem? (i := 2) rfl)) (by decide) (by decide)) (g := (mkF m 303 #[iv x0, iv x1, rv b42, rv b61, rv b90, rv b130, rv b182, rv b247, rv b326, iv (2 : Int32), iv w422, iv w449, iv w476, rv b42, rv b61, .unset] [(.ref b42)])) rfl (by rw [hml]; rfl) (argsL := [(.ref b42)]) (rest := []) (lenOf own_pd2 rfl) rfl (by show 2 * 0 + _ ≤ _; exact Nat.le_of_eq rfl) (hb hby at_303) (fun _ _ => ⟨rfl, e677, (by decide : 7 + 0 ≤ _), (by decide : 35 + 0 ≤ _)⟩)
                dsimp only [Pt.U, Pt.locs, Pt.cells, Pt.slots] at X699 l699 y699 z699 st699 hQ699
                subst l699 y699 z699
                obtain ⟨rfl, rfl, e699⟩ := hQ699
                have E699q : T699.heap = h677 := e699
                have N699 := Fr.app N677 (Fr.nil n0)
                refine own_go (T' := T699) (g' := (mkF m 306 #[iv x0, iv x1, rv b42, rv b61, rv b90, rv b130, rv b182, rv b247, rv b326, iv (2 : Int32), iv w422, iv w449, iv w476, rv b42, rv b61, .unset] [(.ref b61)])) (st699) ?_
                refine own_go (T' := T699) (g' := (mkF m 308 #[iv x0, iv x1, rv b42, rv b61, rv b90, rv b130, rv b182, rv b247, rv b326, iv (2 : Int32), iv w422, iv w449, iv w476, rv b42, rv b61, rv b61] [])) (fun t k => XS.astore X699.here hx rfl (hb hby at_306) rfl rfl (l' := #[iv x0, iv x1, rv b42, rv b61, rv b90, rv b130, rv b182, rv b247, rv b326, iv (2 : Int32), iv w422, iv w449, iv w476, rv b42, rv b61, rv b61]) rfl k) ?_
                refine own_go (T' := T699) (g' := (mkF m 310 #[iv x0, iv x1, rv b42, rv b61, rv b90, rv b130, rv b182, rv b247, rv b326, iv (2 : Int32), iv w422, iv w449, iv w476, rv b42, rv b61, rv b61] [(.ref b61)])) (fun t k => XS.aload X699.here hx rfl (hb hby at_308) rfl rfl k) ?_
                refine own_go (T' := T699) (g' := (mkF m 312 #[iv x0, iv x1, rv b42, rv b61, rv b90, rv b130, rv b182, rv b247, rv b326, iv (2 : Int32), iv w422, iv w449, iv w476, rv b42, rv b61, rv b61] [(.ref b61), (.ref b61)])) (fun t k => XS.aload X699.here hx rfl (hb hby at_310) rfl rfl k) ?_
                refine own_go (T' := T699) (g' := (mkF m 315 #[iv x0, iv x1, rv b42, rv b61, rv b90, rv b130, rv b182, rv b247, rv b326, iv (2 : Int32), iv w422, iv w449, iv w476, rv b42, rv b61, rv b61] [])) (fun t k => Jvm.RoadKit.acmp (g := (mkF m 312 #[iv x0, iv x1, rv b42, rv b61, rv b90, rv b130, rv b182, rv b247, rv b326, iv (2 : Int32), iv w422, iv w449, iv w476, rv b42, rv b61, rv b61] [(.ref b61), (.ref b61)])) X699 hx rfl (x := (.ref b61)) (y := (.ref b61)) rfl rfl (pc0 := 312) (pc' := 315) (same := true) rfl (hb hby at_312) rfl (decide_eq_true rfl) (by decide) (by decide) k) ?_
                refine own_go (T' := T699) (g' := (mkF m 316 #[iv x0, iv x1, rv b42, rv b61, rv b90, rv b130, rv b182, rv b247, rv b326, iv (2 : Int32), iv w422, iv w449, iv w476, rv b42, rv b61, rv b61] [(.int (1 : Int32))])) (fun t k => XS.iconst X699.here hx rfl (hb hby at_315) k) ?_
                refine own_go (T' := T699) (g' := (mkF m 320 #[iv x0, iv x1, rv b42, rv b61, rv b90, rv b130, rv b182, rv b247, rv b326, iv (2 : Int32), iv w422, iv w449, iv w476, rv b42, rv b61, rv b61] [(.int (1 : Int32))])) (fun t k => XS.goto X699.here hx rfl (pc0 := 316) (pc' := 320) rfl (hb hby at_316) (by decide) (by decide) k) ?_
                exact own_ret X699 hlk hx Bd.returns rfl (Or.inl ⟨rfl, Or.inr (Or.inl rfl), _, rfl⟩) (hb hby at_320) (by first | exact ⟨rfl, N699⟩ | (rw [Fr] at *; exact ⟨rfl, by simpa using N699⟩)) (by decide) (by decide)
        · rw [hk]
          refine own_go (T' := T475) (g' := (mkF m 180 #[iv x0, iv x1, rv b42, rv b61, rv b90, rv b130, rv b182, rv b247, rv b326, iv (3 : Int32), iv w422, iv w449, iv w476, .unset, .unset, .unset] [])) (fun t k => XS.ifYes X475.here hx rfl (pc0 := 168) (pc' := 180) rfl (hb hby at_168) rfl ((if0 _ _).trans (feq (by decide : ¬ ((3 : Int32) = (0 : Int32)))).2) (by decide) (by decide) k) ?_
          refine own_go (T' := T475) (g' := (mkF m 181 #[iv x0, iv x1, rv b42, rv b61, rv b90, rv b130, rv b182, rv b247, rv b326, iv (3 : Int32), iv w422, iv w449, iv w476, .unset, .unset, .unset] [(.ref b42)])) (fun t k => XS.aloadN X475.here hx rfl (hb hby at_180) rfl rfl k) ?_
          refine own_go (T' := T475) (g' := (mkF m 183 #[iv x0, iv x1, rv b42, rv b61, rv b90, rv b130, rv b182, rv b247, rv b326, iv (3 : Int32), iv w422, iv w449, iv w476, rv b42, .unset, .unset] [])) (fun t k => XS.astore X475.here hx rfl (hb hby at_181) rfl rfl (l' := #[iv x0, iv x1, rv b42, rv b61, rv b90, rv b130, rv b182, rv b247, rv b326, iv (3 : Int32), iv w422, iv w449, iv w476, rv b42, .unset, .unset]) rfl k) ?_
          refine own_go (T' := T475) (g' := (mkF m 185 #[iv x0, iv x1, rv b42, rv b61, rv b90, rv b130, rv b182, rv b247, rv b326, iv (3 : Int32), iv w422, iv w449, iv w476, rv b42, .unset, .unset] [(.int (3 : Int32))])) (fun t k => XS.iload X475.here hx rfl (hb hby at_183) rfl k) ?_
          refine own_go (T' := T475) (g' := (mkF m 186 #[iv x0, iv x1, rv b42, rv b61, rv b90, rv b130, rv b182, rv b247, rv b326, iv (3 : Int32), iv w422, iv w449, iv w476, rv b42, .unset, .unset] [(.int (2 : Int32)), (.int (3 : Int32))])) (fun t k => XS.iconst X475.here hx rfl (hb hby at_185) k) ?_
          refine own_go (T' := T475) (g' := (mkF m 189 #[iv x0, iv x1, rv b42, rv b61, rv b90, rv b130, rv b182, rv b247, rv b326, iv (3 : Int32), iv w422, iv w449, iv w476, rv b42, .unset, .unset] [])) (fun t k => XS.icmpNo X475.here hx rfl (hb hby at_186) rfl (flt (by decide : ¬ ((3 : Int32) < (2 : Int32)))).1 k) ?_
          refine own_go (T' := T475) (g' := (mkF m 190 #[iv x0, iv x1, rv b42, rv b61, rv b90, rv b130, rv b182, rv b247, rv b326, iv (3 : Int32), iv w422, iv w449, iv w476, rv b42, .unset, .unset] [(.ref b42)])) (fun t k => XS.aloadN X475.here hx rfl (hb hby at_189) rfl rfl k) ?_
          refine own_go (T' := T475) (g' := (mkF m 191 #[iv x0, iv x1, rv b42, rv b61, rv b90, rv b130, rv b182, rv b247, rv b326, iv (3 : Int32), iv w422, iv w449, iv w476, rv b42, .unset, .unset] [(.ref b61), (.ref b42)])) (fun t k => XS.aloadN X475.here hx rfl (hb hby at_190) rfl rfl k) ?_
          obtain ⟨T700, h700, X700, e700, W700, st700⟩ := putF X475 hx hZ hown (host := "") (Or.inl (hw _ (List.mem_of_getElem? (i := 27) rfl))) Via.refl e475 j482 j480 (Or.inl (hw _ (List.mem_of_getElem? (i := 28) rfl))) (hw _ (List.mem_of_getElem? (i := 1) rfl)) (ty := (.object "com/example/treeline/treeline/Node")) (by decide) rfl rfl (g := (mkF m 191 #[iv x0, iv x1, rv b42, rv b61, rv b90, rv b130, rv b182, rv b247, rv b326, iv (3 : Int32), iv w422, iv w449, iv w476, rv b42, .unset, .unset] [(.ref b61), (.ref b42)])) rfl rfl (hb hby at_191)
          have hz700 : n0 ≤ h700.size := Nat.le_trans hz475 (Keep.of_wr W700).1
          have N700 := Fr.snoc X700 N475 gn42
          have c701 := j480.wr W700
          have c702 := j481.other W700 (Or.inr (slot_ne (Or.inl (hw _ (List.mem_of_getElem? (i := 30) rfl))) (Or.inl (hw _ (List.mem_of_getElem? (i := 28) rfl))) (by decide) (t := (.object "com/example/treeline/treeline/Node")) (t' := (.object "com/example/treeline/treeline/Node")) (by decide) (by decide)))
          have c703 := j482.same W700
          have c704 := j483.wr W700
          have c705 := j484.other W700 (Or.inl (Ne.symm ne67))
          have c706 := j485.other W700 (Or.inl (Ne.symm ne67))
          have c707 := j486.wr W700
          have c708 := j487.other W700 (Or.inl (Ne.symm ne96))
          have c709 := j488.other W700 (Or.inl (Ne.symm ne96))
          have c710 := j489.wr W700
          have c711 := j490.other W700 (Or.inl (Ne.symm ne136))
          have c712 := j491.other W700 (Or.inl (Ne.symm ne136))
          have c713 := j492.wr W700
          have c714 := j493.other W700 (Or.inl (Ne.symm ne188))
          have c715 := j494.other W700 (Or.inl (Ne.symm ne188))
          have c716 := j495.wr W700
          have c717 := j496.other W700 (Or.inl (Ne.symm ne253))
          have c718 := j497.other W700 (Or.inl (Ne.symm ne253))
          have c719 := j498.wr W700
          have c720 := j499.other W700 (Or.inl (Ne.symm ne332))
          have c721 := j500.other W700 (Or.inl (Ne.symm ne332))
          refine own_go (T' := T700) (g' := (mkF m 194 #[iv x0, iv x1, rv b42, rv b61, rv b90, rv b130, rv b182, rv b247, rv b326, iv (3 : Int32), iv w422, iv w449, iv w476, rv b42, .unset, .unset] [])) (st700) ?_
          refine own_go (T' := T700) (g' := (mkF m 196 #[iv x0, iv x1, rv b42, rv b61, rv b90, rv b130, rv b182, rv b247, rv b326, iv (3 : Int32), iv w422, iv w449, iv w476, rv b42, .unset, .unset] [(.int (3 : Int32))])) (fun t k => XS.iload X700.here hx rfl (hb hby at_194) rfl k) ?_
          refine own_go (T' := T700) (g' := (mkF m 197 #[iv x0, iv x1, rv b42, rv b61, rv b90, rv b130, rv b182, rv b247, rv b326, iv (3 : Int32), iv w422, iv w449, iv w476, rv b42, .unset, .unset] [(.int (3 : Int32)), (.int (3 : Int32))])) (fun t k => XS.iconst X700.here hx rfl (hb hby at_196) k) ?_
          refine own_go (T' := T700) (g' := (mkF m 200 #[iv x0, iv x1, rv b42, rv b61, rv b90, rv b130, rv b182, rv b247, rv b326, iv (3 : Int32), iv w422, iv w449, iv w476, rv b42, .unset, .unset] [])) (fun t k => XS.icmpNo X700.here hx rfl (hb hby at_197) rfl (flt (by decide : ¬ ((3 : Int32) < (3 : Int32)))).1 k) ?_
          refine own_go (T' := T700) (g' := (mkF m 201 #[iv x0, iv x1, rv b42, rv b61, rv b90, rv b130, rv b182, rv b247, rv b326, iv (3 : Int32), iv w422, iv w449, iv w476, rv b42, .unset, .unset] [(.ref b61)])) (fun t k => XS.aloadN X700.here hx rfl (hb hby at_200) rfl rfl k) ?_
          refine own_go (T' := T700) (g' := (mkF m 203 #[iv x0, iv x1, rv b42, rv b61, rv b90, rv b130, rv b182, rv b247, rv b326, iv (3 : Int32), iv w422, iv w449, iv w476, rv b42, .unset, .unset] [(.ref b90), (.ref b61)])) (fun t k => XS.aload X700.here hx rfl (hb hby at_201) rfl rfl k) ?_
          obtain ⟨T722, h722, X722, e722, W722, st722⟩ := putF X700 hx hZ hown (host := "") (Or.inl (hw _ (List.mem_of_getElem? (i := 27) rfl))) Via.refl e700 c706 c704 (Or.inl (hw _ (List.mem_of_getElem? (i := 28) rfl))) (hw _ (List.mem_of_getElem? (i := 1) rfl)) (ty := (.object "com/example/treeline/treeline/Node")) (by decide) rfl rfl (g := (mkF m 203 #[iv x0, iv x1, rv b42, rv b61, rv b90, rv b130, rv b182, rv b247, rv b326, iv (3 : Int32), iv w422, iv w449, iv w476, rv b42, .unset, .unset] [(.ref b90), (.ref b61)])) rfl rfl (hb hby at_203)
          have hz722 : n0 ≤ h722.size := Nat.le_trans hz700 (Keep.of_wr W722).1
          have N722 := Fr.snoc X722 N700 gn61
          have c723 := c701.wr W722
          have c724 := c702.other W722 (Or.inl ne67)
          have c725 := c703.other W722 (Or.inl ne67)
          have c726 := c704.wr W722
          have c727 := c705.other W722 (Or.inr (slot_ne (Or.inl (hw _ (List.mem_of_getElem? (i := 30) rfl))) (Or.inl (hw _ (List.mem_of_getElem? (i := 28) rfl))) (by decide) (t := (.object "com/example/treeline/treeline/Node")) (t' := (.object "com/example/treeline/treeline/Node")) (by decide) (by decide)))
          have c728 := c706.same W722
          have c729 := c707.wr W722
          have c730 := c708.other W722 (Or.inl (Ne.symm ne100))
          have c731 := c709.other W722 (Or.inl (Ne.symm ne100))
          have c732 := c710.wr W722
          have c733 := c711.other W722 (Or.inl (Ne.symm ne140))
          have c734 := c712.other W722 (Or.inl (Ne.symm ne140))
          have c735 := c713.wr W722
          have c736 := c714.other W722 (Or.inl (Ne.symm ne192))
          have c737 := c715.other W722 (Or.inl (Ne.symm ne192))
          have c738 := c716.wr W722
          have c739 := c717.other W722 (Or.inl (Ne.symm ne257))
          have c740 := c718.other W722 (Or.inl (Ne.symm ne257))
          have c741 := c719.wr W722
          have c742 := c720.other W722 (Or.inl (Ne.symm ne336))
          have c743 := c721.other W722 (Or.inl (Ne.symm ne336))
          refine own_go (T' := T722) (g' := (mkF m 206 #[iv x0, iv x1, rv b42, rv b61, rv b90, rv b130, rv b182, rv b247, rv b326, iv (3 : Int32), iv w422, iv w449, iv w476, rv b42, .unset, .unset] [])) (st722) ?_
          refine own_go (T' := T722) (g' := (mkF m 208 #[iv x0, iv x1, rv b42, rv b61, rv b90, rv b130, rv b182, rv b247, rv b326, iv (3 : Int32), iv w422, iv w449, iv w476, rv b42, .unset, .unset] [(.int (3 : Int32))])) (fun t k => XS.iload X722.here hx rfl (hb hby at_206) rfl k) ?_
          refine own_go (T' := T722) (g' := (mkF m 209 #[iv x0, iv x1, rv b42, rv b61, rv b90, rv b130, rv b182, rv b247, rv b326, iv (3 : Int32), iv w422, iv w449, iv w476, rv b42, .unset, .unset] [(.int (4 : Int32)), (.int (3 : Int32))])) (fun t k => XS.iconst X722.here hx rfl (hb hby at_208) k) ?_
          refine own_go (T' := T722) (g' := (mkF m 219 #[iv x0, iv x1, rv b42, rv b61, rv b90, rv b130, rv b182, rv b247, rv b326, iv (3 : Int32), iv w422, iv w449, iv w476, rv b42, .unset, .unset] [])) (fun t k => XS.icmpYes X722.here hx rfl (pc0 := 209) (pc' := 219) rfl (hb hby at_209) rfl (tlt (by decide : ((3 : Int32) < (4 : Int32)))).1 (by decide) (by decide) k) ?_
          refine own_go (T' := T722) (g' := (mkF m 221 #[iv x0, iv x1, rv b42, rv b61, rv b90, rv b130, rv b182, rv b247, rv b326, iv (3 : Int32), iv w422, iv w449, iv w476, rv b42, .unset, .unset] [(.int (3 : Int32))])) (fun t k => XS.iload X722.here hx rfl (hb hby at_219) rfl k) ?_
          refine own_go (T' := T722) (g' := (mkF m 222 #[iv x0, iv x1, rv b42, rv b61, rv b90, rv b130, rv b182, rv b247, rv b326, iv (3 : Int32), iv w422, iv w449, iv w476, rv b42, .unset, .unset] [(.int (1 : Int32)), (.int (3 : Int32))])) (fun t k => XS.iconst X722.here hx rfl (hb hby at_221) k) ?_
          refine own_go (T' := T722) (g' := (mkF m 231 #[iv x0, iv x1, rv b42, rv b61, rv b90, rv b130, rv b182, rv b247, rv b326, iv (3 : Int32), iv w422, iv w449, iv w476, rv b42, .unset, .unset] [])) (fun t k => XS.icmpYes X722.here hx rfl (pc0 := 222) (pc' := 231) rfl (hb hby at_222) rfl (feq (by decide : ¬ ((3 : Int32) = (1 : Int32)))).2 (by decide) (by decide) k) ?_
          refine own_go (T' := T722) (g' := (mkF m 233 #[iv x0, iv x1, rv b42, rv b61, rv b90, rv b130, rv b182, rv b247, rv b326, iv (3 : Int32), iv w422, iv w449, iv w476, rv b42, .unset, .unset] [(.int (3 : Int32))])) (fun t k => XS.iload X722.here hx rfl (hb hby at_231) rfl k) ?_
          refine own_go (T' := T722) (g' := (mkF m 234 #[iv x0, iv x1, rv b42, rv b61, rv b90, rv b130, rv b182, rv b247, rv b326, iv (3 : Int32), iv w422, iv w449, iv w476, rv b42, .unset, .unset] [(.int (2 : Int32)), (.int (3 : Int32))])) (fun t k => XS.iconst X722.here hx rfl (hb hby at_233) k) ?_
          refine own_go (T' := T722) (g' := (mkF m 243 #[iv x0, iv x1, rv b42, rv b61, rv b90, rv b130, rv b182, rv b247, rv b326, iv (3 : Int32), iv w422, iv w449, iv w476, rv b42, .unset, .unset] [])) (fun t k => XS.icmpYes X722.here hx rfl (pc0 := 234) (pc' := 243) rfl (hb hby at_234) rfl (feq (by decide : ¬ ((3 : Int32) = (2 : Int32)))).2 (by decide) (by decide) k) ?_
          refine own_go (T' := T722) (g' := (mkF m 245 #[iv x0, iv x1, rv b42, rv b61, rv b90, rv b130, rv b182, rv b247, rv b326, iv (3 : Int32), iv w422, iv w449, iv w476, rv b42, .unset, .unset] [(.int (3 : Int32))])) (fun t k => XS.iload X722.here hx rfl (hb hby at_243) rfl k) ?_
          refine own_go (T' := T722) (g' := (mkF m 246 #[iv x0, iv x1, rv b42, rv b61, rv b90, rv b130, rv b182, rv b247, rv b326, iv (3 : Int32), iv w422, iv w449, iv w476, rv b42, .unset, .unset] [(.int (3 : Int32)), (.int (3 : Int32))])) (fun t k => XS.iconst X722.here hx rfl (hb hby at_245) k) ?_
          refine own_go (T' := T722) (g' := (mkF m 249 #[iv x0, iv x1, rv b42, rv b61, rv b90, rv b130, rv b182, rv b247, rv b326, iv (3 : Int32), iv w422, iv w449, iv w476, rv b42, .unset, .unset] [])) (fun t k => XS.icmpNo X722.here hx rfl (hb hby at_246) rfl (teq (by decide : ((3 : Int32) = (3 : Int32)))).2 k) ?_
          refine own_go (T' := T722) (g' := (mkF m 251 #[iv x0, iv x1, rv b42, rv b61, rv b90, rv b130, rv b182, rv b247, rv b326, iv (3 : Int32), iv w422, iv w449, iv w476, rv b42, .unset, .unset] [(.ref b90)])) (fun t k => XS.aload X722.here hx rfl (hb hby at_249) rfl rfl k) ?_
          refine own_go (T' := T722) (g' := (mkF m 253 #[iv x0, iv x1, rv b42, rv b61, rv b90, rv b130, rv b182, rv b247, rv b326, iv (3 : Int32), iv w422, iv w449, iv w476, rv b42, rv b90, .unset] [])) (fun t k => XS.astore X722.here hx rfl (hb hby at_251) rfl rfl (l' := #[iv x0, iv x1, rv b42, rv b61, rv b90, rv b130, rv b182, rv b247, rv b326, iv (3 : Int32), iv w422, iv w449, iv w476, rv b42, rv b90, .unset]) rfl k) ?_
          refine own_go (T' := T722) (g' := (mkF m 260 #[iv x0, iv x1, rv b42, rv b61, rv b90, rv b130, rv b182, rv b247, rv b326, iv (3 : Int32), iv w422, iv w449, iv w476, rv b42, rv b90, .unset] [])) (fun t k => XS.goto X722.here hx rfl (pc0 := 253) (pc' := 260) rfl (hb hby at_253) (by decide) (by decide) k) ?_
          refine own_go (T' := T722) (g' := (mkF m 262 #[iv x0, iv x1, rv b42, rv b61, rv b90, rv b130, rv b182, rv b247, rv b326, iv (3 : Int32), iv w422, iv w449, iv w476, rv b42, rv b90, .unset] [(.int w422)])) (fun t k => XS.iload X722.here hx rfl (hb hby at_260) rfl k) ?_
          by_cases hc744 : w422 = (0 : Int32)
          · refine own_go (T' := T722) (g' := (mkF m 284 #[iv x0, iv x1, rv b42, rv b61, rv b90, rv b130, rv b182, rv b247, rv b326, iv (3 : Int32), iv w422, iv w449, iv w476, rv b42, rv b90, .unset] [])) (fun t k => XS.ifYes X722.here hx rfl (pc0 := 262) (pc' := 284) rfl (hb hby at_262) rfl ((if0 _ _).trans (teq hc744).1) (by decide) (by decide) k) ?_
            refine own_go (T' := T722) (g' := (mkF m 286 #[iv x0, iv x1, rv b42, rv b61, rv b90, rv b130, rv b182, rv b247, rv b326, iv (3 : Int32), iv w422, iv w449, iv w476, rv b42, rv b90, .unset] [(.int w476)])) (fun t k => XS.iload X722.here hx rfl (hb hby at_284) rfl k) ?_
            by_cases hc745 : w476 = (0 : Int32)
            · refine own_go (T' := T722) (g' := (mkF m 301 #[iv x0, iv x1, rv b42, rv b61, rv b90, rv b130, rv b182, rv b247, rv b326, iv (3 : Int32), iv w422, iv w449, iv w476, rv b42, rv b90, .unset] [])) (fun t k => XS.ifYes X722.here hx rfl (pc0 := 286) (pc' := 301) rfl (hb hby at_286) rfl ((if0 _ _).trans (teq hc745).1) (by decide) (by decide) k) ?_
              refine own_go (T' := T722) (g' := (mkF m 303 #[iv x0, iv x1, rv b42, rv b61, rv b90, rv b130, rv b182, rv b247, rv b326, iv (3 : Int32), iv w422, iv w449, iv w476, rv b42, rv b90, .unset] [(.ref b42)])) (fun t k => XS.aload X722.here hx rfl (hb hby at_301) rfl rfl k) ?_
              obtain ⟨_, _, ⟨T746, L746, k746, n746⟩, -, X746, ⟨Lc746, hQ746, l746, y746, z746⟩, st746⟩ := Jvm.LawKit.callS X722 hx (y := (⟨"com/example/treeline/treeline/Node", "highest", "(Lcom/example/treeline/treeline/Node;)Lcom/example/treeline/treeline/Node;"⟩ : MethodName)) hown (mvT hZ (hw _ (List.mem_of_getElem? (i := 24) rfl))) (mvT hZ (hw _ (List.mem_of_getElem? (i := 25) rfl))) (mvT hZ (hw _ (List.mem_of_getElem? (i := 2) rfl))) (mvT hZ (hw _ (List.mem_of_getElem? (i := 26) rfl))) (by decide) (backOf (W := 0) (own_rhi3 l Z a0 hw [] b42 b61 b90 h722 n0 hz722 c725 c728 c731) hZ (hw _ (List.mem_of_getElem? (i := 26) rfl)) (hw _ (List.mem_of_getElem? (i := 2) rfl)) (by decide) (by decide)) (g := (mkF m 303 #[iv x0, iv x1, rv b42, rv b61, rv b90, rv b130, rv b182, rv b247, rv b326, iv (3 : Int32), iv w422, iv w449, iv w476, rv b42, rv b90, .unset] [(.ref b42)])) rfl (by rw [hml]; rfl) (argsL := [(.ref b42)]) (rest := []) (lenOf own_pd2 rfl) rfl (by show 2 * 0 + _ ≤ _; exact Nat.le_of_eq rfl) (hb hby at_303) (fun _ _ => ⟨rfl, e722, (by decide : 7 + 0 ≤ _), (by decide : 35 + 0 ≤ _)⟩)
              dsimp only [Pt.U, Pt.locs, Pt.cells, Pt.slots] at X746 l746 y746 z746 st746 hQ746
              subst l746 y746 z746
              obtain ⟨rfl, rfl, e746⟩ := hQ746
              have E746q : T746.heap = h722 := e746
              have N746 := Fr.app N722 (Fr.nil n0)
              refine own_go (T' := T746) (g' := (mkF m 306 #[iv x0, iv x1, rv b42, rv b61, rv b90, rv b130, rv b182, rv b247, rv b326, iv (3 : Int32), iv w422, iv w449, iv w476, rv b42, rv b90, .unset] [(.ref b90)])) (st746) ?_
              refine own_go (T' := T746) (g' := (mkF m 308 #[iv x0, iv x1, rv b42, rv b61, rv b90, rv b130, rv b182, rv b247, rv b326, iv (3 : Int32), iv w422, iv w449, iv w476, rv b42, rv b90, rv b90] [])) (fun t k => XS.astore X746.here hx rfl (hb hby at_306) rfl rfl (l' := #[iv x0, iv x1, rv b42, rv b61, rv b90, rv b130, rv b182, rv b247, rv b326, iv (3 : Int32), iv w422, iv w449, iv w476, rv b42, rv b90, rv b90]) rfl k) ?_
              refine own_go (T' := T746) (g' := (mkF m 310 #[iv x0, iv x1, rv b42, rv b61, rv b90, rv b130, rv b182, rv b247, rv b326, iv (3 : Int32), iv w422, iv w449, iv w476, rv b42, rv b90, rv b90] [(.ref b90)])) (fun t k => XS.aload X746.here hx rfl (hb hby at_308) rfl rfl k) ?_
              refine own_go (T' := T746) (g' := (mkF m 312 #[iv x0, iv x1, rv b42, rv b61, rv b90, rv b130, rv b182, rv b247, rv b326, iv (3 : Int32), iv w422, iv w449, iv w476, rv b42, rv b90, rv b90] [(.ref b90), (.ref b90)])) (fun t k => XS.aload X746.here hx rfl (hb hby at_310) rfl rfl k) ?_
              refine own_go (T' := T746) (g' := (mkF m 315 #[iv x0, iv x1, rv b42, rv b61, rv b90, rv b130, rv b182, rv b247, rv b326, iv (3 : Int32), iv w422, iv w449, iv w476, rv b42, rv b90, rv b90] [])) (fun t k => Jvm.RoadKit.acmp (g := (mkF m 312 #[iv x0, iv x1, rv b42, rv b61, rv b90, rv b130, rv b182, rv b247, rv b326, iv (3 : Int32), iv w422, iv w449, iv w476, rv b42, rv b90, rv b90] [(.ref b90), (.ref b90)])) X746 hx rfl (x := (.ref b90)) (y := (.ref b90)) rfl rfl (pc0 := 312) (pc' := 315) (same := true) rfl (hb hby at_312) rfl (decide_eq_true rfl) (by decide) (by decide) k) ?_
              refine own_go (T' := T746) (g' := (mkF m 316 #[iv x0, iv x1, rv b42, rv b61, rv b90, rv b130, rv b182, rv b247, rv b326, iv (3 : Int32), iv w422, iv w449, iv w476, rv b42, rv b90, rv b90] [(.int (1 : Int32))])) (fun t k => XS.iconst X746.here hx rfl (hb hby at_315) k) ?_
              refine own_go (T' := T746) (g' := (mkF m 320 #[iv x0, iv x1, rv b42, rv b61, rv b90, rv b130, rv b182, rv b247, rv b326, iv (3 : Int32), iv w422, iv w449, iv w476, rv b42, rv b90, rv b90] [(.int (1 : Int32))])) (fun t k => XS.goto X746.here hx rfl (pc0 := 316) (pc' := 320) rfl (hb hby at_316) (by decide) (by decide) k) ?_
              exact own_ret X746 hlk hx Bd.returns rfl (Or.inl ⟨rfl, Or.inr (Or.inl rfl), _, rfl⟩) (hb hby at_320) (by first | exact ⟨rfl, N746⟩ | (rw [Fr] at *; exact ⟨rfl, by simpa using N746⟩)) (by decide) (by decide)
            · refine own_go (T' := T722) (g' := (mkF m 289 #[iv x0, iv x1, rv b42, rv b61, rv b90, rv b130, rv b182, rv b247, rv b326, iv (3 : Int32), iv w422, iv w449, iv w476, rv b42, rv b90, .unset] [])) (fun t k => XS.ifNo X722.here hx rfl (hb hby at_286) rfl ((if0 _ _).trans (feq hc745).1) k) ?_
              refine own_go (T' := T722) (g' := (mkF m 291 #[iv x0, iv x1, rv b42, rv b61, rv b90, rv b130, rv b182, rv b247, rv b326, iv (3 : Int32), iv w422, iv w449, iv w476, rv b42, rv b90, .unset] [(.ref b90)])) (fun t k => XS.aload X722.here hx rfl (hb hby at_289) rfl rfl k) ?_
              refine own_go (T' := T722) (g' := (mkF m 292 #[iv x0, iv x1, rv b42, rv b61, rv b90, rv b130, rv b182, rv b247, rv b326, iv (3 : Int32), iv w422, iv w449, iv w476, rv b42, rv b90, .unset] [(.ref b42), (.ref b90)])) (fun t k => XS.aloadN X722.here hx rfl (hb hby at_291) rfl rfl k) ?_
              refine own_go (T' := T722) (g' := (mkF m 295 #[iv x0, iv x1, rv b42, rv b61, rv b90, rv b130, rv b182, rv b247, rv b326, iv (3 : Int32), iv w422, iv w449, iv w476, rv b42, rv b90, .unset] [])) (fun t k => Jvm.RoadKit.acmp (g := (mkF m 292 #[iv x0, iv x1, rv b42, rv b61, rv b90, rv b130, rv b182, rv b247, rv b326, iv (3 : Int32), iv w422, iv w449, iv w476, rv b42, rv b90, .unset] [(.ref b42), (.ref b90)])) X722 hx rfl (x := (.ref b90)) (y := (.ref b42)) rfl rfl (pc0 := 292) (pc' := 295) (same := false) rfl (hb hby at_292) rfl (decide_eq_false fun q => (Ne.symm ne96) (Value.ref.inj q)) (by decide) (by decide) k) ?_
              refine own_go (T' := T722) (g' := (mkF m 296 #[iv x0, iv x1, rv b42, rv b61, rv b90, rv b130, rv b182, rv b247, rv b326, iv (3 : Int32), iv w422, iv w449, iv w476, rv b42, rv b90, .unset] [(.ref b42)])) (fun t k => XS.aloadN X722.here hx rfl (hb hby at_295) rfl rfl k) ?_
              refine own_go (T' := T722) (g' := (mkF m 298 #[iv x0, iv x1, rv b42, rv b61, rv b90, rv b130, rv b182, rv b247, rv b326, iv (3 : Int32), iv w422, iv w449, iv w476, rv b42, rv b90, .unset] [(.ref b326), (.ref b42)])) (fun t k => XS.aload X722.here hx rfl (hb hby at_296) rfl rfl k) ?_
              obtain ⟨T747, h747, X747, e747, W747, st747⟩ := putF X722 hx hZ hown (host := "") (Or.inl (hw _ (List.mem_of_getElem? (i := 29) rfl))) Via.refl e722 c724 c723 (Or.inl (hw _ (List.mem_of_getElem? (i := 30) rfl))) (hw _ (List.mem_of_getElem? (i := 1) rfl)) (ty := (.object "com/example/treeline/treeline/Node")) (by decide) rfl rfl (g := (mkF m 298 #[iv x0, iv x1, rv b42, rv b61, rv b90, rv b130, rv b182, rv b247, rv b326, iv (3 : Int32), iv w422, iv w449, iv w476, rv b42, rv b90, .unset] [(.ref b326), (.ref b42)])) rfl rfl (hb hby at_298)
              have hz747 : n0 ≤ h747.size := Nat.le_trans hz722 (Keep.of_wr W747).1
              have N747 := Fr.snoc X747 N722 gn42
              have c748 := c723.wr W747
              have c749 := c724.same W747
              have c750 := c725.other W747 (Or.inr (slot_ne (Or.inl (hw _ (List.mem_of_getElem? (i := 28) rfl))) (Or.inl (hw _ (List.mem_of_getElem? (i := 30) rfl))) (by decide) (t := (.object "com/example/treeline/treeline/Node")) (t' := (.object "com/example/treeline/treeline/Node")) (by decide) (by decide)))
              have c751 := c726.wr W747
              have c752 := c727.other W747 (Or.inl (Ne.symm ne67))
              have c753 := c728.other W747 (Or.inl (Ne.symm ne67))
              have c754 := c729.wr W747
              have c755 := c730.other W747 (Or.inl (Ne.symm ne96))
              have c756 := c731.other W747 (Or.inl (Ne.symm ne96))
              have c757 := c732.wr W747
              have c758 := c733.other W747 (Or.inl (Ne.symm ne136))
              have c759 := c734.other W747 (Or.inl (Ne.symm ne136))
              have c760 := c735.wr W747
              have c761 := c736.other W747 (Or.inl (Ne.symm ne188))
              have c762 := c737.other W747 (Or.inl (Ne.symm ne188))
              have c763 := c738.wr W747
              have c764 := c739.other W747 (Or.inl (Ne.symm ne253))
              have c765 := c740.other W747 (Or.inl (Ne.symm ne253))
              have c766 := c741.wr W747
              have c767 := c742.other W747 (Or.inl (Ne.symm ne332))
              have c768 := c743.other W747 (Or.inl (Ne.symm ne332))
              refine own_go (T' := T747) (g' := (mkF m 301 #[iv x0, iv x1, rv b42, rv b61, rv b90, rv b130, rv b182, rv b247, rv b326, iv (3 : Int32), iv w422, iv w449, iv w476, rv b42, rv b90, .unset] [])) (st747) ?_
              refine own_go (T' := T747) (g' := (mkF m 303 #[iv x0, iv x1, rv b42, rv b61, rv b90, rv b130, rv b182, rv b247, rv b326, iv (3 : Int32), iv w422, iv w449, iv w476, rv b42, rv b90, .unset] [(.ref b42)])) (fun t k => XS.aload X747.here hx rfl (hb hby at_301) rfl rfl k) ?_
              obtain ⟨_, _, ⟨T769, L769, k769, n769⟩, -, X769, ⟨Lc769, hQ769, l769, y769, z769⟩, st769⟩ := Jvm.LawKit.callS X747 hx (y := (⟨"com/example/treeline/treeline/Node", "highest", "(Lcom/example/treeline/treeline/Node;)Lcom/example/treeline/treeline/Node;"⟩ : MethodName)) hown (mvT hZ (hw _ (List.mem_of_getElem? (i := 24) rfl))) (mvT hZ (hw _ (List.mem_of_getElem? (i := 25) rfl))) (mvT hZ (hw _ (List.mem_of_getElem? (i := 2) rfl))) (mvT hZ (hw _ (List.mem_of_getElem? (i := 26) rfl))) (by decide) (backOf (W := 0) (own_rhi3 l Z a0 hw [] b42 b61 b90 h747 n0 hz747 c750 c753 c756) hZ (hw _ (List.mem_of_getElem? (i := 26) rfl)) (hw _ (List.mem_of_getElem? (i := 2) rfl)) (by decide) (by decide)) (g := (mkF m 303 #[iv x0, iv x1, rv b42, rv b61, rv b90, rv b130, rv b182, rv b247, rv b326, iv (3 : Int32), iv w422, iv w449, iv w476, rv b42, rv b90, .unset] [(.ref b42)])) rfl (by rw [hml]; rfl) (argsL := [(.ref b42)]) (rest := []) (lenOf own_pd2 rfl) rfl (by show 2 * 0 + _ ≤ _; exact Nat.le_of_eq rfl) (hb hby at_303) (fun _ _ => ⟨rfl, e747, (by decide : 7 + 0 ≤ _), (by decide : 35 + 0 ≤ _)⟩)
              dsimp only [Pt.U, Pt.locs, Pt.cells, Pt.slots] at X769 l769 y769 z769 st769 hQ769
              subst l769 y769 z769
              obtain ⟨rfl, rfl, e769⟩ := hQ769
              have E769q : T769.heap = h747 := e769
              have N769 := Fr.app N747 (Fr.nil n0)
              refine own_go (T' := T769) (g' := (mkF m 306 #[iv x0, iv x1, rv b42, rv b61, rv b90, rv b130, rv b182, rv b247, rv b326, iv (3 : Int32), iv w422, iv w449, iv w476, rv b42, rv b90, .unset] [(.ref b90)])) (st769) ?_
              refine own_go (T' := T769) (g' := (mkF m 308 #[iv x0, iv x1, rv b42, rv b61, rv b90, rv b130, rv b182, rv b247, rv b326, iv (3 : Int32), iv w422, iv w449, iv w476, rv b42, rv b90, rv b90] [])) (fun t k => XS.astore X769.here hx rfl (hb hby at_306) rfl rfl (l' := #[iv x0, iv x1, rv b42, rv b61, rv b90, rv b130, rv b182, rv b247, rv b326, iv (3 : Int32), iv w422, iv w449, iv w476, rv b42, rv b90, rv b90]) rfl k) ?_
              refine own_go (T' := T769) (g' := (mkF m 310 #[iv x0, iv x1, rv b42, rv b61, rv b90, rv b130, rv b182, rv b247, rv b326, iv (3 : Int32), iv w422, iv w449, iv w476, rv b42, rv b90, rv b90] [(.ref b90)])) (fun t k => XS.aload X769.here hx rfl (hb hby at_308) rfl rfl k) ?_
              refine own_go (T' := T769) (g' := (mkF m 312 #[iv x0, iv x1, rv b42, rv b61, rv b90, rv b130, rv b182, rv b247, rv b326, iv (3 : Int32), iv w422, iv w449, iv w476, rv b42, rv b90, rv b90] [(.ref b90), (.ref b90)])) (fun t k => XS.aload X769.here hx rfl (hb hby at_310) rfl rfl k) ?_
              refine own_go (T' := T769) (g' := (mkF m 315 #[iv x0, iv x1, rv b42, rv b61, rv b90, rv b130, rv b182, rv b247, rv b326, iv (3 : Int32), iv w422, iv w449, iv w476, rv b42, rv b90, rv b90] [])) (fun t k => Jvm.RoadKit.acmp (g := (mkF m 312 #[iv x0, iv x1, rv b42, rv b61, rv b90, rv b130, rv b182, rv b247, rv b326, iv (3 : Int32), iv w422, iv w449, iv w476, rv b42, rv b90, rv b90] [(.ref b90), (.ref b90)])) X769 hx rfl (x := (.ref b90)) (y := (.ref b90)) rfl rfl (pc0 := 312) (pc' := 315) (same := true) rfl (hb hby at_312) rfl (decide_eq_true rfl) (by decide) (by decide) k) ?_
              refine own_go (T' := T769) (g' := (mkF m 316 #[iv x0, iv x1, rv b42, rv b61, rv b90, rv b130, rv b182, rv b247, rv b326, iv (3 : Int32), iv w422, iv w449, iv w476, rv b42, rv b90, rv b90] [(.int (1 : Int32))])) (fun t k => XS.iconst X769.here hx rfl (hb hby at_315) k) ?_
              refine own_go (T' := T769) (g' := (mkF m 320 #[iv x0, iv x1, rv b42, rv b61, rv b90, rv b130, rv b182, rv b247, rv b326, iv (3 : Int32), iv w422, iv w449, iv w476, rv b42, rv b90, rv b90] [(.int (1 : Int32))])) (fun t k => XS.goto X769.here hx rfl (pc0 := 316) (pc' := 320) rfl (hb hby at_316) (by decide) (by decide) k) ?_
              exact own_ret X769 hlk hx Bd.returns rfl (Or.inl ⟨rfl, Or.inr (Or.inl rfl), _, rfl⟩) (hb hby at_320) (by first | exact ⟨rfl, N769⟩ | (rw [Fr] at *; exact ⟨rfl, by simpa using N769⟩)) (by decide) (by decide)
          · refine own_go (T' := T722) (g' := (mkF m 265 #[iv x0, iv x1, rv b42, rv b61, rv b90, rv b130, rv b182, rv b247, rv b326, iv (3 : Int32), iv w422, iv w449, iv w476, rv b42, rv b90, .unset] [])) (fun t k => XS.ifNo X722.here hx rfl (hb hby at_262) rfl ((if0 _ _).trans (feq hc744).1) k) ?_
            refine own_go (T' := T722) (g' := (mkF m 267 #[iv x0, iv x1, rv b42, rv b61, rv b90, rv b130, rv b182, rv b247, rv b326, iv (3 : Int32), iv w422, iv w449, iv w476, rv b42, rv b90, .unset] [(.ref b90)])) (fun t k => XS.aload X722.here hx rfl (hb hby at_265) rfl rfl k) ?_
            refine own_go (T' := T722) (g' := (mkF m 269 #[iv x0, iv x1, rv b42, rv b61, rv b90, rv b130, rv b182, rv b247, rv b326, iv (3 : Int32), iv w422, iv w449, iv w476, rv b42, rv b90, .unset] [(.ref b182), (.ref b90)])) (fun t k => XS.aload X722.here hx rfl (hb hby at_267) rfl rfl k) ?_
            obtain ⟨T770, h770, X770, e770, W770, st770⟩ := putF X722 hx hZ hown (host := "") (Or.inl (hw _ (List.mem_of_getElem? (i := 29) rfl))) Via.refl e722 c730 c729 (Or.inl (hw _ (List.mem_of_getElem? (i := 30) rfl))) (hw _ (List.mem_of_getElem? (i := 1) rfl)) (ty := (.object "com/example/treeline/treeline/Node")) (by decide) rfl rfl (g := (mkF m 269 #[iv x0, iv x1, rv b42, rv b61, rv b90, rv b130, rv b182, rv b247, rv b326, iv (3 : Int32), iv w422, iv w449, iv w476, rv b42, rv b90, .unset] [(.ref b182), (.ref b90)])) rfl rfl (hb hby at_269)
            have hz770 : n0 ≤ h770.size := Nat.le_trans hz722 (Keep.of_wr W770).1
            have N770 := Fr.snoc X770 N722 gn90
            have c771 := c723.wr W770
            have c772 := c724.other W770 (Or.inl ne96)
            have c773 := c725.other W770 (Or.inl ne96)
            have c774 := c726.wr W770
            have c775 := c727.other W770 (Or.inl ne100)
            have c776 := c728.other W770 (Or.inl ne100)
            have c777 := c729.wr W770
            have c778 := c730.same W770
            have c779 := c731.other W770 (Or.inr (slot_ne (Or.inl (hw _ (List.mem_of_getElem? (i := 28) rfl))) (Or.inl (hw _ (List.mem_of_getElem? (i := 30) rfl))) (by decide) (t := (.object "com/example/treeline/treeline/Node")) (t' := (.object "com/example/treeline/treeline/Node")) (by decide) (by decide)))
            have c780 := c732.wr W770
            have c781 := c733.other W770 (Or.inl (Ne.symm ne144))
            have c782 := c734.other W770 (Or.inl (Ne.symm ne144))
            have c783 := c735.wr W770
            have c784 := c736.other W770 (Or.inl (Ne.symm ne196))
            have c785 := c737.other W770 (Or.inl (Ne.symm ne196))
            have c786 := c738.wr W770
            have c787 := c739.other W770 (Or.inl (Ne.symm ne261))
            have c788 := c740.other W770 (Or.inl (Ne.symm ne261))
            have c789 := c741.wr W770
            have c790 := c742.other W770 (Or.inl (Ne.symm ne340))
            have c791 := c743.other W770 (Or.inl (Ne.symm ne340))
            refine own_go (T' := T770) (g' := (mkF m 272 #[iv x0, iv x1, rv b42, rv b61, rv b90, rv b130, rv b182, rv b247, rv b326, iv (3 : Int32), iv w422, iv w449, iv w476, rv b42, rv b90, .unset] [])) (st770) ?_
            refine own_go (T' := T770) (g' := (mkF m 274 #[iv x0, iv x1, rv b42, rv b61, rv b90, rv b130, rv b182, rv b247, rv b326, iv (3 : Int32), iv w422, iv w449, iv w476, rv b42, rv b90, .unset] [(.int w449)])) (fun t k => XS.iload X770.here hx rfl (hb hby at_272) rfl k) ?_
            by_cases hc792 : w449 = (0 : Int32)
            · refine own_go (T' := T770) (g' := (mkF m 284 #[iv x0, iv x1, rv b42, rv b61, rv b90, rv b130, rv b182, rv b247, rv b326, iv (3 : Int32), iv w422, iv w449, iv w476, rv b42, rv b90, .unset] [])) (fun t k => XS.ifYes X770.here hx rfl (pc0 := 274) (pc' := 284) rfl (hb hby at_274) rfl ((if0 _ _).trans (teq hc792).1) (by decide) (by decide) k) ?_
              refine own_go (T' := T770) (g' := (mkF m 286 #[iv x0, iv x1, rv b42, rv b61, rv b90, rv b130, rv b182, rv b247, rv b326, iv (3 : Int32), iv w422, iv w449, iv w476, rv b42, rv b90, .unset] [(.int w476)])) (fun t k => XS.iload X770.here hx rfl (hb hby at_284) rfl k) ?_
              by_cases hc793 : w476 = (0 : Int32)
              · refine own_go (T' := T770) (g' := (mkF m 301 #[iv x0, iv x1, rv b42, rv b61, rv b90, rv b130, rv b182, rv b247, rv b326, iv (3 : Int32), iv w422, iv w449, iv w476, rv b42, rv b90, .unset] [])) (fun t k => XS.ifYes X770.here hx rfl (pc0 := 286) (pc' := 301) rfl (hb hby at_286) rfl ((if0 _ _).trans (teq hc793).1) (by decide) (by decide) k) ?_
                refine own_go (T' := T770) (g' := (mkF m 303 #[iv x0, iv x1, rv b42, rv b61, rv b90, rv b130, rv b182, rv b247, rv b326, iv (3 : Int32), iv w422, iv w449, iv w476, rv b42, rv b90, .unset] [(.ref b42)])) (fun t k => XS.aload X770.here hx rfl (hb hby at_301) rfl rfl k) ?_
                obtain ⟨_, _, ⟨T794, L794, k794, n794⟩, -, X794, ⟨Lc794, hQ794, l794, y794, z794⟩, st794⟩ := Jvm.LawKit.callS X770 hx (y := (⟨"com/example/treeline/treeline/Node", "highest", "(Lcom/example/treeline/treeline/Node;)Lcom/example/treeline/treeline/Node;"⟩ : MethodName)) hown (mvT hZ (hw _ (List.mem_of_getElem? (i := 24) rfl))) (mvT hZ (hw _ (List.mem_of_getElem? (i := 25) rfl))) (mvT hZ (hw _ (List.mem_of_getElem? (i := 2) rfl))) (mvT hZ (hw _ (List.mem_of_getElem? (i := 26) rfl))) (by decide) (backOf (W := 0) (own_rhi3 l Z a0 hw [] b42 b61 b90 h770 n0 hz770 c773 c776 c779) hZ (hw _ (List.mem_of_getElem? (i := 26) rfl)) (hw _ (List.mem_of_getElem? (i := 2) rfl)) (by decide) (by decide)) (g := (mkF m 303 #[iv x0, iv x1, rv b42, rv b61, rv b90, rv b130, rv b182, rv b247, rv b326, iv (3 : Int32), iv w422, iv w449, iv w476, rv b42, rv b90, .unset] [(.ref b42)])) rfl (by rw [hml]; rfl) (argsL := [(.ref b42)]) (rest := []) (lenOf own_pd2 rfl) rfl (by show 2 * 0 + _ ≤ _; exact Nat.le_of_eq rfl) (hb hby at_303) (fun _ _ => ⟨rfl, e770, (by decide : 7 + 0 ≤ _), (by decide : 35 + 0 ≤ _)⟩)
                dsimp only [Pt.U, Pt.locs, Pt.cells, Pt.slots] at X794 l794 y794 z794 st794 hQ794
                subst l794 y794 z794
                obtain ⟨rfl, rfl, e794⟩ := hQ794
                have E794q : T794.heap = h770 := e794
                have N794 := Fr.app N770 (Fr.nil n0)
                refine own_go (T' := T794) (g' := (mkF m 306 #[iv x0, iv x1, rv b42, rv b61, rv b90, rv b130, rv b182, rv b247, rv b326, iv (3 : Int32), iv w422, iv w449, iv w476, rv b42, rv b90, .unset] [(.ref b90)])) (st794) ?_
                refine own_go (T' := T794) (g' := (mkF m 308 #[iv x0, iv x1, rv b42, rv b61, rv b90, rv b130, rv b182, rv b247, rv b326, iv (3 : Int32), iv w422, iv w449, iv w476, rv b42, rv b90, rv b90] [])) (fun t k => XS.astore X794.here hx rfl (hb hby at_306) rfl rfl (l' := #[iv x0, iv x1, rv b42, rv b61, rv b90, rv b130, rv b182, rv b247, rv b326, iv (3 : Int32), iv w422, iv w449, iv w476, rv b42, rv b90, rv b90]) rfl k) ?_
                refine own_go (T' := T794) (g' := (mkF m 310 #[iv x0, iv x1, rv b42, rv b61, rv b90, rv b130, rv b182, rv b247, rv b326, iv (3 : Int32), iv w422, iv w449, iv w476, rv b42, rv b90, rv b90] [(.ref b90)])) (fun t k => XS.aload X794.here hx rfl (hb hby at_308) rfl rfl k) ?_
                refine own_go (T' := T794) (g' := (mkF m 312 #[iv x0, iv x1, rv b42, rv b61, rv b90, rv b130, rv b182, rv b247, rv b326, iv (3 : Int32), iv w422, iv w449, iv w476, rv b42, rv b90, rv b90] [(.ref b90), (.ref b90)])) (fun t k => XS.aload X794.here hx rfl (hb hby at_310) rfl rfl k) ?_
                refine own_go (T' := T794) (g' := (mkF m 315 #[iv x0, iv x1, rv b42, rv b61, rv b90, rv b130, rv b182, rv b247, rv b326, iv (3 : Int32), iv w422, iv w449, iv w476, rv b42, rv b90, rv b90] [])) (fun t k => Jvm.RoadKit.acmp (g := (mkF m 312 #[iv x0, iv x1, rv b42, rv b61, rv b90, rv b130, rv b182, rv b247, rv b326, iv (3 : Int32), iv w422, iv w449, iv w476, rv b42, rv b90, rv b90] [(.ref b90), (.ref b90)])) X794 hx rfl (x := (.ref b90)) (y := (.ref b90)) rfl rfl (pc0 := 312) (pc' := 315) (same := true) rfl (hb hby at_312) rfl (decide_eq_true rfl) (by decide) (by decide) k) ?_
                refine own_go (T' := T794) (g' := (mkF m 316 #[iv x0, iv x1, rv b42, rv b61, rv b90, rv b130, rv b182, rv b247, rv b326, iv (3 : Int32), iv w422, iv w449, iv w476, rv b42, rv b90, rv b90] [(.int (1 : Int32))])) (fun t k => XS.iconst X794.here hx rfl (hb hby at_315) k) ?_
                refine own_go (T' := T794) (g' := (mkF m 320 #[iv x0, iv x1, rv b42, rv b61, rv b90, rv b130, rv b182, rv b247, rv b326, iv (3 : Int32), iv w422, iv w449, iv w476, rv b42, rv b90, rv b90] [(.int (1 : Int32))])) (fun t k => XS.goto X794.here hx rfl (pc0 := 316) (pc' := 320) rfl (hb hby at_316) (by decide) (by decide) k) ?_
                exact own_ret X794 hlk hx Bd.returns rfl (Or.inl ⟨rfl, Or.inr (Or.inl rfl), _, rfl⟩) (hb hby at_320) (by first | exact ⟨rfl, N794⟩ | (rw [Fr] at *; exact ⟨rfl, by simpa using N794⟩)) (by decide) (by decide)
              · refine own_go (T' := T770) (g' := (mkF m 289 #[iv x0, iv x1, rv b42, rv b61, rv b90, rv b130, rv b182, rv b247, rv b326, iv (3 : Int32), iv w422, iv w449, iv w476, rv b42, rv b90, .unset] [])) (fun t k => XS.ifNo X770.here hx rfl (hb hby at_286) rfl ((if0 _ _).trans (feq hc793).1) k) ?_
                refine own_go (T' := T770) (g' := (mkF m 291 #[iv x0, iv x1, rv b42, rv b61, rv b90, rv b130, rv b182, rv b247, rv b326, iv (3 : Int32), iv w422, iv w449, iv w476, rv b42, rv b90, .unset] [(.ref b90)])) (fun t k => XS.aload X770.here hx rfl (hb hby at_289) rfl rfl k) ?_
                refine own_go (T' := T770) (g' := (mkF m 292 #[iv x0, iv x1, rv b42, rv b61, rv b90, rv b130, rv b182, rv b247, rv b326, iv (3 : Int32), iv w422, iv w449, iv w476, rv b42, rv b90, .unset] [(.ref b42), (.ref b90)])) (fun t k => XS.aloadN X770.here hx rfl (hb hby at_291) rfl rfl k) ?_
                refine own_go (T' := T770) (g' := (mkF m 295 #[iv x0, iv x1, rv b42, rv b61, rv b90, rv b130, rv b182, rv b247, rv b326, iv (3 : Int32), iv w422, iv w449, iv w476, rv b42, rv b90, .unset] [])) (fun t k => Jvm.RoadKit.acmp (g := (mkF m 292 #[iv x0, iv x1, rv b42, rv b61, rv b90, rv b130, rv b182, rv b247, rv b326, iv (3 : Int32), iv w422, iv w449, iv w476, rv b42, rv b90, .unset] [(.ref b42), (.ref b90)])) X770 hx rfl (x := (.ref b90)) (y := (.ref b42)) rfl rfl (pc0 := 292) (pc' := 295) (same := false) rfl (hb hby at_292) rfl (decide_eq_false fun q => (Ne.symm ne96) (Value.ref.inj q)) (by decide) (by decide) k) ?_
                refine own_go (T' := T770) (g' := (mkF m 296 #[iv x0, iv x1, rv b42, rv b61, rv b90, rv b130, rv b182, rv b247, rv b326, iv (3 : Int32), iv w422, iv w449, iv w476, rv b42, rv b90, .unset] [(.ref b42)])) (fun t k => XS.aloadN X770.here hx rfl (hb hby at_295) rfl rfl k) ?_
                refine own_go (T' := T770) (g' := (mkF m 298 #[iv x0, iv x1, rv b42, rv b61, rv b90, rv b130, rv b182, rv b247, rv b326, iv (3 : Int32), iv w422, iv w449, iv w476, rv b42, rv b90, .unset] [(.ref b326), (.ref b42)])) (fun t k => XS.aload X770.here hx rfl (hb hby at_296) rfl rfl k) ?_
                obtain ⟨T795, h795, X795, e795, W795, st795⟩ := putF X770 hx hZ hown (host := "") (Or.inl (hw _ (List.mem_of_getElem? (i := 29) rfl))) Via.refl e770 c772 c771 (Or.inl (hw _ (List.mem_of_getElem? (i := 30) rfl))) (hw _ (List.mem_of_getElem? (i := 1) rfl)) (ty := (.object "com/example/treeline/treeline/Node")) (by decide) rfl rfl (g := (mkF m 298 #[iv x0, iv x1, rv b42, rv b61, rv b90, rv b130, rv b182, rv b247, rv b326, iv (3 : Int32), iv w422, iv w449, iv w476, rv b42, rv b90, .unset] [(.ref b326), (.ref b42)])) rfl rfl (hb hby at_298)
                have hz795 : n0 ≤ h795.size := Nat.le_trans hz770 (Keep.of_wr W795).1
                have N795 := Fr.snoc X795 N770 gn42
                have c796 := c771.wr W795
                have c797 := c772.same W795
                have c798 := c773.other W795 (Or.inr (slot_ne (Or.inl (hw _ (List.mem_of_getElem? (i := 28) rfl))) (Or.inl (hw _ (List.mem_of_getElem? (i := 30) rfl))) (by decide) (t := (.object "com/example/treeline/treeline/Node")) (t' := (.object "com/example/treeline/treeline/Node")) (by decide) (by decide)))
                have c799 := c774.wr W795
                have c800 := c775.other W795 (Or.inl (Ne.symm ne67))
                have c801 := c776.other W795 (Or.inl (Ne.symm ne67))
                have c802 := c777.wr W795
                have c803 := c778.other W795 (Or.inl (Ne.symm ne96))
                have c804 := c779.other W795 (Or.inl (Ne.symm ne96))
                have c805 := c780.wr W795
                have c806 := c781.other W795 (Or.inl (Ne.symm ne136))
                have c807 := c782.other W795 (Or.inl (Ne.symm ne136))
                have c808 := c783.wr W795
                have c809 := c784.other W795 (Or.inl (Ne.symm ne188))
                have c810 := c785.other W795 (Or.inl (Ne.symm ne188))
                have c811 := c786.wr W795
                have c812 := c787.other W795 (Or.inl (Ne.symm ne253))
                have c813 := c788.other W795 (Or.inl (Ne.symm ne253))
                have c814 := c789.wr W795
                have c815 := c790.other W795 (Or.inl (Ne.symm ne332))
                have c816 := c791.other W795 (Or.inl (Ne.symm ne332))
                refine own_go (T' := T795) (g' := (mkF m 301 #[iv x0, iv x1, rv b42, rv b61, rv b90, rv b130, rv b182, rv b247, rv b326, iv (3 : Int32), iv w422, iv w449, iv w476, rv b42, rv b90, .unset] [])) (st795) ?_
                refine own_go (T' := T795) (g' := (mkF m 303 #[iv x0, iv x1, rv b42, rv b61, rv b90, rv b130, rv b182, rv b247, rv b326, iv (3 : Int32), iv w422, iv w449, iv w476, rv b42, rv b90, .unset] [(.ref b42)])) (fun t k => XS.aload X795.here hx rfl (hb hby at_301) rfl rfl k) ?_
                obtain ⟨_, _, ⟨T817, L817, k817, n817⟩, -, X817, ⟨Lc817, hQ817, l817, y817, z817⟩, st817⟩ := Jvm.LawKit.callS X795 hx (y := (⟨"com/example/treeline/treeline/Node", "highest", "(Lcom/example/treeline/treeline/Node;)Lcom/example/treeline/treeline/Node;"⟩ : MethodName)) hown (mvT hZ (hw _ (List.mem_of_getElem? (i := 24) rfl))) (mvT hZ (hw _ (List.mem_of_getElem? (i := 25) rfl))) (mvT hZ (hw _ (List.mem_of_getElem? (i := 2) rfl))) (mvT hZ (hw _ (List.mem_of_getElem? (i := 26) rfl))) (by decide) (backOf (W := 0) (own_rhi3 l Z a0 hw [] b42 b61 b90 h795 n0 hz795 c798 c801 c804) hZ (hw _ (List.mem_of_getElem? (i := 26) rfl)) (hw _ (List.mem_of_getElem? (i := 2) rfl)) (by decide) (by decide)) (g := (mkF m 303 #[iv x0, iv x1, rv b42, rv b61, rv b90, rv b130, rv b182, rv b247, rv b326, iv (3 : Int32), iv w422, iv w449, iv w476, rv b42, rv b90, .unset] [(.ref b42)])) rfl (by rw [hml]; rfl) (argsL := [(.ref b42)]) (rest := []) (lenOf own_pd2 rfl) rfl (by show 2 * 0 + _ ≤ _; exact Nat.le_of_eq rfl) (hb hby at_303) (fun _ _ => ⟨rfl, e795, (by decide : 7 + 0 ≤ _), (by decide : 35 + 0 ≤ _)⟩)
                dsimp only [Pt.U, Pt.locs, Pt.cells, Pt.slots] at X817 l817 y817 z817 st817 hQ817
                subst l817 y817 z817
                obtain ⟨rfl, rfl, e817⟩ := hQ817
                have E817q : T817.heap = h795 := e817
                have N817 := Fr.app N795 (Fr.nil n0)
                refine own_go (T' := T817) (g' := (mkF m 306 #[iv x0, iv x1, rv b42, rv b61, rv b90, rv b130, rv b182, rv b247, rv b326, iv (3 : Int32), iv w422, iv w449, iv w476, rv b42, rv b90, .unset] [(.ref b90)])) (st817) ?_
                refine own_go (T' := T817) (g' := (mkF m 308 #[iv x0, iv x1, rv b42, rv b61, rv b90, rv b130, rv b182, rv b247, rv b326, iv (3 : Int32), iv w422, iv w449, iv w476, rv b42, rv b90, rv b90] [])) (fun t k => XS.astore X817.here hx rfl (hb hby at_306) rfl rfl (l' := #[iv x0, iv x1, rv b42, rv b61, rv b90, rv b130, rv b182, rv b247, rv b326, iv (3 : Int32), iv w422, iv w449, iv w476, rv b42, rv b90, rv b90]) rfl k) ?_
                refine own_go (T' := T817) (g' := (mkF m 310 #[iv x0, iv x1, rv b42, rv b61, rv b90, rv b130, rv b182, rv b247, rv b326, iv (3 : Int32), iv w422, iv w449, iv w476, rv b42, rv b90, rv b90] [(.ref b90)])) (fun t k => XS.aload X817.here hx rfl (hb hby at_308) rfl rfl k) ?_
                refine own_go (T' := T817) (g' := (mkF m 312 #[iv x0, iv x1, rv b42, rv b61, rv b90, rv b130, rv b182, rv b247, rv b326, iv (3 : Int32), iv w422, iv w449, iv w476, rv b42, rv b90, rv b90] [(.ref b90), (.ref b90)])) (fun t k => XS.aload X817.here hx rfl (hb hby at_310) rfl rfl k) ?_
                refine own_go (T' := T817) (g' := (mkF m 315 #[iv x0, iv x1, rv b42, rv b61, rv b90, rv b130, rv b182, rv b247, rv b326, iv (3 : Int32), iv w422, iv w449, iv w476, rv b42, rv b90, rv b90] [])) (fun t k => Jvm.RoadKit.acmp (g := (mkF m 312 #[iv x0, iv x1, rv b42, rv b61, rv b90, rv b130, rv b182, rv b247, rv b326, iv (3 : Int32), iv w422, iv w449, iv w476, rv b42, rv b90, rv b90] [(.ref b90), (.ref b90)])) X817 hx rfl (x := (.ref b90)) (y := (.ref b90)) rfl rfl (pc0 := 312) (pc' := 315) (same := true) rfl (hb hby at_312) rfl (decide_eq_true rfl) (by decide) (by decide) k) ?_
                refine own_go (T' := T817) (g' := (mkF m 316 #[iv x0, iv x1, rv b42, rv b61, rv b90, rv b130, rv b182, rv b247, rv b326, iv (3 : Int32), iv w422, iv w449, iv w476, rv b42, rv b90, rv b90] [(.int (1 : Int32))])) (fun t k => XS.iconst X817.here hx rfl (hb hby at_315) k) ?_
                refine own_go (T' := T817) (g' := (mkF m 320 #[iv x0, iv x1, rv b42, rv b61, rv b90, rv b130, rv b182, rv b247, rv b326, iv (3 : Int32), iv w422, iv w449, iv w476, rv b42, rv b90, rv b90] [(.int (1 : Int32))])) (fun t k => XS.goto X817.here hx rfl (pc0 := 316) (pc' := 320) rfl (hb hby at_316) (by decide) (by decide) k) ?_
                exact own_ret X817 hlk hx Bd.returns rfl (Or.inl ⟨rfl, Or.inr (Or.inl rfl), _, rfl⟩) (hb hby at_320) (by first | exact ⟨rfl, N817⟩ | (rw [Fr] at *; exact ⟨rfl, by simpa using N817⟩)) (by decide) (by decide)
            · refine own_go (T' := T770) (g' := (mkF m 277 #[iv x0, iv x1, rv b42, rv b61, rv b90, rv b130, rv b182, rv b247, rv b326, iv (3 : Int32), iv w422, iv w449, iv w476, rv b42, rv b90, .unset] [])) (fun t k => XS.ifNo X770.here hx rfl (hb hby at_274) rfl ((if0 _ _).trans (feq hc792).1) k) ?_
              refine own_go (T' := T770) (g' := (mkF m 279 #[iv x0, iv x1, rv b42, rv b61, rv b90, rv b130, rv b182, rv b247, rv b326, iv (3 : Int32), iv w422, iv w449, iv w476, rv b42, rv b90, .unset] [(.ref b182)])) (fun t k => XS.aload X770.here hx rfl (hb hby at_277) rfl rfl k) ?_
              refine own_go (T' := T770) (g' := (mkF m 281 #[iv x0, iv x1, rv b42, rv b61, rv b90, rv b130, rv b182, rv b247, rv b326, iv (3 : Int32), iv w422, iv w449, iv w476, rv b42, rv b90, .unset] [(.ref b247), (.ref b182)])) (fun t k => XS.aload X770.here hx rfl (hb hby at_279) rfl rfl k) ?_
              obtain ⟨T818, h818, X818, e818, W818, st818⟩ := putF X770 hx hZ hown (host := "") (Or.inl (hw _ (List.mem_of_getElem? (i := 27) rfl))) Via.refl e770 c785 c783 (Or.inl (hw _ (List.mem_of_getElem? (i := 28) rfl))) (hw _ (List.mem_of_getElem? (i := 1) rfl)) (ty := (.object "com/example/treeline/treeline/Node")) (by decide) rfl rfl (g := (mkF m 281 #[iv x0, iv x1, rv b42, rv b61, rv b90, rv b130, rv b182, rv b247, rv b326, iv (3 : Int32), iv w422, iv w449, iv w476, rv b42, rv b90, .unset] [(.ref b247), (.ref b182)])) rfl rfl (hb hby at_281)
              have hz818 : n0 ≤ h818.size := Nat.le_trans hz770 (Keep.of_wr W818).1
              have N818 := Fr.snoc X818 N770 gn182
              have c819 := c771.wr W818
              have c820 := c772.other W818 (Or.inl ne188)
              have c821 := c773.other W818 (Or.inl ne188)
              have c822 := c774.wr W818
              have c823 := c775.other W818 (Or.inl ne192)
              have c824 := c776.other W818 (Or.inl ne192)
              have c825 := c777.wr W818
              have c826 := c778.other W818 (Or.inl ne196)
              have c827 := c779.other W818 (Or.inl ne196)
              have c828 := c780.wr W818
              have c829 := c781.other W818 (Or.inl ne200)
              have c830 := c782.other W818 (Or.inl ne200)
              have c831 := c783.wr W818
              have c832 := c784.other W818 (Or.inr (slot_ne (Or.inl (hw _ (List.mem_of_getElem? (i := 30) rfl))) (Or.inl (hw _ (List.mem_of_getElem? (i := 28) rfl))) (by decide) (t := (.object "com/example/treeline/treeline/Node")) (t' := (.object "com/example/treeline/treeline/Node")) (by decide) (by decide)))
              have c833 := c785.same W818
              have c834 := c786.wr W818
              have c835 := c787.other W818 (Or.inl (Ne.symm ne269))
              have c836 := c788.other W818 (Or.inl (Ne.symm ne269))
              have c837 := c789.wr W818
              have c838 := c790.other W818 (Or.inl (Ne.symm ne348))
              have c839 := c791.other W818 (Or.inl (Ne.symm ne348))
              refine own_go (T' := T818) (g' := (mkF m 284 #[iv x0, iv x1, rv b42, rv b61, rv b90, rv b130, rv b182, rv b247, rv b326, iv (3 : Int32), iv w422, iv w449, iv w476, rv b42, rv b90, .unset] [])) (st818) ?_
              refine own_go (T' := T818) (g' := (mkF m 286 #[iv x0, iv x1, rv b42, rv b61, rv b90, rv b130, rv b182, rv b247, rv b326, iv (3 : Int32), iv w422, iv w449, iv w476, rv b42, rv b90, .unset] [(.int w476)])) (fun t k => XS.iload X818.here hx rfl (hb hby at_284) rfl k) ?_
              by_cases hc840 : w476 = (0 : Int32)
              · refine own_go (T' := T818) (g' := (mkF m 301 #[iv x0, iv x1, rv b42, rv b61, rv b90, rv b130, rv b182, rv b247, rv b326, iv (3 : Int32), iv w422, iv w449, iv w476, rv b42, rv b90, .unset] [])) (fun t k => XS.ifYes X818.here hx rfl (pc0 := 286) (pc' := 301) rfl (hb hby at_286) rfl ((if0 _ _).trans (teq hc840).1) (by decide) (by decide) k) ?_
                refine own_go (T' := T818) (g' := (mkF m 303 #[iv x0, iv x1, rv b42, rv b61, rv b90, rv b130, rv b182, rv b247, rv b326, iv (3 : Int32), iv w422, iv w449, iv w476, rv b42, rv b90, .unset] [(.ref b42)])) (fun t k => XS.aload X818.here hx rfl (hb hby at_301) rfl rfl k) ?_
                obtain ⟨_, _, ⟨T841, L841, k841, n841⟩, -, X841, ⟨Lc841, hQ841, l841, y841, z841⟩, st841⟩ := Jvm.LawKit.callS X818 hx (y := (⟨"com/example/treeline/treeline/Node", "highest", "(Lcom/example/treeline/treeline/Node;)Lcom/example/treeline/treeline/Node;"⟩ : MethodName)) hown (mvT hZ (hw _ (List.mem_of_getElem? (i := 24) rfl))) (mvT hZ (hw _ (List.mem_of_getElem? (i := 25) rfl))) (mvT hZ (hw _ (List.mem_of_getElem? (i := 2) rfl))) (mvT hZ (hw _ (List.mem_of_getElem? (i := 26) rfl))) (by decide) (backOf (W := 0) (own_rhi3 l Z a0 hw [] b42 b61 b90 h818 n0 hz818 c821 c824 c827) hZ (hw _ (List.mem_of_getElem? (i := 26) rfl)) (hw _ (List.mem_of_getElem? (i := 2) rfl)) (by decide) (by decide)) (g := (mkF m 303 #[iv x0, iv x1, rv b42, rv b61, rv b90, rv b130, rv b182, rv b247, rv b326, iv (3 : Int32), iv w422, iv w449, iv w476, rv b42, rv b90, .unset] [(.ref b42)])) rfl (by rw [hml]; rfl) (argsL := [(.ref b42)]) (rest := []) (lenOf own_pd2 rfl) rfl (by show 2 * 0 + _ ≤ _; exact Nat.le_of_eq rfl) (hb hby at_303) (fun _ _ => ⟨rfl, e818, (by decide : 7 + 0 ≤ _), (by decide : 35 + 0 ≤ _)⟩)
                dsimp only [Pt.U, Pt.locs, Pt.cells, Pt.slots] at X841 l841 y841 z841 st841 hQ841
                subst l841 y841 z841
                obtain ⟨rfl, rfl, e841⟩ := hQ841
                have E841q : T841.heap = h818 := e841
                have N841 := Fr.app N818 (Fr.nil n0)
                refine own_go (T' := T841) (g' := (mkF m 306 #[iv x0, iv x1, rv b42, rv b61, rv b90, rv b130, rv b182, rv b247, rv b326, iv (3 : Int32), iv w422, iv w449, iv w476, rv b42, rv b90, .unset] [(.ref b90)])) (st841) ?_
                refine own_go (T' := T841) (g' := (mkF m 308 #[iv x0, iv x1, rv b42, rv b61, rv b90, rv b130, rv b182, rv b247, rv b326, iv (3 : Int32), iv w422, iv w449, iv w476, rv b42, rv b90, rv b90] [])) (fun t k => XS.astore X841.here hx rfl (hb hby at_306) rfl rfl (l' := #[iv x0, iv x1, rv b42, rv b61, rv b90, rv b130, rv b182, rv b247, rv b326, iv (3 : Int32), iv w422, iv w449, iv w476, rv b42, rv b90, rv b90]) rfl k) ?_
                refine own_go (T' := T841) (g' := (mkF m 310 #[iv x0, iv x1, rv b42, rv b61, rv b90, rv b130, rv b182, rv b247, rv b326, iv (3 : Int32), iv w422, iv w449, iv w476, rv b42, rv b90, rv b90] [(.ref b90)])) (fun t k => XS.aload X841.here hx rfl (hb hby at_308) rfl rfl k) ?_
                refine own_go (T' := T841) (g' := (mkF m 312 #[iv x0, iv x1, rv b42, rv b61, rv b90, rv b130, rv b182, rv b247, rv b326, iv (3 : Int32), iv w422, iv w449, iv w476, rv b42, rv b90, rv b90] [(.ref b90), (.ref b90)])) (fun t k => XS.aload X841.here hx rfl (hb hby at_310) rfl rfl k) ?_
                refine own_go (T' := T841) (g' := (mkF m 315 #[iv x0, iv x1, rv b42, rv b61, rv b90, rv b130, rv b182, rv b247, rv b326, iv (3 : Int32), iv w422, iv w449, iv w476, rv b42, rv b90, rv b90] [])) (fun t k => Jvm.RoadKit.acmp (g := (mkF m 312 #[iv x0, iv x1, rv b42, rv b61, rv b90, rv b130, rv b182, rv b247, rv b326, iv (3 : Int32), iv w422, iv w449, iv w476, rv b42, rv b90, rv b90] [(.ref b90), (.ref b90)])) X841 hx rfl (x := (.ref b90)) (y := (.ref b90)) rfl rfl (pc0 := 312) (pc' := 315) (same := true) rfl (hb hby at_312) rfl (decide_eq_true rfl) (by decide) (by decide) k) ?_
                refine own_go (T' := T841) (g' := (mkF m 316 #[iv x0, iv x1, rv b42, rv b61, rv b90, rv b130, rv b182, rv b247, rv b326, iv (3 : Int32), iv w422, iv w449, iv w476, rv b42, rv b90, rv b90] [(.int (1 : Int32))])) (fun t k => XS.iconst X841.here hx rfl (hb hby at_315) k) ?_
                refine own_go (T' := T841) (g' := (mkF m 320 #[iv x0, iv x1, rv b42, rv b61, rv b90, rv b130, rv b182, rv b247, rv b326, iv (3 : Int32), iv w422, iv w449, iv w476, rv b42, rv b90, rv b90] [(.int (1 : Int32))])) (fun t k => XS.goto X841.here hx rfl (pc0 := 316) (pc' := 320) rfl (hb hby at_316) (by decide) (by decide) k) ?_
                exact own_ret X841 hlk hx Bd.returns rfl (Or.inl ⟨rfl, Or.inr (Or.inl rfl), _, rfl⟩) (hb hby at_320) (by first | exact ⟨rfl, N841⟩ | (rw [Fr] at *; exact ⟨rfl, by simpa using N841⟩)) (by decide) (by decide)
              · refine own_go (T' := T818) (g' := (mkF m 289 #[iv x0, iv x1, rv b42, rv b61, rv b90, rv b130, rv b182, rv b247, rv b326, iv (3 : Int32), iv w422, iv w449, iv w476, rv b42, rv b90, .unset] [])) (fun t k => XS.ifNo X818.here hx rfl (hb hby at_286) rfl ((if0 _ _).trans (feq hc840).1) k) ?_
                refine own_go (T' := T818) (g' := (mkF m 291 #[iv x0, iv x1, rv b42, rv b61, rv b90, rv b130, rv b182, rv b247, rv b326, iv (3 : Int32), iv w422, iv w449, iv w476, rv b42, rv b90, .unset] [(.ref b90)])) (fun t k => XS.aload X818.here hx rfl (hb hby at_289) rfl rfl k) ?_
                refine own_go (T' := T818) (g' := (mkF m 292 #[iv x0, iv x1, rv b42, rv b61, rv b90, rv b130, rv b182, rv b247, rv b326, iv (3 : Int32), iv w422, iv w449, iv w476, rv b42, rv b90, .unset] [(.ref b42), (.ref b90)])) (fun t k => XS.aloadN X818.here hx rfl (hb hby at_291) rfl rfl k) ?_
                refine own_go (T' := T818) (g' := (mkF m 295 #[iv x0, iv x1, rv b42, rv b61, rv b90, rv b130, rv b182, rv b247, rv b326, iv (3 : Int32), iv w422, iv w449, iv w476, rv b42, rv b90, .unset] [])) (fun t k => Jvm.RoadKit.acmp (g := (mkF m 292 #[iv x0, iv x1, rv b42, rv b61, rv b90, rv b130, rv b182, rv b247, rv b326, iv (3 : Int32), iv w422, iv w449, iv w476, rv b42, rv b90, .unset] [(.ref b42), (.ref b90)])) X818 hx rfl (x := (.ref b90)) (y := (.ref b42)) rfl rfl (pc0 := 292) (pc' := 295) (same := false) rfl (hb hby at_292) rfl (decide_eq_false fun q => (Ne.symm ne96) (Value.ref.inj q)) (by decide) (by decide) k) ?_
                refine own_go (T' := T818) (g' := (mkF m 296 #[iv x0, iv x1, rv b42, rv b61, rv b90, rv b130, rv b182, rv b247, rv b326, iv (3 : Int32), iv w422, iv w449, iv w476, rv b42, rv b90, .unset] [(.ref b42)])) (fun t k => XS.aloadN X818.here hx rfl (hb hby at_295) rfl rfl k) ?_
                refine own_go (T' := T818) (g' := (mkF m 298 #[iv x0, iv x1, rv b42, rv b61, rv b90, rv b130, rv b182, rv b247, rv b326, iv (3 : Int32), iv w422, iv w449, iv w476, rv b42, rv b90, .unset] [(.ref b326), (.ref b42)])) (fun t k => XS.aload X818.here hx rfl (hb hby at_296) rfl rfl k) ?_
                obtain ⟨T842, h842, X842, e842, W842, st842⟩ := putF X818 hx hZ hown (host := "") (Or.inl (hw _ (List.mem_of_getElem? (i := 29) rfl))) Via.refl e818 c820 c819 (Or.inl (hw _ (List.mem_of_getElem? (i := 30) rfl))) (hw _ (List.mem_of_getElem? (i := 1) rfl)) (ty := (.object "com/example/treeline/treeline/Node")) (by decide) rfl rfl (g := (mkF m 298 #[iv x0, iv x1, rv b42, rv b61, rv b90, rv b130, rv b182, rv b247, rv b326, iv (3 : Int32), iv w422, iv w449, iv w476, rv b42, rv b90, .unset] [(.ref b326), (.ref b42)])) rfl rfl (hb hby at_298)
                have hz842 : n0 ≤ h842.size := Nat.le_trans hz818 (Keep.of_wr W842).1
                have N842 := Fr.snoc X842 N818 gn42
                have c843 := c819.wr W842
                have c844 := c820.same W842
                have c845 := c821.other W842 (Or.inr (slot_ne (Or.inl (hw _ (List.mem_of_getElem? (i := 28) rfl))) (Or.inl (hw _ (List.mem_of_getElem? (i := 30) rfl))) (by decide) (t := (.object "com/example/treeline/treeline/Node")) (t' := (.object "com/example/treeline/treeline/Node")) (by decide) (by decide)))
                have c846 := c822.wr W842
                have c847 := c823.other W842 (Or.inl (Ne.symm ne67))
                have c848 := c824.other W842 (Or.inl (Ne.symm ne67))
                have c849 := c825.wr W842
                have c850 := c826.other W842 (Or.inl (Ne.symm ne96))
                have c851 := c827.other W842 (Or.inl (Ne.symm ne96))
                have c852 := c828.wr W842
                have c853 := c829.other W842 (Or.inl (Ne.symm ne136))
                have c854 := c830.other W842 (Or.inl (Ne.symm ne136))
                have c855 := c831.wr W842
                have c856 := c832.other W842 (Or.inl (Ne.symm ne188))
                have c857 := c833.other W842 (Or.inl (Ne.symm ne188))
                have c858 := c834.wr W842
                have c859 := c835.other W842 (Or.inl (Ne.symm ne253))
                have c860 := c836.other W842 (Or.inl (Ne.symm ne253))
                have c861 := c837.wr W842
                have c862 := c838.other W842 (Or.inl (Ne.symm ne332))
                have c863 := c839.other W842 (Or.inl (Ne.symm ne332))
                refine own_go (T' := T842) (g' := (mkF m 301 #[iv x0, iv x1, rv b42, rv b61, rv b90, rv b130, rv b182, rv b247, rv b326, iv (3 : Int32), iv w422, iv w449, iv w476, rv b42, rv b90, .unset] [])) (st842) ?_
                refine own_go (T' := T842) (g' := (mkF m 303 #[iv x0, iv x1, rv b42, rv b61, rv b90, rv b130, rv b182, rv b247, rv b326, iv (3 : Int32), iv w422, iv w449, iv w476, rv b42, rv b90, .unset] [(.ref b42)])) (fun t k => XS.aload X842.here hx rfl (hb hby at_301) rfl rfl k) ?_
                obtain ⟨_, _, ⟨T864, L864, k864, n864⟩, -, X864, ⟨Lc864, hQ864, l864, y864, z864⟩, st864⟩ := Jvm.LawKit.callS X842 hx (y := (⟨"com/example/treeline/treeline/Node", "highest", "(Lcom/example/treeline/treeline/Node;)Lcom/example/treeline/treeline/Node;"⟩ : MethodName)) hown (mvT hZ (hw _ (List.mem_of_getElem? (i := 24) rfl))) (mvT hZ (hw _ (List.mem_of_getElem? (i := 25) rfl))) (mvT hZ (hw _ (List.mem_of_getElem? (i := 2) rfl))) (mvT hZ (hw _ (List.mem_of_getElem? (i := 26) rfl))) (by decide) (backOf (W := 0) (own_rhi3 l Z a0 hw [] b42 b61 b90 h842 n0 hz842 c845 c848 c851) hZ (hw _ (List.mem_of_getElem? (i := 26) rfl)) (hw _ (List.mem_of_getElem? (i := 2) rfl)) (by decide) (by decide)) (g := (mkF m 303 #[iv x0, iv x1, rv b42, rv b61, rv b90, rv b130, rv b182, rv b247, rv b326, iv (3 : Int32), iv w422, iv w449, iv w476, rv b42, rv b90, .unset] [(.ref b42)])) rfl (by rw [hml]; rfl) (argsL := [(.ref b42)]) (rest := []) (lenOf own_pd2 rfl) rfl (by show 2 * 0 + _ ≤ _; exact Nat.le_of_eq rfl) (hb hby at_303) (fun _ _ => ⟨rfl, e842, (by decide : 7 + 0 ≤ _), (by decide : 35 + 0 ≤ _)⟩)
                dsimp only [Pt.U, Pt.locs, Pt.cells, Pt.slots] at X864 l864 y864 z864 st864 hQ864
                subst l864 y864 z864
                obtain ⟨rfl, rfl, e864⟩ := hQ864
                have E864q : T864.heap = h842 := e864
                have N864 := Fr.app N842 (Fr.nil n0)
                refine own_go (T' := T864) (g' := (mkF m 306 #[iv x0, iv x1, rv b42, rv b61, rv b90, rv b130, rv b182, rv b247, rv b326, iv (3 : Int32), iv w422, iv w449, iv w476, rv b42, rv b90, .unset] [(.ref b90)])) (st864) ?_
                refine own_go (T' := T864) (g' := (mkF m 308 #[iv x0, iv x1, rv b42, rv b61, rv b90, rv b130, rv b182, rv b247, rv b326, iv (3 : Int32), iv w422, iv w449, iv w476, rv b42, rv b90, rv b90] [])) (fun t k => XS.astore X864.here hx rfl (hb hby at_306) rfl rfl (l' := #[iv x0, iv x1, rv b42, rv b61, rv b90, rv b130, rv b182, rv b247, rv b326, iv (3 : Int32), iv w422, iv w449, iv w476, rv b42, rv b90, rv b90]) rfl k) ?_
                refine own_go (T' := T864) (g' := (mkF m 310 #[iv x0, iv x1, rv b42, rv b61, rv b90, rv b130, rv b182, rv b247, rv b326, iv (3 : Int32), iv w422, iv w449, iv w476, rv b42, rv b90, rv b90] [(.ref b90)])) (fun t k => XS.aload X864.here hx rfl (hb hby at_308) rfl rfl k) ?_
                refine own_go (T' := T864) (g' := (mkF m 312 #[iv x0, iv x1, rv b42, rv b61, rv b90, rv b130, rv b182, rv b247, rv b326, iv (3 : Int32), iv w422, iv w449, iv w476, rv b42, rv b90, rv b90] [(.ref b90), (.ref b90)])) (fun t k => XS.aload X864.here hx rfl (hb hby at_310) rfl rfl k) ?_
                refine own_go (T' := T864) (g' := (mkF m 315 #[iv x0, iv x1, rv b42, rv b61, rv b90, rv b130, rv b182, rv b247, rv b326, iv (3 : Int32), iv w422, iv w449, iv w476, rv b42, rv b90, rv b90] [])) (fun t k => Jvm.RoadKit.acmp (g := (mkF m 312 #[iv x0, iv x1, rv b42, rv b61, rv b90, rv b130, rv b182, rv b247, rv b326, iv (3 : Int32), iv w422, iv w449, iv w476, rv b42, rv b90, rv b90] [(.ref b90), (.ref b90)])) X864 hx rfl (x := (.ref b90)) (y := (.ref b90)) rfl rfl (pc0 := 312) (pc' := 315) (same := true) rfl (hb hby at_312) rfl (decide_eq_true rfl) (by decide) (by decide) k) ?_
                refine own_go (T' := T864) (g' := (mkF m 316 #[iv x0, iv x1, rv b42, rv b61, rv b90, rv b130, rv b182, rv b247, rv b326, iv (3 : Int32), iv w422, iv w449, iv w476, rv b42, rv b90, rv b90] [(.int (1 : Int32))])) (fun t k => XS.iconst X864.here hx rfl (hb hby at_315) k) ?_
                refine own_go (T' := T864) (g' := (mkF m 320 #[iv x0, iv x1, rv b42, rv b61, rv b90, rv b130, rv b182, rv b247, rv b326, iv (3 : Int32), iv w422, iv w449, iv w476, rv b42, rv b90, rv b90] [(.int (1 : Int32))])) (fun t k => XS.goto X864.here hx rfl (pc0 := 316) (pc' := 320) rfl (hb hby at_316) (by decide) (by decide) k) ?_
                exact own_ret X864 hlk hx Bd.returns rfl (Or.inl ⟨rfl, Or.inr (Or.inl rfl), _, rfl⟩) (hb hby at_320) (by first | exact ⟨rfl, N864⟩ | (rw [Fr] at *; exact ⟨rfl, by simpa using N864⟩)) (by decide) (by decide)
        · rw [hk]
          refine own_go (T' := T475) (g' := (mkF m 180 #[iv x0, iv x1, rv b42, rv b61, rv b90, rv b130, rv b182, rv b247, rv b326, iv (4 : Int32), iv w422, iv w449, iv w476, .unset, .unset, .unset] [])) (fun t k => XS.ifYes X475.here hx rfl (pc0 := 168) (pc' := 180) rfl (hb hby at_168) rfl ((if0 _ _).trans (feq (by decide : ¬ ((4 : Int32) = (0 : Int32)))).2) (by decide) (by decide) k) ?_
          refine own_go (T' := T475) (g' := (mkF m 181 #[iv x0, iv x1, rv b42, rv b61, rv b90, rv b130, rv b182, rv b247, rv b326, iv (4 : Int32), iv w422, iv w449, iv w476, .unset, .unset, .unset] [(.ref b42)])) (fun t k => XS.aloadN X475.here hx rfl (hb hby at_180) rfl rfl k) ?_
          refine own_go (T' := T475) (g' := (mkF m 183 #[iv x0, iv x1, rv b42, rv b61, rv b90, rv b130, rv b182, rv b247, rv b326, iv (4 : Int32), iv w422, iv w449, iv w476, rv b42, .unset, .unset] [])) (fun t k => XS.astore X475.here hx rfl (hb hby at_181) rfl rfl (l' := #[iv x0, iv x1, rv b42, rv b61, rv b90, rv b130, rv b182, rv b247, rv b326, iv (4 : Int32), iv w422, iv w449, iv w476, rv b42, .unset, .unset]) rfl k) ?_
          refine own_go (T' := T475) (g' := (mkF m 185 #[iv x0, iv x1, rv b42, rv b61, rv b90, rv b130, rv b182, rv b247, rv b326, iv (4 : Int32), iv w422, iv w449, iv w476, rv b42, .unset, .unset] [(.int (4 : Int32))])) (fun t k => XS.iload X475.here hx rfl (hb hby at_183) rfl k) ?_
          refine own_go (T' := T475) (g' := (mkF m 186 #[iv x0, iv x1, rv b42, rv b61, rv b90, rv b130, rv b182, rv b247, rv b326, iv (4 : Int32), iv w422, iv w449, iv w476, rv b42, .unset, .unset] [(.int (2 : Int32)), (.int (4 : Int32))])) (fun t k => XS.iconst X475.here hx rfl (hb hby at_185) k) ?_
          refine own_go (T' := T475) (g' := (mkF m 189 #[iv x0, iv x1, rv b42, rv b61, rv b90, rv b130, rv b182, rv b247, rv b326, iv (4 : Int32), iv w422, iv w449, iv w476, rv b42, .unset, .unset] [])) (fun t k => XS.icmpNo X475.here hx rfl (hb hby at_186) rfl (flt (by decide : ¬ ((4 : Int32) < (2 : Int32)))).1 k) ?_
          refine own_go (T' := T475) (g' := (mkF m 190 #[iv x0, iv x1, rv b42, rv b61, rv b90, rv b130, rv b182, rv b247, rv b326, iv (4 : Int32), iv w422, iv w449, iv w476, rv b42, .unset, .unset] [(.ref b42)])) (fun t k => XS.aloadN X475.here hx rfl (hb hby at_189) rfl rfl k) ?_
          refine own_go (T' := T475) (g' := (mkF m 191 #[iv x0, iv x1, rv b42, rv b61, rv b90, rv b130, rv b182, rv b247, rv b326, iv (4 : Int32), iv w422, iv w449, iv w476, rv b42, .unset, .unset] [(.ref b61), (.ref b42)])) (fun t k => XS.aloadN X475.here hx rfl (hb hby at_190) rfl rfl k) ?_
          obtain ⟨T865, h865, X865, e865, W865, st865⟩ := putF X475 hx hZ hown (host := "") (Or.inl (hw _ (List.mem_of_getElem? (i := 27) rfl))) Via.refl e475 j482 j480 (Or.inl (hw _ (List.mem_of_getElem? (i := 28) rfl))) (hw _ (List.mem_of_getElem? (i := 1) rfl)) (ty := (.object "com/example/treeline/treeline/Node")) (by decide) rfl rfl (g := (mkF m 191 #[iv x0, iv x1, rv b42, rv b61, rv b90, rv b130, rv b182, rv b247, rv b326, iv (4 : Int32), iv w422, iv w449, iv w476, rv b42, .unset, .unset] [(.ref b61), (.ref b42)])) rfl rfl (hb hby at_191)
          have hz865 : n0 ≤ h865.size := Nat.le_trans hz475 (Keep.of_wr W865).1
          have N865 := Fr.snoc X865 N475 gn42
          have c866 := j480.wr W865
          have c867 := j481.other W865 (Or.inr (slot_ne (Or.inl (hw _ (List.mem_of_getElem? (i := 30) rfl))) (Or.inl (hw _ (List.mem_of_getElem? (i := 28) rfl))) (by decide) (t := (.object "com/example/treeline/treeline/Node")) (t' := (.object "com/example/treeline/treeline/Node")) (by decide) (by decide)))
          have c868 := j482.same W865
          have c869 := j483.wr W865
          have c870 := j484.other W865 (Or.inl (Ne.symm ne67))
          have c871 := j485.other W865 (Or.inl (Ne.symm ne67))
          have c872 := j486.wr W865
          have c873 := j487.other W865 (Or.inl (Ne.symm ne96))
          have c874 := j488.other W865 (Or.inl (Ne.symm ne96))
          have c875 := j489.wr W865
          have c876 := j490.other W865 (Or.inl (Ne.symm ne136))
          have c877 := j491.other W865 (Or.inl (Ne.symm ne136))
          have c878 := j492.wr W865
          have c879 := j493.other W865 (Or.inl (Ne.symm ne188))
          have c880 := j494.other W865 (Or.inl (Ne.symm ne188))
          have c881 := j495.wr W865
          have c882 := j496.other W865 (Or.inl (Ne.symm ne253))
          have c883 := j497.other W865 (Or.inl (Ne.symm ne253))
          have c884 := j498.wr W865
          have c885 := j499.other W865 (Or.inl (Ne.symm ne332))
          have c886 := j500.other W865 (Or.inl (Ne.symm ne332))
          refine own_go (T' := T865) (g' := (mkF m 194 #[iv x0, iv x1, rv b42, rv b61, rv b90, rv b130, rv b182, rv b247, rv b326, iv (4 : Int32), iv w422, iv w449, iv w476, rv b42, .unset, .unset] [])) (st865) ?_
          refine own_go (T' := T865) (g' := (mkF m 196 #[iv x0, iv x1, rv b42, rv b61, rv b90, rv b130, rv b182, rv b247, rv b326, iv (4 : Int32), iv w422, iv w449, iv w476, rv b42, .unset, .unset] [(.int (4 : Int32))])) (fun t k => XS.iload X865.here hx rfl (hb hby at_194) rfl k) ?_
          refine own_go (T' := T865) (g' := (mkF m 197 #[iv x0, iv x1, rv b42, rv b61, rv b90, rv b130, rv b182, rv b247, rv b326, iv (4 : Int32), iv w422, iv w449, iv w476, rv b42, .unset, .unset] [(.int (3 : Int32)), (.int (4 : Int32))])) (fun t k => XS.iconst X865.here hx rfl (hb hby at_196) k) ?_
          refine own_go (T' := T865) (g' := (mkF m 200 #[iv x0, iv x1, rv b42, rv b61, rv b90, rv b130, rv b182, rv b247, rv b326, iv (4 : Int32), iv w422, iv w449, iv w476, rv b42, .unset, .unset] [])) (fun t k => XS.icmpNo X865.here hx rfl (hb hby at_197) rfl (flt (by decide : ¬ ((4 : Int32) < (3 : Int32)))).1 k) ?_
          refine own_go (T' := T865) (g' := (mkF m 201 #[iv x0, iv x1, rv b42, rv b61, rv b90, rv b130, rv b182, rv b247, rv b326, iv (4 : Int32), iv w422, iv w449, iv w476, rv b42, .unset, .unset] [(.ref b61)])) (fun t k => XS.aloadN X865.here hx rfl (hb hby at_200) rfl rfl k) ?_
          refine own_go (T' := T865) (g' := (mkF m 203 #[iv x0, iv x1, rv b42, rv b61, rv b90, rv b130, rv b182, rv b247, rv b326, iv (4 : Int32), iv w422, iv w449, iv w476, rv b42, .unset, .unset] [(.ref b90), (.ref b61)])) (fun t k => XS.aload X865.here hx rfl (hb hby at_201) rfl rfl k) ?_
          obtain ⟨T887, h887, X887, e887, W887, st887⟩ := putF X865 hx hZ hown (host := "") (Or.inl (hw _ (List.mem_of_getElem? (i := 27) rfl))) Via.refl e865 c871 c869 (Or.inl (hw _ (List.mem_of_getElem? (i := 28) rfl))) (hw _ (List.mem_of_getElem? (i := 1) rfl)) (ty := (.object "com/example/treeline/treeline/Node")) (by decide) rfl rfl (g := (mkF m 203 #[iv x0, iv x1, rv b42, rv b61, rv b90, rv b130, rv b182, rv b247, rv b326, iv (4 : Int32), iv w422, iv w449, iv w476, rv b42, .unset, .unset] [(.ref b90), (.ref b61)])) rfl rfl (hb hby at_203)
          have hz887 : n0 ≤ h887.size := Nat.le_trans hz865 (Keep.of_wr W887).1
          have N887 := Fr.snoc X887 N865 gn61
          have c888 := c866.wr W887
          have c889 := c867.other W887 (Or.inl ne67)
          have c890 := c868.other W887 (Or.inl ne67)
          have c891 := c869.wr W887
          have c892 := c870.other W887 (Or.inr (slot_ne (Or.inl (hw _ (List.mem_of_getElem? (i := 30) rfl))) (Or.inl (hw _ (List.mem_of_getElem? (i := 28) rfl))) (by decide) (t := (.object "com/example/treeline/treeline/Node")) (t' := (.object "com/example/treeline/treeline/Node")) (by decide) (by decide)))
          have c893 := c871.same W887
          have c894 := c872.wr W887
          have c895 := c873.other W887 (Or.inl (Ne.symm ne100))
          have c896 := c874.other W887 (Or.inl (Ne.symm ne100))
          have c897 := c875.wr W887
          have c898 := c876.other W887 (Or.inl (Ne.symm ne140))
          have c899 := c877.other W887 (Or.inl (Ne.symm ne140))
          have c900 := c878.wr W887
          have c901 := c879.other W887 (Or.inl (Ne.symm ne192))
          have c902 := c880.other W887 (Or.inl (Ne.symm ne192))
          have c903 := c881.wr W887
          have c904 := c882.other W887 (Or.inl (Ne.symm ne257))
          have c905 := c883.other W887 (Or.inl (Ne.symm ne257))
          have c906 := c884.wr W887
          have c907 := c885.other W887 (Or.inl (Ne.symm ne336))
          have c908 := c886.other W887 (Or.inl (Ne.symm ne336))
          refine own_go (T' := T887) (g' := (mkF m 206 #[iv x0, iv x1, rv b42, rv b61, rv b90, rv b130, rv b182, rv b247, rv b326, iv (4 : Int32), iv w422, iv w449, iv w476, rv b42, .unset, .unset] [])) (st887) ?_
          refine own_go (T' := T887) (g' := (mkF m 208 #[iv x0, iv x1, rv b42, rv b61, rv b90, rv b130, rv b182, rv b247, rv b326, iv (4 : Int32), iv w422, iv w449, iv w476, rv b42, .unset, .unset] [(.int (4 : Int32))])) (fun t k => XS.iload X887.here hx rfl (hb hby at_206) rfl k) ?_
          refine own_go (T' := T887) (g' := (mkF m 209 #[iv x0, iv x1, rv b42, rv b61, rv b90, rv b130, rv b182, rv b247, rv b326, iv (4 : Int32), iv w422, iv w449, iv w476, rv b42, .unset, .unset] [(.int (4 : Int32)), (.int (4 : Int32))])) (fun t k => XS.iconst X887.here hx rfl (hb hby at_208) k) ?_
          refine own_go (T' := T887) (g' := (mkF m 212 #[iv x0, iv x1, rv b42, rv b61, rv b90, rv b130, rv b182, rv b247, rv b326, iv (4 : Int32), iv w422, iv w449, iv w476, rv b42, .unset, .unset] [])) (fun t k => XS.icmpNo X887.here hx rfl (hb hby at_209) rfl (flt (by decide : ¬ ((4 : Int32) < (4 : Int32)))).1 k) ?_
          refine own_go (T' := T887) (g' := (mkF m 214 #[iv x0, iv x1, rv b42, rv b61, rv b90, rv b130, rv b182, rv b247, rv b326, iv (4 : Int32), iv w422, iv w449, iv w476, rv b42, .unset, .unset] [(.ref b90)])) (fun t k => XS.aload X887.here hx rfl (hb hby at_212) rfl rfl k) ?_
          refine own_go (T' := T887) (g' := (mkF m 216 #[iv x0, iv x1, rv b42, rv b61, rv b90, rv b130, rv b182, rv b247, rv b326, iv (4 : Int32), iv w422, iv w449, iv w476, rv b42, .unset, .unset] [(.ref b130), (.ref b90)])) (fun t k => XS.aload X887.here hx rfl (hb hby at_214) rfl rfl k) ?_
          obtain ⟨T909, h909, X909, e909, W909, st909⟩ := putF X887 hx hZ hown (host := "") (Or.inl (hw _ (List.mem_of_getElem? (i := 27) rfl))) Via.refl e887 c896 c894 (Or.inl (hw _ (List.mem_of_getElem? (i := 28) rfl))) (hw _ (List.mem_of_getElem? (i := 1) rfl)) (ty := (.object "com/example/treeline/treeline/Node")) (by decide) rfl rfl (g := (mkF m 216 #[iv x0, iv x1, rv b42, rv b61, rv b90, rv b130, rv b182, rv b247, rv b326, iv (4 : Int32), iv w422, iv w449, iv w476, rv b42, .unset, .unset] [(.ref b130), (.ref b90)])) rfl rfl (hb hby at_216)
          have hz909 : n0 ≤ h909.size := Nat.le_trans hz887 (Keep.of_wr W909).1
          have N909 := Fr.snoc X909 N887 gn90
          have c910 := c888.wr W909
          have c911 := c889.other W909 (Or.inl ne96)
          have c912 := c890.other W909 (Or.inl ne96)
          have c913 := c891.wr W909
          have c914 := c892.other W909 (Or.inl ne100)
          have c915 := c893.other W909 (Or.inl ne100)
          have c916 := c894.wr W909
          have c917 := c895.other W909 (Or.inr (slot_ne (Or.inl (hw _ (List.mem_of_getElem? (i := 30) rfl))) (Or.inl (hw _ (List.mem_of_getElem? (i := 28) rfl))) (by decide) (t := (.object "com/example/treeline/treeline/Node")) (t' := (.object "com/example/treeline/treeline/Node")) (by decide) (by decide)))
          have c918 := c896.same W909
          have c919 := c897.wr W909
          have c920 := c898.other W909 (Or.inl (Ne.symm ne144))
          have c921 := c899.other W909 (Or.inl (Ne.symm ne144))
          have c922 := c900.wr W909
          have c923 := c901.other W909 (Or.inl (Ne.symm ne196))
          have c924 := c902.other W909 (Or.inl (Ne.symm ne196))
          have c925 := c903.wr W909
          have c926 := c904.other W909 (Or.inl (Ne.symm ne261))
          have c927 := c905.other W909 (Or.inl (Ne.symm ne261))
          have c928 := c906.wr W909
          have c929 := c907.other W909 (Or.inl (Ne.symm ne340))
          have c930 := c908.other W909 (Or.inl (Ne.symm ne340))
          refine own_go (T' := T909) (g' := (mkF m 219 #[iv x0, iv x1, rv b42, rv b61, rv b90, rv b130, rv b182, rv b247, rv b326, iv (4 : Int32), iv w422, iv w449, iv w476, rv b42, .unset, .unset] [])) (st909) ?_
          refine own_go (T' := T909) (g' := (mkF m 221 #[iv x0, iv x1, rv b42, rv b61, rv b90, rv b130, rv b182, rv b247, rv b326, iv (4 : Int32), iv w422, iv w449, iv w476, rv b42, .unset, .unset] [(.int (4 : Int32))])) (fun t k => XS.iload X909.here hx rfl (hb hby at_219) rfl k) ?_
          refine own_go (T' := T909) (g' := (mkF m 222 #[iv x0, iv x1, rv b42, rv b61, rv b90, rv b130, rv b182, rv b247, rv b326, iv (4 : Int32), iv w422, iv w449, iv w476, rv b42, .unset, .unset] [(.int (1 : Int32)), (.int (4 : Int32))])) (fun t k => XS.iconst X909.here hx rfl (hb hby at_221) k) ?_
          refine own_go (T' := T909) (g' := (mkF m 231 #[iv x0, iv x1, rv b42, rv b61, rv b90, rv b130, rv b182, rv b247, rv b326, iv (4 : Int32), iv w422, iv w449, iv w476, rv b42, .unset, .unset] [])) (fun t k => XS.icmpYes X909.here hx rfl (pc0 := 222) (pc' := 231) rfl (hb hby at_222) rfl (feq (by decide : ¬ ((4 : Int32) = (1 : Int32)))).2 (by decide) (by decide) k) ?_
          refine own_go (T' := T909) (g' := (mkF m 233 #[iv x0, iv x1, rv b42, rv b61, rv b90, rv b130, rv b182, rv b247, rv b326, iv (4 : Int32), iv w422, iv w449, iv w476, rv b42, .unset, .unset] [(.int (4 : Int32))])) (fun t k => XS.iload X909.here hx rfl (hb hby at_231) rfl k) ?_
          refine own_go (T' := T909) (g' := (mkF m 234 #[iv x0, iv x1, rv b42, rv b61, rv b90, rv b130, rv b182, rv b247, rv b326, iv (4 : Int32), iv w422, iv w449, iv w476, rv b42, .unset, .unset] [(.int (2 : Int32)), (.int (4 : Int32))])) (fun t k => XS.iconst X909.here hx rfl (hb hby at_233) k) ?_
          refine own_go (T' := T909) (g' := (mkF m 243 #[iv x0, iv x1, rv b42, rv b61, rv b90, rv b130, rv b182, rv b247, rv b326, iv (4 : Int32), iv w422, iv w449, iv w476, rv b42, .unset, .unset] [])) (fun t k => XS.icmpYes X909.here hx rfl (pc0 := 234) (pc' := 243) rfl (hb hby at_234) rfl (feq (by decide : ¬ ((4 : Int32) = (2 : Int32)))).2 (by decide) (by decide) k) ?_
          refine own_go (T' := T909) (g' := (mkF m 245 #[iv x0, iv x1, rv b42, rv b61, rv b90, rv b130, rv b182, rv b247, rv b326, iv (4 : Int32), iv w422, iv w449, iv w476, rv b42, .unset, .unset] [(.int (4 : Int32))])) (fun t k => XS.iload X909.here hx rfl (hb hby at_243) rfl k) ?_
          refine own_go (T' := T909) (g' := (mkF m 246 #[iv x0, iv x1, rv b42, rv b61, rv b90, rv b130, rv b182, rv b247, rv b326, iv (4 : Int32), iv w422, iv w449, iv w476, rv b42, .unset, .unset] [(.int (3 : Int32)), (.int (4 : Int32))])) (fun t k => XS.iconst X909.here hx rfl (hb hby at_245) k) ?_
          refine own_go (T' := T909) (g' := (mkF m 256 #[iv x0, iv x1, rv b42, rv b61, rv b90, rv b130, rv b182, rv b247, rv b326, iv (4 : Int32), iv w422, iv w449, iv w476, rv b42, .unset, .unset] [])) (fun t k => XS.icmpYes X909.here hx rfl (pc0 := 246) (pc' := 256) rfl (hb hby at_246) rfl (feq (by decide : ¬ ((4 : Int32) = (3 : Int32)))).2 (by decide) (by decide) k) ?_
          refine own_go (T' := T909) (g' := (mkF m 258 #[iv x0, iv x1, rv b42, rv b61, rv b90, rv b130, rv b182, rv b247, rv b326, iv (4 : Int32), iv w422, iv w449, iv w476, rv b42, .unset, .unset] [(.ref b130)])) (fun t k => XS.aload X909.here hx rfl (hb hby at_256) rfl rfl k) ?_
          refine own_go (T' := T909) (g' := (mkF m 260 #[iv x0, iv x1, rv b42, rv b61, rv b90, rv b130, rv b182, rv b247, rv b326, iv (4 : Int32), iv w422, iv w449, iv w476, rv b42, rv b130, .unset] [])) (fun t k => XS.astore X909.here hx rfl (hb hby at_258) rfl rfl (l' := #[iv x0, iv x1, rv b42, rv b61, rv b90, rv b130, rv b182, rv b247, rv b326, iv (4 : Int32), iv w422, iv w449, iv w476, rv b42, rv b130, .unset]) rfl k) ?_
          refine own_go (T' := T909) (g' := (mkF m 262 #[iv x0, iv x1, rv b42, rv b61, rv b90, rv b130, rv b182, rv b247, rv b326, iv (4 : Int32), iv w422, iv w449, iv w476, rv b42, rv b130, .unset] [(.int w422)])) (fun t k => XS.iload X909.here hx rfl (hb hby at_260) rfl k) ?_
          by_cases hc931 : w422 = (0 : Int32)
          · refine own_go (T' := T909) (g' := (mkF m 284 #[iv x0, iv x1, rv b42, rv b61, rv b90, rv b130, rv b182, rv b247, rv b326, iv (4 : Int32), iv w422, iv w449, iv w476, rv b42, rv b130, .unset] [])) (fun t k => XS.ifYes X909.here hx rfl (pc0 := 262) (pc' := 284) rfl (hb hby at_262) rfl ((if0 _ _).trans (teq hc931).1) (by decide) (by decide) k) ?_
            refine own_go (T' := T909) (g' := (mkF m 286 #[iv x0, iv x1, rv b42, rv b61, rv b90, rv b130, rv b182, rv b247, rv b326, iv (4 : Int32), iv w422, iv w449, iv w476, rv b42, rv b130, .unset] [(.int w476)])) (fun t k => XS.iload X909.here hx rfl (hb hby at_284) rfl k) ?_
            by_cases hc932 : w476 = (0 : Int32)
            · refine own_go (T' := T909) (g' := (mkF m 301 #[iv x0, iv x1, rv b42, rv b61, rv b90, rv b130, rv b182, rv b247, rv b326, iv (4 : Int32), iv w422, iv w449, iv w476, rv b42, rv b130, .unset] [])) (fun t k => XS.ifYes X909.here hx rfl (pc0 := 286) (pc' := 301) rfl (hb hby at_286) rfl ((if0 _ _).trans (teq hc932).1) (by decide) (by decide) k) ?_
              refine own_go (T' := T909) (g' := (mkF m 303 #[iv x0, iv x1, rv b42, rv b61, rv b90, rv b130, rv b182, rv b247, rv b326, iv (4 : Int32), iv w422, iv w449, iv w476, rv b42, rv b130, .unset] [(.ref b42)])) (fun t k => XS.aload X909.here hx rfl (hb hby at_301) rfl rfl k) ?_
              obtain ⟨_, _, ⟨T933, L933, k933, n933⟩, -, X933, ⟨Lc933, hQ933, l933, y933, z933⟩, st933⟩ := Jvm.LawKit.callS X909 hx (y := (⟨"com/example/treeline/treeline/Node", "highest", "(Lcom/example/treeline/treeline/Node;)Lcom/example/treeline/treeline/Node;"⟩ : MethodName)) hown (mvT hZ (hw _ (List.mem_of_getElem? (i := 24) rfl))) (mvT hZ (hw _ (List.mem_of_getElem? (i := 25) rfl))) (mvT hZ (hw _ (List.mem_of_getElem? (i := 2) rfl))) (mvT hZ (hw _ (List.mem_of_getElem? (i := 26) rfl))) (by decide) (backOf (W := 0) (own_rhi4 l Z a0 hw [] b42 b61 b90 b130 h909 n0 hz909 c912 c915 c918 c921) hZ (hw _ (List.mem_of_getElem? (i := 26) rfl)) (hw _ (List.mem_of_getElem? (i := 2) rfl)) (by decide) (by decide)) (g := (mkF m 303 #[iv x0, iv x1, rv b42, rv b61, rv b90, rv b130, rv b182, rv b247, rv b326, iv (4 : Int32), iv w422, iv w449, iv w476, rv b42, rv b130, .unset] [(.ref b42)])) rfl (by rw [hml]; rfl) (argsL := [(.ref b42)]) (rest := []) (lenOf own_pd2 rfl) rfl (by show 2 * 0 + _ ≤ _; exact Nat.le_of_eq rfl) (hb hby at_303) (fun _ _ => ⟨rfl, e909, (by decide : 7 + 0 ≤ _), (by decide : 35 + 0 ≤ _)⟩)
              dsimp only [Pt.U, Pt.locs, Pt.cells, Pt.slots] at X933 l933 y933 z933 st933 hQ933
              subst l933 y933 z933
              obtain ⟨rfl, rfl, e933⟩ := hQ933
              have E933q : T933.heap = h909 := e933
              have N933 := Fr.app N909 (Fr.nil n0)
              refine own_go (T' := T933) (g' := (mkF m 306 #[iv x0, iv x1, rv b42, rv b61, rv b90, rv b130, rv b182, rv b247, rv b326, iv (4 : Int32), iv w422, iv w449, iv w476, rv b42, rv b130, .unset] [(.ref b130)])) (st933) ?_
              refine own_go (T' := T933) (g' := (mkF m 308 #[iv x0, iv x1, rv b42, rv b61, rv b90, rv b130, rv b182, rv b247, rv b326, iv (4 : Int32), iv w422, iv w449, iv w476, rv b42, rv b130, rv b130] [])) (fun t k => XS.astore X933.here hx rfl (hb hby at_306) rfl rfl (l' := #[iv x0, iv x1, rv b42, rv b61, rv b90, rv b130, rv b182, rv b247, rv b326, iv (4 : Int32), iv w422, iv w449, iv w476, rv b42, rv b130, rv b130]) rfl k) ?_
              refine own_go (T' := T933) (g' := (mkF m 310 #[iv x0, iv x1, rv b42, rv b61, rv b90, rv b130, rv b182, rv b247, rv b326, iv (4 : Int32), iv w422, iv w449, iv w476, rv b42, rv b130, rv b130] [(.ref b130)])) (fun t k => XS.aload X933.here hx rfl (hb hby at_308) rfl rfl k) ?_
              refine own_go (T' := T933) (g' := (mkF m 312 #[iv x0, iv x1, rv b42, rv b61, rv b90, rv b130, rv b182, rv b247, rv b326, iv (4 : Int32), iv w422, iv w449, iv w476, rv b42, rv b130, rv b130] [(.ref b130), (.ref b130)])) (fun t k => XS.aload X933.here hx rfl (hb hby at_310) rfl rfl k) ?_
              refine own_go (T' := T933) (g' := (mkF m 315 #[iv x0, iv x1, rv b42, rv b61, rv b90, rv b130, rv b182, rv b247, rv b326, iv (4 : Int32), iv w422, iv w449, iv w476, rv b42, rv b130, rv b130] [])) (fun t k => Jvm.RoadKit.acmp (g := (mkF m 312 #[iv x0, iv x1, rv b42, rv b61, rv b90, rv b130, rv b182, rv b247, rv b326, iv (4 : Int32), iv w422, iv w449, iv w476, rv b42, rv b130, rv b130] [(.ref b130), (.ref b130)])) X933 hx rfl (x := (.ref b130)) (y := (.ref b130)) rfl rfl (pc0 := 312) (pc' := 315) (same := true) rfl (hb hby at_312) rfl (decide_eq_true rfl) (by decide) (by decide) k) ?_
              refine own_go (T' := T933) (g' := (mkF m 316 #[iv x0, iv x1, rv b42, rv b61, rv b90, rv b130, rv b182, rv b247, rv b326, iv (4 : Int32), iv w422, iv w449, iv w476, rv b42, rv b130, rv b130] [(.int (1 : Int32))])) (fun t k => XS.iconst X933.here hx rfl (hb hby at_315) k) ?_
              refine own_go (T' := T933) (g' := (mkF m 320 #[iv x0, iv x1, rv b42, rv b61, rv b90, rv b130, rv b182, rv b247, rv b326, iv (4 : Int32), iv w422, iv w449, iv w476, rv b42, rv b130, rv b130] [(.int (1 : Int32))])) (fun t k => XS.goto X933.here hx rfl (pc0 := 316) (pc' := 320) rfl (hb hby at_316) (by decide) (by decide) k) ?_
              exact own_ret X933 hlk hx Bd.returns rfl (Or.inl ⟨rfl, Or.inr (Or.inl rfl), _, rfl⟩) (hb hby at_320) (by first | exact ⟨rfl, N933⟩ | (rw [Fr] at *; exact ⟨rfl, by simpa using N933⟩)) (by decide) (by decide)
            · refine own_go (T' := T909) (g' := (mkF m 289 #[iv x0, iv x1, rv b42, rv b61, rv b90, rv b130, rv b182, rv b247, rv b326, iv (4 : Int32), iv w422, iv w449, iv w476, rv b42, rv b130, .unset] [])) (fun t k => XS.ifNo X909.here hx rfl (hb hby at_286) rfl ((if0 _ _).trans (feq hc932).1) k) ?_
              refine own_go (T' := T909) (g' := (mkF m 291 #[iv x0, iv x1, rv b42, rv b61, rv b90, rv b130, rv b182, rv b247, rv b326, iv (4 : Int32), iv w422, iv w449, iv w476, rv b42, rv b130, .unset] [(.ref b130)])) (fun t k => XS.aload X909.here hx rfl (hb hby at_289) rfl rfl k) ?_
              refine own_go (T' := T909) (g' := (mkF m 292 #[iv x0, iv x1, rv b42, rv b61, rv b90, rv b130, rv b182, rv b247, rv b326, iv (4 : Int32), iv w422, iv w449, iv w476, rv b42, rv b130, .unset] [(.ref b42), (.ref b130)])) (fun t k => XS.aloadN X909.here hx rfl (hb hby at_291) rfl rfl k) ?_
              refine own_go (T' := T909) (g' := (mkF m 295 #[iv x0, iv x1, rv b42, rv b61, rv b90, rv b130, rv b182, rv b247, rv b326, iv (4 : Int32), iv w422, iv w449, iv w476, rv b42, rv b130, .unset] [])) (fun t k => Jvm.RoadKit.acmp (g := (mkF m 292 #[iv x0, iv x1, rv b42, rv b61, rv b90, rv b130, rv b182, rv b247, rv b326, iv (4 : Int32), iv w422, iv w449, iv w476, rv b42, rv b130, .unset] [(.ref b42), (.ref b130)])) X909 hx rfl (x := (.ref b130)) (y := (.ref b42)) rfl rfl (pc0 := 292) (pc' := 295) (same := false) rfl (hb hby at_292) rfl (decide_eq_false fun q => (Ne.symm ne136) (Value.ref.inj q)) (by decide) (by decide) k) ?_
              refine own_go (T' := T909) (g' := (mkF m 296 #[iv x0, iv x1, rv b42, rv b61, rv b90, rv b130, rv b182, rv b247, rv b326, iv (4 : Int32), iv w422, iv w449, iv w476, rv b42, rv b130, .unset] [(.ref b42)])) (fun t k => XS.aloadN X909.here hx rfl (hb hby at_295) rfl rfl k) ?_
              refine own_go (T' := T909) (g' := (mkF m 298 #[iv x0, iv x1, rv b42, rv b61, rv b90, rv b130, rv b182, rv b247, rv b326, iv (4 : Int32), iv w422, iv w449, iv w476, rv b42, rv b130, .unset] [(.ref b326), (.ref b42)])) (fun t k => XS.aload X909.here hx rfl (hb hby at_296) rfl rfl k) ?_
              obtain ⟨T934, h934, X934, e934, W934, st934⟩ := putF X909 hx hZ hown (host := "") (Or.inl (hw _ (List.mem_of_getElem? (i := 29) rfl))) Via.refl e909 c911 c910 (Or.inl (hw _ (List.mem_of_getElem? (i := 30) rfl))) (hw _ (List.mem_of_getElem? (i := 1) rfl)) (ty := (.object "com/example/treeline/treeline/Node")) (by decide) rfl rfl (g := (mkF m 298 #[iv x0, iv x1, rv b42, rv b61, rv b90, rv b130, rv b182, rv b247, rv b326, iv (4 : Int32), iv w422, iv w449, iv w476, rv b42, rv b130, .unset] [(.ref b326), (.ref b42)])) rfl rfl (hb hby at_298)
              have hz934 : n0 ≤ h934.size := Nat.le_trans hz909 (Keep.of_wr W934).1
              have N934 := Fr.snoc X934 N909 gn42
              have c935 := c910.wr W934
              have c936 := c911.same W934
              have c937 := c912.other W934 (Or.inr (slot_ne (Or.inl (hw _ (List.mem_of_getElem? (i := 28) rfl))) (Or.inl (hw _ (List.mem_of_getElem? (i := 30) rfl))) (by decide) (t := (.object "com/example/treeline/treeline/Node")) (t' := (.object "com/example/treeline/treeline/Node")) (by decide) (by decide)))
              have c938 := c913.wr W934
              have c939 := c914.other W934 (Or.inl (Ne.symm ne67))
              have c940 := c915.other W934 (Or.inl (Ne.symm ne67))
              have c941 := c916.wr W934
              have c942 := c917.other W934 (Or.inl (Ne.symm ne96))
              have c943 := c918.other W934 (Or.inl (Ne.symm ne96))
              have c944 := c919.wr W934
              have c945 := c920.other W934 (Or.inl (Ne.symm ne136))
              have c946 := c921.other W934 (Or.inl (Ne.symm ne136))
              have c947 := c922.wr W934
              have c948 := c923.other W934 (Or.inl (Ne.symm ne188))
              have c949 := c924.other W934 (Or.inl (Ne.symm ne188))
              have c950 := c925.wr W934
              have c951 := c926.other W934 (Or.inl (Ne.symm ne253))
              have c952 := c927.other W934 (Or.inl (Ne.symm ne253))
              have c953 := c928.wr W934
              have c954 := c929.other W934 (Or.inl (Ne.symm ne332))
              have c955 := c930.other W934 (Or.inl (Ne.symm ne332))
              refine own_go (T' := T934) (g' := (mkF m 301 #[iv x0, iv x1, rv b42, rv b61, rv b90, rv b130, rv b182, rv b247, rv b326, iv (4 : Int32), iv w422, iv w449, iv w476, rv b42, rv b130, .unset] [])) (st934) ?_
              refine own_go (T' := T934) (g' := (mkF m 303 #[iv x0, iv x1, rv b42, rv b61, rv b90, rv b130, rv b182, rv b247, rv b326, iv (4 : Int32), iv w422, iv w449, iv w476, rv b42, rv b130, .unset] [(.ref b42)])) (fun t k => XS.aload X934.here hx rfl (hb hby at_301) rfl rfl k) ?_
              obtain ⟨_, _, ⟨T956, L956, k956, n956⟩, -, X956, ⟨Lc956, hQ956, l956, y956, z956⟩, st956⟩ := Jvm.LawKit.callS X934 hx (y := (⟨"com/example/treeline/treeline/Node", "highest", "(Lcom/example/treeline/treeline/Node;)Lcom/example/treeline/treeline/Node;"⟩ : MethodName)) hown (mvT hZ (hw _ (List.mem_of_getElem? (i := 24) rfl))) (mvT hZ (hw _ (List.mem_of_getElem? (i := 25) rfl))) (mvT hZ (hw _ (List.mem_of_getElem? (i := 2) rfl))) (mvT hZ (hw _ (List.mem_of_getElem? (i := 26) rfl))) (by decide) (backOf (W := 0) (own_rhi4 l Z a0 hw [] b42 b61 b90 b130 h934 n0 hz934 c937 c940 c943 c946) hZ (hw _ (List.mem_of_getElem? (i := 26) rfl)) (hw _ (List.mem_of_getElem? (i := 2) rfl)) (by decide) (by decide)) (g := (mkF m 303 #[iv x0, iv x1, rv b42, rv b61, rv b90, rv b130, rv b182, rv b247, rv b326, iv (4 : Int32), iv w422, iv w449, iv w476, rv b42, rv b130, .unset] [(.ref b42)])) rfl (by rw [hml]; rfl) (argsL := [(.ref b42)]) (rest := []) (lenOf own_pd2 rfl) rfl (by show 2 * 0 + _ ≤ _; exact Nat.le_of_eq rfl) (hb hby at_303) (fun _ _ => ⟨rfl, e934, (by decide : 7 + 0 ≤ _), (by decide : 35 + 0 ≤ _)⟩)
              dsimp only [Pt.U, Pt.locs, Pt.cells, Pt.slots] at X956 l956 y956 z956 st956 hQ956
              subst l956 y956 z956
              obtain ⟨rfl, rfl, e956⟩ := hQ956
              have E956q : T956.heap = h934 := e956
              have N956 := Fr.app N934 (Fr.nil n0)
              refine own_go (T' := T956) (g' := (mkF m 306 #[iv x0, iv x1, rv b42, rv b61, rv b90, rv b130, rv b182, rv b247, rv b326, iv (4 : Int32), iv w422, iv w449, iv w476, rv b42, rv b130, .unset] [(.ref b130)])) (st956) ?_
              refine own_go (T' := T956) (g' := (mkF m 308 #[iv x0, iv x1, rv b42, rv b61, rv b90, rv b130, rv b182, rv b247, rv b326, iv (4 : Int32), iv w422, iv w449, iv w476, rv b42, rv b130, rv b130] [])) (fun t k => XS.astore X956.here hx rfl (hb hby at_306) rfl rfl (l' := #[iv x0, iv x1, rv b42, rv b61, rv b90, rv b130, rv b182, rv b247, rv b326, iv (4 : Int32), iv w422, iv w449, iv w476, rv b42, rv b130, rv b130]) rfl k) ?_
              refine own_go (T' := T956) (g' := (mkF m 310 #[iv x0, iv x1, rv b42, rv b61, rv b90, rv b130, rv b182, rv b247, rv b326, iv (4 : Int32), iv w422, iv w449, iv w476, rv b42, rv b130, rv b130] [(.ref b130)])) (fun t k => XS.aload X956.here hx rfl (hb hby at_308) rfl rfl k) ?_
              refine own_go (T' := T956) (g' := (mkF m 312 #[iv x0, iv x1, rv b42, rv b61, rv b90, rv b130, rv b182, rv b247, rv b326, iv (4 : Int32), iv w422, iv w449, iv w476, rv b42, rv b130, rv b130] [(.ref b130), (.ref b130)])) (fun t k => XS.aload X956.here hx rfl (hb hby at_310) rfl rfl k) ?_
              refine own_go (T' := T956) (g' := (mkF m 315 #[iv x0, iv x1, rv b42, rv b61, rv b90, rv b130, rv b182, rv b247, rv b326, iv (4 : Int32), iv w422, iv w449, iv w476, rv b42, rv b130, rv b130] [])) (fun t k => Jvm.RoadKit.acmp (g := (mkF m 312 #[iv x0, iv x1, rv b42, rv b61, rv b90, rv b130, rv b182, rv b247, rv b326, iv (4 : Int32), iv w422, iv w449, iv w476, rv b42, rv b130, rv b130] [(.ref b130), (.ref b130)])) X956 hx rfl (x := (.ref b130)) (y := (.ref b130)) rfl rfl (pc0 := 312) (pc' := 315) (same := true) rfl (hb hby at_312) rfl (decide_eq_true rfl) (by decide) (by decide) k) ?_
              refine own_go (T' := T956) (g' := (mkF m 316 #[iv x0, iv x1, rv b42, rv b61, rv b90, rv b130, rv b182, rv b247, rv b326, iv (4 : Int32), iv w422, iv w449, iv w476, rv b42, rv b130, rv b130] [(.int (1 : Int32))])) (fun t k => XS.iconst X956.here hx rfl (hb hby at_315) k) ?_
              refine own_go (T' := T956) (g' := (mkF m 320 #[iv x0, iv x1, rv b42, rv b61, rv b90, rv b130, rv b182, rv b247, rv b326, iv (4 : Int32), iv w422, iv w449, iv w476, rv b42, rv b130, rv b130] [(.int (1 : Int32))])) (fun t k => XS.goto X956.here hx rfl (pc0 := 316) (pc' := 320) rfl (hb hby at_316) (by decide) (by decide) k) ?_
              exact own_ret X956 hlk hx Bd.returns rfl (Or.inl ⟨rfl, Or.inr (Or.inl rfl), _, rfl⟩) (hb hby at_320) (by first | exact ⟨rfl, N956⟩ | (rw [Fr] at *; exact ⟨rfl, by simpa using N956⟩)) (by decide) (by decide)
          · refine own_go (T' := T909) (g' := (mkF m 265 #[iv x0, iv x1, rv b42, rv b61, rv b90, rv b130, rv b182, rv b247, rv b326, iv (4 : Int32), iv w422, iv w449, iv w476, rv b42, rv b130, .unset] [])) (fun t k => XS.ifNo X909.here hx rfl (hb hby at_262) rfl ((if0 _ _).trans (feq hc931).1) k) ?_
            refine own_go (T' := T909) (g' := (mkF m 267 #[iv x0, iv x1, rv b42, rv b61, rv b90, rv b130, rv b182, rv b247, rv b326, iv (4 : Int32), iv w422, iv w449, iv w476, rv b42, rv b130, .unset] [(.ref b130)])) (fun t k => XS.aload X909.here hx rfl (hb hby at_265) rfl rfl k) ?_
            refine own_go (T' := T909) (g' := (mkF m 269 #[iv x0, iv x1, rv b42, rv b61, rv b90, rv b130, rv b182, rv b247, rv b326, iv (4 : Int32), iv w422, iv w449, iv w476, rv b42, rv b130, .unset] [(.ref b182), (.ref b130)])) (fun t k => XS.aload X909.here hx rfl (hb hby at_267) rfl rfl k) ?_
            obtain ⟨T957, h957, X957, e957, W957, st957⟩ := putF X909 hx hZ hown (host := "") (Or.inl (hw _ (List.mem_of_getElem? (i := 29) rfl))) Via.refl e909 c920 c919 (Or.inl (hw _ (List.mem_of_getElem? (i := 30) rfl))) (hw _ (List.mem_of_getElem? (i := 1) rfl)) (ty := (.object "com/example/treeline/treeline/Node")) (by decide) rfl rfl (g := (mkF m 269 #[iv x0, iv x1, rv b42, rv b61, rv b90, rv b130, rv b182, rv b247, rv b326, iv (4 : Int32), iv w422, iv w449, iv w476, rv b42, rv b130, .unset] [(.ref b182), (.ref b130)])) rfl rfl (hb hby at_269)
            have hz957 : n0 ≤ h957.size := Nat.le_trans hz909 (Keep.of_wr W957).1
            have N957 := Fr.snoc X957 N909 gn130
            have c958 := c910.wr W957
            have c959 := c911.other W957 (Or.inl ne136)
            have c960 := c912.other W957 (Or.inl ne136)
            have c961 := c913.wr W957
            have c962 := c914.other W957 (Or.inl ne140)
            have c963 := c915.other W957 (Or.inl ne140)
            have c964 := c916.wr W957
            have c965 := c917.other W957 (Or.inl ne144)
            have c966 := c918.other W957 (Or.inl ne144)
            have c967 := c919.wr W957
            have c968 := c920.same W957
            have c969 := c921.other W957 (Or.inr (slot_ne (Or.inl (hw _ (List.mem_of_getElem? (i := 28) rfl))) (Or.inl (hw _ (List.mem_of_getElem? (i := 30) rfl))) (by decide) (t := (.object "com/example/treeline/treeline/Node")) (t' := (.object "com/example/treeline/treeline/Node")) (by decide) (by decide)))
            have c970 := c922.wr W957
            have c971 := c923.other W957 (Or.inl (Ne.symm ne200))
            have c972 := c924.other W957 (Or.inl (Ne.symm ne200))
            have c973 := c925.wr W957
            have c974 := c926.other W957 (Or.inl (Ne.symm ne265))
            have c975 := c927.other W957 (Or.inl (Ne.symm ne265))
            have c976 := c928.wr W957
            have c977 := c929.other W957 (Or.inl (Ne.symm ne344))
            have c978 := c930.other W957 (Or.inl (Ne.symm ne344))
            refine own_go (T' := T957) (g' := (mkF m 272 #[iv x0, iv x1, rv b42, rv b61, rv b90, rv b130, rv b182, rv b247, rv b326, iv (4 : Int32), iv w422, iv w449, iv w476, rv b42, rv b130, .unset] [])) (st957) ?_
            refine own_go (T' := T957) (g' := (mkF m 274 #[iv x0, iv x1, rv b42, rv b61, rv b90, rv b130, rv b182, rv b247, rv b326, iv (4 : Int32), iv w422, iv w449, iv w476, rv b42, rv b130, .unset] [(.int w449)])) (fun t k => XS.iload X957.here hx rfl (hb hby at_272) rfl k) ?_
            by_cases hc979 : w449 = (0 : Int32)
            · refine own_go (T' := T957) (g' := (mkF m 284 #[iv x0, iv x1, rv b42, rv b61, rv b90, rv b130, rv b182, rv b247, rv b326, iv (4 : Int32), iv w422, iv w449, iv w476, rv b42, rv b130, .unset] [])) (fun t k => XS.ifYes X957.here hx rfl (pc0 := 274) (pc' := 284) rfl (hb hby at_274) rfl ((if0 _ _).trans (teq hc979).1) (by decide) (by decide) k) ?_
              refine own_go (T' := T957) (g' := (mkF m 286 #[iv x0, iv x1, rv b42, rv b61, rv b90, rv b130, rv b182, rv b247, rv b326, iv (4 : Int32), iv w422, iv w449, iv w476, rv b42, rv b130, .unset] [(.int w476)])) (fun t k => XS.iload X957.here hx rfl (hb hby at_284) rfl k) ?_
              by_cases hc980 : w476 = (0 : Int32)
              · refine own_go (T' := T957) (g' := (mkF m 301 #[iv x0, iv x1, rv b42, rv b61, rv b90, rv b130, rv b182, rv b247, rv b326, iv (4 : Int32), iv w422, iv w449, iv w476, rv b42, rv b130, .unset] [])) (fun t k => XS.ifYes X957.here hx rfl (pc0 := 286) (pc' := 301) rfl (hb hby at_286) rfl ((if0 _ _).trans (teq hc980).1) (by decide) (by decide) k) ?_
                refine own_go (T' := T957) (g' := (mkF m 303 #[iv x0, iv x1, rv b42, rv b61, rv b90, rv b130, rv b182, rv b247, rv b326, iv (4 : Int32), iv w422, iv w449, iv w476, rv b42, rv b130, .unset] [(.ref b42)])) (fun t k => XS.aload X957.here hx rfl (hb hby at_301) rfl rfl k) ?_
                obtain ⟨_, _, ⟨T981, L981, k981, n981⟩, -, X981, ⟨Lc981, hQ981, l981, y981, z981⟩, st981⟩ := Jvm.LawKit.callS X957 hx (y := (⟨"com/example/treeline/treeline/Node", "highest", "(Lcom/example/treeline/treeline/Node;)Lcom/example/treeline/treeline/Node;"⟩ : MethodName)) hown (mvT hZ (hw _ (List.mem_of_getElem? (i := 24) rfl))) (mvT hZ (hw _ (List.mem_of_getElem? (i := 25) rfl))) (mvT hZ (hw _ (List.mem_of_getElem? (i := 2) rfl))) (mvT hZ (hw _ (List.mem_of_getElem? (i := 26) rfl))) (by decide) (backOf (W := 0) (own_rhi4 l Z a0 hw [] b42 b61 b90 b130 h957 n0 hz957 c960 c963 c966 c969) hZ (hw _ (List.mem_of_getElem? (i := 26) rfl)) (hw _ (List.mem_of_getElem? (i := 2) rfl)) (by decide) (by decide)) (g := (mkF m 303 #[iv x0, iv x1, rv b42, rv b61, rv b90, rv b130, rv b182, rv b247, rv b326, iv (4 : Int32), iv w422, iv w449, iv w476, rv b42, rv b130, .unset] [(.ref b42)])) rfl (by rw [hml]; rfl) (argsL := [(.ref b42)]) (rest := []) (lenOf own_pd2 rfl) rfl (by show 2 * 0 + _ ≤ _; exact Nat.le_of_eq rfl) (hb hby at_303) (fun _ _ => ⟨rfl, e957, (by decide : 7 + 0 ≤ _), (by decide : 35 + 0 ≤ _)⟩)
                dsimp only [Pt.U, Pt.locs, Pt.cells, Pt.slots] at X981 l981 y981 z981 st981 hQ981
                subst l981 y981 z981
                obtain ⟨rfl, rfl, e981⟩ := hQ981
                have E981q : T981.heap = h957 := e981
                have N981 := Fr.app N957 (Fr.nil n0)
                refine own_go (T' := T981) (g' := (mkF m 306 #[iv x0, iv x1, rv b42, rv b61, rv b90, rv b130, rv b182, rv b247, rv b326, iv (4 : Int32), iv w422, iv w449, iv w476, rv b42, rv b130, .unset] [(.ref b130)])) (st981) ?_
                refine own_go (T' := T981) (g' := (mkF m 308 #[iv x0, iv x1, rv b42, rv b61, rv b90, rv b130, rv b182, rv b247, rv b326, iv (4 : Int32), iv w422, iv w449, iv w476, rv b42, rv b130, rv b130] [])) (fun t k => XS.astore X981.here hx rfl (hb hby at_306) rfl rfl (l' := #[iv x0, iv x1, rv b42, rv b61, rv b90, rv b130, rv b182, rv b247, rv b326, iv (4 : Int32), iv w422, iv w449, iv w476, rv b42, rv b130, rv b130]) rfl k) ?_
                refine own_go (T' := T981) (g' := (mkF m 310 #[iv x0, iv x1, rv b42, rv b61, rv b90, rv b130, rv b182, rv b247, rv b326, iv (4 : Int32), iv w422, iv w449, iv w476, rv b42, rv b130, rv b130] [(.ref b130)])) (fun t k => XS.aload X981.here hx rfl (hb hby at_308) rfl rfl k) ?_
                refine own_go (T' := T981) (g' := (mkF m 312 #[iv x0, iv x1, rv b42, rv b61, rv b90, rv b130, rv b182, rv b247, rv b326, iv (4 : Int32), iv w422, iv w449, iv w476, rv b42, rv b130, rv b130] [(.ref b130), (.ref b130)])) (fun t k => XS.aload X981.here hx rfl (hb hby at_310) rfl rfl k) ?_
                refine own_go (T' := T981) (g' := (mkF m 315 #[iv x0, iv x1, rv b42, rv b61, rv b90, rv b130, rv b182, rv b247, rv b326, iv (4 : Int32), iv w422, iv w449, iv w476, rv b42, rv b130, rv b130] [])) (fun t k => Jvm.RoadKit.acmp (g := (mkF m 312 #[iv x0, iv x1, rv b42, rv b61, rv b90, rv b130, rv b182, rv b247, rv b326, iv (4 : Int32), iv w422, iv w449, iv w476, rv b42, rv b130, rv b130] [(.ref b130), (.ref b130)])) X981 hx rfl (x := (.ref b130)) (y := (.ref b130)) rfl rfl (pc0 := 312) (pc' := 315) (same := true) rfl (hb hby at_312) rfl (decide_eq_true rfl) (by decide) (by decide) k) ?_
                refine own_go (T' := T981) (g' := (mkF m 316 #[iv x0, iv x1, rv b42, rv b61, rv b90, rv b130, rv b182, rv b247, rv b326, iv (4 : Int32), iv w422, iv w449, iv w476, rv b42, rv b130, rv b130] [(.int (1 : Int32))])) (fun t k => XS.iconst X981.here hx rfl (hb hby at_315) k) ?_
                refine own_go (T' := T981) (g' := (mkF m 320 #[iv x0, iv x1, rv b42, rv b61, rv b90, rv b130, rv b182, rv b247, rv b326, iv (4 : Int32), iv w422, iv w449, iv w476, rv b42, rv b130, rv b130] [(.int (1 : Int32))])) (fun t k => XS.goto X981.here hx rfl (pc0 := 316) (pc' := 320) rfl (hb hby at_316) (by decide) (by decide) k) ?_
                exact own_ret X981 hlk hx Bd.returns rfl (Or.inl ⟨rfl, Or.inr (Or.inl rfl), _, rfl⟩) (hb hby at_320) (by first | exact ⟨rfl, N981⟩ | (rw [Fr] at *; exact ⟨rfl, by simpa using N981⟩)) (by decide) (by decide)
              · refine own_go (T' := T957) (g' := (mkF m 289 #[iv x0, iv x1, rv b42, rv b61, rv b90, rv b130, rv b182, rv b247, rv b326, iv (4 : Int32), iv w422, iv w449, iv w476, rv b42, rv b130, .unset] [])) (fun t k => XS.ifNo X957.here hx rfl (hb hby at_286) rfl ((if0 _ _).trans (feq hc980).1) k) ?_
                refine own_go (T' := T957) (g' := (mkF m 291 #[iv x0, iv x1, rv b42, rv b61, rv b90, rv b130, rv b182, rv b247, rv b326, iv (4 : Int32), iv w422, iv w449, iv w476, rv b42, rv b130, .unset] [(.ref b130)])) (fun t k => XS.aload X957.here hx rfl (hb hby at_289) rfl rfl k) ?_
                refine own_go (T' := T957) (g' := (mkF m 292 #[iv x0, iv x1, rv b42, rv b61, rv b90, rv b130, rv b182, rv b247, rv b326, iv (4 : Int32), iv w422, iv w449, iv w476, rv b42, rv b130, .unset] [(.ref b42), (.ref b130)])) (fun t k => XS.aloadN X957.here hx rfl (hb hby at_291) rfl rfl k) ?_
                refine own_go (T' := T957) (g' := (mkF m 295 #[iv x0, iv x1, rv b42, rv b61, rv b90, rv b130, rv b182, rv b247, rv b326, iv (4 : Int32), iv w422, iv w449, iv w476, rv b42, rv b130, .unset] [])) (fun t k => Jvm.RoadKit.acmp (g := (mkF m 292 #[iv x0, iv x1, rv b42, rv b61, rv b90, rv b130, rv b182, rv b247, rv b326, iv (4 : Int32), iv w422, iv w449, iv w476, rv b42, rv b130, .unset] [(.ref b42), (.ref b130)])) X957 hx rfl (x := (.ref b130)) (y := (.ref b42)) rfl rfl (pc0 := 292) (pc' := 295) (same := false) rfl (hb hby at_292) rfl (decide_eq_false fun q => (Ne.symm ne136) (Value.ref.inj q)) (by decide) (by decide) k) ?_
                refine own_go (T' := T957) (g' := (mkF m 296 #[iv x0, iv x1, rv b42, rv b61, rv b90, rv b130, rv b182, rv b247, rv b326, iv (4 : Int32), iv w422, iv w449, iv w476, rv b42, rv b130, .unset] [(.ref b42)])) (fun t k => XS.aloadN X957.here hx rfl (hb hby at_295) rfl rfl k) ?_
                refine own_go (T' := T957) (g' := (mkF m 298 #[iv x0, iv x1, rv b42, rv b61, rv b90, rv b130, rv b182, rv b247, rv b326, iv (4 : Int32), iv w422, iv w449, iv w476, rv b42, rv b130, .unset] [(.ref b326), (.ref b42)])) (fun t k => XS.aload X957.here hx rfl (hb hby at_296) rfl rfl k) ?_
                obtain ⟨T982, h982, X982, e982, W982, st982⟩ := putF X957 hx hZ hown (host := "") (Or.inl (hw _ (List.mem_of_getElem? (i := 29) rfl))) Via.refl e957 c959 c958 (Or.inl (hw _ (List.mem_of_getElem? (i := 30) rfl))) (hw _ (List.mem_of_getElem? (i := 1) rfl)) (ty := (.object "com/example/treeline/treeline/Node")) (by decide) rfl rfl (g := (mkF m 298 #[iv x0, iv x1, rv b42, rv b61, rv b90, rv b130, rv b182, rv b247, rv b326, iv (4 : Int32), iv w422, iv w449, iv w476, rv b42, rv b130, .unset] [(.ref b326), (.ref b42)])) rfl rfl (hb hby at_298)
                have hz982 : n0 ≤ h982.size := Nat.le_trans hz957 (Keep.of_wr W982).1
                have N982 := Fr.snoc X982 N957 gn42
                have c983 := c958.wr W982
                have c984 := c959.same W982
                have c985 := c960.other W982 (Or.inr (slot_ne (Or.inl (hw _ (List.mem_of_getElem? (i := 28) rfl))) (Or.inl (hw _ (List.mem_of_getElem? (i := 30) rfl))) (by decide) (t := (.object "com/example/treeline/treeline/Node")) (t' := (.object "com/example/treeline/treeline/Node")) (by decide) (by decide)))
                have c986 := c961.wr W982
                have c987 := c962.other W982 (Or.inl (Ne.symm ne67))
                have c988 := c963.other W982 (Or.inl (Ne.symm ne67))
                have c989 := c964.wr W982
                have c990 := c965.other W982 (Or.inl (Ne.symm ne96))
                have c991 := c966.other W982 (Or.inl (Ne.symm ne96))
                have c992 := c967.wr W982
                have c993 := c968.other W982 (Or.inl (Ne.symm ne136))
                have c994 := c969.other W982 (Or.inl (Ne.symm ne136))
                have c995 := c970.wr W982
                have c996 := c971.other W982 (Or.inl (Ne.symm ne188))
                have c997 := c972.other W982 (Or.inl (Ne.symm ne188))
                have c998 := c973.wr W982
                have c999 := c974.other W982 (Or.inl (Ne.symm ne253))
                have c1000 := c975.other W982 (Or.inl (Ne.symm ne253))
                have c1001 := c976.wr W982
                have c1002 := c977.other W982 (Or.inl (Ne.symm ne332))
                have c1003 := c978.other W982 (Or.inl (Ne.symm ne332))
                refine own_go (T' := T982) (g' := (mkF m 301 #[iv x0, iv x1, rv b42, rv b61, rv b90, rv b130, rv b182, rv b247, rv b326, iv (4 : Int32), iv w422, iv w449, iv w476, rv b42, rv b130, .unset] [])) (st982) ?_
                refine own_go (T' := T982) (g' := (mkF m 303 #[iv x0, iv x1, rv b42, rv b61, rv b90, rv b130, rv b182, rv b247, rv b326, iv (4 : Int32), iv w422, iv w449, iv w476, rv b42, rv b130, .unset] [(.ref b42)])) (fun t k => XS.aload X982.here hx rfl (hb hby at_301) rfl rfl k) ?_
                obtain ⟨_, _, ⟨T1004, L1004, k1004, n1004⟩, -, X1004, ⟨Lc1004, hQ1004, l1004, y1004, z1004⟩, st1004⟩ := Jvm.LawKit.callS X982 hx (y := (⟨"com/example/treeline/treeline/Node", "highest", "(Lcom/example/treeline/treeline/Node;)Lcom/example/treeline/treeline/Node;"⟩ : MethodName)) hown (mvT hZ (hw _ (List.mem_of_getElem? (i := 24) rfl))) (mvT hZ (hw _ (List.mem_of_getElem? (i := 25) rfl))) (mvT hZ (hw _ (List.mem_of_getElem? (i := 2) rfl))) (mvT hZ (hw _ (List.mem_of_getElem? (i := 26) rfl))) (by decide) (backOf (W := 0) (own_rhi4 l Z a0 hw [] b42 b61 b90 b130 h982 n0 hz982 c985 c988 c991 c994) hZ (hw _ (List.mem_of_getElem? (i := 26) rfl)) (hw _ (List.mem_of_getElem? (i := 2) rfl)) (by decide) (by decide)) (g := (mkF m 303 #[iv x0, iv x1, rv b42, rv b61, rv b90, rv b130, rv b182, rv b247, rv b326, iv (4 : Int32), iv w422, iv w449, iv w476, rv b42, rv b130, .unset] [(.ref b42)])) rfl (by rw [hml]; rfl) (argsL := [(.ref b42)]) (rest := []) (lenOf own_pd2 rfl) rfl (by show 2 * 0 + _ ≤ _; exact Nat.le_of_eq rfl) (hb hby at_303) (fun _ _ => ⟨rfl, e982, (by decide : 7 + 0 ≤ _), (by decide : 35 + 0 ≤ _)⟩)
                dsimp only [Pt.U, Pt.locs, Pt.cells, Pt.slots] at X1004 l1004 y1004 z1004 st1004 hQ1004
                subst l1004 y1004 z1004
                obtain ⟨rfl, rfl, e1004⟩ := hQ1004
                have E1004q : T1004.heap = h982 := e1004
                have N1004 := Fr.app N982 (Fr.nil n0)
                refine own_go (T' := T1004) (g' := (mkF m 306 #[iv x0, iv x1, rv b42, rv b61, rv b90, rv b130, rv b182, rv b247, rv b326, iv (4 : Int32), iv w422, iv w449, iv w476, rv b42, rv b130, .unset] [(.ref b130)])) (st1004) ?_
                refine own_go (T' := T1004) (g' := (mkF m 308 #[iv x0, iv x1, rv b42, rv b61, rv b90, rv b130, rv b182, rv b247, rv b326, iv (4 : Int32), iv w422, iv w449, iv w476, rv b42, rv b130, rv b130] [])) (fun t k => XS.astore X1004.here hx rfl (hb hby at_306) rfl rfl (l' := #[iv x0, iv x1, rv b42, rv b61, rv b90, rv b130, rv b182, rv b247, rv b326, iv (4 : Int32), iv w422, iv w449, iv w476, rv b42, rv b130, rv b130]) rfl k) ?_
                refine own_go (T' := T1004) (g' := (mkF m 310 #[iv x0, iv x1, rv b42, rv b61, rv b90, rv b130, rv b182, rv b247, rv b326, iv (4 : Int32), iv w422, iv w449, iv w476, rv b42, rv b130, rv b130] [(.ref b130)])) (fun t k => XS.aload X1004.here hx rfl (hb hby at_308) rfl rfl k) ?_
                refine own_go (T' := T1004) (g' := (mkF m 312 #[iv x0, iv x1, rv b42, rv b61, rv b90, rv b130, rv b182, rv b247, rv b326, iv (4 : Int32), iv w422, iv w449, iv w476, rv b42, rv b130, rv b130] [(.ref b130), (.ref b130)])) (fun t k => XS.aload X1004.here hx rfl (hb hby at_310) rfl rfl k) ?_
                refine own_go (T' := T1004) (g' := (mkF m 315 #[iv x0, iv x1, rv b42, rv b61, rv b90, rv b130, rv b182, rv b247, rv b326, iv (4 : Int32), iv w422, iv w449, iv w476, rv b42, rv b130, rv b130] [])) (fun t k => Jvm.RoadKit.acmp (g := (mkF m 312 #[iv x0, iv x1, rv b42, rv b61, rv b90, rv b130, rv b182, rv b247, rv b326, iv (4 : Int32), iv w422, iv w449, iv w476, rv b42, rv b130, rv b130] [(.ref b130), (.ref b130)])) X1004 hx rfl (x := (.ref b130)) (y := (.ref b130)) rfl rfl (pc0 := 312) (pc' := 315) (same := true) rfl (hb hby at_312) rfl (decide_eq_true rfl) (by decide) (by decide) k) ?_
                refine own_go (T' := T1004) (g' := (mkF m 316 #[iv x0, iv x1, rv b42, rv b61, rv b90, rv b130, rv b182, rv b247, rv b326, iv (4 : Int32), iv w422, iv w449, iv w476, rv b42, rv b130, rv b130] [(.int (1 : Int32))])) (fun t k => XS.iconst X1004.here hx rfl (hb hby at_315) k) ?_
                refine own_go (T' := T1004) (g' := (mkF m 320 #[iv x0, iv x1, rv b42, rv b61, rv b90, rv b130, rv b182, rv b247, rv b326, iv (4 : Int32), iv w422, iv w449, iv w476, rv b42, rv b130, rv b130] [(.int (1 : Int32))])) (fun t k => XS.goto X1004.here hx rfl (pc0 := 316) (pc' := 320) rfl (hb hby at_316) (by decide) (by decide) k) ?_
                exact own_ret X1004 hlk hx Bd.returns rfl (Or.inl ⟨rfl, Or.inr (Or.inl rfl), _, rfl⟩) (hb hby at_320) (by first | exact ⟨rfl, N1004⟩ | (rw [Fr] at *; exact ⟨rfl, by simpa using N1004⟩)) (by decide) (by decide)
            · refine own_go (T' := T957) (g' := (mkF m 277 #[iv x0, iv x1, rv b42, rv b61, rv b90, rv b130, rv b182, rv b247, rv b326, iv (4 : Int32), iv w422, iv w449, iv w476, rv b42, rv b130, .unset] [])) (fun t k => XS.ifNo X957.here hx rfl (hb hby at_274) rfl ((if0 _ _).trans (feq hc979).1) k) ?_
              refine own_go (T' := T957) (g' := (mkF m 279 #[iv x0, iv x1, rv b42, rv b61, rv b90, rv b130, rv b182, rv b247, rv b326, iv (4 : Int32), iv w422, iv w449, iv w476, rv b42, rv b130, .unset] [(.ref b182)])) (fun t k => XS.aload X957.here hx rfl (hb hby at_277) rfl rfl k) ?_
              refine own_go (T' := T957) (g' := (mkF m 281 #[iv x0, iv x1, rv b42, rv b61, rv b90, rv b130, rv b182, rv b247, rv b326, iv (4 : Int32), iv w422, iv w449, iv w476, rv b42, rv b130, .unset] [(.ref b247), (.ref b182)])) (fun t k => XS.aload X957.here hx rfl (hb hby at_279) rfl rfl k) ?_
              obtain ⟨T1005, h1005, X1005, e1005, W1005, st1005⟩ := putF X957 hx hZ hown (host := "") (Or.inl (hw _ (List.mem_of_getElem? (i := 27) rfl))) Via.refl e957 c972 c970 (Or.inl (hw _ (List.mem_of_getElem? (i := 28) rfl))) (hw _ (List.mem_of_getElem? (i := 1) rfl)) (ty := (.object "com/example/treeline/treeline/Node")) (by decide) rfl rfl (g := (mkF m 281 #[iv x0, iv x1, rv b42, rv b61, rv b90, rv b130, rv b182, rv b247, rv b326, iv (4 : Int32), iv w422, iv w449, iv w476, rv b42, rv b130, .unset] [(.ref b247), (.ref b182)])) rfl rfl (hb hby at_281)
              have hz1005 : n0 ≤ h1005.size := Nat.le_trans hz957 (Keep.of_wr W1005).1
              have N1005 := Fr.snoc X1005 N957 gn182
              have c1006 := c958.wr W1005
              have c1007 := c959.other W1005 (Or.inl ne188)
              have c1008 := c960.other W1005 (Or.inl ne188)
              have c1009 := c961.wr W1005
              have c1010 := c962.other W1005 (Or.inl ne192)
              have c1011 := c963.other W1005 (Or.inl ne192)
              have c1012 := c964.wr W1005
              have c1013 := c965.other W1005 (Or.inl ne196)
              have c1014 := c966.other W1005 (Or.inl ne196)
              have c1015 := c967.wr W1005
              have c1016 := c968.other W1005 (Or.inl ne200)
              have c1017 := c969.other W1005 (Or.inl ne200)
              have c1018 := c970.wr W1005
              have c1019 := c971.other W1005 (Or.inr (slot_ne (Or.inl (hw _ (List.mem_of_getElem? (i := 30) rfl))) (Or.inl (hw _ (List.mem_of_getElem? (i := 28) rfl))) (by decide) (t := (.object "com/example/treeline/treeline/Node")) (t' := (.object "com/example/treeline/treeline/Node")) (by decide) (by decide)))
              have c1020 := c972.same W1005
              have c1021 := c973.wr W1005
              have c1022 := c974.other W1005 (Or.inl (Ne.symm ne269))
              have c1023 := c975.other W1005 (Or.inl (Ne.symm ne269))
              have c1024 := c976.wr W1005
              have c1025 := c977.other W1005 (Or.inl (Ne.symm ne348))
              have c1026 := c978.other W1005 (Or.inl (Ne.symm ne348))
              refine own_go (T' := T1005) (g' := (mkF m 284 #[iv x0, iv x1, rv b42, rv b61, rv b90, rv b130, rv b182, rv b247, rv b326, iv (4 : Int32), iv w422, iv w449, iv w476, rv b42, rv b130, .unset] [])) (st1005) ?_
              refine own_go (T' := T1005) (g' := (mkF m 286 #[iv x0, iv x1, rv b42, rv b61, rv b90, rv b130, rv b182, rv b247, rv b326, iv (4 : Int32), iv w422, iv w449, iv w476, rv b42, rv b130, .unset] [(.int w476)])) (fun t k => XS.iload X1005.here hx rfl (hb hby at_284) rfl k) ?_
              by_cases hc1027 : w476 = (0 : Int32)
              · refine own_go (T' := T1005) (g' := (mkF m 301 #[iv x0, iv x1, rv b42, rv b61, rv b90, rv b130, rv b182, rv b247, rv b326, iv (4 : Int32), iv w422, iv w449, iv w476, rv b42, rv b130, .unset] [])) (fun t k => XS.ifYes X1005.here hx rfl (pc0 := 286) (pc' := 301) rfl (hb hby at_286) rfl ((if0 _ _).trans (teq hc1027).1) (by decide) (by decide) k) ?_
                refine own_go (T' := T1005) (g' := (mkF m 303 #[iv x0, iv x1, rv b42, rv b61, rv b90, rv b130, rv b182, rv b247, rv b326, iv (4 : Int32), iv w422, iv w449, iv w476, rv b42, rv b130, .unset] [(.ref b42)])) (fun t k => XS.aload X1005.here hx rfl (hb hby at_301) rfl rfl k) ?_
                obtain ⟨_, _, ⟨T1028, L1028, k1028, n1028⟩, -, X1028, ⟨Lc1028, hQ1028, l1028, y1028, z1028⟩, st1028⟩ := Jvm.LawKit.callS X1005 hx (y := (⟨"com/example/treeline/treeline/Node", "highest", "(Lcom/example/treeline/treeline/Node;)Lcom/example/treeline/treeline/Node;"⟩ : MethodName)) hown (mvT hZ (hw _ (List.mem_of_getElem? (i := 24) rfl))) (mvT hZ (hw _ (List.mem_of_getElem? (i := 25) rfl))) (mvT hZ (hw _ (List.mem_of_getElem? (i := 2) rfl))) (mvT hZ (hw _ (List.mem_of_getElem? (i := 26) rfl))) (by decide) (backOf (W := 0) (own_rhi4 l Z a0 hw [] b42 b61 b90 b130 h1005 n0 hz1005 c1008 c1011 c1014 c1017) hZ (hw _ (List.mem_of_getElem? (i := 26) rfl)) (hw _ (List.mem_of_getElem? (i := 2) rfl)) (by decide) (by decide)) (g := (mkF m 303 #[iv x0, iv x1, rv b42, rv b61, rv b90, rv b130, rv b182, rv b247, rv b326, iv (4 : Int32), iv w422, iv w449, iv w476, rv b42, rv b130, .unset] [(.ref b42)])) rfl (by rw [hml]; rfl) (argsL := [(.ref b42)]) (rest := []) (lenOf own_pd2 rfl) rfl (by show 2 * 0 + _ ≤ _; exact Nat.le_of_eq rfl) (hb hby at_303) (fun _ _ => ⟨rfl, e1005, (by decide : 7 + 0 ≤ _), (by decide : 35 + 0 ≤ _)⟩)
                dsimp only [Pt.U, Pt.locs, Pt.cells, Pt.slots] at X1028 l1028 y1028 z1028 st1028 hQ1028
                subst l1028 y1028 z1028
                obtain ⟨rfl, rfl, e1028⟩ := hQ1028
                have E1028q : T1028.heap = h1005 := e1028
                have N1028 := Fr.app N1005 (Fr.nil n0)
                refine own_go (T' := T1028) (g' := (mkF m 306 #[iv x0, iv x1, rv b42, rv b61, rv b90, rv b130, rv b182, rv b247, rv b326, iv (4 : Int32), iv w422, iv w449, iv w476, rv b42, rv b130, .unset] [(.ref b130)])) (st1028) ?_
                refine own_go (T' := T1028) (g' := (mkF m 308 #[iv x0, iv x1, rv b42, rv b61, rv b90, rv b130, rv b182, rv b247, rv b326, iv (4 : Int32), iv w422, iv w449, iv w476, rv b42, rv b130, rv b130] [])) (fun t k => XS.astore X1028.here hx rfl (hb hby at_306) rfl rfl (l' := #[iv x0, iv x1, rv b42, rv b61, rv b90, rv b130, rv b182, rv b247, rv b326, iv (4 : Int32), iv w422, iv w449, iv w476, rv b42, rv b130, rv b130]) rfl k) ?_
                refine own_go (T' := T1028) (g' := (mkF m 310 #[iv x0, iv x1, rv b42, rv b61, rv b90, rv b130, rv b182, rv b247, rv b326, iv (4 : Int32), iv w422, iv w449, iv w476, rv b42, rv b130, rv b130] [(.ref b130)])) (fun t k => XS.aload X1028.here hx rfl (hb hby at_308) rfl rfl k) ?_
                refine own_go (T' := T1028) (g' := (mkF m 312 #[iv x0, iv x1, rv b42, rv b61, rv b90, rv b130, rv b182, rv b247, rv b326, iv (4 : Int32), iv w422, iv w449, iv w476, rv b42, rv b130, rv b130] [(.ref b130), (.ref b130)])) (fun t k => XS.aload X1028.here hx rfl (hb hby at_310) rfl rfl k) ?_
                refine own_go (T' := T1028) (g' := (mkF m 315 #[iv x0, iv x1, rv b42, rv b61, rv b90, rv b130, rv b182, rv b247, rv b326, iv (4 : Int32), iv w422, iv w449, iv w476, rv b42, rv b130, rv b130] [])) (fun t k => Jvm.RoadKit.acmp (g := (mkF m 312 #[iv x0, iv x1, rv b42, rv b61, rv b90, rv b130, rv b182, rv b247, rv b326, iv (4 : Int32), iv w422, iv w449, iv w476, rv b42, rv b130, rv b130] [(.ref b130), (.ref b130)])) X1028 hx rfl (x := (.ref b130)) (y := (.ref b130)) rfl rfl (pc0 := 312) (pc' := 315) (same := true) rfl (hb hby at_312) rfl (decide_eq_true rfl) (by decide) (by decide) k) ?_
                refine own_go (T' := T1028) (g' := (mkF m 316 #[iv x0, iv x1, rv b42, rv b61, rv b90, rv b130, rv b182, rv b247, rv b326, iv (4 : Int32), iv w422, iv w449, iv w476, rv b42, rv b130, rv b130] [(.int (1 : Int32))])) (fun t k => XS.iconst X1028.here hx rfl (hb hby at_315) k) ?_
                refine own_go (T' := T1028) (g' := (mkF m 320 #[iv x0, iv x1, rv b42, rv b61, rv b90, rv b130, rv b182, rv b247, rv b326, iv (4 : Int32), iv w422, iv w449, iv w476, rv b42, rv b130, rv b130] [(.int (1 : Int32))])) (fun t k => XS.goto X1028.here hx rfl (pc0 := 316) (pc' := 320) rfl (hb hby at_316) (by decide) (by decide) k) ?_
                exact own_ret X1028 hlk hx Bd.returns rfl (Or.inl ⟨rfl, Or.inr (Or.inl rfl), _, rfl⟩) (hb hby at_320) (by first | exact ⟨rfl, N1028⟩ | (rw [Fr] at *; exact ⟨rfl, by simpa using N1028⟩)) (by decide) (by decide)
              · refine own_go (T' := T1005) (g' := (mkF m 289 #[iv x0, iv x1, rv b42, rv b61, rv b90, rv b130, rv b182, rv b247, rv b326, iv (4 : Int32), iv w422, iv w449, iv w476, rv b42, rv b130, .unset] [])) (fun t k => XS.ifNo X1005.here hx rfl (hb hby at_286) rfl ((if0 _ _).trans (feq hc1027).1) k) ?_
                refine own_go (T' := T1005) (g' := (mkF m 291 #[iv x0, iv x1, rv b42, rv b61, rv b90, rv b130, rv b182, rv b247, rv b326, iv (4 : Int32), iv w422, iv w449, iv w476, rv b42, rv b130, .unset] [(.ref b130)])) (fun t k => XS.aload X1005.here hx rfl (hb hby at_289) rfl rfl k) ?_
                refine own_go (T' := T1005) (g' := (mkF m 292 #[iv x0, iv x1, rv b42, rv b61, rv b90, rv b130, rv b182, rv b247, rv b326, iv (4 : Int32), iv w422, iv w449, iv w476, rv b42, rv b130, .unset] [(.ref b42), (.ref b130)])) (fun t k => XS.aloadN X1005.here hx rfl (hb hby at_291) rfl rfl k) ?_
                refine own_go (T' := T1005) (g' := (mkF m 295 #[iv x0, iv x1, rv b42, rv b61, rv b90, rv b130, rv b182, rv b247, rv b326, iv (4 : Int32), iv w422, iv w449, iv w476, rv b42, rv b130, .unset] [])) (fun t k => Jvm.RoadKit.acmp (g := (mkF m 292 #[iv x0, iv x1, rv b42, rv b61, rv b90, rv b130, rv b182, rv b247, rv b326, iv (4 : Int32), iv w422, iv w449, iv w476, rv b42, rv b130, .unset] [(.ref b42), (.ref b130)])) X1005 hx rfl (x := (.ref b130)) (y := (.ref b42)) rfl rfl (pc0 := 292) (pc' := 295) (same := false) rfl (hb hby at_292) rfl (decide_eq_false fun q => (Ne.symm ne136) (Value.ref.inj q)) (by decide) (by decide) k) ?_
                refine own_go (T' := T1005) (g' := (mkF m 296 #[iv x0, iv x1, rv b42, rv b61, rv b90, rv b130, rv b182, rv b247, rv b326, iv (4 : Int32), iv w422, iv w449, iv w476, rv b42, rv b130, .unset] [(.ref b42)])) (fun t k => XS.aloadN X1005.here hx rfl (hb hby at_295) rfl rfl k) ?_
                refine own_go (T' := T1005) (g' := (mkF m 298 #[iv x0, iv x1, rv b42, rv b61, rv b90, rv b130, rv b182, rv b247, rv b326, iv (4 : Int32), iv w422, iv w449, iv w476, rv b42, rv b130, .unset] [(.ref b326), (.ref b42)])) (fun t k => XS.aload X1005.here hx rfl (hb hby at_296) rfl rfl k) ?_
                obtain ⟨T1029, h1029, X1029, e1029, W1029, st1029⟩ := putF X1005 hx hZ hown (host := "") (Or.inl (hw _ (List.mem_of_getElem? (i := 29) rfl))) Via.refl e1005 c1007 c1006 (Or.inl (hw _ (List.mem_of_getElem? (i := 30) rfl))) (hw _ (List.mem_of_getElem? (i := 1) rfl)) (ty := (.object "com/example/treeline/treeline/Node")) (by decide) rfl rfl (g := (mkF m 298 #[iv x0, iv x1, rv b42, rv b61, rv b90, rv b130, rv b182, rv b247, rv b326, iv (4 : Int32), iv w422, iv w449, iv w476, rv b42, rv b130, .unset] [(.ref b326), (.ref b42)])) rfl rfl (hb hby at_298)
                have hz1029 : n0 ≤ h1029.size := Nat.le_trans hz1005 (Keep.of_wr W1029).1
                have N1029 := Fr.snoc X1029 N1005 gn42
                have c1030 := c1006.wr W1029
                have c1031 := c1007.same W1029
                have c1032 := c1008.other W1029 (Or.inr (slot_ne (Or.inl (hw _ (List.mem_of_getElem? (i := 28) rfl))) (Or.inl (hw _ (List.mem_of_getElem? (i := 30) rfl))) (by decide) (t := (.object "com/example/treeline/treeline/Node")) (t' := (.object "com/example/treeline/treeline/Node")) (by decide) (by decide)))
                have c1033 := c1009.wr W1029
                have c1034 := c1010.other W1029 (Or.inl (Ne.symm ne67))
                have c1035 := c1011.other W1029 (Or.inl (Ne.symm ne67))
                have c1036 := c1012.wr W1029
                have c1037 := c1013.other W1029 (Or.inl (Ne.symm ne96))
                have c1038 := c1014.other W1029 (Or.inl (Ne.symm ne96))
                have c1039 := c1015.wr W1029
                have c1040 := c1016.other W1029 (Or.inl (Ne.symm ne136))
                have c1041 := c1017.other W1029 (Or.inl (Ne.symm ne136))
                have c1042 := c1018.wr W1029
                have c1043 := c1019.other W1029 (Or.inl (Ne.symm ne188))
                have c1044 := c1020.other W1029 (Or.inl (Ne.symm ne188))
                have c1045 := c1021.wr W1029
                have c1046 := c1022.other W1029 (Or.inl (Ne.symm ne253))
                have c1047 := c1023.other W1029 (Or.inl (Ne.symm ne253))
                have c1048 := c1024.wr W1029
                have c1049 := c1025.other W1029 (Or.inl (Ne.symm ne332))
                have c1050 := c1026.other W1029 (Or.inl (Ne.symm ne332))
                refine own_go (T' := T1029) (g' := (mkF m 301 #[iv x0, iv x1, rv b42, rv b61, rv b90, rv b130, rv b182, rv b247, rv b326, iv (4 : Int32), iv w422, iv w449, iv w476, rv b42, rv b130, .unset] [])) (st1029) ?_
                refine own_go (T' := T1029) (g' := (mkF m 303 #[iv x0, iv x1, rv b42, rv b61, rv b90, rv b130, rv b182, rv b247, rv b326, iv (4 : Int32), iv w422, iv w449, iv w476, rv b42, rv b130, .unset] [(.ref b42)])) (fun t k => XS.aload X1029.here hx rfl (hb hby at_301) rfl rfl k) ?_
                obtain ⟨_, _, ⟨T1051, L1051, k1051, n1051⟩, -, X1051, ⟨Lc1051, hQ1051, l1051, y1051, z1051⟩, st1051⟩ := Jvm.LawKit.callS X1029 hx (y := (⟨"com/example/treeline/treeline/Node", "highest", "(Lcom/example/treeline/treeline/Node;)Lcom/example/treeline/treeline/Node;"⟩ : MethodName)) hown (mvT hZ (hw _ (List.mem_of_getElem? (i := 24) rfl))) (mvT hZ (hw _ (List.mem_of_getElem? (i := 25) rfl))) (mvT hZ (hw _ (List.mem_of_getElem? (i := 2) rfl))) (mvT hZ (hw _ (List.mem_of_getElem? (i := 26) rfl))) (by decide) (backOf (W := 0) (own_rhi4 l Z a0 hw [] b42 b61 b90 b130 h1029 n0 hz1029 c1032 c1035 c1038 c1041) hZ (hw _ (List.mem_of_getElem? (i := 26) rfl)) (hw _ (List.mem_of_getElem? (i := 2) rfl)) (by decide) (by decide)) (g := (mkF m 303 #[iv x0, iv x1, rv b42, rv b61, rv b90, rv b130, rv b182, rv b247, rv b326, iv (4 : Int32), iv w422, iv w449, iv w476, rv b42, rv b130, .unset] [(.ref b42)])) rfl (by rw [hml]; rfl) (argsL := [(.ref b42)]) (rest := []) (lenOf own_pd2 rfl) rfl (by show 2 * 0 + _ ≤ _; exact Nat.le_of_eq rfl) (hb hby at_303) (fun _ _ => ⟨rfl, e1029, (by decide : 7 + 0 ≤ _), (by decide : 35 + 0 ≤ _)⟩)
                dsimp only [Pt.U, Pt.locs, Pt.cells, Pt.slots] at X1051 l1051 y1051 z1051 st1051 hQ1051
                subst l1051 y1051 z1051
                obtain ⟨rfl, rfl, e1051⟩ := hQ1051
                have E1051q : T1051.heap = h1029 := e1051
                have N1051 := Fr.app N1029 (Fr.nil n0)
                refine own_go (T' := T1051) (g' := (mkF m 306 #[iv x0, iv x1, rv b42, rv b61, rv b90, rv b130, rv b182, rv b247, rv b326, iv (4 : Int32), iv w422, iv w449, iv w476, rv b42, rv b130, .unset] [(.ref b130)])) (st1051) ?_
                refine own_go (T' := T1051) (g' := (mkF m 308 #[iv x0, iv x1, rv b42, rv b61, rv b90, rv b130, rv b182, rv b247, rv b326, iv (4 : Int32), iv w422, iv w449, iv w476, rv b42, rv b130, rv b130] [])) (fun t k => XS.astore X1051.here hx rfl (hb hby at_306) rfl rfl (l' := #[iv x0, iv x1, rv b42, rv b61, rv b90, rv b130, rv b182, rv b247, rv b326, iv (4 : Int32), iv w422, iv w449, iv w476, rv b42, rv b130, rv b130]) rfl k) ?_
                refine own_go (T' := T1051) (g' := (mkF m 310 #[iv x0, iv x1, rv b42, rv b61, rv b90, rv b130, rv b182, rv b247, rv b326, iv (4 : Int32), iv w422, iv w449, iv w476, rv b42, rv b130, rv b130] [(.ref b130)])) (fun t k => XS.aload X1051.here hx rfl (hb hby at_308) rfl rfl k) ?_
                refine own_go (T' := T1051) (g' := (mkF m 312 #[iv x0, iv x1, rv b42, rv b61, rv b90, rv b130, rv b182, rv b247, rv b326, iv (4 : Int32), iv w422, iv w449, iv w476, rv b42, rv b130, rv b130] [(.ref b130), (.ref b130)])) (fun t k => XS.aload X1051.here hx rfl (hb hby at_310) rfl rfl k) ?_
                refine own_go (T' := T1051) (g' := (mkF m 315 #[iv x0, iv x1, rv b42, rv b61, rv b90, rv b130, rv b182, rv b247, rv b326, iv (4 : Int32), iv w422, iv w449, iv w476, rv b42, rv b130, rv b130] [])) (fun t k => Jvm.RoadKit.acmp (g := (mkF m 312 #[iv x0, iv x1, rv b42, rv b61, rv b90, rv b130, rv b182, rv b247, rv b326, iv (4 : Int32), iv w422, iv w449, iv w476, rv b42, rv b130, rv b130] [(.ref b130), (.ref b130)])) X1051 hx rfl (x := (.ref b130)) (y := (.ref b130)) rfl rfl (pc0 := 312) (pc' := 315) (same := true) rfl (hb hby at_312) rfl (decide_eq_true rfl) (by decide) (by decide) k) ?_
                refine own_go (T' := T1051) (g' := (mkF m 316 #[iv x0, iv x1, rv b42, rv b61, rv b90, rv b130, rv b182, rv b247, rv b326, iv (4 : Int32), iv w422, iv w449, iv w476, rv b42, rv b130, rv b130] [(.int (1 : Int32))])) (fun t k => XS.iconst X1051.here hx rfl (hb hby at_315) k) ?_
                refine own_go (T' := T1051) (g' := (mkF m 320 #[iv x0, iv x1, rv b42, rv b61, rv b90, rv b130, rv b182, rv b247, rv b326, iv (4 : Int32), iv w422, iv w449, iv w476, rv b42, rv b130, rv b130] [(.int (1 : Int32))])) (fun t k => XS.goto X1051.here hx rfl (pc0 := 316) (pc' := 320) rfl (hb hby at_316) (by decide) (by decide) k) ?_
                exact own_ret X1051 hlk hx Bd.returns rfl (Or.inl ⟨rfl, Or.inr (Or.inl rfl), _, rfl⟩) (hb hby at_320) (by first | exact ⟨rfl, N1051⟩ | (rw [Fr] at *; exact ⟨rfl, by simpa using N1051⟩)) (by decide) (by decide)
      refine own_go (T' := T448) (g' := (mkF m 154 #[iv x0, iv x1, rv b42, rv b61, rv b90, rv b130, rv b182, rv b247, rv b326, iv ((x0 &&& (2147483647 : Int32)) % (5 : Int32)), iv w422, iv w449, .unset, .unset, .unset, .unset] [(.int x1)])) (fun t k => XS.iloadN X448.here hx rfl (hb hby at_153) rfl k) ?_
      refine own_go (T' := T448) (g' := (mkF m 155 #[iv x0, iv x1, rv b42, rv b61, rv b90, rv b130, rv b182, rv b247, rv b326, iv ((x0 &&& (2147483647 : Int32)) % (5 : Int32)), iv w422, iv w449, .unset, .unset, .unset, .unset] [(.int (4 : Int32)), (.int x1)])) (fun t k => XS.iconst X448.here hx rfl (hb hby at_154) k) ?_
      refine own_go (T' := T448) (g' := (mkF m 156 #[iv x0, iv x1, rv b42, rv b61, rv b90, rv b130, rv b182, rv b247, rv b326, iv ((x0 &&& (2147483647 : Int32)) % (5 : Int32)), iv w422, iv w449, .unset, .unset, .unset, .unset] [(.int (x1 &&& (4 : Int32)))])) (fun t k => XS.iand X448.here hx rfl (hb hby at_155) rfl k) ?_
      by_cases hc1052 : (x1 &&& (4 : Int32)) = (0 : Int32)
      · refine own_go (T' := T448) (g' := (mkF m 163 #[iv x0, iv x1, rv b42, rv b61, rv b90, rv b130, rv b182, rv b247, rv b326, iv ((x0 &&& (2147483647 : Int32)) % (5 : Int32)), iv w422, iv w449, .unset, .unset, .unset, .unset] [])) (fun t k => XS.ifYes X448.here hx rfl (pc0 := 156) (pc' := 163) rfl (hb hby at_156) rfl ((if0 _ _).trans (teq hc1052).1) (by decide) (by decide) k) ?_
        refine own_go (T' := T448) (g' := (mkF m 164 #[iv x0, iv x1, rv b42, rv b61, rv b90, rv b130, rv b182, rv b247, rv b326, iv ((x0 &&& (2147483647 : Int32)) % (5 : Int32)), iv w422, iv w449, .unset, .unset, .unset, .unset] [(.int (0 : Int32))])) (fun t k => XS.iconst X448.here hx rfl (hb hby at_163) k) ?_
        exact jn475 (0 : Int32) _ _ _ X448 e448 N448 (by exact hz448) (j450) (j451) (j452) (j453) (j454) (j455) (j456) (j457) (j458) (j459) (j460) (j461) (j462) (j463) (j464) (j465) (j466) (j467) (j468) (j469) (j470) (j471) (j472) (j473)
      · refine own_go (T' := T448) (g' := (mkF m 159 #[iv x0, iv x1, rv b42, rv b61, rv b90, rv b130, rv b182, rv b247, rv b326, iv ((x0 &&& (2147483647 : Int32)) % (5 : Int32)), iv w422, iv w449, .unset, .unset, .unset, .unset] [])) (fun t k => XS.ifNo X448.here hx rfl (hb hby at_156) rfl ((if0 _ _).trans (feq hc1052).1) k) ?_
        refine own_go (T' := T448) (g' := (mkF m 160 #[iv x0, iv x1, rv b42, rv b61, rv b90, rv b130, rv b182, rv b247, rv b326, iv ((x0 &&& (2147483647 : Int32)) % (5 : Int32)), iv w422, iv w449, .unset, .unset, .unset, .unset] [(.int (1 : Int32))])) (fun t k => XS.iconst X448.here hx rfl (hb hby at_159) k) ?_
        refine own_go (T' := T448) (g' := (mkF m 164 #[iv x0, iv x1, rv b42, rv b61, rv b90, rv b130, rv b182, rv b247, rv b326, iv ((x0 &&& (2147483647 : Int32)) % (5 : Int32)), iv w422, iv w449, .unset, .unset, .unset, .unset] [(.int (1 : Int32))])) (fun t k => XS.goto X448.here hx rfl (pc0 := 160) (pc' := 164) rfl (hb hby at_160) (by decide) (by decide) k) ?_
        exact jn475 (1 : Int32) _ _ _ X448 e448 N448 (by exact hz448) (j450) (j451) (j452) (j453) (j454) (j455) (j456) (j457) (j458) (j459) (j460) (j461) (j462) (j463) (j464) (j465) (j466) (j467) (j468) (j469) (j470) (j471) (j472) (j473)
    refine own_go (T' := T421) (g' := (mkF m 141 #[iv x0, iv x1, rv b42, rv b61, rv b90, rv b130, rv b182, rv b247, rv b326, iv ((x0 &&& (2147483647 : Int32)) % (5 : Int32)), iv w422, .unset, .unset, .unset, .unset, .unset] [(.int x1)])) (fun t k => XS.iloadN X421.here hx rfl (hb hby at_140) rfl k) ?_
    refine own_go (T' := T421) (g' := (mkF m 142 #[iv x0, iv x1, rv b42, rv b61, rv b90, rv b130, rv b182, rv b247, rv b326, iv ((x0 &&& (2147483647 : Int32)) % (5 : Int32)), iv w422, .unset, .unset, .unset, .unset, .unset] [(.int (2 : Int32)), (.int x1)])) (fun t k => XS.iconst X421.here hx rfl (hb hby at_141) k) ?_
    refine own_go (T' := T421) (g' := (mkF m 143 #[iv x0, iv x1, rv b42, rv b61, rv b90, rv b130, rv b182, rv b247, rv b326, iv ((x0 &&& (2147483647 : Int32)) % (5 : Int32)), iv w422, .unset, .unset, .unset, .unset, .unset] [(.int (x1 &&& (2 : Int32)))])) (fun t k => XS.iand X421.here hx rfl (hb hby at_142) rfl k) ?_
    by_cases hc1053 : (x1 &&& (2 : Int32)) = (0 : Int32)
    · refine own_go (T' := T421) (g' := (mkF m 150 #[iv x0, iv x1, rv b42, rv b61, rv b90, rv b130, rv b182, rv b247, rv b326, iv ((x0 &&& (2147483647 : Int32)) % (5 : Int32)), iv w422, .unset, .unset, .unset, .unset, .unset] [])) (fun t k => XS.ifYes X421.here hx rfl (pc0 := 143) (pc' := 150) rfl (hb hby at_143) rfl ((if0 _ _).trans (teq hc1053).1) (by decide) (by decide) k) ?_
      refine own_go (T' := T421) (g' := (mkF m 151 #[iv x0, iv x1, rv b42, rv b61, rv b90, rv b130, rv b182, rv b247, rv b326, iv ((x0 &&& (2147483647 : Int32)) % (5 : Int32)), iv w422, .unset, .unset, .unset, .unset, .unset] [(.int (0 : Int32))])) (fun t k => XS.iconst X421.here hx rfl (hb hby at_150) k) ?_
      exact jn448 (0 : Int32) _ _ _ X421 e421 N421 (by exact hz421) (j423) (j424) (j425) (j426) (j427) (j428) (j429) (j430) (j431) (j432) (j433) (j434) (j435) (j436) (j437) (j438) (j439) (j440) (j441) (j442) (j443) (j444) (j445) (j446)
    · refine own_go (T' := T421) (g' := (mkF m 146 #[iv x0, iv x1, rv b42, rv b61, rv b90, rv b130, rv b182, rv b247, rv b326, iv ((x0 &&& (2147483647 : Int32)) % (5 : Int32)), iv w422, .unset, .unset, .unset, .unset, .unset] [])) (fun t k => XS.ifNo X421.here hx rfl (hb hby at_143) rfl ((if0 _ _).trans (feq hc1053).1) k) ?_
      refine own_go (T' := T421) (g' := (mkF m 147 #[iv x0, iv x1, rv b42, rv b61, rv b90, rv b130, rv b182, rv b247, rv b326, iv ((x0 &&& (2147483647 : Int32)) % (5 : Int32)), iv w422, .unset, .unset, .unset, .unset, .unset] [(.int (1 : Int32))])) (fun t k => XS.iconst X421.here hx rfl (hb hby at_146) k) ?_
      refine own_go (T' := T421) (g' := (mkF m 151 #[iv x0, iv x1, rv b42, rv b61, rv b90, rv b130, rv b182, rv b247, rv b326, iv ((x0 &&& (2147483647 : Int32)) % (5 : Int32)), iv w422, .unset, .unset, .unset, .unset, .unset] [(.int (1 : Int32))])) (fun t k => XS.goto X421.here hx rfl (pc0 := 147) (pc' := 151) rfl (hb hby at_147) (by decide) (by decide) k) ?_
      exact jn448 (1 : Int32) _ _ _ X421 e421 N421 (by exact hz421) (j423) (j424) (j425) (j426) (j427) (j428) (j429) (j430) (j431) (j432) (j433) (j434) (j435) (j436) (j437) (j438) (j439) (j440) (j441) (j442) (j443) (j444) (j445) (j446)
  refine own_go (T' := T357) (g' := (mkF m 128 #[iv x0, iv x1, rv b42, rv b61, rv b90, rv b130, rv b182, rv b247, rv b326, iv ((x0 &&& (2147483647 : Int32)) % (5 : Int32)), .unset, .unset, .unset, .unset, .unset, .unset] [(.int x1)])) (fun t k => XS.iloadN X357.here hx rfl (hb hby at_127) rfl k) ?_
  refine own_go (T' := T357) (g' := (mkF m 129 #[iv x0, iv x1, rv b42, rv b61, rv b90, rv b130, rv b182, rv b247, rv b326, iv ((x0 &&& (2147483647 : Int32)) % (5 : Int32)), .unset, .unset, .unset, .unset, .unset, .unset] [(.int (1 : Int32)), (.int x1)])) (fun t k => XS.iconst X357.here hx rfl (hb hby at_128) k) ?_
  refine own_go (T' := T357) (g' := (mkF m 130 #[iv x0, iv x1, rv b42, rv b61, rv b90, rv b130, rv b182, rv b247, rv b326, iv ((x0 &&& (2147483647 : Int32)) % (5 : Int32)), .unset, .unset, .unset, .unset, .unset, .unset] [(.int (x1 &&& (1 : Int32)))])) (fun t k => XS.iand X357.here hx rfl (hb hby at_129) rfl k) ?_
  by_cases hc1054 : (x1 &&& (1 : Int32)) = (0 : Int32)
  · refine own_go (T' := T357) (g' := (mkF m 137 #[iv x0, iv x1, rv b42, rv b61, rv b90, rv b130, rv b182, rv b247, rv b326, iv ((x0 &&& (2147483647 : Int32)) % (5 : Int32)), .unset, .unset, .unset, .unset, .unset, .unset] [])) (fun t k => XS.ifYes X357.here hx rfl (pc0 := 130) (pc' := 137) rfl (hb hby at_130) rfl ((if0 _ _).trans (teq hc1054).1) (by decide) (by decide) k) ?_
    refine own_go (T' := T357) (g' := (mkF m 138 #[iv x0, iv x1, rv b42, rv b61, rv b90, rv b130, rv b182, rv b247, rv b326, iv ((x0 &&& (2147483647 : Int32)) % (5 : Int32)), .unset, .unset, .unset, .unset, .unset, .unset] [(.int (0 : Int32))])) (fun t k => XS.iconst X357.here hx rfl (hb hby at_137) k) ?_
    exact jn421 (0 : Int32) _ _ _ X357 rfl N357 hz357 (c358) (c359) (c360) (c363) (c364) (c365) (c369) (c370) (c371) (c376) (c377) (c378) (c384) (c385) (c386) (c393) (c394) (c395) (c403) (c404) (c405) (e_357) (l_357) (r_357)
  · refine own_go (T' := T357) (g' := (mkF m 133 #[iv x0, iv x1, rv b42, rv b61, rv b90, rv b130, rv b182, rv b247, rv b326, iv ((x0 &&& (2147483647 : Int32)) % (5 : Int32)), .unset, .unset, .unset, .unset, .unset, .unset] [])) (fun t k => XS.ifNo X357.here hx rfl (hb hby at_130) rfl ((if0 _ _).trans (feq hc1054).1) k) ?_
    refine own_go (T' := T357) (g' := (mkF m 134 #[iv x0, iv x1, rv b42, rv b61, rv b90, rv b130, rv b182, rv b247, rv b326, iv ((x0 &&& (2147483647 : Int32)) % (5 : Int32)), .unset, .unset, .unset, .unset, .unset, .unset] [(.int (1 : Int32))])) (fun t k => XS.iconst X357.here hx rfl (hb hby at_133) k) ?_
    refine own_go (T' := T357) (g' := (mkF m 138 #[iv x0, iv x1, rv b42, rv b61, rv b90, rv b130, rv b182, rv b247, rv b326, iv ((x0 &&& (2147483647 : Int32)) % (5 : Int32)), .unset, .unset, .unset, .unset, .unset, .unset] [(.int (1 : Int32))])) (fun t k => XS.goto X357.here hx rfl (pc0 := 134) (pc' := 138) rfl (hb hby at_134) (by decide) (by decide) k) ?_
    exact jn421 (1 : Int32) _ _ _ X357 rfl N357 hz357 (c358) (c359) (c360) (c363) (c364) (c365) (c369) (c370) (c371) (c376) (c377) (c378) (c384) (c385) (c386) (c393) (c394) (c395) (c403) (c404) (c405) (e_357) (l_357) (r_357)

set_option maxRecDepth 65536 in
set_option maxHeartbeats 40000000 in
theorem own_comes {Post : Tables → Env → Array Value → State → Outcome → State → Prop} (hpost : ∀ tb e args s v u, (limb_1_1.after args s (.returned v) u = true ∧ limb_1_2.after args s (.returned v) u = true ∧ True) → FrameEnd s (.returned v) u (Jvm.fieldLocs frame_1_writes args s ++ Jvm.arrayLocs frame_1_arrays args s ++ Jvm.staticLocs frame_1_statics s) 24 192 → Post tb e args s (.returned v) u) :
    ArmFor flags0 classFile x code maxLocals ret World_1 tables_1 room_1 Calls_1 rest_1 Pre_1 Post := by
  intro l hfl _ _ p e ha hc hk s m args below hf hA hF happ hP
  obtain ⟨hcalls, hrest, hpre⟩ := hP
  obtain ⟨-, -, -, hnamed, -, -, -, hat⟩ := (Spec.applies_iff hf).mp happ
  obtain ⟨hg, hn⟩ := and_e (Cond.before_iff.mp (show (Jvm.Cond.and given_1 narrow_1).before args s = true from hpre))
  obtain ⟨hg0, hg1⟩ := and_e hg
  obtain ⟨ha0, hr0⟩ := and_e hg1
  obtain ⟨w0, w1, rfl⟩ : ∃ w0 w1 : Value, args = #[w0, w1] := by
    have hs : args.size = 2 := by simpa [Cond.value, given_1] using hg0
    obtain ⟨L⟩ := args
    match L, hs with
    | [w0, w1], _ => exact ⟨w0, w1, rfl⟩
  have hw := fun d (hd : d ∈ tables_1) => atoms_spec (ws := Jvm.Cond.code x code maxLocals ret :: tables_1) hat d (List.mem_cons_of_mem _ hd)
  obtain ⟨hsets, hown0⟩ := atoms_of _ (rest_1_c_eq ▸ (show rest_1_c.before _ s = true from hrest))
  have hown1 := Cond.before_iff.mp hown0
  have hfit : Fit s := fun {y c} hc i hi => by
    obtain ⟨ha, rfl⟩ := Array.getElem?_eq_some_iff.mp hc
    have q := List.all_eq_true.mp ((Array.all_eq_true_iff_forall_mem.mp hF) _ (Array.getElem_mem ha)) i (List.mem_range.mpr hi)
    simpa [Array.getElem?_eq_getElem hi] using q
  obtain ⟨x0, ex0⟩ := is_v ha0
  obtain rfl : w0 = (.int x0) := Option.some.inj ex0
  obtain ⟨x1, ex1⟩ := is_v hr0
  obtain rfl : w1 = (.int x1) := Option.some.inj ex1
  have vh := own_sti (Cond.before_iff.mp (hsets _ (List.mem_of_getElem? (i := 3) rfl)))
  have S_high : Sta s s.heap "java/lang/Integer$IntegerCache" "high" "I" (.int 127) := Sta.start vh (Or.inl (hsets _ (List.mem_of_getElem? (i := 1) rfl)))
  obtain ⟨aC, vc⟩ := arr_v (Cond.before_iff.mp (hsets _ (List.mem_of_getElem? (i := 4) rfl)))
  obtain ⟨cC, A_c⟩ := Arr.start vc (Cond.before_iff.mp (hsets _ (List.mem_of_getElem? (i := 4) rfl)))
  have S_cache : Sta s s.heap "java/lang/Integer$IntegerCache" "cache" "[Ljava/lang/Integer;" (.ref aC) := Sta.start vc (Or.inr ⟨(hw _ (List.mem_of_getElem? (i := 8) rfl)), hsets _ (List.mem_of_getElem? (i := 2) rfl)⟩)
  obtain ⟨lz, ll⟩ := own_lenI vc A_c (Cond.before_iff.mp (hsets _ (List.mem_of_getElem? (i := 6) rfl)))
  have l256 : cC.slots.size = 256 := by have q := congrArg Int32.toNatClampNeg ll; rw [show cC.slots.size.toInt32.toNatClampNeg = cC.slots.size from clamp_of rfl lz] at q; exact q
  have C_cache := own_cache_start vc A_c l256 (Cond.before_iff.mp (hsets _ (List.mem_of_getElem? (i := 7) rfl)))
  obtain ⟨n, o, h1, h2, h3, _, L, rfl, ⟨rfl, N⟩, hq⟩ := own_law l s _ hw tables_1 x0 x1 aC s.heap s.heap.size (Nat.le_refl _) S_high S_cache C_cache p e ha hc hk s m _ below hf ((Spec.applies_iff_loose hf).mp happ).1 ⟨rfl, State.Warmed39.refl s, rfl⟩ trivial
  refine ⟨n, _, h1, h2, h3, hpost _ _ _ _ _ _ ⟨Cond.after_iff.mpr rfl, Cond.after_iff.mpr (eq_i res_at (Term.int_eval (1)) rfl), trivial⟩ ⟨hq.1, hq.2.1, (hq.2.2.sift fun y hy => Or.inr (N y hy)).mono (by decide) (by decide)⟩⟩
theorem main_1_1 : Claimed_1_1 := own_comes fun _ _ _ _ _ _ h hF => ⟨h.1, hF⟩
theorem main_1_2 : Claimed_1_2 := own_comes fun _ _ _ _ _ _ h hF => ⟨h.2.1, hF⟩
end Jvm.Pilot.@@N@@
namespace Jvm.Pilot.@@N@@
open Jvm Jvm.ClassFile Sem Op Lib Jvm.Free Jvm.Stand Jvm.Pilot.@@N@@.Jvm.D
/-! MADE BY PROGRAM (witnessworld.py) out of the Statement's table words and the real class files: 17 classes; the members and pool entries that the words name. The judged class is class 1, her method 1. -/
namespace start1
open Jvm.ClassFile
def u (s : String) : CpInfo := .utf8 (stringToUtf16 s)
/-- a pool by its gaps: so many unusable entries, then the entry; so many at the end -/
def gap : Nat → List CpInfo → List CpInfo
  | 0, r => r
  | n + 1, r => .unusable :: gap n r
def poolList (es : List (Nat × CpInfo)) (last : Nat) : List CpInfo := es.foldr (fun e r => gap e.1 (e.2 :: r)) (gap last [])
def pool (es : List (Nat × CpInfo)) (last : Nat) : Array CpInfo := ⟨poolList es last⟩
def fileOf (pool : Array CpInfo) (this : Nat) (attrs : Array Attribute := #[]) (ms : Array MethodInfo := #[]) (fl : Nat := 33) (sup : Nat := 0) (ifs : Array Nat := #[]) (fds : Array FieldInfo := #[]) : ClassFile where
  minorVersion := 0
  majorVersion := 65
  constantPool := pool
  accessFlags := fl
  thisClass := this
  superClass := sup
  interfaces := ifs
  fields := fds
  methods := ms
  attributes := attrs
def plain (name : String) (sup : Option ClassId) : Class where
  name := name
  kind := .ordinary
  loader := none
  accessFlags := 33
  super := sup
  interfaces := #[]
  cf := none
  fields := #[]
  methods := #[]
  instanceTypes := #[]
  staticTypes := #[]
  resolved := #[]
  callSites := []
  init := .initialized
  statics := none
  mirror := none

def pool0 : Array CpInfo := pool [(5, u "<init>"), (0, u "()V"), (1, .class_ 10), (1, u "java/lang/Object")] 113

def k0c0 : Code := { maxStack := 0, maxLocals := 1, code := object_method_1_code, exceptionTable := #[], attributes := #[] }
def k0m0 : Method := { name := "<init>", desc := "()V", sig := { parameters := [], returnType := none }, accessFlags := 1, code := some k0c0 }
/-- java/lang/Object -/
def k0 : Class := { plain "java/lang/Object" none with
  accessFlags := 33
  interfaces := #[]
  cf := some (fileOf pool0 8 #[] #[{ accessFlags := 1, nameIndex := 5, descriptorIndex := 6, attributes := #[] }] 33 0 #[] #[])
  fields := #[]
  methods := #[k0m0]
  instanceTypes := #[]
  staticTypes := #[]
  resolved := Array.replicate 124 none
  statics := none }

def pool1 : Array CpInfo := pool [(2, .class_ 4), (1, u "java/lang/Object"), (0, u "<init>"), (0, u "()V"), (0, .class_ 8), (0, u "com/example/treeline/treeline/Node"), (0, .methodref 10 11), (0, .class_ 12), (0, .nameAndType 13 14), (0, u "java/lang/Integer"), (0, u "valueOf"), (0, u "(I)Ljava/lang/Integer;"), (0, .methodref 7 16), (0, .nameAndType 5 17), (0, u "(Ljava/lang/Object;Ljava/lang/Object;)V"), (0, .integer 2147483647), (0, .fieldref 7 20), (0, .nameAndType 21 22), (0, u "right"), (0, u "Lcom/example/treeline/treeline/Node;"), (0, .fieldref 7 24), (0, .nameAndType 25 22), (0, u "left"), (0, .methodref 7 27), (0, .nameAndType 28 29), (0, u "highest"), (0, u "(Lcom/example/treeline/treeline/Node;)Lcom/example/treeline/treeline/Node;"), (0, .class_ 31), (0, u "com/example/treeline/treeline/NodeHighestPinLaw"), (2, u "law"), (0, u "(II)Z")] 3

def k1m0 : Method := { name := "<init>", desc := "()V", sig := { parameters := [], returnType := none }, accessFlags := 1, code := none }
def k1c1 : Code := { maxStack := 4, maxLocals := 16, code := code, exceptionTable := #[], attributes := #[] }
def k1m1 : Method := { name := "law", desc := "(II)Z", sig := { parameters := [.int, .int], returnType := some .boolean }, accessFlags := 9, code := some k1c1 }
/-- com/example/treeline/treeline/NodeHighestPinLaw -/
def k1 : Class := { plain "com/example/treeline/treeline/NodeHighestPinLaw" (some 0) with
  accessFlags := 49
  interfaces := #[]
  cf := some (fileOf pool1 30 #[] #[{ accessFlags := 1, nameIndex := 5, descriptorIndex := 6, attributes := #[] }, { accessFlags := 9, nameIndex := 34, descriptorIndex := 35, attributes := #[] }] 49 2 #[] #[])
  fields := #[]
  methods := #[k1m0, k1m1]
  instanceTypes := #[]
  staticTypes := #[]
  resolved := Array.replicate 39 none
  statics := none }

def pool2 : Array CpInfo := pool [(23, .class_ 25), (1, u "java/util/Map$Entry"), (6, .class_ 34), (1, u "java/util/Map"), (34, .class_ 70), (0, u "java/lang/Object")] 107

/-- java/util/Map$Entry -/
def k2 : Class := { plain "java/util/Map$Entry" (some 0) with
  accessFlags := 1537
  interfaces := #[]
  cf := some (fileOf pool2 23 #[.nestHost 32] #[] 1537 69 #[] #[])
  fields := #[]
  methods := #[]
  instanceTypes := #[]
  staticTypes := #[]
  resolved := Array.replicate 178 none
  statics := none }

def pool3 : Array CpInfo := pool [(3, .methodref 4 5), (0, .class_ 6), (0, .nameAndType 7 8), (0, u "java/lang/Object"), (0, u "<init>"), (0, u "()V"), (0, .class_ 10), (0, u "com/example/treeline/treeline/Node"), (0, .integer 2147483649), (0, .fieldref 9 13), (0, .nameAndType 14 15), (0, u "sizeAndParity"), (0, u "I"), (0, .fieldref 9 17), (0, .nameAndType 18 19), (0, u "key"), (0, u "Ljava/lang/Object;"), (0, .fieldref 9 21), (0, .nameAndType 22 19), (0, u "value"), (10, u "left"), (0, u "Lcom/example/treeline/treeline/Node;"), (0, .fieldref 9 36), (0, .nameAndType 37 34), (0, u "right"), (2, u "(Ljava/lang/Object;Ljava/lang/Object;)V"), (4, .class_ 46), (0, u "java/util/Map$Entry"), (149, u "LONGEST_PATHS"), (0, u "[I"), (4, u "ODD_HEIGHT"), (36, u "(Lcom/example/treeline/treeline/Node;)Lcom/example/treeline/treeline/Node;"), (1, u "highest")] 57

def k3c0 : Code := { maxStack := 2, maxLocals := 3, code := prog_5_method_1_code, exceptionTable := #[], attributes := #[] }
def k3m0 : Method := { name := "<init>", desc := "(Ljava/lang/Object;Ljava/lang/Object;)V", sig := { parameters := [(.object "java/lang/Object"), (.object "java/lang/Object")], returnType := none }, accessFlags := 0, code := some k3c0 }
def k3c1 : Code := { maxStack := 1, maxLocals := 2, code := prog_5_method_20_code, exceptionTable := #[], attributes := #[] }
def k3m1 : Method := { name := "highest", desc := "(Lcom/example/treeline/treeline/Node;)Lcom/example/treeline/treeline/Node;", sig := { parameters := [(.object "com/example/treeline/treeline/Node")], returnType := some (.object "com/example/treeline/treeline/Node") }, accessFlags := 8, code := some k3c1 }
/-- com/example/treeline/treeline/Node -/
def k3 : Class := { plain "com/example/treeline/treeline/Node" (some 0) with
  accessFlags := 48
  interfaces := #[2]
  cf := some (fileOf pool3 9 #[] #[{ accessFlags := 0, nameIndex := 7, descriptorIndex := 40, attributes := #[] }, { accessFlags := 8, nameIndex := 241, descriptorIndex := 239, attributes := #[] }] 48 4 #[45] #[{ accessFlags := 26, nameIndex := 202, descriptorIndex := 15, attributes := #[] }, { accessFlags := 26, nameIndex := 196, descriptorIndex := 197, attributes := #[] }, { accessFlags := 16, nameIndex := 18, descriptorIndex := 19, attributes := #[] }, { accessFlags := 0, nameIndex := 22, descriptorIndex := 19, attributes := #[] }, { accessFlags := 0, nameIndex := 33, descriptorIndex := 34, attributes := #[] }, { accessFlags := 0, nameIndex := 37, descriptorIndex := 34, attributes := #[] }, { accessFlags := 2, nameIndex := 14, descriptorIndex := 15, attributes := #[] }])
  fields := #[{ name := "ODD_HEIGHT", type := .int, accessFlags := 26, slot := 0, constantValue := 0 }, { name := "LONGEST_PATHS", type := (.array .int), accessFlags := 26, slot := 1, constantValue := 0 }, { name := "key", type := (.object "java/lang/Object"), accessFlags := 16, slot := 0, constantValue := 0 }, { name := "value", type := (.object "java/lang/Object"), accessFlags := 0, slot := 1, constantValue := 0 }, { name := "left", type := (.object "com/example/treeline/treeline/Node"), accessFlags := 0, slot := 2, constantValue := 0 }, { name := "right", type := (.object "com/example/treeline/treeline/Node"), accessFlags := 0, slot := 3, constantValue := 0 }, { name := "sizeAndParity", type := .int, accessFlags := 2, slot := 4, constantValue := 0 }]
  methods := #[k3m0, k3m1]
  instanceTypes := #[(.object "java/lang/Object"), (.object "java/lang/Object"), (.object "com/example/treeline/treeline/Node"), (.object "com/example/treeline/treeline/Node"), .int]
  staticTypes := #[.int, (.array .int)]
  resolved := Array.replicate 299 none
  statics := none }

def pool4 : Array CpInfo := pool [(1, .class_ 2), (0, u "java/io/Serializable"), (0, .class_ 4), (0, u "java/lang/Object")] 2

/-- java/io/Serializable -/
def k4 : Class := { plain "java/io/Serializable" (some 0) with
  accessFlags := 1537
  interfaces := #[]
  cf := some (fileOf pool4 1 #[] #[] 1537 3 #[] #[])
  fields := #[]
  methods := #[]
  instanceTypes := #[]
  staticTypes := #[]
  resolved := Array.replicate 7 none
  statics := none }

def pool5 : Array CpInfo := pool [(2, .class_ 4), (1, u "java/lang/Object"), (0, u "<init>"), (0, u "()V"), (1, .class_ 10), (1, u "java/lang/Number"), (2, .class_ 14), (0, u "java/io/Serializable"), (0, u "serialVersionUID"), (0, u "J")] 20

def k5m0 : Method := { name := "<init>", desc := "()V", sig := { parameters := [], returnType := none }, accessFlags := 1, code := none }
/-- java/lang/Number -/
def k5 : Class := { plain "java/lang/Number" (some 0) with
  accessFlags := 1057
  interfaces := #[4]
  cf := some (fileOf pool5 8 #[] #[{ accessFlags := 1, nameIndex := 5, descriptorIndex := 6, attributes := #[] }] 1057 2 #[13] #[{ accessFlags := 26, nameIndex := 15, descriptorIndex := 16, attributes := #[] }])
  fields := #[{ name := "serialVersionUID", type := .long, accessFlags := 26, slot := 0, constantValue := 0 }]
  methods := #[k5m0]
  instanceTypes := #[]
  staticTypes := #[.long]
  resolved := Array.replicate 37 none
  statics := none }

def pool6 : Array CpInfo := pool [(1, .class_ 2), (0, u "java/lang/Comparable"), (0, .class_ 4), (0, u "java/lang/Object")] 7

/-- java/lang/Comparable -/
def k6 : Class := { plain "java/lang/Comparable" (some 0) with
  accessFlags := 1537
  interfaces := #[]
  cf := some (fileOf pool6 1 #[] #[] 1537 3 #[] #[])
  fields := #[]
  methods := #[]
  instanceTypes := #[]
  staticTypes := #[]
  resolved := Array.replicate 12 none
  statics := none }

def pool7 : Array CpInfo := pool [(1, .class_ 2), (0, u "java/lang/constant/Constable"), (0, .class_ 4), (0, u "java/lang/Object")] 6

/-- java/lang/constant/Constable -/
def k7 : Class := { plain "java/lang/constant/Constable" (some 0) with
  accessFlags := 1537
  interfaces := #[]
  cf := some (fileOf pool7 1 #[] #[] 1537 3 #[] #[])
  fields := #[]
  methods := #[]
  instanceTypes := #[]
  staticTypes := #[]
  resolved := Array.replicate 11 none
  statics := none }

def pool8 : Array CpInfo := pool [(1, .class_ 2), (0, u "java/lang/constant/ConstantDesc"), (0, .class_ 4), (0, u "java/lang/Object")] 32

/-- java/lang/constant/ConstantDesc -/
def k8 : Class := { plain "java/lang/constant/ConstantDesc" (some 0) with
  accessFlags := 1537
  interfaces := #[]
  cf := some (fileOf pool8 1 #[] #[] 1537 3 #[] #[])
  fields := #[]
  methods := #[]
  instanceTypes := #[]
  staticTypes := #[]
  resolved := Array.replicate 37 none
  statics := none }

def pool9 : Array CpInfo := pool [(1, .class_ 2), (0, u "java/lang/Integer"), (16, u "digits"), (0, u "[C"), (64, u "DigitOnes"), (0, u "[B"), (2, u "DigitTens"), (97, u "valueOf"), (0, u "(I)Ljava/lang/Integer;"), (0, .class_ 190), (0, u "java/lang/Integer$IntegerCache"), (0, .fieldref 189 192), (0, .nameAndType 193 194), (0, u "high"), (0, u "I"), (0, .fieldref 189 196), (0, .nameAndType 197 198), (0, u "cache"), (0, u "[Ljava/lang/Integer;"), (4, .class_ 204), (0, u "java/lang/Number"), (2, u "value"), (94, u "TYPE"), (0, u "Ljava/lang/Class;"), (0, .class_ 305), (0, u "java/lang/Comparable"), (0, .class_ 307), (0, u "java/lang/constant/Constable"), (0, .class_ 309), (0, u "java/lang/constant/ConstantDesc"), (0, u "MIN_VALUE"), (1, u "MAX_VALUE"), (3, u "SIZE"), (1, u "BYTES"), (1, u "serialVersionUID"), (0, u "J")] 131

def k9c0 : Code := { maxStack := 3, maxLocals := 1, code := jdk_33_method_22_code, exceptionTable := #[], attributes := #[] }
def k9m0 : Method := { name := "valueOf", desc := "(I)Ljava/lang/Integer;", sig := { parameters := [.int], returnType := some (.object "java/lang/Integer") }, accessFlags := 9, code := some k9c0 }
/-- java/lang/Integer -/
def k9 : Class := { plain "java/lang/Integer" (some 5) with
  accessFlags := 49
  interfaces := #[6, 7, 8]
  cf := some (fileOf pool9 1 #[.nestMembers #[189]] #[{ accessFlags := 9, nameIndex := 187, descriptorIndex := 188, attributes := #[] }] 49 203 #[304, 306, 308] #[{ accessFlags := 25, nameIndex := 310, descriptorIndex := 194, attributes := #[] }, { accessFlags := 25, nameIndex := 312, descriptorIndex := 194, attributes := #[] }, { accessFlags := 25, nameIndex := 302, descriptorIndex := 303, attributes := #[] }, { accessFlags := 24, nameIndex := 19, descriptorIndex := 20, attributes := #[] }, { accessFlags := 24, nameIndex := 89, descriptorIndex := 86, attributes := #[] }, { accessFlags := 24, nameIndex := 85, descriptorIndex := 86, attributes := #[] }, { accessFlags := 18, nameIndex := 207, descriptorIndex := 194, attributes := #[] }, { accessFlags := 25, nameIndex := 316, descriptorIndex := 194, attributes := #[] }, { accessFlags := 25, nameIndex := 318, descriptorIndex := 194, attributes := #[] }, { accessFlags := 26, nameIndex := 320, descriptorIndex := 321, attributes := #[] }])
  fields := #[{ name := "MIN_VALUE", type := .int, accessFlags := 25, slot := 0, constantValue := 0 }, { name := "MAX_VALUE", type := .int, accessFlags := 25, slot := 1, constantValue := 0 }, { name := "TYPE", type := (.object "java/lang/Class"), accessFlags := 25, slot := 2, constantValue := 0 }, { name := "digits", type := (.array .char), accessFlags := 24, slot := 3, constantValue := 0 }, { name := "DigitTens", type := (.array .byte), accessFlags := 24, slot := 4, constantValue := 0 }, { name := "DigitOnes", type := (.array .byte), accessFlags := 24, slot := 5, constantValue := 0 }, { name := "value", type := .int, accessFlags := 18, slot := 0, constantValue := 0 }, { name := "SIZE", type := .int, accessFlags := 25, slot := 6, constantValue := 0 }, { name := "BYTES", type := .int, accessFlags := 25, slot := 7, constantValue := 0 }, { name := "serialVersionUID", type := .long, accessFlags := 26, slot := 8, constantValue := 0 }]
  methods := #[k9m0]
  instanceTypes := #[.int]
  staticTypes := #[.int, .int, (.object "java/lang/Class"), (.array .char), (.array .byte), (.array .byte), .int, .int, .long]
  resolved := Array.replicate 453 none
  statics := none }

def pool10 : Array CpInfo := pool [(2, .class_ 4), (1, u "java/lang/Object"), (0, u "<init>"), (0, u "()V"), (0, .class_ 8), (0, u "java/lang/Integer"), (7, .class_ 18), (1, u "java/lang/Integer$IntegerCache"), (0, u "$assertionsDisabled"), (0, u "Z"), (26, u "high"), (0, u "I"), (8, u "archivedCache"), (0, u "[Ljava/lang/Integer;"), (12, u "cache"), (0, u "low")] 27

def k10m0 : Method := { name := "<init>", desc := "()V", sig := { parameters := [], returnType := none }, accessFlags := 2, code := none }
/-- java/lang/Integer$IntegerCache -/
def k10 : Class := { plain "java/lang/Integer$IntegerCache" (some 0) with
  accessFlags := 48
  interfaces := #[]
  cf := some (fileOf pool10 16 #[.nestHost 7] #[{ accessFlags := 2, nameIndex := 5, descriptorIndex := 6, attributes := #[] }] 48 2 #[] #[{ accessFlags := 24, nameIndex := 72, descriptorIndex := 48, attributes := #[] }, { accessFlags := 24, nameIndex := 47, descriptorIndex := 48, attributes := #[] }, { accessFlags := 24, nameIndex := 71, descriptorIndex := 58, attributes := #[] }, { accessFlags := 8, nameIndex := 57, descriptorIndex := 58, attributes := #[] }, { accessFlags := 4120, nameIndex := 19, descriptorIndex := 20, attributes := #[] }])
  fields := #[{ name := "low", type := .int, accessFlags := 24, slot := 0, constantValue := 0 }, { name := "high", type := .int, accessFlags := 24, slot := 1, constantValue := 0 }, { name := "cache", type := (.array (.object "java/lang/Integer")), accessFlags := 24, slot := 2, constantValue := 0 }, { name := "archivedCache", type := (.array (.object "java/lang/Integer")), accessFlags := 8, slot := 3, constantValue := 0 }, { name := "$assertionsDisabled", type := .boolean, accessFlags := 4120, slot := 4, constantValue := 0 }]
  methods := #[k10m0]
  instanceTypes := #[]
  staticTypes := #[.int, .int, (.array (.object "java/lang/Integer")), (.array (.object "java/lang/Integer")), .boolean]
  resolved := Array.replicate 100 none
  statics := some 0 }

def pool11 : Array CpInfo := pool [(1, u "java/lang/Cloneable"), (0, .class_ 1), (0, u "java/lang/Object"), (0, .class_ 3)] 3

/-- java/lang/Cloneable -/
def k11 : Class := { plain "java/lang/Cloneable" (some 0) with
  accessFlags := 1537
  interfaces := #[]
  cf := some (fileOf pool11 2 #[] #[] 1537 4 #[] #[])
  fields := #[]
  methods := #[]
  instanceTypes := #[]
  staticTypes := #[]
  resolved := Array.replicate 8 none
  statics := none }

/-- the primitive byte -/
def k12 : Class := { plain "byte" none with kind := .primitive 'B', accessFlags := 0x411 }
/-- [B -/
def k13 : Class := { plain "[B" (some 0) with kind := .array 12 .byte, interfaces := #[11, 4], accessFlags := 1041 }

/-- the primitive int -/
def k14 : Class := { plain "int" none with kind := .primitive 'I', accessFlags := 0x411 }
/-- [I -/
def k15 : Class := { plain "[I" (some 0) with kind := .array 14 .int, interfaces := #[11, 4], accessFlags := 1041 }

/-- [Ljava/lang/Integer; -/
def k16 : Class := { plain "[Ljava/lang/Integer;" (some 0) with kind := .array 9 (.object "java/lang/Integer"), interfaces := #[11, 4], accessFlags := 1041 }

def heap : Heap := #[{ cls := 10, slots := #[.int 0, .int 127, .ref 1, .null, .int 0], vm := .statics 10 },
  { cls := 16, slots := #[.ref 2, .ref 3, .ref 4, .ref 5, .ref 6, .ref 7, .ref 8, .ref 9, .ref 10, .ref 11, .ref 12, .ref 13, .ref 14, .ref 15, .ref 16, .ref 17, .ref 18, .ref 19, .ref 20, .ref 21, .ref 22, .ref 23, .ref 24, .ref 25, .ref 26, .ref 27, .ref 28, .ref 29, .ref 30, .ref 31, .ref 32, .ref 33, .ref 34, .ref 35, .ref 36, .ref 37, .ref 38, .ref 39, .ref 40, .ref 41, .ref 42, .ref 43, .ref 44, .ref 45, .ref 46, .ref 47, .ref 48, .ref 49, .ref 50, .ref 51, .ref 52, .ref 53, .ref 54, .ref 55, .ref 56, .ref 57, .ref 58, .ref 59, .ref 60, .ref 61, .ref 62, .ref 63, .ref 64, .ref 65, .ref 66, .ref 67, .ref 68, .ref 69, .ref 70, .ref 71, .ref 72, .ref 73, .ref 74, .ref 75, .ref 76, .ref 77, .ref 78, .ref 79, .ref 80, .ref 81, .ref 82, .ref 83, .ref 84, .ref 85, .ref 86, .ref 87, .ref 88, .ref 89, .ref 90, .ref 91, .ref 92, .ref 93, .ref 94, .ref 95, .ref 96, .ref 97, .ref 98, .ref 99, .ref 100, .ref 101, .ref 102, .ref 103, .ref 104, .ref 105, .ref 106, .ref 107, .ref 108, .ref 109, .ref 110, .ref 111, .ref 112, .ref 113, .ref 114, .ref 115, .ref 116, .ref 117, .ref 118, .ref 119, .ref 120, .ref 121, .ref 122, .ref 123, .ref 124, .ref 125, .ref 126, .ref 127, .ref 128, .ref 129, .ref 130, .ref 131, .ref 132, .ref 133, .ref 134, .ref 135, .ref 136, .ref 137, .ref 138, .ref 139, .ref 140, .ref 141, .ref 142, .ref 143, .ref 144, .ref 145, .ref 146, .ref 147, .ref 148, .ref 149, .ref 150, .ref 151, .ref 152, .ref 153, .ref 154, .ref 155, .ref 156, .ref 157, .ref 158, .ref 159, .ref 160, .ref 161, .ref 162, .ref 163, .ref 164, .ref 165, .ref 166, .ref 167, .ref 168, .ref 169, .ref 170, .ref 171, .ref 172, .ref 173, .ref 174, .ref 175, .ref 176, .ref 177, .ref 178, .ref 179, .ref 180, .ref 181, .ref 182, .ref 183, .ref 184, .ref 185, .ref 186, .ref 187, .ref 188, .ref 189, .ref 190, .ref 191, .ref 192, .ref 193, .ref 194, .ref 195, .ref 196, .ref 197, .ref 198, .ref 199, .ref 200, .ref 201, .ref 202, .ref 203, .ref 204, .ref 205, .ref 206, .ref 207, .ref 208, .ref 209, .ref 210, .ref 211, .ref 212, .ref 213, .ref 214, .ref 215, .ref 216, .ref 217, .ref 218, .ref 219, .ref 220, .ref 221, .ref 222, .ref 223, .ref 224, .ref 225, .ref 226, .ref 227, .ref 228, .ref 229, .ref 230, .ref 231, .ref 232, .ref 233, .ref 234, .ref 235, .ref 236, .ref 237, .ref 238, .ref 239, .ref 240, .ref 241, .ref 242, .ref 243, .ref 244, .ref 245, .ref 246, .ref 247, .ref 248, .ref 249, .ref 250, .ref 251, .ref 252, .ref 253, .ref 254, .ref 255, .ref 256, .ref 257], vm := .none },
  { cls := 9, slots := #[.int (-128)], vm := .none },
  { cls := 9, slots := #[.int (-127)], vm := .none },
  { cls := 9, slots := #[.int (-126)], vm := .none },
  { cls := 9, slots := #[.int (-125)], vm := .none },
  { cls := 9, slots := #[.int (-124)], vm := .none },
  { cls := 9, slots := #[.int (-123)], vm := .none },
  { cls := 9, slots := #[.int (-122)], vm := .none },
  { cls := 9, slots := #[.int (-121)], vm := .none },
  { cls := 9, slots := #[.int (-120)], vm := .none },
  { cls := 9, slots := #[.int (-119)], vm := .none },
  { cls := 9, slots := #[.int (-118)], vm := .none },
  { cls := 9, slots := #[.int (-117)], vm := .none },
  { cls := 9, slots := #[.int (-116)], vm := .none },
  { cls := 9, slots := #[.int (-115)], vm := .none },
  { cls := 9, slots := #[.int (-114)], vm := .none },
  { cls := 9, slots := #[.int (-113)], vm := .none },
  { cls := 9, slots := #[.int (-112)], vm := .none },
  { cls := 9, slots := #[.int (-111)], vm := .none },
  { cls := 9, slots := #[.int (-110)], vm := .none },
  { cls := 9, slots := #[.int (-109)], vm := .none },
  { cls := 9, slots := #[.int (-108)], vm := .none },
  { cls := 9, slots := #[.int (-107)], vm := .none },
  { cls := 9, slots := #[.int (-106)], vm := .none },
  { cls := 9, slots := #[.int (-105)], vm := .none },
  { cls := 9, slots := #[.int (-104)], vm := .none },
  { cls := 9, slots := #[.int (-103)], vm := .none },
  { cls := 9, slots := #[.int (-102)], vm := .none },
  { cls := 9, slots := #[.int (-101)], vm := .none },
  { cls := 9, slots := #[.int (-100)], vm := .none },
  { cls := 9, slots := #[.int (-99)], vm := .none },
  { cls := 9, slots := #[.int (-98)], vm := .none },
  { cls := 9, slots := #[.int (-97)], vm := .none },
  { cls := 9, slots := #[.int (-96)], vm := .none },
  { cls := 9, slots := #[.int (-95)], vm := .none },
  { cls := 9, slots := #[.int (-94)], vm := .none },
  { cls := 9, slots := #[.int (-93)], vm := .none },
  { cls := 9, slots := #[.int (-92)], vm := .none },
  { cls := 9, slots := #[.int (-91)], vm := .none },
  { cls := 9, slots := #[.int (-90)], vm := .none },
  { cls := 9, slots := #[.int (-89)], vm := .none },
  { cls := 9, slots := #[.int (-88)], vm := .none },
  { cls := 9, slots := #[.int (-87)], vm := .none },
  { cls := 9, slots := #[.int (-86)], vm := .none },
  { cls := 9, slots := #[.int (-85)], vm := .none },
  { cls := 9, slots := #[.int (-84)], vm := .none },
  { cls := 9, slots := #[.int (-83)], vm := .none },
  { cls := 9, slots := #[.int (-82)], vm := .none },
  { cls := 9, slots := #[.int (-81)], vm := .none },
  { cls := 9, slots := #[.int (-80)], vm := .none },
  { cls := 9, slots := #[.int (-79)], vm := .none },
  { cls := 9, slots := #[.int (-78)], vm := .none },
  { cls := 9, slots := #[.int (-77)], vm := .none },
  { cls := 9, slots := #[.int (-76)], vm := .none },
  { cls := 9, slots := #[.int (-75)], vm := .none },
  { cls := 9, slots := #[.int (-74)], vm := .none },
  { cls := 9, slots := #[.int (-73)], vm := .none },
  { cls := 9, slots := #[.int (-72)], vm := .none },
  { cls := 9, slots := #[.int (-71)], vm := .none },
  { cls := 9, slots := #[.int (-70)], vm := .none },
  { cls := 9, slots := #[.int (-69)], vm := .none },
  { cls := 9, slots := #[.int (-68)], vm := .none },
  { cls := 9, slots := #[.int (-67)], vm := .none },
  { cls := 9, slots := #[.int (-66)], vm := .none },
  { cls := 9, slots := #[.int (-65)], vm := .none },
  { cls := 9, slots := #[.int (-64)], vm := .none },
  { cls := 9, slots := #[.int (-63)], vm := .none },
  { cls := 9, slots := #[.int (-62)], vm := .none },
  { cls := 9, slots := #[.int (-61)], vm := .none },
  { cls := 9, slots := #[.int (-60)], vm := .none },
  { cls := 9, slots := #[.int (-59)], vm := .none },
  { cls := 9, slots := #[.int (-58)], vm := .none },
  { cls := 9, slots := #[.int (-57)], vm := .none },
  { cls := 9, slots := #[.int (-56)], vm := .none },
  { cls := 9, slots := #[.int (-55)], vm := .none },
  { cls := 9, slots := #[.int (-54)], vm := .none },
  { cls := 9, slots := #[.int (-53)], vm := .none },
  { cls := 9, slots := #[.int (-52)], vm := .none },
  { cls := 9, slots := #[.int (-51)], vm := .none },
  { cls := 9, slots := #[.int (-50)], vm := .none },
  { cls := 9, slots := #[.int (-49)], vm := .none },
  { cls := 9, slots := #[.int (-48)], vm := .none },
  { cls := 9, slots := #[.int (-47)], vm := .none },
  { cls := 9, slots := #[.int (-46)], vm := .none },
  { cls := 9, slots := #[.int (-45)], vm := .none },
  { cls := 9, slots := #[.int (-44)], vm := .none },
  { cls := 9, slots := #[.int (-43)], vm := .none },
  { cls := 9, slots := #[.int (-42)], vm := .none },
  { cls := 9, slots := #[.int (-41)], vm := .none },
  { cls := 9, slots := #[.int (-40)], vm := .none },
  { cls := 9, slots := #[.int (-39)], vm := .none },
  { cls := 9, slots := #[.int (-38)], vm := .none },
  { cls := 9, slots := #[.int (-37)], vm := .none },
  { cls := 9, slots := #[.int (-36)], vm := .none },
  { cls := 9, slots := #[.int (-35)], vm := .none },
  { cls := 9, slots := #[.int (-34)], vm := .none },
  { cls := 9, slots := #[.int (-33)], vm := .none },
  { cls := 9, slots := #[.int (-32)], vm := .none },
  { cls := 9, slots := #[.int (-31)], vm := .none },
  { cls := 9, slots := #[.int (-30)], vm := .none },
  { cls := 9, slots := #[.int (-29)], vm := .none },
  { cls := 9, slots := #[.int (-28)], vm := .none },
  { cls := 9, slots := #[.int (-27)], vm := .none },
  { cls := 9, slots := #[.int (-26)], vm := .none },
  { cls := 9, slots := #[.int (-25)], vm := .none },
  { cls := 9, slots := #[.int (-24)], vm := .none },
  { cls := 9, slots := #[.int (-23)], vm := .none },
  { cls := 9, slots := #[.int (-22)], vm := .none },
  { cls := 9, slots := #[.int (-21)], vm := .none },
  { cls := 9, slots := #[.int (-20)], vm := .none },
  { cls := 9, slots := #[.int (-19)], vm := .none },
  { cls := 9, slots := #[.int (-18)], vm := .none },
  { cls := 9, slots := #[.int (-17)], vm := .none },
  { cls := 9, slots := #[.int (-16)], vm := .none },
  { cls := 9, slots := #[.int (-15)], vm := .none },
  { cls := 9, slots := #[.int (-14)], vm := .none },
  { cls := 9, slots := #[.int (-13)], vm := .none },
  { cls := 9, slots := #[.int (-12)], vm := .none },
  { cls := 9, slots := #[.int (-11)], vm := .none },
  { cls := 9, slots := #[.int (-10)], vm := .none },
  { cls := 9, slots := #[.int (-9)], vm := .none },
  { cls := 9, slots := #[.int (-8)], vm := .none },
  { cls := 9, slots := #[.int (-7)], vm := .none },
  { cls := 9, slots := #[.int (-6)], vm := .none },
  { cls := 9, slots := #[.int (-5)], vm := .none },
  { cls := 9, slots := #[.int (-4)], vm := .none },
  { cls := 9, slots := #[.int (-3)], vm := .none },
  { cls := 9, slots := #[.int (-2)], vm := .none },
  { cls := 9, slots := #[.int (-1)], vm := .none },
  { cls := 9, slots := #[.int 0], vm := .none },
  { cls := 9, slots := #[.int 1], vm := .none },
  { cls := 9, slots := #[.int 2], vm := .none },
  { cls := 9, slots := #[.int 3], vm := .none },
  { cls := 9, slots := #[.int 4], vm := .none },
  { cls := 9, slots := #[.int 5], vm := .none },
  { cls := 9, slots := #[.int 6], vm := .none },
  { cls := 9, slots := #[.int 7], vm := .none },
  { cls := 9, slots := #[.int 8], vm := .none },
  { cls := 9, slots := #[.int 9], vm := .none },
  { cls := 9, slots := #[.int 10], vm := .none },
  { cls := 9, slots := #[.int 11], vm := .none },
  { cls := 9, slots := #[.int 12], vm := .none },
  { cls := 9, slots := #[.int 13], vm := .none },
  { cls := 9, slots := #[.int 14], vm := .none },
  { cls := 9, slots := #[.int 15], vm := .none },
  { cls := 9, slots := #[.int 16], vm := .none },
  { cls := 9, slots := #[.int 17], vm := .none },
  { cls := 9, slots := #[.int 18], vm := .none },
  { cls := 9, slots := #[.int 19], vm := .none },
  { cls := 9, slots := #[.int 20], vm := .none },
  { cls := 9, slots := #[.int 21], vm := .none },
  { cls := 9, slots := #[.int 22], vm := .none },
  { cls := 9, slots := #[.int 23], vm := .none },
  { cls := 9, slots := #[.int 24], vm := .none },
  { cls := 9, slots := #[.int 25], vm := .none },
  { cls := 9, slots := #[.int 26], vm := .none },
  { cls := 9, slots := #[.int 27], vm := .none },
  { cls := 9, slots := #[.int 28], vm := .none },
  { cls := 9, slots := #[.int 29], vm := .none },
  { cls := 9, slots := #[.int 30], vm := .none },
  { cls := 9, slots := #[.int 31], vm := .none },
  { cls := 9, slots := #[.int 32], vm := .none },
  { cls := 9, slots := #[.int 33], vm := .none },
  { cls := 9, slots := #[.int 34], vm := .none },
  { cls := 9, slots := #[.int 35], vm := .none },
  { cls := 9, slots := #[.int 36], vm := .none },
  { cls := 9, slots := #[.int 37], vm := .none },
  { cls := 9, slots := #[.int 38], vm := .none },
  { cls := 9, slots := #[.int 39], vm := .none },
  { cls := 9, slots := #[.int 40], vm := .none },
  { cls := 9, slots := #[.int 41], vm := .none },
  { cls := 9, slots := #[.int 42], vm := .none },
  { cls := 9, slots := #[.int 43], vm := .none },
  { cls := 9, slots := #[.int 44], vm := .none },
  { cls := 9, slots := #[.int 45], vm := .none },
  { cls := 9, slots := #[.int 46], vm := .none },
  { cls := 9, slots := #[.int 47], vm := .none },
  { cls := 9, slots := #[.int 48], vm := .none },
  { cls := 9, slots := #[.int 49], vm := .none },
  { cls := 9, slots := #[.int 50], vm := .none },
  { cls := 9, slots := #[.int 51], vm := .none },
  { cls := 9, slots := #[.int 52], vm := .none },
  { cls := 9, slots := #[.int 53], vm := .none },
  { cls := 9, slots := #[.int 54], vm := .none },
  { cls := 9, slots := #[.int 55], vm := .none },
  { cls := 9, slots := #[.int 56], vm := .none },
  { cls := 9, slots := #[.int 57], vm := .none },
  { cls := 9, slots := #[.int 58], vm := .none },
  { cls := 9, slots := #[.int 59], vm := .none },
  { cls := 9, slots := #[.int 60], vm := .none },
  { cls := 9, slots := #[.int 61], vm := .none },
  { cls := 9, slots := #[.int 62], vm := .none },
  { cls := 9, slots := #[.int 63], vm := .none },
  { cls := 9, slots := #[.int 64], vm := .none },
  { cls := 9, slots := #[.int 65], vm := .none },
  { cls := 9, slots := #[.int 66], vm := .none },
  { cls := 9, slots := #[.int 67], vm := .none },
  { cls := 9, slots := #[.int 68], vm := .none },
  { cls := 9, slots := #[.int 69], vm := .none },
  { cls := 9, slots := #[.int 70], vm := .none },
  { cls := 9, slots := #[.int 71], vm := .none },
  { cls := 9, slots := #[.int 72], vm := .none },
  { cls := 9, slots := #[.int 73], vm := .none },
  { cls := 9, slots := #[.int 74], vm := .none },
  { cls := 9, slots := #[.int 75], vm := .none },
  { cls := 9, slots := #[.int 76], vm := .none },
  { cls := 9, slots := #[.int 77], vm := .none },
  { cls := 9, slots := #[.int 78], vm := .none },
  { cls := 9, slots := #[.int 79], vm := .none },
  { cls := 9, slots := #[.int 80], vm := .none },
  { cls := 9, slots := #[.int 81], vm := .none },
  { cls := 9, slots := #[.int 82], vm := .none },
  { cls := 9, slots := #[.int 83], vm := .none },
  { cls := 9, slots := #[.int 84], vm := .none },
  { cls := 9, slots := #[.int 85], vm := .none },
  { cls := 9, slots := #[.int 86], vm := .none },
  { cls := 9, slots := #[.int 87], vm := .none },
  { cls := 9, slots := #[.int 88], vm := .none },
  { cls := 9, slots := #[.int 89], vm := .none },
  { cls := 9, slots := #[.int 90], vm := .none },
  { cls := 9, slots := #[.int 91], vm := .none },
  { cls := 9, slots := #[.int 92], vm := .none },
  { cls := 9, slots := #[.int 93], vm := .none },
  { cls := 9, slots := #[.int 94], vm := .none },
  { cls := 9, slots := #[.int 95], vm := .none },
  { cls := 9, slots := #[.int 96], vm := .none },
  { cls := 9, slots := #[.int 97], vm := .none },
  { cls := 9, slots := #[.int 98], vm := .none },
  { cls := 9, slots := #[.int 99], vm := .none },
  { cls := 9, slots := #[.int 100], vm := .none },
  { cls := 9, slots := #[.int 101], vm := .none },
  { cls := 9, slots := #[.int 102], vm := .none },
  { cls := 9, slots := #[.int 103], vm := .none },
  { cls := 9, slots := #[.int 104], vm := .none },
  { cls := 9, slots := #[.int 105], vm := .none },
  { cls := 9, slots := #[.int 106], vm := .none },
  { cls := 9, slots := #[.int 107], vm := .none },
  { cls := 9, slots := #[.int 108], vm := .none },
  { cls := 9, slots := #[.int 109], vm := .none },
  { cls := 9, slots := #[.int 110], vm := .none },
  { cls := 9, slots := #[.int 111], vm := .none },
  { cls := 9, slots := #[.int 112], vm := .none },
  { cls := 9, slots := #[.int 113], vm := .none },
  { cls := 9, slots := #[.int 114], vm := .none },
  { cls := 9, slots := #[.int 115], vm := .none },
  { cls := 9, slots := #[.int 116], vm := .none },
  { cls := 9, slots := #[.int 117], vm := .none },
  { cls := 9, slots := #[.int 118], vm := .none },
  { cls := 9, slots := #[.int 119], vm := .none },
  { cls := 9, slots := #[.int 120], vm := .none },
  { cls := 9, slots := #[.int 121], vm := .none },
  { cls := 9, slots := #[.int 122], vm := .none },
  { cls := 9, slots := #[.int 123], vm := .none },
  { cls := 9, slots := #[.int 124], vm := .none },
  { cls := 9, slots := #[.int 125], vm := .none },
  { cls := 9, slots := #[.int 126], vm := .none },
  { cls := 9, slots := #[.int 127], vm := .none }]
def classes : Array Class := #[k0, k1, k2, k3, k4, k5, k6, k7, k8, k9, k10, k11, k12, k13, k14, k15, k16]
def interned : List (Array UInt16 × Addr) := []
def slotsUsed : Nat := 517
def theMethod : MethodId := ⟨1, 1⟩
def args0 : Array Value := #[.int 5, .int 6]
def aboutOver (below : List Frame) : State where
  vm := { classes := classes, interned := interned.toArray }
  heap := heap
  slotsUsed := slotsUsed
  threads := #[{ frames := .invoking theMethod args0 :: below }]
def below0 : List Frame := [.native { method := ⟨0, 0⟩, args := #[] }]
def about1 : State := aboutOver below0
def p0 : Program := .bare "" "" ""
def e0 : Env := launch0.env 0 0 0
theorem w_frames : about1.frames = Frame.invoking theMethod args0 :: below0 := rfl
set_option maxRecDepth 65536 in
theorem w_args : argsFit about1.vm theMethod args0 = true := by decide +kernel
set_option maxRecDepth 65536 in
theorem w_heap : heapFits about1 = true := by decide +kernel
set_option maxRecDepth 65536 in
theorem w_runnable : about1.curStatus? = some .runnable := by decide +kernel
set_option maxRecDepth 65536 in
theorem w_alone : about1.alone = true := by decide +kernel
set_option maxRecDepth 65536 in
theorem w_named : about1.methodNamed? x = some theMethod := by decide +kernel
set_option maxRecDepth 65536 in
theorem w_hears : about1.hears theMethod below0 = true := by decide +kernel
set_option maxRecDepth 65536 in
theorem w_ripe : about1.ripe theMethod args0 below0 = true := by decide +kernel
theorem w_running : about1.status = .running := rfl
set_option maxRecDepth 65536 in
theorem w_room : about1.hasRoom e0.platform room_1 = true :=
  launch0.hasRoom_least _ room_1 (by decide +kernel) (by decide +kernel) (by decide +kernel) (by decide +kernel) (by decide +kernel) (by decide +kernel)
theorem allAtoms_all (ts : List Jvm.Cond) (a : Array Jvm.Value) (st : Jvm.State) : (allAtoms ts).before a st = ts.all (fun c => c.before a st) := by
  induction ts with
  | nil => rfl
  | cons c t ih =>
    show (Jvm.Cond.and c (allAtoms t)).before a st = _
    rw [Jvm.Cond.before_and, ih, List.all_cons]
def words1 : List Jvm.Cond := Jvm.Cond.code x code maxLocals ret :: tables_1
/-- a 'code' word, met by the world's own term for the bytes: nothing is compared byte by byte -/
theorem code_word {y : MethodName} {bytes : ByteArray} {mx : Nat} {rt : Option FieldType} {a : Array Value} {s : State} {m : MethodId} {meth : Method} {c : Code} (h1 : s.methodNamed? y = some m) (h2 : s.vm.method? m = some meth) (h3 : meth.code = some c) (h4 : c.code = bytes)
    (h5 : (c.maxLocals == mx && c.exceptionTable.isEmpty && decide (c.maxStack ≤ mostOperands) && decide (meth.sig.returnType = rt) && !meth.locks && decide (parseMethodDescriptor y.desc = some meth.sig)) = true) : (Jvm.Cond.code y bytes mx rt).before a s = true := by
  simp only [Bool.and_eq_true, beq_iff_eq, Bool.not_eq_true', decide_eq_true_eq] at h5
  obtain ⟨⟨⟨⟨⟨g1, g2⟩, g3⟩, g4⟩, g5⟩, g6⟩ := h5
  simp [Cond.before, Cond.holds, Cond.value, h1, h2, h3, h4, g1, g2, g3, g4, g5, g6]
def isCode : Jvm.Cond → Bool
  | .code _ _ _ _ => true
  | _ => false
theorem all_split {L : List Jvm.Cond} {P : Jvm.Cond → Bool} (h1 : L.all (fun c => isCode c || P c) = true) (h2 : ∀ c ∈ L.filter isCode, P c = true) : L.all P = true := by
  refine List.all_eq_true.mpr fun c hc => ?_
  have h := List.all_eq_true.mp h1 c hc
  rcases Bool.eq_false_or_eq_true (isCode c) with hi | hi
  · exact h2 c (List.mem_filter.mpr ⟨hc, hi⟩)
  · simpa [hi] using h
set_option maxRecDepth 65536 in
theorem w_c0 : (Jvm.Cond.code x code maxLocals ret).before args0 about1 = true := code_word (m := ⟨1, 1⟩) (meth := k1m1) (c := k1c1) (by decide +kernel) rfl rfl rfl (by decide +kernel)
set_option maxRecDepth 65536 in
theorem w_c1 : (Jvm.Cond.code ({ cls := "java/lang/Integer", name := "valueOf", desc := "(I)Ljava/lang/Integer;" } : Jvm.MethodName) jdk_33_method_22_code (1 : Nat) (Option.some (Jvm.ClassFile.FieldType.object "java/lang/Integer"))).before args0 about1 = true := code_word (m := ⟨9, 0⟩) (meth := k9m0) (c := k9c0) (by decide +kernel) rfl rfl rfl (by decide +kernel)
set_option maxRecDepth 65536 in
theorem w_c2 : (Jvm.Cond.code ({ cls := "com/example/treeline/treeline/Node", name := "<init>", desc := "(Ljava/lang/Object;Ljava/lang/Object;)V" } : Jvm.MethodName) prog_5_method_1_code (3 : Nat) (Option.none : Option Jvm.ClassFile.FieldType)).before args0 about1 = true := code_word (m := ⟨3, 0⟩) (meth := k3m0) (c := k3c0) (by decide +kernel) rfl rfl rfl (by decide +kernel)
set_option maxRecDepth 65536 in
theorem w_c3 : (Jvm.Cond.code ({ cls := "java/lang/Object", name := "<init>", desc := "()V" } : Jvm.MethodName) object_method_1_code (1 : Nat) (Option.none : Option Jvm.ClassFile.FieldType)).before args0 about1 = true := code_word (m := ⟨0, 0⟩) (meth := k0m0) (c := k0c0) (by decide +kernel) rfl rfl rfl (by decide +kernel)
set_option maxRecDepth 65536 in
theorem w_c4 : (Jvm.Cond.code ({ cls := "com/example/treeline/treeline/Node", name := "highest", desc := "(Lcom/example/treeline/treeline/Node;)Lcom/example/treeline/treeline/Node;" } : Jvm.MethodName) prog_5_method_20_code (2 : Nat) (Option.some (Jvm.ClassFile.FieldType.object "com/example/treeline/treeline/Node"))).before args0 about1 = true := code_word (m := ⟨3, 1⟩) (meth := k3m1) (c := k3c1) (by decide +kernel) rfl rfl rfl (by decide +kernel)
def codes1 : List Jvm.Cond := [Jvm.Cond.code x code maxLocals ret, Jvm.Cond.code ({ cls := "java/lang/Integer", name := "valueOf", desc := "(I)Ljava/lang/Integer;" } : Jvm.MethodName) jdk_33_method_22_code (1 : Nat) (Option.some (Jvm.ClassFile.FieldType.object "java/lang/Integer")), Jvm.Cond.code ({ cls := "com/example/treeline/treeline/Node", name := "<init>", desc := "(Ljava/lang/Object;Ljava/lang/Object;)V" } : Jvm.MethodName) prog_5_method_1_code (3 : Nat) (Option.none : Option Jvm.ClassFile.FieldType), Jvm.Cond.code ({ cls := "java/lang/Object", name := "<init>", desc := "()V" } : Jvm.MethodName) object_method_1_code (1 : Nat) (Option.none : Option Jvm.ClassFile.FieldType), Jvm.Cond.code ({ cls := "com/example/treeline/treeline/Node", name := "highest", desc := "(Lcom/example/treeline/treeline/Node;)Lcom/example/treeline/treeline/Node;" } : Jvm.MethodName) prog_5_method_20_code (2 : Nat) (Option.some (Jvm.ClassFile.FieldType.object "com/example/treeline/treeline/Node"))]
set_option maxRecDepth 65536 in
theorem codes_eq : words1.filter isCode = codes1 := rfl
theorem w_codes : ∀ c ∈ words1.filter isCode, c.before args0 about1 = true := by
  rw [codes_eq]
  intro c hc
  simp only [codes1, List.mem_cons, List.not_mem_nil, or_false] at hc
  rcases hc with rfl | rfl | rfl | rfl | rfl
  · exact w_c0
  · exact w_c1
  · exact w_c2
  · exact w_c3
  · exact w_c4
set_option maxRecDepth 65536 in
theorem w_t1 : (words1.take 24).all (fun c => isCode c || c.before args0 about1) = true := by decide +kernel
set_option maxRecDepth 65536 in
theorem w_t2 : (words1.drop 24).all (fun c => isCode c || c.before args0 about1) = true := by decide +kernel
theorem w_tables : (allAtoms (Jvm.Cond.code x code maxLocals ret :: tables_1)).before args0 about1 = true := by
  rw [allAtoms_all]
  show words1.all (fun c => c.before args0 about1) = true
  refine all_split ?_ w_codes
  rw [← List.take_append_drop 24 words1, List.all_append, w_t1, w_t2]
  rfl
set_option maxRecDepth 65536 in
theorem w_rest : rest_1_c.before args0 about1 = true := by decide +kernel
set_option maxRecDepth 65536 in
theorem w_case : (Jvm.Cond.and given_1 narrow_1).before args0 about1 = true := by decide +kernel
theorem w_applies : (headSpec (Jvm.Cond.code x code maxLocals ret :: tables_1) room_1).applies x e0.platform about1 = true :=
  (Spec.applies_iff w_frames).mpr ⟨w_running, w_runnable, w_alone, w_named, w_hears, w_ripe, w_room, w_tables⟩
theorem atStart : AtStart classFile x code maxLocals ret World_1 tables_1 room_1 Calls_1 rest_1 Pre_1 launch0 p0 e0 about1 theMethod args0 below0 :=
  ⟨lists_1, trivial, launch0.admits_env _ _ _, launch0.least_env, fairChoices_fair.cas, fairChoices_fair.clock, w_frames, w_args, w_heap, w_applies, trivial, w_rest, w_case⟩
end start1
theorem witness_1 : WitnessClaimed_1 := ⟨start1.p0, start1.e0, start1.about1, start1.theMethod, start1.args0, start1.below0, start1.atStart⟩
end Jvm.Pilot.@@N@@
