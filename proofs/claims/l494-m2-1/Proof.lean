import JvmDerived
import JvmDerived.Pilot.@@N@@Statement
import JvmDerived.Pilot.@@N@@Code
set_option linter.unusedVariables false
set_option linter.unusedSimpArgs false
namespace Jvm.Pilot.@@N@@
open Jvm Jvm.ClassFile Sem Op Lib Jvm.Free Jvm.Stand Jvm.LawKit Jvm.RoadKit Bundle Jvm.Pilot.@@N@@.Jvm.D
abbrev own_Ends (p : Program) (e : Env) (below : List Frame) (T : State) (g : JFrame) (Q : Outcome → State → Prop) : Prop :=
  ∃ s₂ o, Steps p.tables e below (T.setTop g) s₂ ∧ s₂.status = .running ∧ Ended s₂ below o ∧ Q o s₂
section Own
variable {p : Program} {l : Launch} {e : Env} {R : Room} {s : State} {m : MethodId} {args : Array Value} {below : List Frame} {meth : Method} {c : Code} {T T' : State} {locs : List Loc} {cells slots : Nat}
theorem own_go {g g' : JFrame} {Q : Outcome → State → Prop} (h : ∀ t, Steps p.tables e below (T'.setTop g') t → Steps p.tables e below (T.setTop g) t) (k : own_Ends p e below T' g' Q) : own_Ends p e below T g Q := by
  obtain ⟨s₂, o, h1, h2⟩ := k
  exact ⟨s₂, o, h _ h1, h2⟩
theorem own_start {g g' : JFrame} {Q : Outcome → State → Prop} (h : g = g') (k : own_Ends p e below T g' Q) : own_Ends p e below T g Q := h ▸ k
theorem own_ret (X : Stand p l e R s m args below meth c T locs cells slots) (hlk : meth.locks = false) (hx : p.tables.exec = Jvm.exec) {pc : Nat} {Ls : Array Slot} {w : Value} {t : FieldType} {i : Instr} {rest : List Value} (hret : meth.sig.returnType = some t) (hn : narrow t w = w)
    (hi : (i = .ireturn ∧ (t = .int ∨ t = .boolean ∨ t = .byte ∨ t = .char ∨ t = .short) ∧ ∃ z, w = .int z) ∨ (i = .lreturn ∧ t = .long ∧ ∃ z, w = .long z) ∨ (i = .dreturn ∧ t = .double ∧ ∃ z, w = .double z) ∨ (i = .freturn ∧ t = .float ∧ ∃ z, w = .float z) ∨ (i = .areturn ∧ t.isReference = true ∧ w.isRef = true))
    (hd : decode c.code pc = .ok (i, 1)) {Qv : Option Value → Heap → List Loc → Prop} {C S : Nat} (hq : Qv (some w) T.heap locs) (hc : cells ≤ C) (hs : slots ≤ S) :
    own_Ends p e below T (mkF m pc Ls (w :: rest)) (fun o U' => ∃ v L, o = .returned v ∧ Qv v U'.heap L ∧ FrameEnd s o U' L C S) := by
  obtain ⟨fs, hr, hrun, hended, hW, hsame⟩ := X.leave (v := some w) (fun h => by rw [hret] at h; cases h) hlk
  exact ⟨_, _, retOut X hx hret hn hi hd hr, hrun, hended, _, _, rfl, hq, ⟨_, rfl⟩, hW, hsame.mono hc hs⟩
theorem own_ret0 (X : Stand p l e R s m args below meth c T locs cells slots) (hlk : meth.locks = false) (hx : p.tables.exec = Jvm.exec) {pc : Nat} {Ls : Array Slot} (hret : meth.sig.returnType = none)
    (hd : decode c.code pc = .ok (.return_, 1)) {Qv : Option Value → Heap → List Loc → Prop} {C S : Nat} (hq : Qv none T.heap locs) (hc : cells ≤ C) (hs : slots ≤ S) :
    own_Ends p e below T (mkF m pc Ls []) (fun o U' => ∃ v L, o = .returned v ∧ Qv v U'.heap L ∧ FrameEnd s o U' L C S) := by
  obtain ⟨fs, hr, hrun, hended, hW, hsame⟩ := X.leave (v := none) (fun _ => rfl) hlk
  exact ⟨_, _, X.returnOut hx hret hd hr, hrun, hended, _, _, rfl, hq, ⟨_, rfl⟩, hW, hsame.mono hc hs⟩
theorem own_nr {t : FieldType} {v : Value} (h : v.isRef = true) : narrow t v = v := by cases v <;> first | (cases h; done) | (cases t <;> rfl)
end Own
theorem own_fld {args : Array Value} {s : State} {t : Term} {a : Addr} {C n d : String} {k : Int32} (ht : t.eval args s none [] s = some (.ref a)) (h : (Jvm.Cond.eq (.field t C n d) (.int k)).value args s none s [] = some true) : Fld s s.heap a C n d (.int k) := by
  obtain ⟨x, y, e1, e2, h3, h4⟩ := cmp_v (Or.inl h)
  obtain rfl : Value.int k = y := Option.some.inj ((Term.int_eval k).symm.trans e2)
  obtain ⟨z, rfl⟩ : ∃ z, x = .int z := h4
  have q : z = k := gotT (Cond.eq_ints e1 e2) h
  subst q
  exact Fld.start ((fld_at ht).symm.trans e1)
theorem own_len {args : Array Value} {s : State} {t : Term} {a : Addr} {c : Cell} {ty : FieldType} {k : Int32} (ht : t.eval args s none [] s = some (.ref a)) (A : Arr s s.heap a c ty) (h : (Jvm.Cond.eq (.length t) (.int k)).value args s none s [] = some true) : c.slots.size < 2 ^ 31 ∧ c.slots.size.toInt32 = k := by
  obtain ⟨x, y, e1, e2, h3, h4⟩ := cmp_v (Or.inl h)
  obtain rfl : Value.int k = y := Option.some.inj ((Term.int_eval k).symm.trans e2)
  obtain ⟨z, rfl⟩ : ∃ z, x = .int z := h4
  have q : z = k := gotT (Cond.eq_ints e1 e2) h
  subst q
  have ha : s.arrayAt? a = some c := Arr.fin (Vm.Alike.refl _) A
  by_cases hl : c.slots.size < 2 ^ 31
  · refine ⟨hl, ?_⟩
    have := (len_f ht ha hl).symm.trans e1
    exact Value.int.inj (Option.some.inj this)
  · exfalso
    simp [Term.eval, ht, ha, hl] at e1 <;> omega
theorem own_elt {args : Array Value} {s : State} {t u : Term} {a : Addr} {c : Cell} {ty : FieldType} {j : Int32} {b : Addr} {i : Nat} (ht : t.eval args s none [] s = some (.ref a)) (A : Arr s s.heap a c ty) (hu : u.eval args s none [] s = some (.ref b)) (h : (Jvm.Cond.eq (.elem t (.int j)) u).value args s none s [] = some true) (hj : j.toNatClampNeg = i) : c.slots[i]? = some (.ref b) := by
  obtain ⟨x, y, e1, e2, h3, h4⟩ := cmp_v (Or.inl h)
  obtain rfl : Value.ref b = y := Option.some.inj (hu.symm.trans e2)
  have q := (elem_in e1 ht (Term.int_eval j) A.1).2
  have e : x = .ref b := gotT (eq_R e1 e2 (by cases x <;> simp_all [Kin, Value.isRef]) rfl) h
  rw [hj] at q; rw [q, e]
def own_pk (g : Nat → Addr) (c : Int32) : Addr := g (c - 1).toNatClampNeg
def own_In (c : Int32) : Prop := c = 1 ∨ c = 2 ∨ c = 3 ∨ c = 4 ∨ c = 5 ∨ c = 6 ∨ c = 7 ∨ c = 8 ∨ c = 9 ∨ c = 10 ∨ c = 11 ∨ c = 12 ∨ c = 13 ∨ c = 14
theorem own_14 (x : Int32) : own_In (1 + (x &&& 2147483647) % 14) := by
  have h1 := (c_and x 2147483647 (by decide)).1
  have h2 := (c_irem (x &&& 2147483647) 14 14 rfl).1 h1
  have h3 := c_iadd 1 ((x &&& 2147483647) % 14)
  have h4 := rng32 (1 + (x &&& 2147483647) % 14)
  have : (1 : Int32).toInt = 1 := rfl
  unfold own_In
  simp only [← Int32.toInt_inj]
  have : (14 : Int32).toInt = 14 := rfl
  have : (2 : Int32).toInt = 2 := rfl
  have : (3 : Int32).toInt = 3 := rfl
  have : (4 : Int32).toInt = 4 := rfl
  have : (5 : Int32).toInt = 5 := rfl
  have : (6 : Int32).toInt = 6 := rfl
  have : (7 : Int32).toInt = 7 := rfl
  have : (8 : Int32).toInt = 8 := rfl
  have : (9 : Int32).toInt = 9 := rfl
  have : (10 : Int32).toInt = 10 := rfl
  have : (11 : Int32).toInt = 11 := rfl
  have : (12 : Int32).toInt = 12 := rfl
  have : (13 : Int32).toInt = 13 := rfl
  omega
theorem own_lo {c : Int32} (h : own_In c) : ¬ c < 1 := by rcases h with rfl | rfl | rfl | rfl | rfl | rfl | rfl | rfl | rfl | rfl | rfl | rfl | rfl | rfl <;> decide
theorem own_hi {c : Int32} (h : own_In c) : ¬ 14 < c := by rcases h with rfl | rfl | rfl | rfl | rfl | rfl | rfl | rfl | rfl | rfl | rfl | rfl | rfl | rfl <;> decide
theorem own_at (g : Nat → Addr) {c : Int32} (h : own_In c) : ([.ref (g 0), .ref (g 1), .ref (g 2), .ref (g 3), .ref (g 4), .ref (g 5), .ref (g 6), .ref (g 7), .ref (g 8), .ref (g 9), .ref (g 10), .ref (g 11), .ref (g 12), .ref (g 13)] : List Value).getD (c - 1).toNatClampNeg .null = .ref (own_pk g c) := by
  rcases h with rfl | rfl | rfl | rfl | rfl | rfl | rfl | rfl | rfl | rfl | rfl | rfl | rfl | rfl <;> rfl
theorem own_inb {c : Int32} (h : own_In c) : ¬ (c - 1) < 0 ∧ (c - 1) < 14 := by rcases h with rfl | rfl | rfl | rfl | rfl | rfl | rfl | rfl | rfl | rfl | rfl | rfl | rfl | rfl <;> decide
def own_fl (g : Nat → Addr) (o : Addr) : Int32 := if o = g 5 ∨ o = g 7 ∨ o = g 9 then 2 else 0
def own_ef (c : Int32) : Int32 := if c = 6 then 2 else if c = 8 then 2 else if c = 10 then 2 else 0
theorem own_fl_lo (g : Nat → Addr) (o : Addr) : ¬ own_fl g o < 0 := by unfold own_fl; split <;> decide
theorem own_fl_hi (g : Nat → Addr) (o : Addr) : ¬ 15 < own_fl g o := by unfold own_fl; split <;> decide
def own_Inj (g : Nat → Addr) : Prop := ∀ i j, i < 14 → j < 14 → g i = g j → i = j
theorem own_key {g : Nat → Addr} (hg : own_Inj g) {c : Int32} (h : own_In c) : own_fl g (own_pk g c) = own_ef c := by
  have q : ∀ i j, i < 14 → j < 14 → (g i = g j ↔ i = j) := fun i j hi hj => ⟨hg i j hi hj, fun e => e ▸ rfl⟩
  have e : own_pk g c = g (c - 1).toNatClampNeg := rfl
  unfold own_fl
  have hlt : (c - 1).toNatClampNeg < 14 := by rcases h with rfl | rfl | rfl | rfl | rfl | rfl | rfl | rfl | rfl | rfl | rfl | rfl | rfl | rfl <;> decide
  rw [e]; simp only [q _ 5 hlt (by decide), q _ 7 hlt (by decide), q _ 9 hlt (by decide)]
  clear e hlt
  rcases h with rfl | rfl | rfl | rfl | rfl | rfl | rfl | rfl | rfl | rfl | rfl | rfl | rfl | rfl <;> decide
theorem own_obj {P : Addr → Int32 → Prop} {g : Nat → Addr} (H : ∀ i, i < 14 → P (g i) (Int32.ofNat i)) {c : Int32} (h : own_In c) : P (own_pk g c) (c - 1) := by
  have hlt : (c - 1).toNatClampNeg < 14 ∧ Int32.ofNat (c - 1).toNatClampNeg = c - 1 := by rcases h with rfl | rfl | rfl | rfl | rfl | rfl | rfl | rfl | rfl | rfl | rfl | rfl | rfl | rfl <;> decide
  have := H _ hlt.1
  rw [hlt.2] at this; exact this
theorem own_back (c : Int32) : (c - 1) + 1 = c := by
  rw [← Int32.toInt_inj]
  have h1 := c_isub c 1; have h2 := c_iadd (c - 1) 1; have h3 := rng32 c; have h4 := rng32 (c - 1); have h5 := rng32 (c - 1 + 1)
  have : (1 : Int32).toInt = 1 := rfl
  omega

theorem own_ofNat {i j : Nat} (hi : i < 14) (hj : j < 14) (h : Int32.ofNat i = Int32.ofNat j) : i = j := by
  have a := congrArg Int32.toInt h
  rw [Int32.toInt_ofNat_small (by omega), Int32.toInt_ofNat_small (by omega)] at a
  omega
theorem own_inj {Z : State} {h : Heap} {g : Nat → Addr} (HO : ∀ i, i < 14 → Fld Z h (g i) "java/lang/Enum" "ordinal" "I" (.int (Int32.ofNat i))) : own_Inj g := fun i j hi hj e => by
  by_cases q : i = j
  · exact q
  · exact absurd e (Fld.ne (HO i hi) (HO j hj) (fun v => q (own_ofNat hi hj (Value.int.inj v))))

theorem own_d_prog_97_method_4_code_0 : decode prog_97_method_4_code 0 = .ok (.iload_n 0, 1) := by decide +kernel
theorem own_d_prog_97_method_4_code_1 : decode prog_97_method_4_code 1 = .ok (.iconst 1, 1) := by decide +kernel
theorem own_d_prog_97_method_4_code_2 : decode prog_97_method_4_code 2 = .ok (.if_icmp .lt 21, 3) := by decide +kernel
theorem own_d_prog_97_method_4_code_5 : decode prog_97_method_4_code 5 = .ok (.iload_n 0, 1) := by decide +kernel
theorem own_d_prog_97_method_4_code_6 : decode prog_97_method_4_code 6 = .ok (.getstatic 65, 3) := by decide +kernel
theorem own_d_prog_97_method_4_code_9 : decode prog_97_method_4_code 9 = .ok (.arraylength, 1) := by decide +kernel
theorem own_d_prog_97_method_4_code_10 : decode prog_97_method_4_code 10 = .ok (.if_icmp .gt 13, 3) := by decide +kernel
theorem own_d_prog_97_method_4_code_13 : decode prog_97_method_4_code 13 = .ok (.getstatic 65, 3) := by decide +kernel
theorem own_d_prog_97_method_4_code_16 : decode prog_97_method_4_code 16 = .ok (.iload_n 0, 1) := by decide +kernel
theorem own_d_prog_97_method_4_code_17 : decode prog_97_method_4_code 17 = .ok (.iconst 1, 1) := by decide +kernel
theorem own_d_prog_97_method_4_code_18 : decode prog_97_method_4_code 18 = .ok (.isub, 1) := by decide +kernel
theorem own_d_prog_97_method_4_code_19 : decode prog_97_method_4_code 19 = .ok (.aaload, 1) := by decide +kernel
theorem own_d_prog_97_method_4_code_20 : decode prog_97_method_4_code 20 = .ok (.goto 4, 3) := by decide +kernel
theorem own_d_prog_97_method_4_code_24 : decode prog_97_method_4_code 24 = .ok (.areturn, 1) := by decide +kernel
def Q_own_rof (p0 : Int32) (g : Nat → Addr) (h0 : Heap) (n0 : Nat) (v : Option Value) (h : Heap) (L : List Loc) : Prop := v = some (.ref (own_pk g p0)) ∧ L = [] ∧ h = h0
set_option maxRecDepth 65536 in
set_option maxHeartbeats 40000000 in
theorem own_rof (l : Launch) (Z : State) (a0 : Array Value) (hw : ∀ d ∈ tables_1, d.before a0 Z = true) (ws : List Jvm.Cond) (p0 : Int32) (g : Nat → Addr) (aC : Addr) (kC : ClassId) (h0 : Heap) (n0 : Nat) (Z0 : n0 ≤ h0.size) (S_CODES : Sta Z h0 "com/example/bridger/bridger/mqtt/PacketType" "CODES" "[Lcom/example/bridger/bridger/mqtt/PacketType;" (.ref aC)) (V_CODES : Arv Z h0 aC kC (.object "com/example/bridger/bridger/mqtt/PacketType") (14 : Int32) [.ref (g 0), .ref (g 1), .ref (g 2), .ref (g 3), .ref (g 4), .ref (g 5), .ref (g 6), .ref (g 7), .ref (g 8), .ref (g 9), .ref (g 10), .ref (g 11), .ref (g 12), .ref (g 13)] .null) (hp : own_In p0) :
    MetFree l (⟨"com/example/bridger/bridger/mqtt/PacketType", "of", "(I)Lcom/example/bridger/bridger/mqtt/PacketType;"⟩ : MethodName) (head1 (Jvm.Cond.code (⟨"com/example/bridger/bridger/mqtt/PacketType", "of", "(I)Lcom/example/bridger/bridger/mqtt/PacketType;"⟩ : MethodName) prog_97_method_4_code 1 (some (.object "com/example/bridger/bridger/mqtt/PacketType")) :: ws) ({ frames := 0, cells := 0, slots := 0, locals := 0 } : Room)) (fun au Uu => au = #[(.int p0)] ∧ Z.Warmed39 Uu.vm ∧ Uu.heap = h0) (fun _ _ _ _ _ => True) (fun _ Uu ou Uw => ∃ vu Lu, ou = .returned vu ∧ Q_own_rof p0 g h0 n0 vu Uw.heap Lu ∧ FrameEnd Uu ou Uw Lu ({ frames := 0, cells := 0, slots := 0, locals := 0 } : Room).cells ({ frames := 0, cells := 0, slots := 0, locals := 0 } : Room).slots) := by
  refine MetFree.of_bodySF (plainFor_of_name (by first | (simp [plainName, overriddenIn]; done) | decide +kernel)) hisR ?_
  intro p e s m args below meth c s₁ Bd hml0 hP hK
  obtain ⟨rfl, hZ, hh⟩ := hP
  have hx := Bd.exec
  have hby := Bd.bytes
  have hlk := Bd.notSynchronized
  have hml : c.maxLocals = 1 := hml0
  have hown : s.vm.findClass "com/example/bridger/bridger/mqtt/PacketType" = some m.cls := findClass_of_methodNamed Bd.named
  have hnm := (name_of_methodNamed Bd.named Bd.method).1
  have X0 : Stand p l e ({ frames := 0, cells := 0, slots := 0, locals := 0 } : Room) s m #[(.int p0)] below meth c s₁ [] 0 0 := Stand.of_body Bd
  have e0 : s₁.heap = h0 := by rw [← hh, Bd.state]; rfl
  have N0 := Fr.nil n0
  show own_Ends p e below s₁ (entryFrame m #[(.int p0)] 1) (fun ou Uw => ∃ vu Lu, ou = .returned vu ∧ Q_own_rof p0 g h0 n0 vu Uw.heap Lu ∧ FrameEnd s ou Uw Lu ({ frames := 0, cells := 0, slots := 0, locals := 0 } : Room).cells ({ frames := 0, cells := 0, slots := 0, locals := 0 } : Room).slots)
  refine own_start (g' := (mkF m 0 #[iv p0] [])) (by first | (simp [entryFrame, mkF, argsToLocals, Value.category, iv, rv]; done) | rfl) ?_
  refine own_go (T' := s₁) (g' := (mkF m 1 #[iv p0] [(.int p0)])) (fun t k => XS.iloadN X0.here hx rfl (hb hby own_d_prog_97_method_4_code_0) rfl k) ?_
  refine own_go (T' := s₁) (g' := (mkF m 2 #[iv p0] [(.int (1 : Int32)), (.int p0)])) (fun t k => XS.iconst X0.here hx rfl (hb hby own_d_prog_97_method_4_code_1) k) ?_
  refine own_go (T' := s₁) (g' := (mkF m 5 #[iv p0] [])) (fun t k => XS.icmpNo X0.here hx rfl (hb hby own_d_prog_97_method_4_code_2) rfl (flt (own_lo hp : ¬ (p0 < (1 : Int32)))).1 k) ?_
  refine own_go (T' := s₁) (g' := (mkF m 6 #[iv p0] [(.int p0)])) (fun t k => XS.iloadN X0.here hx rfl (hb hby own_d_prog_97_method_4_code_5) rfl k) ?_
  obtain ⟨T1, X1, e1, st1⟩ := getS2 X0 hx hZ hown (host := "") (Or.inl (hw _ (List.mem_of_getElem? (i := 5) rfl))) Via.refl e0 S_CODES (g := (mkF m 6 #[iv p0] [(.int p0)])) rfl (hb hby own_d_prog_97_method_4_code_6)
  refine own_go (T' := T1) (g' := (mkF m 9 #[iv p0] [(.ref aC), (.int p0)])) (st1) ?_
  obtain ⟨cl2, Ar2, -, Sz2, Nn2, -, -⟩ := id V_CODES
  refine own_go (T' := T1) (g' := (mkF m 10 #[iv p0] [(.int (14 : Int32)), (.int p0)])) (fun t k => X1.arraylength hx (by rw [e1]; exact Ar2.1) (State.isArrayOf_alike hZ.alike Ar2.2.1) (g := (mkF m 9 #[iv p0] [(.ref aC), (.int p0)])) rfl rfl (hb hby own_d_prog_97_method_4_code_9) _ (by rw [len_of Sz2 Nn2]; exact k)) ?_
  refine own_go (T' := T1) (g' := (mkF m 13 #[iv p0] [])) (fun t k => XS.icmpNo X1.here hx rfl (hb hby own_d_prog_97_method_4_code_10) rfl (flt (own_hi hp : ¬ ((14 : Int32) < p0))).2.2.1 k) ?_
  obtain ⟨T3, X3, e3, st3⟩ := getS2 X1 hx hZ hown (host := "") (Or.inl (hw _ (List.mem_of_getElem? (i := 5) rfl))) Via.refl e1 S_CODES (g := (mkF m 13 #[iv p0] [])) rfl (hb hby own_d_prog_97_method_4_code_13)
  refine own_go (T' := T3) (g' := (mkF m 16 #[iv p0] [(.ref aC)])) (st3) ?_
  refine own_go (T' := T3) (g' := (mkF m 17 #[iv p0] [(.int p0), (.ref aC)])) (fun t k => XS.iloadN X3.here hx rfl (hb hby own_d_prog_97_method_4_code_16) rfl k) ?_
  refine own_go (T' := T3) (g' := (mkF m 18 #[iv p0] [(.int (1 : Int32)), (.int p0), (.ref aC)])) (fun t k => XS.iconst X3.here hx rfl (hb hby own_d_prog_97_method_4_code_17) k) ?_
  refine own_go (T' := T3) (g' := (mkF m 19 #[iv p0] [(.int (p0 - (1 : Int32))), (.ref aC)])) (fun t k => XS.isub X3.here hx rfl (hb hby own_d_prog_97_method_4_code_18) rfl k) ?_
  obtain ⟨cl4, Ar4, -, Sz4, Nn4, Ha4, -⟩ := id V_CODES
  have hin4 : ¬ ((p0 - (1 : Int32)) < 0 ∨ cl4.slots.size ≤ ((p0 - (1 : Int32))).toNatClampNeg) := inb_of Sz4 (own_inb hp)
  have hat4 : cl4.slots[((p0 - (1 : Int32))).toNatClampNeg]? = some (.ref (own_pk g p0)) := Ha4.at hin4 (own_at g hp)
  refine own_go (T' := T3) (g' := (mkF m 20 #[iv p0] [(.ref (own_pk g p0))])) (fun t k => X3.aaload hx (j := (p0 - (1 : Int32))) (v := (.ref (own_pk g p0))) (by rw [e3]; exact Ar4.1) (State.isArrayOf_alike hZ.alike Ar4.2.1) rfl Ar4.2.2 hin4 hat4 (g := (mkF m 19 #[iv p0] [(.int (p0 - (1 : Int32))), (.ref aC)])) rfl rfl (hb hby own_d_prog_97_method_4_code_19) _ k) ?_
  refine own_go (T' := T3) (g' := (mkF m 24 #[iv p0] [(.ref (own_pk g p0))])) (fun t k => XS.goto X3.here hx rfl (pc0 := 20) (pc' := 24) rfl (hb hby own_d_prog_97_method_4_code_20) (by decide) (by decide) k) ?_
  exact own_ret X3 hlk hx Bd.returns rfl (Or.inr (Or.inr (Or.inr (Or.inr ⟨rfl, rfl, rfl⟩)))) (hb hby own_d_prog_97_method_4_code_24) ⟨rfl, rfl, e3⟩ (by decide) (by decide)

theorem own_d_prog_97_method_6_code_0 : decode prog_97_method_6_code 0 = .ok (.aload_n 0, 1) := by decide +kernel
theorem own_d_prog_97_method_6_code_1 : decode prog_97_method_6_code 1 = .ok (.getstatic 19, 3) := by decide +kernel
theorem own_d_prog_97_method_6_code_4 : decode prog_97_method_6_code 4 = .ok (.if_acmp .eq 17, 3) := by decide +kernel
theorem own_d_prog_97_method_6_code_7 : decode prog_97_method_6_code 7 = .ok (.aload_n 0, 1) := by decide +kernel
theorem own_d_prog_97_method_6_code_8 : decode prog_97_method_6_code 8 = .ok (.getstatic 25, 3) := by decide +kernel
theorem own_d_prog_97_method_6_code_11 : decode prog_97_method_6_code 11 = .ok (.if_acmp .eq 10, 3) := by decide +kernel
theorem own_d_prog_97_method_6_code_14 : decode prog_97_method_6_code 14 = .ok (.aload_n 0, 1) := by decide +kernel
theorem own_d_prog_97_method_6_code_15 : decode prog_97_method_6_code 15 = .ok (.getstatic 31, 3) := by decide +kernel
theorem own_d_prog_97_method_6_code_18 : decode prog_97_method_6_code 18 = .ok (.if_acmp .ne 7, 3) := by decide +kernel
theorem own_d_prog_97_method_6_code_21 : decode prog_97_method_6_code 21 = .ok (.iconst 2, 1) := by decide +kernel
theorem own_d_prog_97_method_6_code_22 : decode prog_97_method_6_code 22 = .ok (.goto 4, 3) := by decide +kernel
theorem own_d_prog_97_method_6_code_25 : decode prog_97_method_6_code 25 = .ok (.iconst 0, 1) := by decide +kernel
theorem own_d_prog_97_method_6_code_26 : decode prog_97_method_6_code 26 = .ok (.ireturn, 1) := by decide +kernel
def Q_own_rfl (o : Addr) (g : Nat → Addr) (h0 : Heap) (n0 : Nat) (v : Option Value) (h : Heap) (L : List Loc) : Prop := v = some (.int (own_fl g o)) ∧ L = [] ∧ h = h0
set_option maxRecDepth 65536 in
set_option maxHeartbeats 40000000 in
theorem own_rfl (l : Launch) (Z : State) (a0 : Array Value) (hw : ∀ d ∈ tables_1, d.before a0 Z = true) (ws : List Jvm.Cond) (o : Addr) (g : Nat → Addr) (h0 : Heap) (n0 : Nat) (Z0 : n0 ≤ h0.size) (S_PUBREL : Sta Z h0 "com/example/bridger/bridger/mqtt/PacketType" "PUBREL" "Lcom/example/bridger/bridger/mqtt/PacketType;" (.ref (g 5))) (S_SUBSCRIBE : Sta Z h0 "com/example/bridger/bridger/mqtt/PacketType" "SUBSCRIBE" "Lcom/example/bridger/bridger/mqtt/PacketType;" (.ref (g 7))) (S_UNSUBSCRIBE : Sta Z h0 "com/example/bridger/bridger/mqtt/PacketType" "UNSUBSCRIBE" "Lcom/example/bridger/bridger/mqtt/PacketType;" (.ref (g 9))) :
    MetFree l (⟨"com/example/bridger/bridger/mqtt/PacketType", "flags", "()I"⟩ : MethodName) (head1 (Jvm.Cond.code (⟨"com/example/bridger/bridger/mqtt/PacketType", "flags", "()I"⟩ : MethodName) prog_97_method_6_code 1 (some .int) :: ws) ({ frames := 0, cells := 0, slots := 0, locals := 0 } : Room)) (fun au Uu => au = #[(.ref o)] ∧ Z.Warmed39 Uu.vm ∧ Uu.heap = h0) (fun _ _ _ _ _ => True) (fun _ Uu ou Uw => ∃ vu Lu, ou = .returned vu ∧ Q_own_rfl o g h0 n0 vu Uw.heap Lu ∧ FrameEnd Uu ou Uw Lu ({ frames := 0, cells := 0, slots := 0, locals := 0 } : Room).cells ({ frames := 0, cells := 0, slots := 0, locals := 0 } : Room).slots) := by
  refine MetFree.of_bodySF (plainFor_of_name (by first | (simp [plainName, overriddenIn]; done) | decide +kernel)) hisR ?_
  intro p e s m args below meth c s₁ Bd hml0 hP hK
  obtain ⟨rfl, hZ, hh⟩ := hP
  have hx := Bd.exec
  have hby := Bd.bytes
  have hlk := Bd.notSynchronized
  have hml : c.maxLocals = 1 := hml0
  have hown : s.vm.findClass "com/example/bridger/bridger/mqtt/PacketType" = some m.cls := findClass_of_methodNamed Bd.named
  have hnm := (name_of_methodNamed Bd.named Bd.method).1
  have X0 : Stand p l e ({ frames := 0, cells := 0, slots := 0, locals := 0 } : Room) s m #[(.ref o)] below meth c s₁ [] 0 0 := Stand.of_body Bd
  have e0 : s₁.heap = h0 := by rw [← hh, Bd.state]; rfl
  have N0 := Fr.nil n0
  show own_Ends p e below s₁ (entryFrame m #[(.ref o)] 1) (fun ou Uw => ∃ vu Lu, ou = .returned vu ∧ Q_own_rfl o g h0 n0 vu Uw.heap Lu ∧ FrameEnd s ou Uw Lu ({ frames := 0, cells := 0, slots := 0, locals := 0 } : Room).cells ({ frames := 0, cells := 0, slots := 0, locals := 0 } : Room).slots)
  refine own_start (g' := (mkF m 0 #[rv o] [])) (by first | (simp [entryFrame, mkF, argsToLocals, Value.category, iv, rv]; done) | rfl) ?_
  refine own_go (T' := s₁) (g' := (mkF m 1 #[rv o] [(.ref o)])) (fun t k => XS.aloadN X0.here hx rfl (hb hby own_d_prog_97_method_6_code_0) rfl rfl k) ?_
  obtain ⟨T5, X5, e5, st5⟩ := getS2 X0 hx hZ hown (host := "") (Or.inl (hw _ (List.mem_of_getElem? (i := 13) rfl))) Via.refl e0 S_PUBREL (g := (mkF m 1 #[rv o] [(.ref o)])) rfl (hb hby own_d_prog_97_method_6_code_1)
  refine own_go (T' := T5) (g' := (mkF m 4 #[rv o] [(.ref (g 5)), (.ref o)])) (st5) ?_
  by_cases ha6 : ((.ref o) : Value) = (.ref (g 5))
  · refine own_go (T' := T5) (g' := (mkF m 21 #[rv o] [])) (fun t k => Jvm.RoadKit.acmp (g := (mkF m 4 #[rv o] [(.ref (g 5)), (.ref o)])) X5 hx rfl (x := (.ref o)) (y := (.ref (g 5))) rfl rfl (pc0 := 4) (pc' := 21) (same := true) rfl (hb hby own_d_prog_97_method_6_code_4) rfl (decide_eq_true ha6) (by decide) (by decide) k) ?_
    refine own_go (T' := T5) (g' := (mkF m 22 #[rv o] [(.int (2 : Int32))])) (fun t k => XS.iconst X5.here hx rfl (hb hby own_d_prog_97_method_6_code_21) k) ?_
    refine own_go (T' := T5) (g' := (mkF m 26 #[rv o] [(.int (2 : Int32))])) (fun t k => XS.goto X5.here hx rfl (pc0 := 22) (pc' := 26) rfl (hb hby own_d_prog_97_method_6_code_22) (by decide) (by decide) k) ?_
    exact own_ret X5 hlk hx Bd.returns rfl (Or.inl ⟨rfl, Or.inl rfl, _, rfl⟩) (hb hby own_d_prog_97_method_6_code_26) ⟨by simp only [Value.ref.injEq] at *; simp [own_fl, *], rfl, e5⟩ (by decide) (by decide)
  · refine own_go (T' := T5) (g' := (mkF m 7 #[rv o] [])) (fun t k => Jvm.RoadKit.acmp (g := (mkF m 4 #[rv o] [(.ref (g 5)), (.ref o)])) X5 hx rfl (x := (.ref o)) (y := (.ref (g 5))) rfl rfl (pc0 := 4) (pc' := 7) (same := false) rfl (hb hby own_d_prog_97_method_6_code_4) rfl (decide_eq_false ha6) (by decide) (by decide) k) ?_
    refine own_go (T' := T5) (g' := (mkF m 8 #[rv o] [(.ref o)])) (fun t k => XS.aloadN X5.here hx rfl (hb hby own_d_prog_97_method_6_code_7) rfl rfl k) ?_
    obtain ⟨T7, X7, e7, st7⟩ := getS2 X5 hx hZ hown (host := "") (Or.inl (hw _ (List.mem_of_getElem? (i := 15) rfl))) Via.refl e5 S_SUBSCRIBE (g := (mkF m 8 #[rv o] [(.ref o)])) rfl (hb hby own_d_prog_97_method_6_code_8)
    refine own_go (T' := T7) (g' := (mkF m 11 #[rv o] [(.ref (g 7)), (.ref o)])) (st7) ?_
    by_cases ha8 : ((.ref o) : Value) = (.ref (g 7))
    · refine own_go (T' := T7) (g' := (mkF m 21 #[rv o] [])) (fun t k => Jvm.RoadKit.acmp (g := (mkF m 11 #[rv o] [(.ref (g 7)), (.ref o)])) X7 hx rfl (x := (.ref o)) (y := (.ref (g 7))) rfl rfl (pc0 := 11) (pc' := 21) (same := true) rfl (hb hby own_d_prog_97_method_6_code_11) rfl (decide_eq_true ha8) (by decide) (by decide) k) ?_
      refine own_go (T' := T7) (g' := (mkF m 22 #[rv o] [(.int (2 : Int32))])) (fun t k => XS.iconst X7.here hx rfl (hb hby own_d_prog_97_method_6_code_21) k) ?_
      refine own_go (T' := T7) (g' := (mkF m 26 #[rv o] [(.int (2 : Int32))])) (fun t k => XS.goto X7.here hx rfl (pc0 := 22) (pc' := 26) rfl (hb hby own_d_prog_97_method_6_code_22) (by decide) (by decide) k) ?_
      exact own_ret X7 hlk hx Bd.returns rfl (Or.inl ⟨rfl, Or.inl rfl, _, rfl⟩) (hb hby own_d_prog_97_method_6_code_26) ⟨by simp only [Value.ref.injEq] at *; simp [own_fl, *], rfl, e7⟩ (by decide) (by decide)
    · refine own_go (T' := T7) (g' := (mkF m 14 #[rv o] [])) (fun t k => Jvm.RoadKit.acmp (g := (mkF m 11 #[rv o] [(.ref (g 7)), (.ref o)])) X7 hx rfl (x := (.ref o)) (y := (.ref (g 7))) rfl rfl (pc0 := 11) (pc' := 14) (same := false) rfl (hb hby own_d_prog_97_method_6_code_11) rfl (decide_eq_false ha8) (by decide) (by decide) k) ?_
      refine own_go (T' := T7) (g' := (mkF m 15 #[rv o] [(.ref o)])) (fun t k => XS.aloadN X7.here hx rfl (hb hby own_d_prog_97_method_6_code_14) rfl rfl k) ?_
      obtain ⟨T9, X9, e9, st9⟩ := getS2 X7 hx hZ hown (host := "") (Or.inl (hw _ (List.mem_of_getElem? (i := 17) rfl))) Via.refl e7 S_UNSUBSCRIBE (g := (mkF m 15 #[rv o] [(.ref o)])) rfl (hb hby own_d_prog_97_method_6_code_15)
      refine own_go (T' := T9) (g' := (mkF m 18 #[rv o] [(.ref (g 9)), (.ref o)])) (st9) ?_
      by_cases ha10 : ((.ref o) : Value) = (.ref (g 9))
      · refine own_go (T' := T9) (g' := (mkF m 21 #[rv o] [])) (fun t k => Jvm.RoadKit.acmp (g := (mkF m 18 #[rv o] [(.ref (g 9)), (.ref o)])) X9 hx rfl (x := (.ref o)) (y := (.ref (g 9))) rfl rfl (pc0 := 18) (pc' := 21) (same := true) rfl (hb hby own_d_prog_97_method_6_code_18) rfl (decide_eq_true ha10) (by decide) (by decide) k) ?_
        refine own_go (T' := T9) (g' := (mkF m 22 #[rv o] [(.int (2 : Int32))])) (fun t k => XS.iconst X9.here hx rfl (hb hby own_d_prog_97_method_6_code_21) k) ?_
        refine own_go (T' := T9) (g' := (mkF m 26 #[rv o] [(.int (2 : Int32))])) (fun t k => XS.goto X9.here hx rfl (pc0 := 22) (pc' := 26) rfl (hb hby own_d_prog_97_method_6_code_22) (by decide) (by decide) k) ?_
        exact own_ret X9 hlk hx Bd.returns rfl (Or.inl ⟨rfl, Or.inl rfl, _, rfl⟩) (hb hby own_d_prog_97_method_6_code_26) ⟨by simp only [Value.ref.injEq] at *; simp [own_fl, *], rfl, e9⟩ (by decide) (by decide)
      · refine own_go (T' := T9) (g' := (mkF m 25 #[rv o] [])) (fun t k => Jvm.RoadKit.acmp (g := (mkF m 18 #[rv o] [(.ref (g 9)), (.ref o)])) X9 hx rfl (x := (.ref o)) (y := (.ref (g 9))) rfl rfl (pc0 := 18) (pc' := 25) (same := false) rfl (hb hby own_d_prog_97_method_6_code_18) rfl (decide_eq_false ha10) (by decide) (by decide) k) ?_
        refine own_go (T' := T9) (g' := (mkF m 26 #[rv o] [(.int (0 : Int32))])) (fun t k => XS.iconst X9.here hx rfl (hb hby own_d_prog_97_method_6_code_25) k) ?_
        exact own_ret X9 hlk hx Bd.returns rfl (Or.inl ⟨rfl, Or.inl rfl, _, rfl⟩) (hb hby own_d_prog_97_method_6_code_26) ⟨by simp only [Value.ref.injEq] at *; simp [own_fl, *], rfl, e9⟩ (by decide) (by decide)

theorem own_d_jdk_37_method_2_code_0 : decode jdk_37_method_2_code 0 = .ok (.aload_n 0, 1) := by decide +kernel
theorem own_d_jdk_37_method_2_code_1 : decode jdk_37_method_2_code 1 = .ok (.getfield 7, 3) := by decide +kernel
theorem own_d_jdk_37_method_2_code_4 : decode jdk_37_method_2_code 4 = .ok (.ireturn, 1) := by decide +kernel
def Q_own_rord (o : Addr) (od : Int32) (h0 : Heap) (n0 : Nat) (v : Option Value) (h : Heap) (L : List Loc) : Prop := v = some (.int od) ∧ L = [] ∧ h = h0
set_option maxRecDepth 65536 in
set_option maxHeartbeats 40000000 in
theorem own_rord (l : Launch) (Z : State) (a0 : Array Value) (hw : ∀ d ∈ tables_1, d.before a0 Z = true) (ws : List Jvm.Cond) (o : Addr) (od : Int32) (h0 : Heap) (n0 : Nat) (Z0 : n0 ≤ h0.size) (F_ord : Fld Z h0 o "java/lang/Enum" "ordinal" "I" (.int od)) :
    MetFree l (⟨"java/lang/Enum", "ordinal", "()I"⟩ : MethodName) (head1 (Jvm.Cond.code (⟨"java/lang/Enum", "ordinal", "()I"⟩ : MethodName) jdk_37_method_2_code 1 (some .int) :: ws) ({ frames := 0, cells := 0, slots := 0, locals := 0 } : Room)) (fun au Uu => au = #[(.ref o)] ∧ Z.Warmed39 Uu.vm ∧ Uu.heap = h0) (fun _ _ _ _ _ => True) (fun _ Uu ou Uw => ∃ vu Lu, ou = .returned vu ∧ Q_own_rord o od h0 n0 vu Uw.heap Lu ∧ FrameEnd Uu ou Uw Lu ({ frames := 0, cells := 0, slots := 0, locals := 0 } : Room).cells ({ frames := 0, cells := 0, slots := 0, locals := 0 } : Room).slots) := by
  refine MetFree.of_bodySF (plainFor_of_name (by first | (simp [plainName, overriddenIn]; done) | decide +kernel)) hisR ?_
  intro p e s m args below meth c s₁ Bd hml0 hP hK
  obtain ⟨rfl, hZ, hh⟩ := hP
  have hx := Bd.exec
  have hby := Bd.bytes
  have hlk := Bd.notSynchronized
  have hml : c.maxLocals = 1 := hml0
  have hown : s.vm.findClass "java/lang/Enum" = some m.cls := findClass_of_methodNamed Bd.named
  have hnm := (name_of_methodNamed Bd.named Bd.method).1
  have X0 : Stand p l e ({ frames := 0, cells := 0, slots := 0, locals := 0 } : Room) s m #[(.ref o)] below meth c s₁ [] 0 0 := Stand.of_body Bd
  have e0 : s₁.heap = h0 := by rw [← hh, Bd.state]; rfl
  have N0 := Fr.nil n0
  show own_Ends p e below s₁ (entryFrame m #[(.ref o)] 1) (fun ou Uw => ∃ vu Lu, ou = .returned vu ∧ Q_own_rord o od h0 n0 vu Uw.heap Lu ∧ FrameEnd s ou Uw Lu ({ frames := 0, cells := 0, slots := 0, locals := 0 } : Room).cells ({ frames := 0, cells := 0, slots := 0, locals := 0 } : Room).slots)
  refine own_start (g' := (mkF m 0 #[rv o] [])) (by first | (simp [entryFrame, mkF, argsToLocals, Value.category, iv, rv]; done) | rfl) ?_
  refine own_go (T' := s₁) (g' := (mkF m 1 #[rv o] [(.ref o)])) (fun t k => XS.aloadN X0.here hx rfl (hb hby own_d_jdk_37_method_2_code_0) rfl rfl k) ?_
  obtain ⟨T11, X11, e11, st11⟩ := getF X0 hx hZ hown (host := "") (Or.inl (hw _ (List.mem_of_getElem? (i := 31) rfl))) Via.refl e0 F_ord (g := (mkF m 1 #[rv o] [(.ref o)])) rfl rfl (hb hby own_d_jdk_37_method_2_code_1)
  refine own_go (T' := T11) (g' := (mkF m 4 #[rv o] [(.int od)])) (st11) ?_
  exact own_ret X11 hlk hx Bd.returns rfl (Or.inl ⟨rfl, Or.inl rfl, _, rfl⟩) (hb hby own_d_jdk_37_method_2_code_4) ⟨rfl, rfl, e11⟩ (by decide) (by decide)

theorem own_pd0 : parseMethodDescriptor "()I" = some ⟨[], some .int⟩ := by decide +kernel
theorem own_d_prog_97_method_5_code_0 : decode prog_97_method_5_code 0 = .ok (.aload_n 0, 1) := by decide +kernel
theorem own_d_prog_97_method_5_code_1 : decode prog_97_method_5_code 1 = .ok (.invokevirtual 68, 3) := by decide +kernel
theorem own_d_prog_97_method_5_code_4 : decode prog_97_method_5_code 4 = .ok (.iconst 1, 1) := by decide +kernel
theorem own_d_prog_97_method_5_code_5 : decode prog_97_method_5_code 5 = .ok (.iadd, 1) := by decide +kernel
theorem own_d_prog_97_method_5_code_6 : decode prog_97_method_5_code 6 = .ok (.ireturn, 1) := by decide +kernel
def Q_own_rcode (o : Addr) (od : Int32) (h0 : Heap) (n0 : Nat) (v : Option Value) (h : Heap) (L : List Loc) : Prop := v = some (.int (od + 1)) ∧ L = [] ∧ h = h0
set_option maxRecDepth 65536 in
set_option maxHeartbeats 40000000 in
theorem own_rcode (l : Launch) (Z : State) (a0 : Array Value) (hw : ∀ d ∈ tables_1, d.before a0 Z = true) (ws : List Jvm.Cond) (o : Addr) (od : Int32) (h0 : Heap) (n0 : Nat) (Z0 : n0 ≤ h0.size) (F_ord : Fld Z h0 o "java/lang/Enum" "ordinal" "I" (.int od)) (E_o : Exa Z h0 o "com/example/bridger/bridger/mqtt/PacketType") :
    MetFree l (⟨"com/example/bridger/bridger/mqtt/PacketType", "code", "()I"⟩ : MethodName) (head1 (Jvm.Cond.code (⟨"com/example/bridger/bridger/mqtt/PacketType", "code", "()I"⟩ : MethodName) prog_97_method_5_code 1 (some .int) :: ws) ({ frames := 1, cells := 0, slots := 0, locals := 12 } : Room)) (fun au Uu => au = #[(.ref o)] ∧ Z.Warmed39 Uu.vm ∧ Uu.heap = h0) (fun _ _ _ _ _ => True) (fun _ Uu ou Uw => ∃ vu Lu, ou = .returned vu ∧ Q_own_rcode o od h0 n0 vu Uw.heap Lu ∧ FrameEnd Uu ou Uw Lu ({ frames := 1, cells := 0, slots := 0, locals := 12 } : Room).cells ({ frames := 1, cells := 0, slots := 0, locals := 12 } : Room).slots) := by
  refine MetFree.of_bodySF (plainFor_of_name (by first | (simp [plainName, overriddenIn]; done) | decide +kernel)) hisR ?_
  intro p e s m args below meth c s₁ Bd hml0 hP hK
  obtain ⟨rfl, hZ, hh⟩ := hP
  have hx := Bd.exec
  have hby := Bd.bytes
  have hlk := Bd.notSynchronized
  have hml : c.maxLocals = 1 := hml0
  have hown : s.vm.findClass "com/example/bridger/bridger/mqtt/PacketType" = some m.cls := findClass_of_methodNamed Bd.named
  have hnm := (name_of_methodNamed Bd.named Bd.method).1
  have X0 : Stand p l e ({ frames := 1, cells := 0, slots := 0, locals := 12 } : Room) s m #[(.ref o)] below meth c s₁ [] 0 0 := Stand.of_body Bd
  have e0 : s₁.heap = h0 := by rw [← hh, Bd.state]; rfl
  have N0 := Fr.nil n0
  show own_Ends p e below s₁ (entryFrame m #[(.ref o)] 1) (fun ou Uw => ∃ vu Lu, ou = .returned vu ∧ Q_own_rcode o od h0 n0 vu Uw.heap Lu ∧ FrameEnd s ou Uw Lu ({ frames := 1, cells := 0, slots := 0, locals := 12 } : Room).cells ({ frames := 1, cells := 0, slots := 0, locals := 12 } : Room).slots)
  refine own_start (g' := (mkF m 0 #[rv o] [])) (by first | (simp [entryFrame, mkF, argsToLocals, Value.category, iv, rv]; done) | rfl) ?_
  refine own_go (T' := s₁) (g' := (mkF m 1 #[rv o] [(.ref o)])) (fun t k => XS.aloadN X0.here hx rfl (hb hby own_d_prog_97_method_5_code_0) rfl rfl k) ?_
  obtain ⟨cq12, kq12, q12a, q12b, q12c⟩ := isOf hZ e0 E_o
  obtain ⟨_, _, ⟨T12, L12, k12, n12⟩, -, X12, ⟨Lc12, hQ12, l12, y12, z12⟩, st12⟩ := X0.virtualBackUp hx (x := (⟨"com/example/bridger/bridger/mqtt/PacketType", "ordinal", "()I"⟩ : MethodName)) (y := (⟨"java/lang/Enum", "ordinal", "()I"⟩ : MethodName)) hown (mvT hZ (hw _ (List.mem_of_getElem? (i := 24) rfl))) (mvT hZ (hw _ (List.mem_of_getElem? (i := 25) rfl))) (mvT hZ (hw _ (List.mem_of_getElem? (i := 26) rfl))) (by decide) (mvT hZ (hw _ (List.mem_of_getElem? (i := 28) rfl))) (mvT hZ (hw _ (List.mem_of_getElem? (i := 27) rfl))) (backOf (W := 0) (own_rord l Z a0 hw [] o od h0 n0 Z0 F_ord) hZ (hw _ (List.mem_of_getElem? (i := 30) rfl)) (hw _ (List.mem_of_getElem? (i := 29) rfl)) (by decide) (by decide)) q12a q12c (g := (mkF m 1 #[rv o] [(.ref o)])) rfl (by rw [hml]; rfl) (Steps.refl _) (argsL := []) (rest := []) (lenOf own_pd0 rfl) rfl (by show 2 * 0 + _ ≤ _; exact Nat.le_of_eq rfl) (hb hby own_d_prog_97_method_5_code_1) (fun _ _ => ⟨rfl, e0, (by decide : 0 + 0 ≤ _), (by decide : 0 + 0 ≤ _)⟩)
  dsimp only [Pt.U, Pt.locs, Pt.cells, Pt.slots] at X12 l12 y12 z12 st12 hQ12
  subst l12 y12 z12
  obtain ⟨rfl, rfl, e12⟩ := hQ12
  have E12q : T12.heap = h0 := e12
  have N12 := Fr.app N0 (Fr.nil n0)
  refine own_go (T' := T12) (g' := (mkF m 4 #[rv o] [(.int od)])) (fun t k => st12.trans k) ?_
  refine own_go (T' := T12) (g' := (mkF m 5 #[rv o] [(.int (1 : Int32)), (.int od)])) (fun t k => XS.iconst X12.here hx rfl (hb hby own_d_prog_97_method_5_code_4) k) ?_
  refine own_go (T' := T12) (g' := (mkF m 6 #[rv o] [(.int (od + (1 : Int32)))])) (fun t k => XS.iadd X12.here hx rfl (hb hby own_d_prog_97_method_5_code_5) rfl k) ?_
  exact own_ret X12 hlk hx Bd.returns rfl (Or.inl ⟨rfl, Or.inl rfl, _, rfl⟩) (hb hby own_d_prog_97_method_5_code_6) ⟨rfl, rfl, E12q⟩ (by decide) (by decide)

theorem own_d_method_2_code_0 : decode method_2_code 0 = .ok (.iload_n 0, 1) := by decide +kernel
theorem own_d_method_2_code_1 : decode method_2_code 1 = .ok (.bipush 6, 2) := by decide +kernel
theorem own_d_method_2_code_3 : decode method_2_code 3 = .ok (.if_icmp .ne 5, 3) := by decide +kernel
theorem own_d_method_2_code_6 : decode method_2_code 6 = .ok (.iconst 2, 1) := by decide +kernel
theorem own_d_method_2_code_7 : decode method_2_code 7 = .ok (.ireturn, 1) := by decide +kernel
theorem own_d_method_2_code_8 : decode method_2_code 8 = .ok (.iload_n 0, 1) := by decide +kernel
theorem own_d_method_2_code_9 : decode method_2_code 9 = .ok (.bipush 8, 2) := by decide +kernel
theorem own_d_method_2_code_11 : decode method_2_code 11 = .ok (.if_icmp .ne 5, 3) := by decide +kernel
theorem own_d_method_2_code_14 : decode method_2_code 14 = .ok (.iconst 2, 1) := by decide +kernel
theorem own_d_method_2_code_15 : decode method_2_code 15 = .ok (.ireturn, 1) := by decide +kernel
theorem own_d_method_2_code_16 : decode method_2_code 16 = .ok (.iload_n 0, 1) := by decide +kernel
theorem own_d_method_2_code_17 : decode method_2_code 17 = .ok (.bipush 10, 2) := by decide +kernel
theorem own_d_method_2_code_19 : decode method_2_code 19 = .ok (.if_icmp .ne 5, 3) := by decide +kernel
theorem own_d_method_2_code_22 : decode method_2_code 22 = .ok (.iconst 2, 1) := by decide +kernel
theorem own_d_method_2_code_23 : decode method_2_code 23 = .ok (.ireturn, 1) := by decide +kernel
theorem own_d_method_2_code_24 : decode method_2_code 24 = .ok (.iconst 0, 1) := by decide +kernel
theorem own_d_method_2_code_25 : decode method_2_code 25 = .ok (.ireturn, 1) := by decide +kernel
def Q_own_ref (p0 : Int32) (h0 : Heap) (n0 : Nat) (v : Option Value) (h : Heap) (L : List Loc) : Prop := v = some (.int (own_ef p0)) ∧ L = [] ∧ h = h0
set_option maxRecDepth 65536 in
set_option maxHeartbeats 40000000 in
theorem own_ref (l : Launch) (Z : State) (a0 : Array Value) (hw : ∀ d ∈ tables_1, d.before a0 Z = true) (ws : List Jvm.Cond) (p0 : Int32) (h0 : Heap) (n0 : Nat) (Z0 : n0 ≤ h0.size)  :
    MetFree l (⟨"com/example/bridger/bridger/mqtt/PacketTypeFlagsPinLaw", "expectedFlags", "(I)I"⟩ : MethodName) (head1 (Jvm.Cond.code (⟨"com/example/bridger/bridger/mqtt/PacketTypeFlagsPinLaw", "expectedFlags", "(I)I"⟩ : MethodName) method_2_code 1 (some .int) :: ws) ({ frames := 0, cells := 0, slots := 0, locals := 0 } : Room)) (fun au Uu => au = #[(.int p0)] ∧ Z.Warmed39 Uu.vm ∧ Uu.heap = h0) (fun _ _ _ _ _ => True) (fun _ Uu ou Uw => ∃ vu Lu, ou = .returned vu ∧ Q_own_ref p0 h0 n0 vu Uw.heap Lu ∧ FrameEnd Uu ou Uw Lu ({ frames := 0, cells := 0, slots := 0, locals := 0 } : Room).cells ({ frames := 0, cells := 0, slots := 0, locals := 0 } : Room).slots) := by
  refine MetFree.of_bodySF (plainFor_of_name (by first | (simp [plainName, overriddenIn]; done) | decide +kernel)) hisR ?_
  intro p e s m args below meth c s₁ Bd hml0 hP hK
  obtain ⟨rfl, hZ, hh⟩ := hP
  have hx := Bd.exec
  have hby := Bd.bytes
  have hlk := Bd.notSynchronized
  have hml : c.maxLocals = 1 := hml0
  have hown : s.vm.findClass "com/example/bridger/bridger/mqtt/PacketTypeFlagsPinLaw" = some m.cls := findClass_of_methodNamed Bd.named
  have hnm := (name_of_methodNamed Bd.named Bd.method).1
  have X0 : Stand p l e ({ frames := 0, cells := 0, slots := 0, locals := 0 } : Room) s m #[(.int p0)] below meth c s₁ [] 0 0 := Stand.of_body Bd
  have e0 : s₁.heap = h0 := by rw [← hh, Bd.state]; rfl
  have N0 := Fr.nil n0
  show own_Ends p e below s₁ (entryFrame m #[(.int p0)] 1) (fun ou Uw => ∃ vu Lu, ou = .returned vu ∧ Q_own_ref p0 h0 n0 vu Uw.heap Lu ∧ FrameEnd s ou Uw Lu ({ frames := 0, cells := 0, slots := 0, locals := 0 } : Room).cells ({ frames := 0, cells := 0, slots := 0, locals := 0 } : Room).slots)
  refine own_start (g' := (mkF m 0 #[iv p0] [])) (by first | (simp [entryFrame, mkF, argsToLocals, Value.category, iv, rv]; done) | rfl) ?_
  refine own_go (T' := s₁) (g' := (mkF m 1 #[iv p0] [(.int p0)])) (fun t k => XS.iloadN X0.here hx rfl (hb hby own_d_method_2_code_0) rfl k) ?_
  refine own_go (T' := s₁) (g' := (mkF m 3 #[iv p0] [(.int (6 : Int32)), (.int p0)])) (fun t k => XS.bipush X0.here hx rfl (hb hby own_d_method_2_code_1) k) ?_
  by_cases hc13 : p0 = (6 : Int32)
  · refine own_go (T' := s₁) (g' := (mkF m 6 #[iv p0] [])) (fun t k => XS.icmpNo X0.here hx rfl (hb hby own_d_method_2_code_3) rfl (teq hc13).2 k) ?_
    refine own_go (T' := s₁) (g' := (mkF m 7 #[iv p0] [(.int (2 : Int32))])) (fun t k => XS.iconst X0.here hx rfl (hb hby own_d_method_2_code_6) k) ?_
    exact own_ret X0 hlk hx Bd.returns rfl (Or.inl ⟨rfl, Or.inl rfl, _, rfl⟩) (hb hby own_d_method_2_code_7) ⟨by simp [own_ef, hc13], rfl, e0⟩ (by decide) (by decide)
  · refine own_go (T' := s₁) (g' := (mkF m 8 #[iv p0] [])) (fun t k => XS.icmpYes X0.here hx rfl (pc0 := 3) (pc' := 8) rfl (hb hby own_d_method_2_code_3) rfl (feq hc13).2 (by decide) (by decide) k) ?_
    refine own_go (T' := s₁) (g' := (mkF m 9 #[iv p0] [(.int p0)])) (fun t k => XS.iloadN X0.here hx rfl (hb hby own_d_method_2_code_8) rfl k) ?_
    refine own_go (T' := s₁) (g' := (mkF m 11 #[iv p0] [(.int (8 : Int32)), (.int p0)])) (fun t k => XS.bipush X0.here hx rfl (hb hby own_d_method_2_code_9) k) ?_
    by_cases hc14 : p0 = (8 : Int32)
    · refine own_go (T' := s₁) (g' := (mkF m 14 #[iv p0] [])) (fun t k => XS.icmpNo X0.here hx rfl (hb hby own_d_method_2_code_11) rfl (teq hc14).2 k) ?_
      refine own_go (T' := s₁) (g' := (mkF m 15 #[iv p0] [(.int (2 : Int32))])) (fun t k => XS.iconst X0.here hx rfl (hb hby own_d_method_2_code_14) k) ?_
      exact own_ret X0 hlk hx Bd.returns rfl (Or.inl ⟨rfl, Or.inl rfl, _, rfl⟩) (hb hby own_d_method_2_code_15) ⟨by simp [own_ef, hc13, hc14], rfl, e0⟩ (by decide) (by decide)
    · refine own_go (T' := s₁) (g' := (mkF m 16 #[iv p0] [])) (fun t k => XS.icmpYes X0.here hx rfl (pc0 := 11) (pc' := 16) rfl (hb hby own_d_method_2_code_11) rfl (feq hc14).2 (by decide) (by decide) k) ?_
      refine own_go (T' := s₁) (g' := (mkF m 17 #[iv p0] [(.int p0)])) (fun t k => XS.iloadN X0.here hx rfl (hb hby own_d_method_2_code_16) rfl k) ?_
      refine own_go (T' := s₁) (g' := (mkF m 19 #[iv p0] [(.int (10 : Int32)), (.int p0)])) (fun t k => XS.bipush X0.here hx rfl (hb hby own_d_method_2_code_17) k) ?_
      by_cases hc15 : p0 = (10 : Int32)
      · refine own_go (T' := s₁) (g' := (mkF m 22 #[iv p0] [])) (fun t k => XS.icmpNo X0.here hx rfl (hb hby own_d_method_2_code_19) rfl (teq hc15).2 k) ?_
        refine own_go (T' := s₁) (g' := (mkF m 23 #[iv p0] [(.int (2 : Int32))])) (fun t k => XS.iconst X0.here hx rfl (hb hby own_d_method_2_code_22) k) ?_
        exact own_ret X0 hlk hx Bd.returns rfl (Or.inl ⟨rfl, Or.inl rfl, _, rfl⟩) (hb hby own_d_method_2_code_23) ⟨by simp [own_ef, hc13, hc14, hc15], rfl, e0⟩ (by decide) (by decide)
      · refine own_go (T' := s₁) (g' := (mkF m 24 #[iv p0] [])) (fun t k => XS.icmpYes X0.here hx rfl (pc0 := 19) (pc' := 24) rfl (hb hby own_d_method_2_code_19) rfl (feq hc15).2 (by decide) (by decide) k) ?_
        refine own_go (T' := s₁) (g' := (mkF m 25 #[iv p0] [(.int (0 : Int32))])) (fun t k => XS.iconst X0.here hx rfl (hb hby own_d_method_2_code_24) k) ?_
        exact own_ret X0 hlk hx Bd.returns rfl (Or.inl ⟨rfl, Or.inl rfl, _, rfl⟩) (hb hby own_d_method_2_code_25) ⟨by simp [own_ef, hc13, hc14, hc15], rfl, e0⟩ (by decide) (by decide)

theorem own_pd2 : parseMethodDescriptor "(I)I" = some ⟨[.int], some .int⟩ := by decide +kernel
theorem own_pd1 : parseMethodDescriptor "(I)Lcom/example/bridger/bridger/mqtt/PacketType;" = some ⟨[.int], some (.object "com/example/bridger/bridger/mqtt/PacketType")⟩ := by decide +kernel
def Q_own_law (h0 : Heap) (n0 : Nat) (v : Option Value) (h : Heap) (L : List Loc) : Prop := v = some (.int 1) ∧ Fr n0 L
set_option maxRecDepth 65536 in
set_option maxHeartbeats 40000000 in
theorem own_law (l : Launch) (Z : State) (a0 : Array Value) (hw : ∀ d ∈ tables_1, d.before a0 Z = true) (ws : List Jvm.Cond) (x0 : Int32) (g : Nat → Addr) (aC : Addr) (kC : ClassId) (h0 : Heap) (n0 : Nat) (Z0 : n0 ≤ h0.size) (S_PUBREL : Sta Z h0 "com/example/bridger/bridger/mqtt/PacketType" "PUBREL" "Lcom/example/bridger/bridger/mqtt/PacketType;" (.ref (g 5))) (S_SUBSCRIBE : Sta Z h0 "com/example/bridger/bridger/mqtt/PacketType" "SUBSCRIBE" "Lcom/example/bridger/bridger/mqtt/PacketType;" (.ref (g 7))) (S_UNSUBSCRIBE : Sta Z h0 "com/example/bridger/bridger/mqtt/PacketType" "UNSUBSCRIBE" "Lcom/example/bridger/bridger/mqtt/PacketType;" (.ref (g 9))) (S_CODES : Sta Z h0 "com/example/bridger/bridger/mqtt/PacketType" "CODES" "[Lcom/example/bridger/bridger/mqtt/PacketType;" (.ref aC)) (V_CODES : Arv Z h0 aC kC (.object "com/example/bridger/bridger/mqtt/PacketType") (14 : Int32) [.ref (g 0), .ref (g 1), .ref (g 2), .ref (g 3), .ref (g 4), .ref (g 5), .ref (g 6), .ref (g 7), .ref (g 8), .ref (g 9), .ref (g 10), .ref (g 11), .ref (g 12), .ref (g 13)] .null) (HE : ∀ i, i < 14 → Exa Z h0 (g i) "com/example/bridger/bridger/mqtt/PacketType") (HO : ∀ i, i < 14 → Fld Z h0 (g i) "java/lang/Enum" "ordinal" "I" (.int (Int32.ofNat i))) (hg : own_Inj g) :
    MetFree l x (head1 (Jvm.Cond.code x code maxLocals ret :: ws) room_1) (fun au Uu => au = #[(.int x0)] ∧ Z.Warmed39 Uu.vm ∧ Uu.heap = h0) (fun _ _ _ _ _ => True) (fun _ Uu ou Uw => ∃ vu Lu, ou = .returned vu ∧ Q_own_law h0 n0 vu Uw.heap Lu ∧ FrameEnd Uu ou Uw Lu 0 0) := by
  refine MetFree.of_bodySF (plainFor_of_name (by first | (simp [plainName, overriddenIn]; done) | decide +kernel)) hisR ?_
  intro p e s m args below meth c s₁ Bd hml0 hP hK
  obtain ⟨rfl, hZ, hh⟩ := hP
  have hx := Bd.exec
  have hby := Bd.bytes
  have hlk := Bd.notSynchronized
  have hml : c.maxLocals = 4 := hml0
  have hown : s.vm.findClass "com/example/bridger/bridger/mqtt/PacketTypeFlagsPinLaw" = some m.cls := findClass_of_methodNamed Bd.named
  have hnm := (name_of_methodNamed Bd.named Bd.method).1
  have X0 : Stand p l e room_1 s m #[(.int x0)] below meth c s₁ [] 0 0 := Stand.of_body Bd
  have e0 : s₁.heap = h0 := by rw [← hh, Bd.state]; rfl
  have N0 := Fr.nil n0
  show own_Ends p e below s₁ (entryFrame m #[(.int x0)] maxLocals) (fun ou Uw => ∃ vu Lu, ou = .returned vu ∧ Q_own_law h0 n0 vu Uw.heap Lu ∧ FrameEnd s ou Uw Lu 0 0)
  refine own_start (g' := (mkF m 0 #[iv x0, .unset, .unset, .unset] [])) (by first | (simp [entryFrame, mkF, argsToLocals, Value.category, iv, rv, maxLocals]; done) | rfl) ?_
  refine own_go (T' := s₁) (g' := (mkF m 1 #[iv x0, .unset, .unset, .unset] [(.int (1 : Int32))])) (fun t k => XS.iconst X0.here hx rfl (hb hby at_0) k) ?_
  refine own_go (T' := s₁) (g' := (mkF m 2 #[iv x0, .unset, .unset, .unset] [(.int x0), (.int (1 : Int32))])) (fun t k => XS.iloadN X0.here hx rfl (hb hby at_1) rfl k) ?_
  refine own_go (T' := s₁) (g' := (mkF m 4 #[iv x0, .unset, .unset, .unset] [(.int (2147483647 : Int32)), (.int x0), (.int (1 : Int32))])) (fun t k => X0.ldcInt hx hown (mvT hZ (hw _ (List.mem_of_getElem? (i := 0) rfl))) (g := (mkF m 2 #[iv x0, .unset, .unset, .unset] [(.int x0), (.int (1 : Int32))])) rfl (hb hby at_2) _ k) ?_
  refine own_go (T' := s₁) (g' := (mkF m 5 #[iv x0, .unset, .unset, .unset] [(.int (x0 &&& (2147483647 : Int32))), (.int (1 : Int32))])) (fun t k => XS.iand X0.here hx rfl (hb hby at_4) rfl k) ?_
  refine own_go (T' := s₁) (g' := (mkF m 7 #[iv x0, .unset, .unset, .unset] [(.int (14 : Int32)), (.int (x0 &&& (2147483647 : Int32))), (.int (1 : Int32))])) (fun t k => XS.bipush X0.here hx rfl (hb hby at_5) k) ?_
  refine own_go (T' := s₁) (g' := (mkF m 8 #[iv x0, .unset, .unset, .unset] [(.int ((x0 &&& (2147483647 : Int32)) % (14 : Int32))), (.int (1 : Int32))])) (fun t k => Jvm.RoadKit.iremM X0 hx rfl (hb hby at_7) rfl (by decide) k) ?_
  refine own_go (T' := s₁) (g' := (mkF m 9 #[iv x0, .unset, .unset, .unset] [(.int ((1 : Int32) + ((x0 &&& (2147483647 : Int32)) % (14 : Int32))))])) (fun t k => XS.iadd X0.here hx rfl (hb hby at_8) rfl k) ?_
  refine own_go (T' := s₁) (g' := (mkF m 10 #[iv x0, iv ((1 : Int32) + ((x0 &&& (2147483647 : Int32)) % (14 : Int32))), .unset, .unset] [])) (fun t k => XS.istoreN X0.here hx rfl (hb hby at_9) rfl (l' := #[iv x0, iv ((1 : Int32) + ((x0 &&& (2147483647 : Int32)) % (14 : Int32))), .unset, .unset]) rfl k) ?_
  refine own_go (T' := s₁) (g' := (mkF m 11 #[iv x0, iv ((1 : Int32) + ((x0 &&& (2147483647 : Int32)) % (14 : Int32))), .unset, .unset] [(.int ((1 : Int32) + ((x0 &&& (2147483647 : Int32)) % (14 : Int32))))])) (fun t k => XS.iloadN X0.here hx rfl (hb hby at_10) rfl k) ?_
  obtain ⟨_, _, ⟨T16, L16, k16, n16⟩, -, X16, ⟨Lc16, hQ16, l16, y16, z16⟩, st16⟩ := Jvm.LawKit.callS X0 hx (y := (⟨"com/example/bridger/bridger/mqtt/PacketType", "of", "(I)Lcom/example/bridger/bridger/mqtt/PacketType;"⟩ : MethodName)) hown (mvT hZ (hw _ (List.mem_of_getElem? (i := 1) rfl))) (mvT hZ (hw _ (List.mem_of_getElem? (i := 2) rfl))) (mvT hZ (hw _ (List.mem_of_getElem? (i := 3) rfl))) (mvT hZ (hw _ (List.mem_of_getElem? (i := 4) rfl))) (by decide) (backOf (W := 0) (own_rof l Z a0 hw [] ((1 : Int32) + ((x0 &&& (2147483647 : Int32)) % (14 : Int32))) g aC kC h0 n0 Z0 S_CODES V_CODES (own_14 x0)) hZ (hw _ (List.mem_of_getElem? (i := 4) rfl)) (hw _ (List.mem_of_getElem? (i := 3) rfl)) (by decide) (by decide)) (g := (mkF m 11 #[iv x0, iv ((1 : Int32) + ((x0 &&& (2147483647 : Int32)) % (14 : Int32))), .unset, .unset] [(.int ((1 : Int32) + ((x0 &&& (2147483647 : Int32)) % (14 : Int32))))])) rfl (by rw [hml]; rfl) (argsL := [(.int ((1 : Int32) + ((x0 &&& (2147483647 : Int32)) % (14 : Int32))))]) (rest := []) (lenOf own_pd1 rfl) rfl (by show 2 * 0 + _ ≤ _; exact Nat.le_of_eq rfl) (hb hby at_11) (fun _ _ => ⟨rfl, e0, (by decide : 0 + 0 ≤ _), (by decide : 0 + 0 ≤ _)⟩)
  dsimp only [Pt.U, Pt.locs, Pt.cells, Pt.slots] at X16 l16 y16 z16 st16 hQ16
  subst l16 y16 z16
  obtain ⟨rfl, rfl, e16⟩ := hQ16
  have E16q : T16.heap = h0 := e16
  have N16 := Fr.app N0 (Fr.nil n0)
  refine own_go (T' := T16) (g' := (mkF m 14 #[iv x0, iv ((1 : Int32) + ((x0 &&& (2147483647 : Int32)) % (14 : Int32))), .unset, .unset] [(.ref (own_pk g ((1 : Int32) + ((x0 &&& (2147483647 : Int32)) % (14 : Int32)))))])) (st16) ?_
  refine own_go (T' := T16) (g' := (mkF m 15 #[iv x0, iv ((1 : Int32) + ((x0 &&& (2147483647 : Int32)) % (14 : Int32))), rv (own_pk g ((1 : Int32) + ((x0 &&& (2147483647 : Int32)) % (14 : Int32)))), .unset] [])) (fun t k => XS.astoreN X16.here hx rfl (hb hby at_14) rfl rfl (l' := #[iv x0, iv ((1 : Int32) + ((x0 &&& (2147483647 : Int32)) % (14 : Int32))), rv (own_pk g ((1 : Int32) + ((x0 &&& (2147483647 : Int32)) % (14 : Int32)))), .unset]) rfl k) ?_
  refine own_go (T' := T16) (g' := (mkF m 16 #[iv x0, iv ((1 : Int32) + ((x0 &&& (2147483647 : Int32)) % (14 : Int32))), rv (own_pk g ((1 : Int32) + ((x0 &&& (2147483647 : Int32)) % (14 : Int32)))), .unset] [(.ref (own_pk g ((1 : Int32) + ((x0 &&& (2147483647 : Int32)) % (14 : Int32)))))])) (fun t k => XS.aloadN X16.here hx rfl (hb hby at_15) rfl rfl k) ?_
  refine own_go (T' := T16) (g' := (mkF m 21 #[iv x0, iv ((1 : Int32) + ((x0 &&& (2147483647 : Int32)) % (14 : Int32))), rv (own_pk g ((1 : Int32) + ((x0 &&& (2147483647 : Int32)) % (14 : Int32)))), .unset] [])) (fun t k => XS.ifnonnullYes X16.here hx rfl (pc0 := 16) (pc' := 21) rfl (hb hby at_16) rfl (by decide) (by decide) k) ?_
  refine own_go (T' := T16) (g' := (mkF m 22 #[iv x0, iv ((1 : Int32) + ((x0 &&& (2147483647 : Int32)) % (14 : Int32))), rv (own_pk g ((1 : Int32) + ((x0 &&& (2147483647 : Int32)) % (14 : Int32)))), .unset] [(.ref (own_pk g ((1 : Int32) + ((x0 &&& (2147483647 : Int32)) % (14 : Int32)))))])) (fun t k => XS.aloadN X16.here hx rfl (hb hby at_21) rfl rfl k) ?_
  obtain ⟨cq17, kq17, q17a, q17b, q17c⟩ := isOf hZ E16q (own_obj (P := fun a _ => Exa Z h0 a "com/example/bridger/bridger/mqtt/PacketType") HE (own_14 x0))
  obtain ⟨_, _, ⟨T17, L17, k17, n17⟩, -, X17, ⟨Lc17, hQ17, l17, y17, z17⟩, st17⟩ := X16.virtualBack hx (y := (⟨"com/example/bridger/bridger/mqtt/PacketType", "flags", "()I"⟩ : MethodName)) (z := (⟨"com/example/bridger/bridger/mqtt/PacketType", "flags", "()I"⟩ : MethodName)) hown (mvT hZ (hw _ (List.mem_of_getElem? (i := 8) rfl))) (mvT hZ (hw _ (List.mem_of_getElem? (i := 9) rfl))) (notFace_of_selects (args := #[]) (mvT hZ (hw _ (List.mem_of_getElem? (i := 11) rfl)))) (mvT hZ (hw _ (List.mem_of_getElem? (i := 11) rfl))) (mvT hZ (hw _ (List.mem_of_getElem? (i := 10) rfl))) (by decide) (backOf (W := 0) (own_rfl l Z a0 hw [] (own_pk g ((1 : Int32) + ((x0 &&& (2147483647 : Int32)) % (14 : Int32)))) g h0 n0 Z0 S_PUBREL S_SUBSCRIBE S_UNSUBSCRIBE) hZ (hw _ (List.mem_of_getElem? (i := 12) rfl)) (hw _ (List.mem_of_getElem? (i := 3) rfl)) (by decide) (by decide)) q17a q17c (g := (mkF m 22 #[iv x0, iv ((1 : Int32) + ((x0 &&& (2147483647 : Int32)) % (14 : Int32))), rv (own_pk g ((1 : Int32) + ((x0 &&& (2147483647 : Int32)) % (14 : Int32)))), .unset] [(.ref (own_pk g ((1 : Int32) + ((x0 &&& (2147483647 : Int32)) % (14 : Int32)))))])) rfl (by rw [hml]; rfl) (Steps.refl _) (argsL := []) (rest := []) (lenOf own_pd0 rfl) rfl (by show 2 * 0 + _ ≤ _; exact Nat.le_of_eq rfl) (hb hby at_22) (fun _ _ => ⟨rfl, E16q, (by decide : 0 + 0 ≤ _), (by decide : 0 + 0 ≤ _)⟩)
  dsimp only [Pt.U, Pt.locs, Pt.cells, Pt.slots] at X17 l17 y17 z17 st17 hQ17
  subst l17 y17 z17
  obtain ⟨rfl, rfl, e17⟩ := hQ17
  have E17q : T17.heap = h0 := e17
  have N17 := Fr.app N16 (Fr.nil n0)
  refine own_go (T' := T17) (g' := (mkF m 25 #[iv x0, iv ((1 : Int32) + ((x0 &&& (2147483647 : Int32)) % (14 : Int32))), rv (own_pk g ((1 : Int32) + ((x0 &&& (2147483647 : Int32)) % (14 : Int32)))), .unset] [(.int (own_fl g (own_pk g ((1 : Int32) + ((x0 &&& (2147483647 : Int32)) % (14 : Int32))))))])) (fun t k => st17.trans k) ?_
  refine own_go (T' := T17) (g' := (mkF m 26 #[iv x0, iv ((1 : Int32) + ((x0 &&& (2147483647 : Int32)) % (14 : Int32))), rv (own_pk g ((1 : Int32) + ((x0 &&& (2147483647 : Int32)) % (14 : Int32)))), iv (own_fl g (own_pk g ((1 : Int32) + ((x0 &&& (2147483647 : Int32)) % (14 : Int32)))))] [])) (fun t k => XS.istoreN X17.here hx rfl (hb hby at_25) rfl (l' := #[iv x0, iv ((1 : Int32) + ((x0 &&& (2147483647 : Int32)) % (14 : Int32))), rv (own_pk g ((1 : Int32) + ((x0 &&& (2147483647 : Int32)) % (14 : Int32)))), iv (own_fl g (own_pk g ((1 : Int32) + ((x0 &&& (2147483647 : Int32)) % (14 : Int32)))))]) rfl k) ?_
  refine own_go (T' := T17) (g' := (mkF m 27 #[iv x0, iv ((1 : Int32) + ((x0 &&& (2147483647 : Int32)) % (14 : Int32))), rv (own_pk g ((1 : Int32) + ((x0 &&& (2147483647 : Int32)) % (14 : Int32)))), iv (own_fl g (own_pk g ((1 : Int32) + ((x0 &&& (2147483647 : Int32)) % (14 : Int32)))))] [(.ref (own_pk g ((1 : Int32) + ((x0 &&& (2147483647 : Int32)) % (14 : Int32)))))])) (fun t k => XS.aloadN X17.here hx rfl (hb hby at_26) rfl rfl k) ?_
  obtain ⟨cq18, kq18, q18a, q18b, q18c⟩ := isOf hZ E17q (own_obj (P := fun a _ => Exa Z h0 a "com/example/bridger/bridger/mqtt/PacketType") HE (own_14 x0))
  obtain ⟨_, _, ⟨T18, L18, k18, n18⟩, -, X18, ⟨Lc18, hQ18, l18, y18, z18⟩, st18⟩ := X17.virtualBack hx (y := (⟨"com/example/bridger/bridger/mqtt/PacketType", "code", "()I"⟩ : MethodName)) (z := (⟨"com/example/bridger/bridger/mqtt/PacketType", "code", "()I"⟩ : MethodName)) hown (mvT hZ (hw _ (List.mem_of_getElem? (i := 19) rfl))) (mvT hZ (hw _ (List.mem_of_getElem? (i := 20) rfl))) (notFace_of_selects (args := #[]) (mvT hZ (hw _ (List.mem_of_getElem? (i := 22) rfl)))) (mvT hZ (hw _ (List.mem_of_getElem? (i := 22) rfl))) (mvT hZ (hw _ (List.mem_of_getElem? (i := 21) rfl))) (by decide) (backOf (W := 0) (own_rcode l Z a0 hw [] (own_pk g ((1 : Int32) + ((x0 &&& (2147483647 : Int32)) % (14 : Int32)))) (((1 : Int32) + ((x0 &&& (2147483647 : Int32)) % (14 : Int32))) - 1) h0 n0 Z0 (own_obj (P := fun a k => Fld Z h0 a "java/lang/Enum" "ordinal" "I" (.int k)) HO (own_14 x0)) (own_obj (P := fun a _ => Exa Z h0 a "com/example/bridger/bridger/mqtt/PacketType") HE (own_14 x0))) hZ (hw _ (List.mem_of_getElem? (i := 23) rfl)) (hw _ (List.mem_of_getElem? (i := 3) rfl)) (by decide) (by decide)) q18a q18c (g := (mkF m 27 #[iv x0, iv ((1 : Int32) + ((x0 &&& (2147483647 : Int32)) % (14 : Int32))), rv (own_pk g ((1 : Int32) + ((x0 &&& (2147483647 : Int32)) % (14 : Int32)))), iv (own_fl g (own_pk g ((1 : Int32) + ((x0 &&& (2147483647 : Int32)) % (14 : Int32)))))] [(.ref (own_pk g ((1 : Int32) + ((x0 &&& (2147483647 : Int32)) % (14 : Int32)))))])) rfl (by rw [hml]; rfl) (Steps.refl _) (argsL := []) (rest := []) (lenOf own_pd0 rfl) rfl (by show 2 * 0 + _ ≤ _; exact Nat.le_of_eq rfl) (hb hby at_27) (fun _ _ => ⟨rfl, E17q, (by decide : 0 + 0 ≤ _), (by decide : 0 + 0 ≤ _)⟩)
  dsimp only [Pt.U, Pt.locs, Pt.cells, Pt.slots] at X18 l18 y18 z18 st18 hQ18
  subst l18 y18 z18
  obtain ⟨rfl, rfl, e18⟩ := hQ18
  have E18q : T18.heap = h0 := e18
  have N18 := Fr.app N17 (Fr.nil n0)
  refine own_go (T' := T18) (g' := (mkF m 30 #[iv x0, iv ((1 : Int32) + ((x0 &&& (2147483647 : Int32)) % (14 : Int32))), rv (own_pk g ((1 : Int32) + ((x0 &&& (2147483647 : Int32)) % (14 : Int32)))), iv (own_fl g (own_pk g ((1 : Int32) + ((x0 &&& (2147483647 : Int32)) % (14 : Int32)))))] [(.int ((((1 : Int32) + ((x0 &&& (2147483647 : Int32)) % (14 : Int32))) - 1) + 1))])) (fun t k => st18.trans k) ?_
  refine own_go (T' := T18) (g' := (mkF m 31 #[iv x0, iv ((1 : Int32) + ((x0 &&& (2147483647 : Int32)) % (14 : Int32))), rv (own_pk g ((1 : Int32) + ((x0 &&& (2147483647 : Int32)) % (14 : Int32)))), iv (own_fl g (own_pk g ((1 : Int32) + ((x0 &&& (2147483647 : Int32)) % (14 : Int32)))))] [(.int ((1 : Int32) + ((x0 &&& (2147483647 : Int32)) % (14 : Int32)))), (.int ((((1 : Int32) + ((x0 &&& (2147483647 : Int32)) % (14 : Int32))) - 1) + 1))])) (fun t k => XS.iloadN X18.here hx rfl (hb hby at_30) rfl k) ?_
  refine own_go (T' := T18) (g' := (mkF m 34 #[iv x0, iv ((1 : Int32) + ((x0 &&& (2147483647 : Int32)) % (14 : Int32))), rv (own_pk g ((1 : Int32) + ((x0 &&& (2147483647 : Int32)) % (14 : Int32)))), iv (own_fl g (own_pk g ((1 : Int32) + ((x0 &&& (2147483647 : Int32)) % (14 : Int32)))))] [])) (fun t k => XS.icmpNo X18.here hx rfl (hb hby at_31) rfl (teq (own_back _ : (((((1 : Int32) + ((x0 &&& (2147483647 : Int32)) % (14 : Int32))) - 1) + 1) = ((1 : Int32) + ((x0 &&& (2147483647 : Int32)) % (14 : Int32)))))).2 k) ?_
  refine own_go (T' := T18) (g' := (mkF m 35 #[iv x0, iv ((1 : Int32) + ((x0 &&& (2147483647 : Int32)) % (14 : Int32))), rv (own_pk g ((1 : Int32) + ((x0 &&& (2147483647 : Int32)) % (14 : Int32)))), iv (own_fl g (own_pk g ((1 : Int32) + ((x0 &&& (2147483647 : Int32)) % (14 : Int32)))))] [(.int (own_fl g (own_pk g ((1 : Int32) + ((x0 &&& (2147483647 : Int32)) % (14 : Int32))))))])) (fun t k => XS.iloadN X18.here hx rfl (hb hby at_34) rfl k) ?_
  refine own_go (T' := T18) (g' := (mkF m 36 #[iv x0, iv ((1 : Int32) + ((x0 &&& (2147483647 : Int32)) % (14 : Int32))), rv (own_pk g ((1 : Int32) + ((x0 &&& (2147483647 : Int32)) % (14 : Int32)))), iv (own_fl g (own_pk g ((1 : Int32) + ((x0 &&& (2147483647 : Int32)) % (14 : Int32)))))] [(.int ((1 : Int32) + ((x0 &&& (2147483647 : Int32)) % (14 : Int32)))), (.int (own_fl g (own_pk g ((1 : Int32) + ((x0 &&& (2147483647 : Int32)) % (14 : Int32))))))])) (fun t k => XS.iloadN X18.here hx rfl (hb hby at_35) rfl k) ?_
  obtain ⟨_, _, ⟨T19, L19, k19, n19⟩, -, X19, ⟨Lc19, hQ19, l19, y19, z19⟩, st19⟩ := Jvm.LawKit.callS X18 hx (y := (⟨"com/example/bridger/bridger/mqtt/PacketTypeFlagsPinLaw", "expectedFlags", "(I)I"⟩ : MethodName)) hown (mvT hZ (hw _ (List.mem_of_getElem? (i := 33) rfl))) (mvT hZ (hw _ (List.mem_of_getElem? (i := 34) rfl))) (mvT hZ (hw _ (List.mem_of_getElem? (i := 35) rfl))) (mvT hZ (hw _ (List.mem_of_getElem? (i := 36) rfl))) (by decide) (backOf (W := 1) (own_ref l Z a0 hw [] ((1 : Int32) + ((x0 &&& (2147483647 : Int32)) % (14 : Int32))) h0 n0 Z0) hZ (hw _ (List.mem_of_getElem? (i := 36) rfl)) (hw _ (List.mem_of_getElem? (i := 35) rfl)) (by decide) (by decide)) (g := (mkF m 36 #[iv x0, iv ((1 : Int32) + ((x0 &&& (2147483647 : Int32)) % (14 : Int32))), rv (own_pk g ((1 : Int32) + ((x0 &&& (2147483647 : Int32)) % (14 : Int32)))), iv (own_fl g (own_pk g ((1 : Int32) + ((x0 &&& (2147483647 : Int32)) % (14 : Int32)))))] [(.int ((1 : Int32) + ((x0 &&& (2147483647 : Int32)) % (14 : Int32)))), (.int (own_fl g (own_pk g ((1 : Int32) + ((x0 &&& (2147483647 : Int32)) % (14 : Int32))))))])) rfl (by rw [hml]; rfl) (argsL := [(.int ((1 : Int32) + ((x0 &&& (2147483647 : Int32)) % (14 : Int32))))]) (rest := [(.int (own_fl g (own_pk g ((1 : Int32) + ((x0 &&& (2147483647 : Int32)) % (14 : Int32))))))]) (lenOf own_pd2 rfl) rfl (by show 2 * 0 + _ ≤ _; exact Nat.le_of_eq rfl) (hb hby at_36) (fun _ _ => ⟨rfl, E18q, (by decide : 0 + 0 ≤ _), (by decide : 0 + 0 ≤ _)⟩)
  dsimp only [Pt.U, Pt.locs, Pt.cells, Pt.slots] at X19 l19 y19 z19 st19 hQ19
  subst l19 y19 z19
  obtain ⟨rfl, rfl, e19⟩ := hQ19
  have E19q : T19.heap = h0 := e19
  have N19 := Fr.app N18 (Fr.nil n0)
  refine own_go (T' := T19) (g' := (mkF m 39 #[iv x0, iv ((1 : Int32) + ((x0 &&& (2147483647 : Int32)) % (14 : Int32))), rv (own_pk g ((1 : Int32) + ((x0 &&& (2147483647 : Int32)) % (14 : Int32)))), iv (own_fl g (own_pk g ((1 : Int32) + ((x0 &&& (2147483647 : Int32)) % (14 : Int32)))))] [(.int (own_ef ((1 : Int32) + ((x0 &&& (2147483647 : Int32)) % (14 : Int32))))), (.int (own_fl g (own_pk g ((1 : Int32) + ((x0 &&& (2147483647 : Int32)) % (14 : Int32))))))])) (st19) ?_
  refine own_go (T' := T19) (g' := (mkF m 42 #[iv x0, iv ((1 : Int32) + ((x0 &&& (2147483647 : Int32)) % (14 : Int32))), rv (own_pk g ((1 : Int32) + ((x0 &&& (2147483647 : Int32)) % (14 : Int32)))), iv (own_fl g (own_pk g ((1 : Int32) + ((x0 &&& (2147483647 : Int32)) % (14 : Int32)))))] [])) (fun t k => XS.icmpNo X19.here hx rfl (hb hby at_39) rfl (teq (own_key hg (own_14 x0) : ((own_fl g (own_pk g ((1 : Int32) + ((x0 &&& (2147483647 : Int32)) % (14 : Int32))))) = (own_ef ((1 : Int32) + ((x0 &&& (2147483647 : Int32)) % (14 : Int32))))))).2 k) ?_
  refine own_go (T' := T19) (g' := (mkF m 43 #[iv x0, iv ((1 : Int32) + ((x0 &&& (2147483647 : Int32)) % (14 : Int32))), rv (own_pk g ((1 : Int32) + ((x0 &&& (2147483647 : Int32)) % (14 : Int32)))), iv (own_fl g (own_pk g ((1 : Int32) + ((x0 &&& (2147483647 : Int32)) % (14 : Int32)))))] [(.int (own_fl g (own_pk g ((1 : Int32) + ((x0 &&& (2147483647 : Int32)) % (14 : Int32))))))])) (fun t k => XS.iloadN X19.here hx rfl (hb hby at_42) rfl k) ?_
  refine own_go (T' := T19) (g' := (mkF m 46 #[iv x0, iv ((1 : Int32) + ((x0 &&& (2147483647 : Int32)) % (14 : Int32))), rv (own_pk g ((1 : Int32) + ((x0 &&& (2147483647 : Int32)) % (14 : Int32)))), iv (own_fl g (own_pk g ((1 : Int32) + ((x0 &&& (2147483647 : Int32)) % (14 : Int32)))))] [])) (fun t k => XS.ifNo X19.here hx rfl (hb hby at_43) rfl ((if0 _ _).trans (flt (own_fl_lo _ _ : ¬ ((own_fl g (own_pk g ((1 : Int32) + ((x0 &&& (2147483647 : Int32)) % (14 : Int32))))) < (0 : Int32)))).1) k) ?_
  refine own_go (T' := T19) (g' := (mkF m 47 #[iv x0, iv ((1 : Int32) + ((x0 &&& (2147483647 : Int32)) % (14 : Int32))), rv (own_pk g ((1 : Int32) + ((x0 &&& (2147483647 : Int32)) % (14 : Int32)))), iv (own_fl g (own_pk g ((1 : Int32) + ((x0 &&& (2147483647 : Int32)) % (14 : Int32)))))] [(.int (own_fl g (own_pk g ((1 : Int32) + ((x0 &&& (2147483647 : Int32)) % (14 : Int32))))))])) (fun t k => XS.iloadN X19.here hx rfl (hb hby at_46) rfl k) ?_
  refine own_go (T' := T19) (g' := (mkF m 49 #[iv x0, iv ((1 : Int32) + ((x0 &&& (2147483647 : Int32)) % (14 : Int32))), rv (own_pk g ((1 : Int32) + ((x0 &&& (2147483647 : Int32)) % (14 : Int32)))), iv (own_fl g (own_pk g ((1 : Int32) + ((x0 &&& (2147483647 : Int32)) % (14 : Int32)))))] [(.int (15 : Int32)), (.int (own_fl g (own_pk g ((1 : Int32) + ((x0 &&& (2147483647 : Int32)) % (14 : Int32))))))])) (fun t k => XS.bipush X19.here hx rfl (hb hby at_47) k) ?_
  refine own_go (T' := T19) (g' := (mkF m 52 #[iv x0, iv ((1 : Int32) + ((x0 &&& (2147483647 : Int32)) % (14 : Int32))), rv (own_pk g ((1 : Int32) + ((x0 &&& (2147483647 : Int32)) % (14 : Int32)))), iv (own_fl g (own_pk g ((1 : Int32) + ((x0 &&& (2147483647 : Int32)) % (14 : Int32)))))] [])) (fun t k => XS.icmpNo X19.here hx rfl (hb hby at_49) rfl (flt (own_fl_hi _ _ : ¬ ((15 : Int32) < (own_fl g (own_pk g ((1 : Int32) + ((x0 &&& (2147483647 : Int32)) % (14 : Int32)))))))).2.2.1 k) ?_
  refine own_go (T' := T19) (g' := (mkF m 53 #[iv x0, iv ((1 : Int32) + ((x0 &&& (2147483647 : Int32)) % (14 : Int32))), rv (own_pk g ((1 : Int32) + ((x0 &&& (2147483647 : Int32)) % (14 : Int32)))), iv (own_fl g (own_pk g ((1 : Int32) + ((x0 &&& (2147483647 : Int32)) % (14 : Int32)))))] [(.int (1 : Int32))])) (fun t k => XS.iconst X19.here hx rfl (hb hby at_52) k) ?_
  refine own_go (T' := T19) (g' := (mkF m 57 #[iv x0, iv ((1 : Int32) + ((x0 &&& (2147483647 : Int32)) % (14 : Int32))), rv (own_pk g ((1 : Int32) + ((x0 &&& (2147483647 : Int32)) % (14 : Int32)))), iv (own_fl g (own_pk g ((1 : Int32) + ((x0 &&& (2147483647 : Int32)) % (14 : Int32)))))] [(.int (1 : Int32))])) (fun t k => XS.goto X19.here hx rfl (pc0 := 53) (pc' := 57) rfl (hb hby at_53) (by decide) (by decide) k) ?_
  exact own_ret X19 hlk hx Bd.returns rfl (Or.inl ⟨rfl, Or.inr (Or.inl rfl), _, rfl⟩) (hb hby at_57) (by first | exact ⟨rfl, N19⟩ | (rw [Fr] at *; exact ⟨rfl, by simpa using N19⟩)) (by decide) (by decide)

set_option maxRecDepth 65536 in
set_option maxHeartbeats 40000000 in
theorem own_comes {Post : Tables → Env → Array Value → State → Outcome → State → Prop} (hpost : ∀ tb e args s v u, (limb_1_1.after args s (.returned v) u = true ∧ limb_1_2.after args s (.returned v) u = true ∧ True) → FrameEnd s (.returned v) u (Jvm.fieldLocs frame_1_writes args s ++ Jvm.arrayLocs frame_1_arrays args s ++ Jvm.staticLocs frame_1_statics s) 0 0 → Post tb e args s (.returned v) u) :
    ArmFor flags0 classFile x code maxLocals ret World_1 tables_1 room_1 Calls_1 rest_1 Pre_1 Post := by
  intro l hfl _ _ p e ha hc hk s m args below hf hA hF happ hP
  obtain ⟨hcalls, hrest, hpre⟩ := hP
  obtain ⟨-, -, -, hnamed, -, -, -, hat⟩ := (Spec.applies_iff hf).mp happ
  obtain ⟨hg, hn⟩ := and_e (Cond.before_iff.mp (show (Jvm.Cond.and given_1 narrow_1).before args s = true from hpre))
  obtain ⟨hg0, hg1⟩ := and_e hg
  obtain ⟨w0, rfl⟩ : ∃ w0 : Value, args = #[w0] := by
    have hs : args.size = 1 := by simpa [Cond.value, given_1] using hg0
    obtain ⟨L⟩ := args
    match L, hs with
    | [w0], _ => exact ⟨w0, rfl⟩
  have hw := fun d (hd : d ∈ tables_1) => atoms_spec (ws := Jvm.Cond.code x code maxLocals ret :: tables_1) hat d (List.mem_cons_of_mem _ hd)
  have hfit : Fit s := fun {y c} hc i hi => by
    obtain ⟨ha, rfl⟩ := Array.getElem?_eq_some_iff.mp hc
    have q := List.all_eq_true.mp ((Array.all_eq_true_iff_forall_mem.mp hF) _ (Array.getElem_mem ha)) i (List.mem_range.mpr hi)
    simpa [Array.getElem?_eq_getElem hi] using q
  obtain ⟨x0, ex0⟩ := is_v hg1
  obtain rfl : w0 = (.int x0) := Option.some.inj ex0
  obtain ⟨hn0, hq0⟩ := and_e hn
  obtain ⟨hn1, hq1⟩ := and_e hq0
  obtain ⟨hn2, hq2⟩ := and_e hq1
  obtain ⟨hn3, hq3⟩ := and_e hq2
  obtain ⟨hn4, hq4⟩ := and_e hq3
  obtain ⟨hn5, hq5⟩ := and_e hq4
  obtain ⟨hn6, hq6⟩ := and_e hq5
  obtain ⟨hn7, hq7⟩ := and_e hq6
  obtain ⟨hn8, hq8⟩ := and_e hq7
  obtain ⟨hn9, hq9⟩ := and_e hq8
  obtain ⟨hn10, hq10⟩ := and_e hq9
  obtain ⟨hn11, hq11⟩ := and_e hq10
  obtain ⟨hn12, hq12⟩ := and_e hq11
  obtain ⟨hn13, hq13⟩ := and_e hq12
  obtain ⟨hn14, hq14⟩ := and_e hq13
  obtain ⟨hn15, hq15⟩ := and_e hq14
  obtain ⟨hn16, hq16⟩ := and_e hq15
  obtain ⟨hn17, hq17⟩ := and_e hq16
  obtain ⟨hn18, hq18⟩ := and_e hq17
  obtain ⟨hn19, hq19⟩ := and_e hq18
  obtain ⟨hn20, hq20⟩ := and_e hq19
  obtain ⟨hn21, hq21⟩ := and_e hq20
  obtain ⟨hn22, hq22⟩ := and_e hq21
  obtain ⟨hn23, hq23⟩ := and_e hq22
  obtain ⟨hn24, hq24⟩ := and_e hq23
  obtain ⟨hn25, hq25⟩ := and_e hq24
  obtain ⟨hn26, hq26⟩ := and_e hq25
  obtain ⟨hn27, hq27⟩ := and_e hq26
  obtain ⟨hn28, hq28⟩ := and_e hq27
  obtain ⟨hn29, hq29⟩ := and_e hq28
  obtain ⟨hn30, hq30⟩ := and_e hq29
  obtain ⟨hn31, hq31⟩ := and_e hq30
  obtain ⟨hn32, hq32⟩ := and_e hq31
  obtain ⟨hn33, hq33⟩ := and_e hq32
  obtain ⟨hn34, hq34⟩ := and_e hq33
  obtain ⟨hn35, hq35⟩ := and_e hq34
  obtain ⟨hn36, hq36⟩ := and_e hq35
  obtain ⟨hn37, hq37⟩ := and_e hq36
  obtain ⟨hn38, hq38⟩ := and_e hq37
  obtain ⟨hn39, hq39⟩ := and_e hq38
  obtain ⟨hn40, hq40⟩ := and_e hq39
  obtain ⟨hn41, hq41⟩ := and_e hq40
  obtain ⟨hn42, hq42⟩ := and_e hq41
  obtain ⟨a_CONNECT, v_CONNECT⟩ := exa_v hn2
  have E_CONNECT : Exa s s.heap a_CONNECT "com/example/bridger/bridger/mqtt/PacketType" := Exa.start v_CONNECT hn2
  have S_CONNECT : Sta s s.heap "com/example/bridger/bridger/mqtt/PacketType" "CONNECT" "Lcom/example/bridger/bridger/mqtt/PacketType;" (.ref a_CONNECT) := Sta.start v_CONNECT (Or.inr ⟨(hw _ (List.mem_of_getElem? (i := 3) rfl)), (hw _ (List.mem_of_getElem? (i := 7) rfl))⟩)
  obtain ⟨a_PUBREL, v_PUBREL⟩ := exa_v hn4
  have E_PUBREL : Exa s s.heap a_PUBREL "com/example/bridger/bridger/mqtt/PacketType" := Exa.start v_PUBREL hn4
  have S_PUBREL : Sta s s.heap "com/example/bridger/bridger/mqtt/PacketType" "PUBREL" "Lcom/example/bridger/bridger/mqtt/PacketType;" (.ref a_PUBREL) := Sta.start v_PUBREL (Or.inr ⟨(hw _ (List.mem_of_getElem? (i := 3) rfl)), (hw _ (List.mem_of_getElem? (i := 14) rfl))⟩)
  obtain ⟨a_SUBSCRIBE, v_SUBSCRIBE⟩ := exa_v hn7
  have E_SUBSCRIBE : Exa s s.heap a_SUBSCRIBE "com/example/bridger/bridger/mqtt/PacketType" := Exa.start v_SUBSCRIBE hn7
  have S_SUBSCRIBE : Sta s s.heap "com/example/bridger/bridger/mqtt/PacketType" "SUBSCRIBE" "Lcom/example/bridger/bridger/mqtt/PacketType;" (.ref a_SUBSCRIBE) := Sta.start v_SUBSCRIBE (Or.inr ⟨(hw _ (List.mem_of_getElem? (i := 3) rfl)), (hw _ (List.mem_of_getElem? (i := 16) rfl))⟩)
  obtain ⟨a_UNSUBSCRIBE, v_UNSUBSCRIBE⟩ := exa_v hn9
  have E_UNSUBSCRIBE : Exa s s.heap a_UNSUBSCRIBE "com/example/bridger/bridger/mqtt/PacketType" := Exa.start v_UNSUBSCRIBE hn9
  have S_UNSUBSCRIBE : Sta s s.heap "com/example/bridger/bridger/mqtt/PacketType" "UNSUBSCRIBE" "Lcom/example/bridger/bridger/mqtt/PacketType;" (.ref a_UNSUBSCRIBE) := Sta.start v_UNSUBSCRIBE (Or.inr ⟨(hw _ (List.mem_of_getElem? (i := 3) rfl)), (hw _ (List.mem_of_getElem? (i := 18) rfl))⟩)
  obtain ⟨a_PUBACK, v_PUBACK⟩ := exa_v hn11
  have E_PUBACK : Exa s s.heap a_PUBACK "com/example/bridger/bridger/mqtt/PacketType" := Exa.start v_PUBACK hn11
  have S_PUBACK : Sta s s.heap "com/example/bridger/bridger/mqtt/PacketType" "PUBACK" "Lcom/example/bridger/bridger/mqtt/PacketType;" (.ref a_PUBACK) := Sta.start v_PUBACK (Or.inr ⟨(hw _ (List.mem_of_getElem? (i := 3) rfl)), (hw _ (List.mem_of_getElem? (i := 37) rfl))⟩)
  obtain ⟨a_PINGRESP, v_PINGRESP⟩ := exa_v hn14
  have E_PINGRESP : Exa s s.heap a_PINGRESP "com/example/bridger/bridger/mqtt/PacketType" := Exa.start v_PINGRESP hn14
  have S_PINGRESP : Sta s s.heap "com/example/bridger/bridger/mqtt/PacketType" "PINGRESP" "Lcom/example/bridger/bridger/mqtt/PacketType;" (.ref a_PINGRESP) := Sta.start v_PINGRESP (Or.inr ⟨(hw _ (List.mem_of_getElem? (i := 3) rfl)), (hw _ (List.mem_of_getElem? (i := 38) rfl))⟩)
  obtain ⟨a_DISCONNECT, v_DISCONNECT⟩ := exa_v hn17
  have E_DISCONNECT : Exa s s.heap a_DISCONNECT "com/example/bridger/bridger/mqtt/PacketType" := Exa.start v_DISCONNECT hn17
  have S_DISCONNECT : Sta s s.heap "com/example/bridger/bridger/mqtt/PacketType" "DISCONNECT" "Lcom/example/bridger/bridger/mqtt/PacketType;" (.ref a_DISCONNECT) := Sta.start v_DISCONNECT (Or.inr ⟨(hw _ (List.mem_of_getElem? (i := 3) rfl)), (hw _ (List.mem_of_getElem? (i := 39) rfl))⟩)
  obtain ⟨a_PUBREC, v_PUBREC⟩ := exa_v hn20
  have E_PUBREC : Exa s s.heap a_PUBREC "com/example/bridger/bridger/mqtt/PacketType" := Exa.start v_PUBREC hn20
  have S_PUBREC : Sta s s.heap "com/example/bridger/bridger/mqtt/PacketType" "PUBREC" "Lcom/example/bridger/bridger/mqtt/PacketType;" (.ref a_PUBREC) := Sta.start v_PUBREC (Or.inr ⟨(hw _ (List.mem_of_getElem? (i := 3) rfl)), (hw _ (List.mem_of_getElem? (i := 40) rfl))⟩)
  obtain ⟨a_PUBLISH, v_PUBLISH⟩ := exa_v hn24
  have E_PUBLISH : Exa s s.heap a_PUBLISH "com/example/bridger/bridger/mqtt/PacketType" := Exa.start v_PUBLISH hn24
  have S_PUBLISH : Sta s s.heap "com/example/bridger/bridger/mqtt/PacketType" "PUBLISH" "Lcom/example/bridger/bridger/mqtt/PacketType;" (.ref a_PUBLISH) := Sta.start v_PUBLISH (Or.inr ⟨(hw _ (List.mem_of_getElem? (i := 3) rfl)), (hw _ (List.mem_of_getElem? (i := 41) rfl))⟩)
  obtain ⟨a_PINGREQ, v_PINGREQ⟩ := exa_v hn27
  have E_PINGREQ : Exa s s.heap a_PINGREQ "com/example/bridger/bridger/mqtt/PacketType" := Exa.start v_PINGREQ hn27
  have S_PINGREQ : Sta s s.heap "com/example/bridger/bridger/mqtt/PacketType" "PINGREQ" "Lcom/example/bridger/bridger/mqtt/PacketType;" (.ref a_PINGREQ) := Sta.start v_PINGREQ (Or.inr ⟨(hw _ (List.mem_of_getElem? (i := 3) rfl)), (hw _ (List.mem_of_getElem? (i := 42) rfl))⟩)
  obtain ⟨a_UNSUBACK, v_UNSUBACK⟩ := exa_v hn30
  have E_UNSUBACK : Exa s s.heap a_UNSUBACK "com/example/bridger/bridger/mqtt/PacketType" := Exa.start v_UNSUBACK hn30
  have S_UNSUBACK : Sta s s.heap "com/example/bridger/bridger/mqtt/PacketType" "UNSUBACK" "Lcom/example/bridger/bridger/mqtt/PacketType;" (.ref a_UNSUBACK) := Sta.start v_UNSUBACK (Or.inr ⟨(hw _ (List.mem_of_getElem? (i := 3) rfl)), (hw _ (List.mem_of_getElem? (i := 43) rfl))⟩)
  obtain ⟨a_SUBACK, v_SUBACK⟩ := exa_v hn33
  have E_SUBACK : Exa s s.heap a_SUBACK "com/example/bridger/bridger/mqtt/PacketType" := Exa.start v_SUBACK hn33
  have S_SUBACK : Sta s s.heap "com/example/bridger/bridger/mqtt/PacketType" "SUBACK" "Lcom/example/bridger/bridger/mqtt/PacketType;" (.ref a_SUBACK) := Sta.start v_SUBACK (Or.inr ⟨(hw _ (List.mem_of_getElem? (i := 3) rfl)), (hw _ (List.mem_of_getElem? (i := 44) rfl))⟩)
  obtain ⟨a_CONNACK, v_CONNACK⟩ := exa_v hn36
  have E_CONNACK : Exa s s.heap a_CONNACK "com/example/bridger/bridger/mqtt/PacketType" := Exa.start v_CONNACK hn36
  have S_CONNACK : Sta s s.heap "com/example/bridger/bridger/mqtt/PacketType" "CONNACK" "Lcom/example/bridger/bridger/mqtt/PacketType;" (.ref a_CONNACK) := Sta.start v_CONNACK (Or.inr ⟨(hw _ (List.mem_of_getElem? (i := 3) rfl)), (hw _ (List.mem_of_getElem? (i := 45) rfl))⟩)
  obtain ⟨a_PUBCOMP, v_PUBCOMP⟩ := exa_v hn41
  have E_PUBCOMP : Exa s s.heap a_PUBCOMP "com/example/bridger/bridger/mqtt/PacketType" := Exa.start v_PUBCOMP hn41
  have S_PUBCOMP : Sta s s.heap "com/example/bridger/bridger/mqtt/PacketType" "PUBCOMP" "Lcom/example/bridger/bridger/mqtt/PacketType;" (.ref a_PUBCOMP) := Sta.start v_PUBCOMP (Or.inr ⟨(hw _ (List.mem_of_getElem? (i := 3) rfl)), (hw _ (List.mem_of_getElem? (i := 46) rfl))⟩)
  obtain ⟨a_CODES, v_CODES⟩ := arr_v hn0
  obtain ⟨c_CODES, A_CODES⟩ := Arr.start v_CODES hn0
  have S_CODES : Sta s s.heap "com/example/bridger/bridger/mqtt/PacketType" "CODES" "[Lcom/example/bridger/bridger/mqtt/PacketType;" (.ref a_CODES) := Sta.start v_CODES (Or.inr ⟨(hw _ (List.mem_of_getElem? (i := 3) rfl)), (hw _ (List.mem_of_getElem? (i := 6) rfl))⟩)
  have O_CONNECT := own_fld v_CONNECT hn5
  have O_PUBREL := own_fld v_PUBREL hn6
  have O_SUBSCRIBE := own_fld v_SUBSCRIBE hn8
  have O_UNSUBSCRIBE := own_fld v_UNSUBSCRIBE hn10
  have O_PUBACK := own_fld v_PUBACK hn13
  have O_PINGRESP := own_fld v_PINGRESP hn16
  have O_DISCONNECT := own_fld v_DISCONNECT hn19
  have O_PUBREC := own_fld v_PUBREC hn22
  have O_PUBLISH := own_fld v_PUBLISH hn26
  have O_PINGREQ := own_fld v_PINGREQ hn29
  have O_UNSUBACK := own_fld v_UNSUBACK hn32
  have O_SUBACK := own_fld v_SUBACK hn35
  have O_CONNACK := own_fld v_CONNACK hn38
  have O_PUBCOMP := own_fld v_PUBCOMP hq42
  obtain ⟨lz, ll⟩ := own_len v_CODES A_CODES hn1
  have V_CODES : Arv s s.heap a_CODES c_CODES.cls (.object "com/example/bridger/bridger/mqtt/PacketType") (14 : Int32) [.ref a_CONNECT, .ref a_CONNACK, .ref a_PUBLISH, .ref a_PUBACK, .ref a_PUBREC, .ref a_PUBREL, .ref a_PUBCOMP, .ref a_SUBSCRIBE, .ref a_SUBACK, .ref a_UNSUBSCRIBE, .ref a_UNSUBACK, .ref a_PINGREQ, .ref a_PINGRESP, .ref a_DISCONNECT] .null := Arv.start hfit A_CODES lz ll (by decide) rfl ⟨own_elt v_CODES A_CODES v_CONNECT hn3 rfl, own_elt v_CODES A_CODES v_CONNACK hn37 rfl, own_elt v_CODES A_CODES v_PUBLISH hn25 rfl, own_elt v_CODES A_CODES v_PUBACK hn12 rfl, own_elt v_CODES A_CODES v_PUBREC hn21 rfl, own_elt v_CODES A_CODES v_PUBREL hn40 rfl, own_elt v_CODES A_CODES v_PUBCOMP hn42 rfl, own_elt v_CODES A_CODES v_SUBSCRIBE hn23 rfl, own_elt v_CODES A_CODES v_SUBACK hn34 rfl, own_elt v_CODES A_CODES v_UNSUBSCRIBE hn39 rfl, own_elt v_CODES A_CODES v_UNSUBACK hn31 rfl, own_elt v_CODES A_CODES v_PINGREQ hn28 rfl, own_elt v_CODES A_CODES v_PINGRESP hn15 rfl, own_elt v_CODES A_CODES v_DISCONNECT hn18 rfl, trivial⟩
  have HE : ∀ i, i < 14 → Exa s s.heap ((fun i => [a_CONNECT, a_CONNACK, a_PUBLISH, a_PUBACK, a_PUBREC, a_PUBREL, a_PUBCOMP, a_SUBSCRIBE, a_SUBACK, a_UNSUBSCRIBE, a_UNSUBACK, a_PINGREQ, a_PINGRESP, a_DISCONNECT].getD i 0 : Nat → Addr) i) "com/example/bridger/bridger/mqtt/PacketType" := fun i hi => by
    match i, hi with
    | 0, _ => exact E_CONNECT
    | 1, _ => exact E_CONNACK
    | 2, _ => exact E_PUBLISH
    | 3, _ => exact E_PUBACK
    | 4, _ => exact E_PUBREC
    | 5, _ => exact E_PUBREL
    | 6, _ => exact E_PUBCOMP
    | 7, _ => exact E_SUBSCRIBE
    | 8, _ => exact E_SUBACK
    | 9, _ => exact E_UNSUBSCRIBE
    | 10, _ => exact E_UNSUBACK
    | 11, _ => exact E_PINGREQ
    | 12, _ => exact E_PINGRESP
    | 13, _ => exact E_DISCONNECT
  have HO : ∀ i, i < 14 → Fld s s.heap ((fun i => [a_CONNECT, a_CONNACK, a_PUBLISH, a_PUBACK, a_PUBREC, a_PUBREL, a_PUBCOMP, a_SUBSCRIBE, a_SUBACK, a_UNSUBSCRIBE, a_UNSUBACK, a_PINGREQ, a_PINGRESP, a_DISCONNECT].getD i 0 : Nat → Addr) i) "java/lang/Enum" "ordinal" "I" (.int (Int32.ofNat i)) := fun i hi => by
    match i, hi with
    | 0, _ => exact O_CONNECT
    | 1, _ => exact O_CONNACK
    | 2, _ => exact O_PUBLISH
    | 3, _ => exact O_PUBACK
    | 4, _ => exact O_PUBREC
    | 5, _ => exact O_PUBREL
    | 6, _ => exact O_PUBCOMP
    | 7, _ => exact O_SUBSCRIBE
    | 8, _ => exact O_SUBACK
    | 9, _ => exact O_UNSUBSCRIBE
    | 10, _ => exact O_UNSUBACK
    | 11, _ => exact O_PINGREQ
    | 12, _ => exact O_PINGRESP
    | 13, _ => exact O_DISCONNECT
  have hg : own_Inj (fun i => [a_CONNECT, a_CONNACK, a_PUBLISH, a_PUBACK, a_PUBREC, a_PUBREL, a_PUBCOMP, a_SUBSCRIBE, a_SUBACK, a_UNSUBSCRIBE, a_UNSUBACK, a_PINGREQ, a_PINGRESP, a_DISCONNECT].getD i 0 : Nat → Addr) := own_inj HO
  obtain ⟨n, o, h1, h2, h3, _, L, rfl, ⟨rfl, N⟩, hq⟩ := own_law l s _ hw tables_1 x0 (fun i => [a_CONNECT, a_CONNACK, a_PUBLISH, a_PUBACK, a_PUBREC, a_PUBREL, a_PUBCOMP, a_SUBSCRIBE, a_SUBACK, a_UNSUBSCRIBE, a_UNSUBACK, a_PINGREQ, a_PINGRESP, a_DISCONNECT].getD i 0 : Nat → Addr) a_CODES c_CODES.cls s.heap s.heap.size (Nat.le_refl _) S_PUBREL S_SUBSCRIBE S_UNSUBSCRIBE S_CODES V_CODES HE HO hg p e ha hc hk s m _ below hf ((Spec.applies_iff_loose hf).mp happ).1 ⟨rfl, State.Warmed39.refl s, rfl⟩ trivial
  refine ⟨n, _, h1, h2, h3, hpost _ _ _ _ _ _ ⟨Cond.after_iff.mpr rfl, Cond.after_iff.mpr (eq_i res_at (Term.int_eval (1)) rfl), trivial⟩ ⟨hq.1, hq.2.1, (hq.2.2.sift fun y hy => Or.inr (N y hy)).mono (by decide) (by decide)⟩⟩
theorem main_1_1 : Claimed_1_1 := own_comes fun _ _ _ _ _ _ h hF => ⟨h.1, hF⟩
theorem main_1_2 : Claimed_1_2 := own_comes fun _ _ _ _ _ _ h hF => ⟨h.2.1, hF⟩
end Jvm.Pilot.@@N@@
namespace Jvm.Pilot.@@N@@
open Jvm Jvm.ClassFile Sem Op Lib Jvm.Free Jvm.Stand Jvm.Pilot.@@N@@.Jvm.D
/-! MADE BY PROGRAM (witnessworld.py) out of the Statement's table words and the real class files: 13 classes; the members and pool entries that the words name. The judged class is class 1, her method 2. -/
namespace start1
open Jvm.ClassFile
def u (s : String) : CpInfo := .utf8 (stringToUtf16 s)
/-- a pool by its gaps: so many unusable entries, then the entry; so many at the end -/
def gap : Nat → List CpInfo → List CpInfo
  | 0, r => r
  | n + 1, r => .unusable :: gap n r
def poolList (es : List (Nat × CpInfo)) (last : Nat) : List CpInfo := es.foldr (fun e r => gap e.1 (e.2 :: r)) (gap last [])
def pool (es : List (Nat × CpInfo)) (last : Nat) : Array CpInfo := ⟨poolList es last⟩
def fileOf (pool : Array CpInfo) (this : Nat) (attrs : Array Attribute := #[]) (ms : Array MethodInfo := #[]) (fl : Nat := 33) (sup : Nat := 0) (ifs : Array Nat := #[]) (fds : Array FieldInfo := #[]) : ClassFile where
  minorVersion := 0
  majorVersion := 65
  constantPool := pool
  accessFlags := fl
  thisClass := this
  superClass := sup
  interfaces := ifs
  fields := fds
  methods := ms
  attributes := attrs
def plain (name : String) (sup : Option ClassId) : Class where
  name := name
  kind := .ordinary
  loader := none
  accessFlags := 33
  super := sup
  interfaces := #[]
  cf := none
  fields := #[]
  methods := #[]
  instanceTypes := #[]
  staticTypes := #[]
  resolved := #[]
  callSites := []
  init := .initialized
  statics := none
  mirror := none

def pool0 : Array CpInfo := pool [(5, u "<init>"), (0, u "()V"), (1, .class_ 10), (1, u "java/lang/Object")] 113

def k0m0 : Method := { name := "<init>", desc := "()V", sig := { parameters := [], returnType := none }, accessFlags := 1, code := none }
/-- java/lang/Object -/
def k0 : Class := { plain "java/lang/Object" none with
  accessFlags := 33
  interfaces := #[]
  cf := some (fileOf pool0 8 #[] #[{ accessFlags := 1, nameIndex := 5, descriptorIndex := 6, attributes := #[] }] 33 0 #[] #[])
  fields := #[]
  methods := #[k0m0]
  instanceTypes := #[]
  staticTypes := #[]
  resolved := Array.replicate 124 none
  statics := none }

def pool1 : Array CpInfo := pool [(2, .class_ 4), (1, u "java/lang/Object"), (0, u "<init>"), (0, u "()V"), (0, .integer 2147483647), (0, .methodref 9 10), (0, .class_ 11), (0, .nameAndType 12 13), (0, u "com/example/bridger/bridger/mqtt/PacketType"), (0, u "of"), (0, u "(I)Lcom/example/bridger/bridger/mqtt/PacketType;"), (0, .methodref 9 15), (0, .nameAndType 16 17), (0, u "flags"), (0, u "()I"), (0, .methodref 9 19), (0, .nameAndType 20 17), (0, u "code"), (0, .methodref 22 23), (0, .class_ 24), (0, .nameAndType 25 26), (0, u "com/example/bridger/bridger/mqtt/PacketTypeFlagsPinLaw"), (0, u "expectedFlags"), (0, u "(I)I"), (3, u "law"), (0, u "(I)Z")] 2

def k1m0 : Method := { name := "<init>", desc := "()V", sig := { parameters := [], returnType := none }, accessFlags := 1, code := none }
def k1c1 : Code := { maxStack := 2, maxLocals := 1, code := method_2_code, exceptionTable := #[], attributes := #[] }
def k1m1 : Method := { name := "expectedFlags", desc := "(I)I", sig := { parameters := [.int], returnType := some .int }, accessFlags := 10, code := some k1c1 }
def k1c2 : Code := { maxStack := 3, maxLocals := 4, code := code, exceptionTable := #[], attributes := #[] }
def k1m2 : Method := { name := "law", desc := "(I)Z", sig := { parameters := [.int], returnType := some .boolean }, accessFlags := 9, code := some k1c2 }
/-- com/example/bridger/bridger/mqtt/PacketTypeFlagsPinLaw -/
def k1 : Class := { plain "com/example/bridger/bridger/mqtt/PacketTypeFlagsPinLaw" (some 0) with
  accessFlags := 49
  interfaces := #[]
  cf := some (fileOf pool1 22 #[] #[{ accessFlags := 1, nameIndex := 5, descriptorIndex := 6, attributes := #[] }, { accessFlags := 10, nameIndex := 25, descriptorIndex := 26, attributes := #[] }, { accessFlags := 9, nameIndex := 30, descriptorIndex := 31, attributes := #[] }] 49 2 #[] #[])
  fields := #[]
  methods := #[k1m0, k1m1, k1m2]
  instanceTypes := #[]
  staticTypes := #[]
  resolved := Array.replicate 34 none
  statics := none }

def pool2 : Array CpInfo := pool [(1, .class_ 2), (0, u "java/lang/constant/Constable"), (0, .class_ 4), (0, u "java/lang/Object")] 6

/-- java/lang/constant/Constable -/
def k2 : Class := { plain "java/lang/constant/Constable" (some 0) with
  accessFlags := 1537
  interfaces := #[]
  cf := some (fileOf pool2 1 #[] #[] 1537 3 #[] #[])
  fields := #[]
  methods := #[]
  instanceTypes := #[]
  staticTypes := #[]
  resolved := Array.replicate 11 none
  statics := none }

def pool3 : Array CpInfo := pool [(1, .class_ 2), (0, u "java/lang/Comparable"), (0, .class_ 4), (0, u "java/lang/Object")] 7

/-- java/lang/Comparable -/
def k3 : Class := { plain "java/lang/Comparable" (some 0) with
  accessFlags := 1537
  interfaces := #[]
  cf := some (fileOf pool3 1 #[] #[] 1537 3 #[] #[])
  fields := #[]
  methods := #[]
  instanceTypes := #[]
  staticTypes := #[]
  resolved := Array.replicate 12 none
  statics := none }

def pool4 : Array CpInfo := pool [(1, .class_ 2), (0, u "java/io/Serializable"), (0, .class_ 4), (0, u "java/lang/Object")] 2

/-- java/io/Serializable -/
def k4 : Class := { plain "java/io/Serializable" (some 0) with
  accessFlags := 1537
  interfaces := #[]
  cf := some (fileOf pool4 1 #[] #[] 1537 3 #[] #[])
  fields := #[]
  methods := #[]
  instanceTypes := #[]
  staticTypes := #[]
  resolved := Array.replicate 7 none
  statics := none }

def pool5 : Array CpInfo := pool [(2, .class_ 4), (1, u "java/lang/Enum"), (0, u "name"), (0, u "Ljava/lang/String;"), (0, .fieldref 2 8), (0, .nameAndType 9 10), (0, u "ordinal"), (0, u "I"), (1, .class_ 14), (1, u "java/lang/Object"), (4, u "hash"), (86, .class_ 108), (1, u "java/lang/Enum$EnumDesc"), (2, .class_ 112), (0, u "java/lang/constant/Constable"), (0, .class_ 114), (0, u "java/lang/Comparable"), (0, .class_ 116), (0, u "java/io/Serializable"), (9, u "()I")] 77

def k5c0 : Code := { maxStack := 1, maxLocals := 1, code := jdk_37_method_2_code, exceptionTable := #[], attributes := #[] }
def k5m0 : Method := { name := "ordinal", desc := "()I", sig := { parameters := [], returnType := some .int }, accessFlags := 17, code := some k5c0 }
/-- java/lang/Enum -/
def k5 : Class := { plain "java/lang/Enum" (some 0) with
  accessFlags := 1057
  interfaces := #[2, 3, 4]
  cf := some (fileOf pool5 2 #[.nestMembers #[106]] #[{ accessFlags := 17, nameIndex := 9, descriptorIndex := 126, attributes := #[] }] 1057 12 #[111, 113, 115] #[{ accessFlags := 18, nameIndex := 5, descriptorIndex := 6, attributes := #[] }, { accessFlags := 18, nameIndex := 9, descriptorIndex := 10, attributes := #[] }, { accessFlags := 2, nameIndex := 19, descriptorIndex := 10, attributes := #[] }])
  fields := #[{ name := "name", type := (.object "java/lang/String"), accessFlags := 18, slot := 0, constantValue := 0 }, { name := "ordinal", type := .int, accessFlags := 18, slot := 1, constantValue := 0 }, { name := "hash", type := .int, accessFlags := 2, slot := 2, constantValue := 0 }]
  methods := #[k5m0]
  instanceTypes := #[(.object "java/lang/String"), .int, .int]
  staticTypes := #[]
  resolved := Array.replicate 204 none
  statics := none }

def pool6 : Array CpInfo := pool [(1, .class_ 2), (0, u "com/example/bridger/bridger/mqtt/PacketType"), (2, u "CONNECT"), (0, u "Lcom/example/bridger/bridger/mqtt/PacketType;"), (2, u "CONNACK"), (2, u "PUBLISH"), (2, u "PUBACK"), (2, u "PUBREC"), (0, .fieldref 1 20), (0, .nameAndType 21 6), (0, u "PUBREL"), (2, u "PUBCOMP"), (0, .fieldref 1 26), (0, .nameAndType 27 6), (0, u "SUBSCRIBE"), (2, u "SUBACK"), (0, .fieldref 1 32), (0, .nameAndType 33 6), (0, u "UNSUBSCRIBE"), (2, u "UNSUBACK"), (2, u "PINGREQ"), (2, u "PINGRESP"), (2, u "DISCONNECT"), (2, u "$VALUES"), (0, u "[Lcom/example/bridger/bridger/mqtt/PacketType;"), (6, .class_ 58), (1, u "java/lang/Enum"), (6, .fieldref 1 66), (0, .nameAndType 67 49), (0, u "CODES"), (0, .methodref 1 69), (0, .nameAndType 70 71), (0, u "ordinal"), (0, u "()I"), (28, u "of"), (0, u "(I)Lcom/example/bridger/bridger/mqtt/PacketType;"), (1, u "code"), (0, u "flags")] 4

def k6c0 : Code := { maxStack := 3, maxLocals := 1, code := prog_97_method_4_code, exceptionTable := #[], attributes := #[] }
def k6m0 : Method := { name := "of", desc := "(I)Lcom/example/bridger/bridger/mqtt/PacketType;", sig := { parameters := [.int], returnType := some (.object "com/example/bridger/bridger/mqtt/PacketType") }, accessFlags := 8, code := some k6c0 }
def k6c1 : Code := { maxStack := 2, maxLocals := 1, code := prog_97_method_5_code, exceptionTable := #[], attributes := #[] }
def k6m1 : Method := { name := "code", desc := "()I", sig := { parameters := [], returnType := some .int }, accessFlags := 0, code := some k6c1 }
def k6c2 : Code := { maxStack := 2, maxLocals := 1, code := prog_97_method_6_code, exceptionTable := #[], attributes := #[] }
def k6m2 : Method := { name := "flags", desc := "()I", sig := { parameters := [], returnType := some .int }, accessFlags := 0, code := some k6c2 }
/-- com/example/bridger/bridger/mqtt/PacketType -/
def k6 : Class := { plain "com/example/bridger/bridger/mqtt/PacketType" (some 5) with
  accessFlags := 16433
  interfaces := #[]
  cf := some (fileOf pool6 1 #[] #[{ accessFlags := 8, nameIndex := 100, descriptorIndex := 101, attributes := #[] }, { accessFlags := 0, nameIndex := 103, descriptorIndex := 71, attributes := #[] }, { accessFlags := 0, nameIndex := 104, descriptorIndex := 71, attributes := #[] }] 16433 56 #[] #[{ accessFlags := 16409, nameIndex := 5, descriptorIndex := 6, attributes := #[] }, { accessFlags := 16409, nameIndex := 9, descriptorIndex := 6, attributes := #[] }, { accessFlags := 16409, nameIndex := 12, descriptorIndex := 6, attributes := #[] }, { accessFlags := 16409, nameIndex := 15, descriptorIndex := 6, attributes := #[] }, { accessFlags := 16409, nameIndex := 18, descriptorIndex := 6, attributes := #[] }, { accessFlags := 16409, nameIndex := 21, descriptorIndex := 6, attributes := #[] }, { accessFlags := 16409, nameIndex := 24, descriptorIndex := 6, attributes := #[] }, { accessFlags := 16409, nameIndex := 27, descriptorIndex := 6, attributes := #[] }, { accessFlags := 16409, nameIndex := 30, descriptorIndex := 6, attributes := #[] }, { accessFlags := 16409, nameIndex := 33, descriptorIndex := 6, attributes := #[] }, { accessFlags := 16409, nameIndex := 36, descriptorIndex := 6, attributes := #[] }, { accessFlags := 16409, nameIndex := 39, descriptorIndex := 6, attributes := #[] }, { accessFlags := 16409, nameIndex := 42, descriptorIndex := 6, attributes := #[] }, { accessFlags := 16409, nameIndex := 45, descriptorIndex := 6, attributes := #[] }, { accessFlags := 26, nameIndex := 67, descriptorIndex := 49, attributes := #[] }, { accessFlags := 4122, nameIndex := 48, descriptorIndex := 49, attributes := #[] }])
  fields := #[{ name := "CONNECT", type := (.object "com/example/bridger/bridger/mqtt/PacketType"), accessFlags := 16409, slot := 0, constantValue := 0 }, { name := "CONNACK", type := (.object "com/example/bridger/bridger/mqtt/PacketType"), accessFlags := 16409, slot := 1, constantValue := 0 }, { name := "PUBLISH", type := (.object "com/example/bridger/bridger/mqtt/PacketType"), accessFlags := 16409, slot := 2, constantValue := 0 }, { name := "PUBACK", type := (.object "com/example/bridger/bridger/mqtt/PacketType"), accessFlags := 16409, slot := 3, constantValue := 0 }, { name := "PUBREC", type := (.object "com/example/bridger/bridger/mqtt/PacketType"), accessFlags := 16409, slot := 4, constantValue := 0 }, { name := "PUBREL", type := (.object "com/example/bridger/bridger/mqtt/PacketType"), accessFlags := 16409, slot := 5, constantValue := 0 }, { name := "PUBCOMP", type := (.object "com/example/bridger/bridger/mqtt/PacketType"), accessFlags := 16409, slot := 6, constantValue := 0 }, { name := "SUBSCRIBE", type := (.object "com/example/bridger/bridger/mqtt/PacketType"), accessFlags := 16409, slot := 7, constantValue := 0 }, { name := "SUBACK", type := (.object "com/example/bridger/bridger/mqtt/PacketType"), accessFlags := 16409, slot := 8, constantValue := 0 }, { name := "UNSUBSCRIBE", type := (.object "com/example/bridger/bridger/mqtt/PacketType"), accessFlags := 16409, slot := 9, constantValue := 0 }, { name := "UNSUBACK", type := (.object "com/example/bridger/bridger/mqtt/PacketType"), accessFlags := 16409, slot := 10, constantValue := 0 }, { name := "PINGREQ", type := (.object "com/example/bridger/bridger/mqtt/PacketType"), accessFlags := 16409, slot := 11, constantValue := 0 }, { name := "PINGRESP", type := (.object "com/example/bridger/bridger/mqtt/PacketType"), accessFlags := 16409, slot := 12, constantValue := 0 }, { name := "DISCONNECT", type := (.object "com/example/bridger/bridger/mqtt/PacketType"), accessFlags := 16409, slot := 13, constantValue := 0 }, { name := "CODES", type := (.array (.object "com/example/bridger/bridger/mqtt/PacketType")), accessFlags := 26, slot := 14, constantValue := 0 }, { name := "$VALUES", type := (.array (.object "com/example/bridger/bridger/mqtt/PacketType")), accessFlags := 4122, slot := 15, constantValue := 0 }]
  methods := #[k6m0, k6m1, k6m2]
  instanceTypes := #[(.object "java/lang/String"), .int, .int]
  staticTypes := #[(.object "com/example/bridger/bridger/mqtt/PacketType"), (.object "com/example/bridger/bridger/mqtt/PacketType"), (.object "com/example/bridger/bridger/mqtt/PacketType"), (.object "com/example/bridger/bridger/mqtt/PacketType"), (.object "com/example/bridger/bridger/mqtt/PacketType"), (.object "com/example/bridger/bridger/mqtt/PacketType"), (.object "com/example/bridger/bridger/mqtt/PacketType"), (.object "com/example/bridger/bridger/mqtt/PacketType"), (.object "com/example/bridger/bridger/mqtt/PacketType"), (.object "com/example/bridger/bridger/mqtt/PacketType"), (.object "com/example/bridger/bridger/mqtt/PacketType"), (.object "com/example/bridger/bridger/mqtt/PacketType"), (.object "com/example/bridger/bridger/mqtt/PacketType"), (.object "com/example/bridger/bridger/mqtt/PacketType"), (.array (.object "com/example/bridger/bridger/mqtt/PacketType")), (.array (.object "com/example/bridger/bridger/mqtt/PacketType"))]
  resolved := Array.replicate 109 none
  statics := some 0 }

def pool7 : Array CpInfo := pool [(1, u "java/lang/Cloneable"), (0, .class_ 1), (0, u "java/lang/Object"), (0, .class_ 3)] 3

/-- java/lang/Cloneable -/
def k7 : Class := { plain "java/lang/Cloneable" (some 0) with
  accessFlags := 1537
  interfaces := #[]
  cf := some (fileOf pool7 2 #[] #[] 1537 4 #[] #[])
  fields := #[]
  methods := #[]
  instanceTypes := #[]
  staticTypes := #[]
  resolved := Array.replicate 8 none
  statics := none }

/-- the primitive byte -/
def k8 : Class := { plain "byte" none with kind := .primitive 'B', accessFlags := 0x411 }
/-- [B -/
def k9 : Class := { plain "[B" (some 0) with kind := .array 8 .byte, interfaces := #[7, 4], accessFlags := 1041 }

/-- the primitive int -/
def k10 : Class := { plain "int" none with kind := .primitive 'I', accessFlags := 0x411 }
/-- [I -/
def k11 : Class := { plain "[I" (some 0) with kind := .array 10 .int, interfaces := #[7, 4], accessFlags := 1041 }

/-- [Lcom/example/bridger/bridger/mqtt/PacketType; -/
def k12 : Class := { plain "[Lcom/example/bridger/bridger/mqtt/PacketType;" (some 0) with kind := .array 6 (.object "com/example/bridger/bridger/mqtt/PacketType"), interfaces := #[7, 4], accessFlags := 1041 }

def heap : Heap := #[{ cls := 6, slots := #[.ref 2, .ref 14, .ref 10, .ref 6, .ref 9, .ref 3, .ref 15, .ref 4, .ref 13, .ref 5, .ref 12, .ref 11, .ref 7, .ref 8, .ref 1, .null], vm := .statics 6 },
  { cls := 12, slots := #[.ref 2, .ref 14, .ref 10, .ref 6, .ref 9, .ref 3, .ref 15, .ref 4, .ref 13, .ref 5, .ref 12, .ref 11, .ref 7, .ref 8], vm := .none },
  { cls := 6, slots := #[.null, .int 0, .int 0], vm := .none },
  { cls := 6, slots := #[.null, .int 5, .int 0], vm := .none },
  { cls := 6, slots := #[.null, .int 7, .int 0], vm := .none },
  { cls := 6, slots := #[.null, .int 9, .int 0], vm := .none },
  { cls := 6, slots := #[.null, .int 3, .int 0], vm := .none },
  { cls := 6, slots := #[.null, .int 12, .int 0], vm := .none },
  { cls := 6, slots := #[.null, .int 13, .int 0], vm := .none },
  { cls := 6, slots := #[.null, .int 4, .int 0], vm := .none },
  { cls := 6, slots := #[.null, .int 2, .int 0], vm := .none },
  { cls := 6, slots := #[.null, .int 11, .int 0], vm := .none },
  { cls := 6, slots := #[.null, .int 10, .int 0], vm := .none },
  { cls := 6, slots := #[.null, .int 8, .int 0], vm := .none },
  { cls := 6, slots := #[.null, .int 1, .int 0], vm := .none },
  { cls := 6, slots := #[.null, .int 6, .int 0], vm := .none }]
def classes : Array Class := #[k0, k1, k2, k3, k4, k5, k6, k7, k8, k9, k10, k11, k12]
def interned : List (Array UInt16 × Addr) := []
def slotsUsed : Nat := 72
def theMethod : MethodId := ⟨1, 2⟩
def args0 : Array Value := #[.int 5]
def aboutOver (below : List Frame) : State where
  vm := { classes := classes, interned := interned.toArray }
  heap := heap
  slotsUsed := slotsUsed
  threads := #[{ frames := .invoking theMethod args0 :: below }]
def below0 : List Frame := [.native { method := ⟨0, 0⟩, args := #[] }]
def about1 : State := aboutOver below0
def p0 : Program := .bare "" "" ""
def e0 : Env := launch0.env 0 0 0
theorem w_frames : about1.frames = Frame.invoking theMethod args0 :: below0 := rfl
set_option maxRecDepth 65536 in
theorem w_args : argsFit about1.vm theMethod args0 = true := by decide +kernel
set_option maxRecDepth 65536 in
theorem w_heap : heapFits about1 = true := by decide +kernel
set_option maxRecDepth 65536 in
theorem w_runnable : about1.curStatus? = some .runnable := by decide +kernel
set_option maxRecDepth 65536 in
theorem w_alone : about1.alone = true := by decide +kernel
set_option maxRecDepth 65536 in
theorem w_named : about1.methodNamed? x = some theMethod := by decide +kernel
set_option maxRecDepth 65536 in
theorem w_hears : about1.hears theMethod below0 = true := by decide +kernel
set_option maxRecDepth 65536 in
theorem w_ripe : about1.ripe theMethod args0 below0 = true := by decide +kernel
theorem w_running : about1.status = .running := rfl
set_option maxRecDepth 65536 in
theorem w_room : about1.hasRoom e0.platform room_1 = true :=
  launch0.hasRoom_least _ room_1 (by decide +kernel) (by decide +kernel) (by decide +kernel) (by decide +kernel) (by decide +kernel) (by decide +kernel)
theorem allAtoms_all (ts : List Jvm.Cond) (a : Array Jvm.Value) (st : Jvm.State) : (allAtoms ts).before a st = ts.all (fun c => c.before a st) := by
  induction ts with
  | nil => rfl
  | cons c t ih =>
    show (Jvm.Cond.and c (allAtoms t)).before a st = _
    rw [Jvm.Cond.before_and, ih, List.all_cons]
def words1 : List Jvm.Cond := Jvm.Cond.code x code maxLocals ret :: tables_1
/-- a 'code' word, met by the world's own term for the bytes: nothing is compared byte by byte -/
theorem code_word {y : MethodName} {bytes : ByteArray} {mx : Nat} {rt : Option FieldType} {a : Array Value} {s : State} {m : MethodId} {meth : Method} {c : Code} (h1 : s.methodNamed? y = some m) (h2 : s.vm.method? m = some meth) (h3 : meth.code = some c) (h4 : c.code = bytes)
    (h5 : (c.maxLocals == mx && c.exceptionTable.isEmpty && decide (c.maxStack ≤ mostOperands) && decide (meth.sig.returnType = rt) && !meth.locks && decide (parseMethodDescriptor y.desc = some meth.sig)) = true) : (Jvm.Cond.code y bytes mx rt).before a s = true := by
  simp only [Bool.and_eq_true, beq_iff_eq, Bool.not_eq_true', decide_eq_true_eq] at h5
  obtain ⟨⟨⟨⟨⟨g1, g2⟩, g3⟩, g4⟩, g5⟩, g6⟩ := h5
  simp [Cond.before, Cond.holds, Cond.value, h1, h2, h3, h4, g1, g2, g3, g4, g5, g6]
def isCode : Jvm.Cond → Bool
  | .code _ _ _ _ => true
  | _ => false
theorem all_split {L : List Jvm.Cond} {P : Jvm.Cond → Bool} (h1 : L.all (fun c => isCode c || P c) = true) (h2 : ∀ c ∈ L.filter isCode, P c = true) : L.all P = true := by
  refine List.all_eq_true.mpr fun c hc => ?_
  have h := List.all_eq_true.mp h1 c hc
  rcases Bool.eq_false_or_eq_true (isCode c) with hi | hi
  · exact h2 c (List.mem_filter.mpr ⟨hc, hi⟩)
  · simpa [hi] using h
set_option maxRecDepth 65536 in
theorem w_c0 : (Jvm.Cond.code x code maxLocals ret).before args0 about1 = true := code_word (m := ⟨1, 2⟩) (meth := k1m2) (c := k1c2) (by decide +kernel) rfl rfl rfl (by decide +kernel)
set_option maxRecDepth 65536 in
theorem w_c1 : (Jvm.Cond.code ({ cls := "com/example/bridger/bridger/mqtt/PacketType", name := "of", desc := "(I)Lcom/example/bridger/bridger/mqtt/PacketType;" } : Jvm.MethodName) prog_97_method_4_code (1 : Nat) (Option.some (Jvm.ClassFile.FieldType.object "com/example/bridger/bridger/mqtt/PacketType"))).before args0 about1 = true := code_word (m := ⟨6, 0⟩) (meth := k6m0) (c := k6c0) (by decide +kernel) rfl rfl rfl (by decide +kernel)
set_option maxRecDepth 65536 in
theorem w_c2 : (Jvm.Cond.code ({ cls := "com/example/bridger/bridger/mqtt/PacketType", name := "flags", desc := "()I" } : Jvm.MethodName) prog_97_method_6_code (1 : Nat) (Option.some Jvm.ClassFile.FieldType.int)).before args0 about1 = true := code_word (m := ⟨6, 2⟩) (meth := k6m2) (c := k6c2) (by decide +kernel) rfl rfl rfl (by decide +kernel)
set_option maxRecDepth 65536 in
theorem w_c3 : (Jvm.Cond.code ({ cls := "com/example/bridger/bridger/mqtt/PacketType", name := "code", desc := "()I" } : Jvm.MethodName) prog_97_method_5_code (1 : Nat) (Option.some Jvm.ClassFile.FieldType.int)).before args0 about1 = true := code_word (m := ⟨6, 1⟩) (meth := k6m1) (c := k6c1) (by decide +kernel) rfl rfl rfl (by decide +kernel)
set_option maxRecDepth 65536 in
theorem w_c4 : (Jvm.Cond.code ({ cls := "java/lang/Enum", name := "ordinal", desc := "()I" } : Jvm.MethodName) jdk_37_method_2_code (1 : Nat) (Option.some Jvm.ClassFile.FieldType.int)).before args0 about1 = true := code_word (m := ⟨5, 0⟩) (meth := k5m0) (c := k5c0) (by decide +kernel) rfl rfl rfl (by decide +kernel)
set_option maxRecDepth 65536 in
theorem w_c5 : (Jvm.Cond.code ({ cls := "com/example/bridger/bridger/mqtt/PacketTypeFlagsPinLaw", name := "expectedFlags", desc := "(I)I" } : Jvm.MethodName) method_2_code (1 : Nat) (Option.some Jvm.ClassFile.FieldType.int)).before args0 about1 = true := code_word (m := ⟨1, 1⟩) (meth := k1m1) (c := k1c1) (by decide +kernel) rfl rfl rfl (by decide +kernel)
def codes1 : List Jvm.Cond := [Jvm.Cond.code x code maxLocals ret, Jvm.Cond.code ({ cls := "com/example/bridger/bridger/mqtt/PacketType", name := "of", desc := "(I)Lcom/example/bridger/bridger/mqtt/PacketType;" } : Jvm.MethodName) prog_97_method_4_code (1 : Nat) (Option.some (Jvm.ClassFile.FieldType.object "com/example/bridger/bridger/mqtt/PacketType")), Jvm.Cond.code ({ cls := "com/example/bridger/bridger/mqtt/PacketType", name := "flags", desc := "()I" } : Jvm.MethodName) prog_97_method_6_code (1 : Nat) (Option.some Jvm.ClassFile.FieldType.int), Jvm.Cond.code ({ cls := "com/example/bridger/bridger/mqtt/PacketType", name := "code", desc := "()I" } : Jvm.MethodName) prog_97_method_5_code (1 : Nat) (Option.some Jvm.ClassFile.FieldType.int), Jvm.Cond.code ({ cls := "java/lang/Enum", name := "ordinal", desc := "()I" } : Jvm.MethodName) jdk_37_method_2_code (1 : Nat) (Option.some Jvm.ClassFile.FieldType.int), Jvm.Cond.code ({ cls := "com/example/bridger/bridger/mqtt/PacketTypeFlagsPinLaw", name := "expectedFlags", desc := "(I)I" } : Jvm.MethodName) method_2_code (1 : Nat) (Option.some Jvm.ClassFile.FieldType.int)]
set_option maxRecDepth 65536 in
theorem codes_eq : words1.filter isCode = codes1 := rfl
theorem w_codes : ∀ c ∈ words1.filter isCode, c.before args0 about1 = true := by
  rw [codes_eq]
  intro c hc
  simp only [codes1, List.mem_cons, List.not_mem_nil, or_false] at hc
  rcases hc with rfl | rfl | rfl | rfl | rfl | rfl
  · exact w_c0
  · exact w_c1
  · exact w_c2
  · exact w_c3
  · exact w_c4
  · exact w_c5
set_option maxRecDepth 65536 in
theorem w_t1 : (words1.take 24).all (fun c => isCode c || c.before args0 about1) = true := by decide +kernel
set_option maxRecDepth 65536 in
theorem w_t2 : (words1.drop 24).all (fun c => isCode c || c.before args0 about1) = true := by decide +kernel
theorem w_tables : (allAtoms (Jvm.Cond.code x code maxLocals ret :: tables_1)).before args0 about1 = true := by
  rw [allAtoms_all]
  show words1.all (fun c => c.before args0 about1) = true
  refine all_split ?_ w_codes
  rw [← List.take_append_drop 24 words1, List.all_append, w_t1, w_t2]
  rfl
set_option maxRecDepth 65536 in
theorem w_case : (Jvm.Cond.and given_1 narrow_1).before args0 about1 = true := by decide +kernel
theorem w_applies : (headSpec (Jvm.Cond.code x code maxLocals ret :: tables_1) room_1).applies x e0.platform about1 = true :=
  (Spec.applies_iff w_frames).mpr ⟨w_running, w_runnable, w_alone, w_named, w_hears, w_ripe, w_room, w_tables⟩
theorem atStart : AtStart classFile x code maxLocals ret World_1 tables_1 room_1 Calls_1 rest_1 Pre_1 launch0 p0 e0 about1 theMethod args0 below0 :=
  ⟨lists_1, trivial, launch0.admits_env _ _ _, launch0.least_env, fairChoices_fair.cas, fairChoices_fair.clock, w_frames, w_args, w_heap, w_applies, trivial, trivial, w_case⟩
end start1
theorem witness_1 : WitnessClaimed_1 := ⟨start1.p0, start1.e0, start1.about1, start1.theMethod, start1.args0, start1.below0, start1.atStart⟩
end Jvm.Pilot.@@N@@
