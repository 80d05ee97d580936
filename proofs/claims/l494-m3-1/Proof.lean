import JvmDerived
import JvmDerived.Pilot.@@N@@Statement
import JvmDerived.Pilot.@@N@@Code
set_option linter.unusedVariables false
set_option linter.unusedSimpArgs false
namespace Jvm.Pilot.@@N@@
open Jvm Jvm.ClassFile Sem Op Lib Jvm.Free Jvm.Stand Jvm.LawKit Jvm.RoadKit Bundle Jvm.Pilot.@@N@@.Jvm.D
abbrev own_Ends (p : Program) (e : Env) (below : List Frame) (T : State) (g : JFrame) (Q : Outcome → State → Prop) : Prop :=
  ∃ s₂ o, Steps p.tables e below (T.setTop g) s₂ ∧ s₂.status = .running ∧ Ended s₂ below o ∧ Q o s₂
section Own
variable {p : Program} {l : Launch} {e : Env} {R : Room} {s : State} {m : MethodId} {args : Array Value} {below : List Frame} {meth : Method} {c : Code} {T T' : State} {locs : List Loc} {cells slots : Nat}
theorem own_go {g g' : JFrame} {Q : Outcome → State → Prop} (h : ∀ t, Steps p.tables e below (T'.setTop g') t → Steps p.tables e below (T.setTop g) t) (k : own_Ends p e below T' g' Q) : own_Ends p e below T g Q := by
  obtain ⟨s₂, o, h1, h2⟩ := k
  exact ⟨s₂, o, h _ h1, h2⟩
theorem own_start {g g' : JFrame} {Q : Outcome → State → Prop} (h : g = g') (k : own_Ends p e below T g' Q) : own_Ends p e below T g Q := h ▸ k
theorem own_ret (X : Stand p l e R s m args below meth c T locs cells slots) (hlk : meth.locks = false) (hx : p.tables.exec = Jvm.exec) {pc : Nat} {Ls : Array Slot} {w : Value} {t : FieldType} {i : Instr} {rest : List Value} (hret : meth.sig.returnType = some t) (hn : narrow t w = w)
    (hi : (i = .ireturn ∧ (t = .int ∨ t = .boolean ∨ t = .byte ∨ t = .char ∨ t = .short) ∧ ∃ z, w = .int z) ∨ (i = .lreturn ∧ t = .long ∧ ∃ z, w = .long z) ∨ (i = .dreturn ∧ t = .double ∧ ∃ z, w = .double z) ∨ (i = .freturn ∧ t = .float ∧ ∃ z, w = .float z) ∨ (i = .areturn ∧ t.isReference = true ∧ w.isRef = true))
    (hd : decode c.code pc = .ok (i, 1)) {Qv : Option Value → Heap → List Loc → Prop} {C S : Nat} (hq : Qv (some w) T.heap locs) (hc : cells ≤ C) (hs : slots ≤ S) :
    own_Ends p e below T (mkF m pc Ls (w :: rest)) (fun o U' => ∃ v L, o = .returned v ∧ Qv v U'.heap L ∧ FrameEnd s o U' L C S) := by
  obtain ⟨fs, hr, hrun, hended, hW, hsame⟩ := X.leave (v := some w) (fun h => by rw [hret] at h; cases h) hlk
  exact ⟨_, _, retOut X hx hret hn hi hd hr, hrun, hended, _, _, rfl, hq, ⟨_, rfl⟩, hW, hsame.mono hc hs⟩
theorem own_ret0 (X : Stand p l e R s m args below meth c T locs cells slots) (hlk : meth.locks = false) (hx : p.tables.exec = Jvm.exec) {pc : Nat} {Ls : Array Slot} (hret : meth.sig.returnType = none)
    (hd : decode c.code pc = .ok (.return_, 1)) {Qv : Option Value → Heap → List Loc → Prop} {C S : Nat} (hq : Qv none T.heap locs) (hc : cells ≤ C) (hs : slots ≤ S) :
    own_Ends p e below T (mkF m pc Ls []) (fun o U' => ∃ v L, o = .returned v ∧ Qv v U'.heap L ∧ FrameEnd s o U' L C S) := by
  obtain ⟨fs, hr, hrun, hended, hW, hsame⟩ := X.leave (v := none) (fun _ => rfl) hlk
  exact ⟨_, _, X.returnOut hx hret hd hr, hrun, hended, _, _, rfl, hq, ⟨_, rfl⟩, hW, hsame.mono hc hs⟩
theorem own_nr {t : FieldType} {v : Value} (h : v.isRef = true) : narrow t v = v := by cases v <;> first | (cases h; done) | (cases t <;> rfl)
end Own
theorem own_len {args : Array Value} {s : State} {t : Term} {a : Addr} {c : Cell} {ty : FieldType} {k : Int32} (ht : t.eval args s none [] s = some (.ref a)) (A : Arr s s.heap a c ty) (h : (Jvm.Cond.eq (.length t) (.int k)).value args s none s [] = some true) : c.slots.size < 2 ^ 31 ∧ c.slots.size.toInt32 = k := by
  obtain ⟨x, y, e1, e2, h3, h4⟩ := cmp_v (Or.inl h)
  obtain rfl : Value.int k = y := Option.some.inj ((Term.int_eval k).symm.trans e2)
  obtain ⟨z, rfl⟩ : ∃ z, x = .int z := h4
  have q : z = k := gotT (Cond.eq_ints e1 e2) h
  subst q
  have ha : s.arrayAt? a = some c := Arr.fin (Vm.Alike.refl _) A
  by_cases hl : c.slots.size < 2 ^ 31
  · refine ⟨hl, ?_⟩
    have := (len_f ht ha hl).symm.trans e1
    exact Value.int.inj (Option.some.inj this)
  · exfalso
    simp [Term.eval, ht, ha, hl] at e1 <;> omega
theorem own_elt {args : Array Value} {s : State} {t u : Term} {a : Addr} {c : Cell} {ty : FieldType} {j : Int32} {b : Addr} {i : Nat} (ht : t.eval args s none [] s = some (.ref a)) (A : Arr s s.heap a c ty) (hu : u.eval args s none [] s = some (.ref b)) (h : (Jvm.Cond.eq (.elem t (.int j)) u).value args s none s [] = some true) (hj : j.toNatClampNeg = i) : c.slots[i]? = some (.ref b) := by
  obtain ⟨x, y, e1, e2, h3, h4⟩ := cmp_v (Or.inl h)
  obtain rfl : Value.ref b = y := Option.some.inj (hu.symm.trans e2)
  have q := (elem_in e1 ht (Term.int_eval j) A.1).2
  have e : x = .ref b := gotT (eq_R e1 e2 (by cases x <;> simp_all [Kin, Value.isRef]) rfl) h
  rw [hj] at q; rw [q, e]

def own_exp (g : Nat → Addr) (c : Int32) : Value := if c = 1 then .ref (g 0) else if c = 2 then .ref (g 1) else if c = 3 then .ref (g 2) else if c = 4 then .ref (g 3) else if c = 5 then .ref (g 4) else if c = 6 then .ref (g 5) else if c = 7 then .ref (g 6) else if c = 8 then .ref (g 7) else if c = 9 then .ref (g 8) else if c = 10 then .ref (g 9) else if c = 11 then .ref (g 10) else if c = 12 then .ref (g 11) else if c = 13 then .ref (g 12) else if c = 14 then .ref (g 13) else .null
theorem own_exp_iteR {P : Prop} [Decidable P] {x y : Value} (hx : x.isRef = true) (hy : y.isRef = true) : (if P then x else y).isRef = true := by split <;> assumption
theorem own_exp_ref (g : Nat → Addr) (c : Int32) : (own_exp g c).isRef = true := by
  unfold own_exp; repeat' apply own_exp_iteR
  all_goals rfl
theorem own_exp_lo (g : Nat → Addr) {c : Int32} (h : c < 1) : own_exp g c = .null := by
  have q : ∀ k : Int32, 1 ≤ k.toInt → c ≠ k := fun k hk e => by subst e; rw [Int32.lt_iff_toInt_lt] at h; have : (1 : Int32).toInt = 1 := rfl; omega
  simp [own_exp, q 1 (by decide), q 2 (by decide), q 3 (by decide), q 4 (by decide), q 5 (by decide), q 6 (by decide), q 7 (by decide), q 8 (by decide), q 9 (by decide), q 10 (by decide), q 11 (by decide), q 12 (by decide), q 13 (by decide), q 14 (by decide)]
theorem own_exp_hi (g : Nat → Addr) {c : Int32} (h : 14 < c) : own_exp g c = .null := by
  have q : ∀ k : Int32, k.toInt ≤ 14 → c ≠ k := fun k hk e => by subst e; rw [Int32.lt_iff_toInt_lt] at h; have : (14 : Int32).toInt = 14 := rfl; omega
  simp [own_exp, q 1 (by decide), q 2 (by decide), q 3 (by decide), q 4 (by decide), q 5 (by decide), q 6 (by decide), q 7 (by decide), q 8 (by decide), q 9 (by decide), q 10 (by decide), q 11 (by decide), q 12 (by decide), q 13 (by decide), q 14 (by decide)]
theorem own_14 {c : Int32} (h1 : ¬ c < 1) (h2 : ¬ 14 < c) : c = 1 ∨ c = 2 ∨ c = 3 ∨ c = 4 ∨ c = 5 ∨ c = 6 ∨ c = 7 ∨ c = 8 ∨ c = 9 ∨ c = 10 ∨ c = 11 ∨ c = 12 ∨ c = 13 ∨ c = 14 := by
  rw [Int32.lt_iff_toInt_lt] at h1 h2
  simp only [← Int32.toInt_inj]
  have : (14 : Int32).toInt = 14 := rfl
  have : (1 : Int32).toInt = 1 := rfl
  have : (2 : Int32).toInt = 2 := rfl
  have : (3 : Int32).toInt = 3 := rfl
  have : (4 : Int32).toInt = 4 := rfl
  have : (5 : Int32).toInt = 5 := rfl
  have : (6 : Int32).toInt = 6 := rfl
  have : (7 : Int32).toInt = 7 := rfl
  have : (8 : Int32).toInt = 8 := rfl
  have : (9 : Int32).toInt = 9 := rfl
  have : (10 : Int32).toInt = 10 := rfl
  have : (11 : Int32).toInt = 11 := rfl
  have : (12 : Int32).toInt = 12 := rfl
  have : (13 : Int32).toInt = 13 := rfl
  omega
theorem own_at (g : Nat → Addr) {c : Int32} (h1 : ¬ c < 1) (h2 : ¬ 14 < c) : ([.ref (g 0), .ref (g 1), .ref (g 2), .ref (g 3), .ref (g 4), .ref (g 5), .ref (g 6), .ref (g 7), .ref (g 8), .ref (g 9), .ref (g 10), .ref (g 11), .ref (g 12), .ref (g 13)] : List Value).getD (c - 1).toNatClampNeg .null = own_exp g c := by
  have h := own_14 h1 h2
  rcases h with rfl | rfl | rfl | rfl | rfl | rfl | rfl | rfl | rfl | rfl | rfl | rfl | rfl | rfl <;> rfl
theorem own_inb {c : Int32} (h1 : ¬ c < 1) (h2 : ¬ 14 < c) : ¬ (c - 1) < 0 ∧ (c - 1) < 14 := by
  have h := own_14 h1 h2
  rcases h with rfl | rfl | rfl | rfl | rfl | rfl | rfl | rfl | rfl | rfl | rfl | rfl | rfl | rfl <;> decide

theorem own_d_prog_97_method_4_code_0 : decode prog_97_method_4_code 0 = .ok (.iload_n 0, 1) := by decide +kernel
theorem own_d_prog_97_method_4_code_1 : decode prog_97_method_4_code 1 = .ok (.iconst 1, 1) := by decide +kernel
theorem own_d_prog_97_method_4_code_2 : decode prog_97_method_4_code 2 = .ok (.if_icmp .lt 21, 3) := by decide +kernel
theorem own_d_prog_97_method_4_code_5 : decode prog_97_method_4_code 5 = .ok (.iload_n 0, 1) := by decide +kernel
theorem own_d_prog_97_method_4_code_6 : decode prog_97_method_4_code 6 = .ok (.getstatic 65, 3) := by decide +kernel
theorem own_d_prog_97_method_4_code_9 : decode prog_97_method_4_code 9 = .ok (.arraylength, 1) := by decide +kernel
theorem own_d_prog_97_method_4_code_10 : decode prog_97_method_4_code 10 = .ok (.if_icmp .gt 13, 3) := by decide +kernel
theorem own_d_prog_97_method_4_code_13 : decode prog_97_method_4_code 13 = .ok (.getstatic 65, 3) := by decide +kernel
theorem own_d_prog_97_method_4_code_16 : decode prog_97_method_4_code 16 = .ok (.iload_n 0, 1) := by decide +kernel
theorem own_d_prog_97_method_4_code_17 : decode prog_97_method_4_code 17 = .ok (.iconst 1, 1) := by decide +kernel
theorem own_d_prog_97_method_4_code_18 : decode prog_97_method_4_code 18 = .ok (.isub, 1) := by decide +kernel
theorem own_d_prog_97_method_4_code_19 : decode prog_97_method_4_code 19 = .ok (.aaload, 1) := by decide +kernel
theorem own_d_prog_97_method_4_code_20 : decode prog_97_method_4_code 20 = .ok (.goto 4, 3) := by decide +kernel
theorem own_d_prog_97_method_4_code_23 : decode prog_97_method_4_code 23 = .ok (.aconst_null, 1) := by decide +kernel
theorem own_d_prog_97_method_4_code_24 : decode prog_97_method_4_code 24 = .ok (.areturn, 1) := by decide +kernel
def Q_own_rof (p0 : Int32) (g : Nat → Addr) (h0 : Heap) (n0 : Nat) (v : Option Value) (h : Heap) (L : List Loc) : Prop := v = some (own_exp g p0) ∧ L = [] ∧ h = h0
set_option maxRecDepth 65536 in
set_option maxHeartbeats 40000000 in
theorem own_rof (l : Launch) (Z : State) (a0 : Array Value) (hw : ∀ d ∈ tables_1, d.before a0 Z = true) (ws : List Jvm.Cond) (p0 : Int32) (g : Nat → Addr) (aC : Addr) (kC : ClassId) (h0 : Heap) (n0 : Nat) (Z0 : n0 ≤ h0.size) (S_CODES : Sta Z h0 "com/example/bridger/bridger/mqtt/PacketType" "CODES" "[Lcom/example/bridger/bridger/mqtt/PacketType;" (.ref aC)) (V_CODES : Arv Z h0 aC kC (.object "com/example/bridger/bridger/mqtt/PacketType") (14 : Int32) [.ref (g 0), .ref (g 1), .ref (g 2), .ref (g 3), .ref (g 4), .ref (g 5), .ref (g 6), .ref (g 7), .ref (g 8), .ref (g 9), .ref (g 10), .ref (g 11), .ref (g 12), .ref (g 13)] .null) :
    MetFree l (⟨"com/example/bridger/bridger/mqtt/PacketType", "of", "(I)Lcom/example/bridger/bridger/mqtt/PacketType;"⟩ : MethodName) (head1 (Jvm.Cond.code (⟨"com/example/bridger/bridger/mqtt/PacketType", "of", "(I)Lcom/example/bridger/bridger/mqtt/PacketType;"⟩ : MethodName) prog_97_method_4_code 1 (some (.object "com/example/bridger/bridger/mqtt/PacketType")) :: ws) ({ frames := 0, cells := 0, slots := 0, locals := 0 } : Room)) (fun au Uu => au = #[(.int p0)] ∧ Z.Warmed39 Uu.vm ∧ Uu.heap = h0) (fun _ _ _ _ _ => True) (fun _ Uu ou Uw => ∃ vu Lu, ou = .returned vu ∧ Q_own_rof p0 g h0 n0 vu Uw.heap Lu ∧ FrameEnd Uu ou Uw Lu ({ frames := 0, cells := 0, slots := 0, locals := 0 } : Room).cells ({ frames := 0, cells := 0, slots := 0, locals := 0 } : Room).slots) := by
  refine MetFree.of_bodySF (plainFor_of_name (by first | (simp [plainName, overriddenIn]; done) | decide +kernel)) hisR ?_
  intro p e s m args below meth c s₁ Bd hml0 hP hK
  obtain ⟨rfl, hZ, hh⟩ := hP
  have hx := Bd.exec
  have hby := Bd.bytes
  have hlk := Bd.notSynchronized
  have hml : c.maxLocals = 1 := hml0
  have hown : s.vm.findClass "com/example/bridger/bridger/mqtt/PacketType" = some m.cls := findClass_of_methodNamed Bd.named
  have hnm := (name_of_methodNamed Bd.named Bd.method).1
  have X0 : Stand p l e ({ frames := 0, cells := 0, slots := 0, locals := 0 } : Room) s m #[(.int p0)] below meth c s₁ [] 0 0 := Stand.of_body Bd
  have e0 : s₁.heap = h0 := by rw [← hh, Bd.state]; rfl
  have N0 := Fr.nil n0
  show own_Ends p e below s₁ (entryFrame m #[(.int p0)] 1) (fun ou Uw => ∃ vu Lu, ou = .returned vu ∧ Q_own_rof p0 g h0 n0 vu Uw.heap Lu ∧ FrameEnd s ou Uw Lu ({ frames := 0, cells := 0, slots := 0, locals := 0 } : Room).cells ({ frames := 0, cells := 0, slots := 0, locals := 0 } : Room).slots)
  refine own_start (g' := (mkF m 0 #[iv p0] [])) (by first | (simp [entryFrame, mkF, argsToLocals, Value.category, iv, rv]; done) | rfl) ?_
  refine own_go (T' := s₁) (g' := (mkF m 1 #[iv p0] [(.int p0)])) (fun t k => XS.iloadN X0.here hx rfl (hb hby own_d_prog_97_method_4_code_0) rfl k) ?_
  refine own_go (T' := s₁) (g' := (mkF m 2 #[iv p0] [(.int (1 : Int32)), (.int p0)])) (fun t k => XS.iconst X0.here hx rfl (hb hby own_d_prog_97_method_4_code_1) k) ?_
  by_cases hc1 : p0 < (1 : Int32)
  · refine own_go (T' := s₁) (g' := (mkF m 23 #[iv p0] [])) (fun t k => XS.icmpYes X0.here hx rfl (pc0 := 2) (pc' := 23) rfl (hb hby own_d_prog_97_method_4_code_2) rfl (tlt hc1).1 (by decide) (by decide) k) ?_
    refine own_go (T' := s₁) (g' := (mkF m 24 #[iv p0] [.null])) (fun t k => XS.aconstNull X0.here hx rfl (hb hby own_d_prog_97_method_4_code_23) k) ?_
    exact own_ret X0 hlk hx Bd.returns rfl (Or.inr (Or.inr (Or.inr (Or.inr ⟨rfl, rfl, rfl⟩)))) (hb hby own_d_prog_97_method_4_code_24) ⟨by rw [own_exp_lo g hc1], rfl, e0⟩ (by decide) (by decide)
  · refine own_go (T' := s₁) (g' := (mkF m 5 #[iv p0] [])) (fun t k => XS.icmpNo X0.here hx rfl (hb hby own_d_prog_97_method_4_code_2) rfl (flt hc1).1 k) ?_
    refine own_go (T' := s₁) (g' := (mkF m 6 #[iv p0] [(.int p0)])) (fun t k => XS.iloadN X0.here hx rfl (hb hby own_d_prog_97_method_4_code_5) rfl k) ?_
    obtain ⟨T2, X2, e2, st2⟩ := getS2 X0 hx hZ hown (host := "") (Or.inl (hw _ (List.mem_of_getElem? (i := 8) rfl))) Via.refl e0 S_CODES (g := (mkF m 6 #[iv p0] [(.int p0)])) rfl (hb hby own_d_prog_97_method_4_code_6)
    refine own_go (T' := T2) (g' := (mkF m 9 #[iv p0] [(.ref aC), (.int p0)])) (st2) ?_
    obtain ⟨cl3, Ar3, -, Sz3, Nn3, -, -⟩ := id V_CODES
    refine own_go (T' := T2) (g' := (mkF m 10 #[iv p0] [(.int (14 : Int32)), (.int p0)])) (fun t k => X2.arraylength hx (by rw [e2]; exact Ar3.1) (State.isArrayOf_alike hZ.alike Ar3.2.1) (g := (mkF m 9 #[iv p0] [(.ref aC), (.int p0)])) rfl rfl (hb hby own_d_prog_97_method_4_code_9) _ (by rw [len_of Sz3 Nn3]; exact k)) ?_
    by_cases hc4 : (14 : Int32) < p0
    · refine own_go (T' := T2) (g' := (mkF m 23 #[iv p0] [])) (fun t k => XS.icmpYes X2.here hx rfl (pc0 := 10) (pc' := 23) rfl (hb hby own_d_prog_97_method_4_code_10) rfl (tlt hc4).2.2.1 (by decide) (by decide) k) ?_
      refine own_go (T' := T2) (g' := (mkF m 24 #[iv p0] [.null])) (fun t k => XS.aconstNull X2.here hx rfl (hb hby own_d_prog_97_method_4_code_23) k) ?_
      exact own_ret X2 hlk hx Bd.returns rfl (Or.inr (Or.inr (Or.inr (Or.inr ⟨rfl, rfl, rfl⟩)))) (hb hby own_d_prog_97_method_4_code_24) ⟨by rw [own_exp_hi g hc4], rfl, e2⟩ (by decide) (by decide)
    · refine own_go (T' := T2) (g' := (mkF m 13 #[iv p0] [])) (fun t k => XS.icmpNo X2.here hx rfl (hb hby own_d_prog_97_method_4_code_10) rfl (flt hc4).2.2.1 k) ?_
      obtain ⟨T5, X5, e5, st5⟩ := getS2 X2 hx hZ hown (host := "") (Or.inl (hw _ (List.mem_of_getElem? (i := 8) rfl))) Via.refl e2 S_CODES (g := (mkF m 13 #[iv p0] [])) rfl (hb hby own_d_prog_97_method_4_code_13)
      refine own_go (T' := T5) (g' := (mkF m 16 #[iv p0] [(.ref aC)])) (st5) ?_
      refine own_go (T' := T5) (g' := (mkF m 17 #[iv p0] [(.int p0), (.ref aC)])) (fun t k => XS.iloadN X5.here hx rfl (hb hby own_d_prog_97_method_4_code_16) rfl k) ?_
      refine own_go (T' := T5) (g' := (mkF m 18 #[iv p0] [(.int (1 : Int32)), (.int p0), (.ref aC)])) (fun t k => XS.iconst X5.here hx rfl (hb hby own_d_prog_97_method_4_code_17) k) ?_
      refine own_go (T' := T5) (g' := (mkF m 19 #[iv p0] [(.int (p0 - (1 : Int32))), (.ref aC)])) (fun t k => XS.isub X5.here hx rfl (hb hby own_d_prog_97_method_4_code_18) rfl k) ?_
      obtain ⟨cl6, Ar6, -, Sz6, Nn6, Ha6, -⟩ := id V_CODES
      have hin6 : ¬ ((p0 - (1 : Int32)) < 0 ∨ cl6.slots.size ≤ ((p0 - (1 : Int32))).toNatClampNeg) := inb_of Sz6 (own_inb hc1 hc4)
      have hat6 : cl6.slots[((p0 - (1 : Int32))).toNatClampNeg]? = some (own_exp g p0) := Ha6.at hin6 (own_at g hc1 hc4)
      refine own_go (T' := T5) (g' := (mkF m 20 #[iv p0] [(own_exp g p0)])) (fun t k => X5.aaload hx (j := (p0 - (1 : Int32))) (v := (own_exp g p0)) (by rw [e5]; exact Ar6.1) (State.isArrayOf_alike hZ.alike Ar6.2.1) rfl Ar6.2.2 hin6 hat6 (g := (mkF m 19 #[iv p0] [(.int (p0 - (1 : Int32))), (.ref aC)])) rfl rfl (hb hby own_d_prog_97_method_4_code_19) _ k) ?_
      refine own_go (T' := T5) (g' := (mkF m 24 #[iv p0] [(own_exp g p0)])) (fun t k => XS.goto X5.here hx rfl (pc0 := 20) (pc' := 24) rfl (hb hby own_d_prog_97_method_4_code_20) (by decide) (by decide) k) ?_
      exact own_ret X5 hlk hx Bd.returns (own_nr (own_exp_ref g p0)) (Or.inr (Or.inr (Or.inr (Or.inr ⟨rfl, rfl, (own_exp_ref g p0)⟩)))) (hb hby own_d_prog_97_method_4_code_24) ⟨rfl, rfl, e5⟩ (by decide) (by decide)

theorem own_d_method_3_code_0 : decode method_3_code 0 = .ok (.iload_n 0, 1) := by decide +kernel
theorem own_d_method_3_code_1 : decode method_3_code 1 = .ok (.iconst 1, 1) := by decide +kernel
theorem own_d_method_3_code_2 : decode method_3_code 2 = .ok (.if_icmp .ne 7, 3) := by decide +kernel
theorem own_d_method_3_code_5 : decode method_3_code 5 = .ok (.getstatic 18, 3) := by decide +kernel
theorem own_d_method_3_code_8 : decode method_3_code 8 = .ok (.areturn, 1) := by decide +kernel
theorem own_d_method_3_code_9 : decode method_3_code 9 = .ok (.iload_n 0, 1) := by decide +kernel
theorem own_d_method_3_code_10 : decode method_3_code 10 = .ok (.iconst 2, 1) := by decide +kernel
theorem own_d_method_3_code_11 : decode method_3_code 11 = .ok (.if_icmp .ne 7, 3) := by decide +kernel
theorem own_d_method_3_code_14 : decode method_3_code 14 = .ok (.getstatic 22, 3) := by decide +kernel
theorem own_d_method_3_code_17 : decode method_3_code 17 = .ok (.areturn, 1) := by decide +kernel
theorem own_d_method_3_code_18 : decode method_3_code 18 = .ok (.iload_n 0, 1) := by decide +kernel
theorem own_d_method_3_code_19 : decode method_3_code 19 = .ok (.iconst 3, 1) := by decide +kernel
theorem own_d_method_3_code_20 : decode method_3_code 20 = .ok (.if_icmp .ne 7, 3) := by decide +kernel
theorem own_d_method_3_code_23 : decode method_3_code 23 = .ok (.getstatic 25, 3) := by decide +kernel
theorem own_d_method_3_code_26 : decode method_3_code 26 = .ok (.areturn, 1) := by decide +kernel
theorem own_d_method_3_code_27 : decode method_3_code 27 = .ok (.iload_n 0, 1) := by decide +kernel
theorem own_d_method_3_code_28 : decode method_3_code 28 = .ok (.iconst 4, 1) := by decide +kernel
theorem own_d_method_3_code_29 : decode method_3_code 29 = .ok (.if_icmp .ne 7, 3) := by decide +kernel
theorem own_d_method_3_code_32 : decode method_3_code 32 = .ok (.getstatic 28, 3) := by decide +kernel
theorem own_d_method_3_code_35 : decode method_3_code 35 = .ok (.areturn, 1) := by decide +kernel
theorem own_d_method_3_code_36 : decode method_3_code 36 = .ok (.iload_n 0, 1) := by decide +kernel
theorem own_d_method_3_code_37 : decode method_3_code 37 = .ok (.iconst 5, 1) := by decide +kernel
theorem own_d_method_3_code_38 : decode method_3_code 38 = .ok (.if_icmp .ne 7, 3) := by decide +kernel
theorem own_d_method_3_code_41 : decode method_3_code 41 = .ok (.getstatic 31, 3) := by decide +kernel
theorem own_d_method_3_code_44 : decode method_3_code 44 = .ok (.areturn, 1) := by decide +kernel
theorem own_d_method_3_code_45 : decode method_3_code 45 = .ok (.iload_n 0, 1) := by decide +kernel
theorem own_d_method_3_code_46 : decode method_3_code 46 = .ok (.bipush 6, 2) := by decide +kernel
theorem own_d_method_3_code_48 : decode method_3_code 48 = .ok (.if_icmp .ne 7, 3) := by decide +kernel
theorem own_d_method_3_code_51 : decode method_3_code 51 = .ok (.getstatic 34, 3) := by decide +kernel
theorem own_d_method_3_code_54 : decode method_3_code 54 = .ok (.areturn, 1) := by decide +kernel
theorem own_d_method_3_code_55 : decode method_3_code 55 = .ok (.iload_n 0, 1) := by decide +kernel
theorem own_d_method_3_code_56 : decode method_3_code 56 = .ok (.bipush 7, 2) := by decide +kernel
theorem own_d_method_3_code_58 : decode method_3_code 58 = .ok (.if_icmp .ne 7, 3) := by decide +kernel
theorem own_d_method_3_code_61 : decode method_3_code 61 = .ok (.getstatic 37, 3) := by decide +kernel
theorem own_d_method_3_code_64 : decode method_3_code 64 = .ok (.areturn, 1) := by decide +kernel
theorem own_d_method_3_code_65 : decode method_3_code 65 = .ok (.iload_n 0, 1) := by decide +kernel
theorem own_d_method_3_code_66 : decode method_3_code 66 = .ok (.bipush 8, 2) := by decide +kernel
theorem own_d_method_3_code_68 : decode method_3_code 68 = .ok (.if_icmp .ne 7, 3) := by decide +kernel
theorem own_d_method_3_code_71 : decode method_3_code 71 = .ok (.getstatic 40, 3) := by decide +kernel
theorem own_d_method_3_code_74 : decode method_3_code 74 = .ok (.areturn, 1) := by decide +kernel
theorem own_d_method_3_code_75 : decode method_3_code 75 = .ok (.iload_n 0, 1) := by decide +kernel
theorem own_d_method_3_code_76 : decode method_3_code 76 = .ok (.bipush 9, 2) := by decide +kernel
theorem own_d_method_3_code_78 : decode method_3_code 78 = .ok (.if_icmp .ne 7, 3) := by decide +kernel
theorem own_d_method_3_code_81 : decode method_3_code 81 = .ok (.getstatic 43, 3) := by decide +kernel
theorem own_d_method_3_code_84 : decode method_3_code 84 = .ok (.areturn, 1) := by decide +kernel
theorem own_d_method_3_code_85 : decode method_3_code 85 = .ok (.iload_n 0, 1) := by decide +kernel
theorem own_d_method_3_code_86 : decode method_3_code 86 = .ok (.bipush 10, 2) := by decide +kernel
theorem own_d_method_3_code_88 : decode method_3_code 88 = .ok (.if_icmp .ne 7, 3) := by decide +kernel
theorem own_d_method_3_code_91 : decode method_3_code 91 = .ok (.getstatic 46, 3) := by decide +kernel
theorem own_d_method_3_code_94 : decode method_3_code 94 = .ok (.areturn, 1) := by decide +kernel
theorem own_d_method_3_code_95 : decode method_3_code 95 = .ok (.iload_n 0, 1) := by decide +kernel
theorem own_d_method_3_code_96 : decode method_3_code 96 = .ok (.bipush 11, 2) := by decide +kernel
theorem own_d_method_3_code_98 : decode method_3_code 98 = .ok (.if_icmp .ne 7, 3) := by decide +kernel
theorem own_d_method_3_code_101 : decode method_3_code 101 = .ok (.getstatic 49, 3) := by decide +kernel
theorem own_d_method_3_code_104 : decode method_3_code 104 = .ok (.areturn, 1) := by decide +kernel
theorem own_d_method_3_code_105 : decode method_3_code 105 = .ok (.iload_n 0, 1) := by decide +kernel
theorem own_d_method_3_code_106 : decode method_3_code 106 = .ok (.bipush 12, 2) := by decide +kernel
theorem own_d_method_3_code_108 : decode method_3_code 108 = .ok (.if_icmp .ne 7, 3) := by decide +kernel
theorem own_d_method_3_code_111 : decode method_3_code 111 = .ok (.getstatic 52, 3) := by decide +kernel
theorem own_d_method_3_code_114 : decode method_3_code 114 = .ok (.areturn, 1) := by decide +kernel
theorem own_d_method_3_code_115 : decode method_3_code 115 = .ok (.iload_n 0, 1) := by decide +kernel
theorem own_d_method_3_code_116 : decode method_3_code 116 = .ok (.bipush 13, 2) := by decide +kernel
theorem own_d_method_3_code_118 : decode method_3_code 118 = .ok (.if_icmp .ne 7, 3) := by decide +kernel
theorem own_d_method_3_code_121 : decode method_3_code 121 = .ok (.getstatic 55, 3) := by decide +kernel
theorem own_d_method_3_code_124 : decode method_3_code 124 = .ok (.areturn, 1) := by decide +kernel
theorem own_d_method_3_code_125 : decode method_3_code 125 = .ok (.iload_n 0, 1) := by decide +kernel
theorem own_d_method_3_code_126 : decode method_3_code 126 = .ok (.bipush 14, 2) := by decide +kernel
theorem own_d_method_3_code_128 : decode method_3_code 128 = .ok (.if_icmp .ne 7, 3) := by decide +kernel
theorem own_d_method_3_code_131 : decode method_3_code 131 = .ok (.getstatic 58, 3) := by decide +kernel
theorem own_d_method_3_code_134 : decode method_3_code 134 = .ok (.areturn, 1) := by decide +kernel
theorem own_d_method_3_code_135 : decode method_3_code 135 = .ok (.aconst_null, 1) := by decide +kernel
theorem own_d_method_3_code_136 : decode method_3_code 136 = .ok (.areturn, 1) := by decide +kernel
def Q_own_rexp (p0 : Int32) (g : Nat → Addr) (h0 : Heap) (n0 : Nat) (v : Option Value) (h : Heap) (L : List Loc) : Prop := v = some (own_exp g p0) ∧ L = [] ∧ h = h0
set_option maxRecDepth 65536 in
set_option maxHeartbeats 40000000 in
theorem own_rexp (l : Launch) (Z : State) (a0 : Array Value) (hw : ∀ d ∈ tables_1, d.before a0 Z = true) (ws : List Jvm.Cond) (p0 : Int32) (g : Nat → Addr) (h0 : Heap) (n0 : Nat) (Z0 : n0 ≤ h0.size) (S_CONNECT : Sta Z h0 "com/example/bridger/bridger/mqtt/PacketType" "CONNECT" "Lcom/example/bridger/bridger/mqtt/PacketType;" (.ref (g 0))) (S_CONNACK : Sta Z h0 "com/example/bridger/bridger/mqtt/PacketType" "CONNACK" "Lcom/example/bridger/bridger/mqtt/PacketType;" (.ref (g 1))) (S_PUBLISH : Sta Z h0 "com/example/bridger/bridger/mqtt/PacketType" "PUBLISH" "Lcom/example/bridger/bridger/mqtt/PacketType;" (.ref (g 2))) (S_PUBACK : Sta Z h0 "com/example/bridger/bridger/mqtt/PacketType" "PUBACK" "Lcom/example/bridger/bridger/mqtt/PacketType;" (.ref (g 3))) (S_PUBREC : Sta Z h0 "com/example/bridger/bridger/mqtt/PacketType" "PUBREC" "Lcom/example/bridger/bridger/mqtt/PacketType;" (.ref (g 4))) (S_PUBREL : Sta Z h0 "com/example/bridger/bridger/mqtt/PacketType" "PUBREL" "Lcom/example/bridger/bridger/mqtt/PacketType;" (.ref (g 5))) (S_PUBCOMP : Sta Z h0 "com/example/bridger/bridger/mqtt/PacketType" "PUBCOMP" "Lcom/example/bridger/bridger/mqtt/PacketType;" (.ref (g 6))) (S_SUBSCRIBE : Sta Z h0 "com/example/bridger/bridger/mqtt/PacketType" "SUBSCRIBE" "Lcom/example/bridger/bridger/mqtt/PacketType;" (.ref (g 7))) (S_SUBACK : Sta Z h0 "com/example/bridger/bridger/mqtt/PacketType" "SUBACK" "Lcom/example/bridger/bridger/mqtt/PacketType;" (.ref (g 8))) (S_UNSUBSCRIBE : Sta Z h0 "com/example/bridger/bridger/mqtt/PacketType" "UNSUBSCRIBE" "Lcom/example/bridger/bridger/mqtt/PacketType;" (.ref (g 9))) (S_UNSUBACK : Sta Z h0 "com/example/bridger/bridger/mqtt/PacketType" "UNSUBACK" "Lcom/example/bridger/bridger/mqtt/PacketType;" (.ref (g 10))) (S_PINGREQ : Sta Z h0 "com/example/bridger/bridger/mqtt/PacketType" "PINGREQ" "Lcom/example/bridger/bridger/mqtt/PacketType;" (.ref (g 11))) (S_PINGRESP : Sta Z h0 "com/example/bridger/bridger/mqtt/PacketType" "PINGRESP" "Lcom/example/bridger/bridger/mqtt/PacketType;" (.ref (g 12))) (S_DISCONNECT : Sta Z h0 "com/example/bridger/bridger/mqtt/PacketType" "DISCONNECT" "Lcom/example/bridger/bridger/mqtt/PacketType;" (.ref (g 13))) :
    MetFree l (⟨"com/example/bridger/bridger/mqtt/PacketTypeOfPinLaw", "expected", "(I)Lcom/example/bridger/bridger/mqtt/PacketType;"⟩ : MethodName) (head1 (Jvm.Cond.code (⟨"com/example/bridger/bridger/mqtt/PacketTypeOfPinLaw", "expected", "(I)Lcom/example/bridger/bridger/mqtt/PacketType;"⟩ : MethodName) method_3_code 1 (some (.object "com/example/bridger/bridger/mqtt/PacketType")) :: ws) ({ frames := 0, cells := 0, slots := 0, locals := 0 } : Room)) (fun au Uu => au = #[(.int p0)] ∧ Z.Warmed39 Uu.vm ∧ Uu.heap = h0) (fun _ _ _ _ _ => True) (fun _ Uu ou Uw => ∃ vu Lu, ou = .returned vu ∧ Q_own_rexp p0 g h0 n0 vu Uw.heap Lu ∧ FrameEnd Uu ou Uw Lu ({ frames := 0, cells := 0, slots := 0, locals := 0 } : Room).cells ({ frames := 0, cells := 0, slots := 0, locals := 0 } : Room).slots) := by
  refine MetFree.of_bodySF (plainFor_of_name (by first | (simp [plainName, overriddenIn]; done) | decide +kernel)) hisR ?_
  intro p e s m args below meth c s₁ Bd hml0 hP hK
  obtain ⟨rfl, hZ, hh⟩ := hP
  have hx := Bd.exec
  have hby := Bd.bytes
  have hlk := Bd.notSynchronized
  have hml : c.maxLocals = 1 := hml0
  have hown : s.vm.findClass "com/example/bridger/bridger/mqtt/PacketTypeOfPinLaw" = some m.cls := findClass_of_methodNamed Bd.named
  have hnm := (name_of_methodNamed Bd.named Bd.method).1
  have X0 : Stand p l e ({ frames := 0, cells := 0, slots := 0, locals := 0 } : Room) s m #[(.int p0)] below meth c s₁ [] 0 0 := Stand.of_body Bd
  have e0 : s₁.heap = h0 := by rw [← hh, Bd.state]; rfl
  have N0 := Fr.nil n0
  show own_Ends p e below s₁ (entryFrame m #[(.int p0)] 1) (fun ou Uw => ∃ vu Lu, ou = .returned vu ∧ Q_own_rexp p0 g h0 n0 vu Uw.heap Lu ∧ FrameEnd s ou Uw Lu ({ frames := 0, cells := 0, slots := 0, locals := 0 } : Room).cells ({ frames := 0, cells := 0, slots := 0, locals := 0 } : Room).slots)
  refine own_start (g' := (mkF m 0 #[iv p0] [])) (by first | (simp [entryFrame, mkF, argsToLocals, Value.category, iv, rv]; done) | rfl) ?_
  refine own_go (T' := s₁) (g' := (mkF m 1 #[iv p0] [(.int p0)])) (fun t k => XS.iloadN X0.here hx rfl (hb hby own_d_method_3_code_0) rfl k) ?_
  refine own_go (T' := s₁) (g' := (mkF m 2 #[iv p0] [(.int (1 : Int32)), (.int p0)])) (fun t k => XS.iconst X0.here hx rfl (hb hby own_d_method_3_code_1) k) ?_
  by_cases hc7 : p0 = (1 : Int32)
  · refine own_go (T' := s₁) (g' := (mkF m 5 #[iv p0] [])) (fun t k => XS.icmpNo X0.here hx rfl (hb hby own_d_method_3_code_2) rfl (teq hc7).2 k) ?_
    obtain ⟨T8, X8, e8, st8⟩ := getS2 X0 hx hZ hown (host := "") (Or.inl (hw _ (List.mem_of_getElem? (i := 25) rfl))) Via.refl e0 S_CONNECT (g := (mkF m 5 #[iv p0] [])) rfl (hb hby own_d_method_3_code_5)
    refine own_go (T' := T8) (g' := (mkF m 8 #[iv p0] [(.ref (g 0))])) (st8) ?_
    exact own_ret X8 hlk hx Bd.returns rfl (Or.inr (Or.inr (Or.inr (Or.inr ⟨rfl, rfl, rfl⟩)))) (hb hby own_d_method_3_code_8) ⟨by simp [own_exp, hc7], rfl, e8⟩ (by decide) (by decide)
  · refine own_go (T' := s₁) (g' := (mkF m 9 #[iv p0] [])) (fun t k => XS.icmpYes X0.here hx rfl (pc0 := 2) (pc' := 9) rfl (hb hby own_d_method_3_code_2) rfl (feq hc7).2 (by decide) (by decide) k) ?_
    refine own_go (T' := s₁) (g' := (mkF m 10 #[iv p0] [(.int p0)])) (fun t k => XS.iloadN X0.here hx rfl (hb hby own_d_method_3_code_9) rfl k) ?_
    refine own_go (T' := s₁) (g' := (mkF m 11 #[iv p0] [(.int (2 : Int32)), (.int p0)])) (fun t k => XS.iconst X0.here hx rfl (hb hby own_d_method_3_code_10) k) ?_
    by_cases hc9 : p0 = (2 : Int32)
    · refine own_go (T' := s₁) (g' := (mkF m 14 #[iv p0] [])) (fun t k => XS.icmpNo X0.here hx rfl (hb hby own_d_method_3_code_11) rfl (teq hc9).2 k) ?_
      obtain ⟨T10, X10, e10, st10⟩ := getS2 X0 hx hZ hown (host := "") (Or.inl (hw _ (List.mem_of_getElem? (i := 27) rfl))) Via.refl e0 S_CONNACK (g := (mkF m 14 #[iv p0] [])) rfl (hb hby own_d_method_3_code_14)
      refine own_go (T' := T10) (g' := (mkF m 17 #[iv p0] [(.ref (g 1))])) (st10) ?_
      exact own_ret X10 hlk hx Bd.returns rfl (Or.inr (Or.inr (Or.inr (Or.inr ⟨rfl, rfl, rfl⟩)))) (hb hby own_d_method_3_code_17) ⟨by simp [own_exp, hc7, hc9], rfl, e10⟩ (by decide) (by decide)
    · refine own_go (T' := s₁) (g' := (mkF m 18 #[iv p0] [])) (fun t k => XS.icmpYes X0.here hx rfl (pc0 := 11) (pc' := 18) rfl (hb hby own_d_method_3_code_11) rfl (feq hc9).2 (by decide) (by decide) k) ?_
      refine own_go (T' := s₁) (g' := (mkF m 19 #[iv p0] [(.int p0)])) (fun t k => XS.iloadN X0.here hx rfl (hb hby own_d_method_3_code_18) rfl k) ?_
      refine own_go (T' := s₁) (g' := (mkF m 20 #[iv p0] [(.int (3 : Int32)), (.int p0)])) (fun t k => XS.iconst X0.here hx rfl (hb hby own_d_method_3_code_19) k) ?_
      by_cases hc11 : p0 = (3 : Int32)
      · refine own_go (T' := s₁) (g' := (mkF m 23 #[iv p0] [])) (fun t k => XS.icmpNo X0.here hx rfl (hb hby own_d_method_3_code_20) rfl (teq hc11).2 k) ?_
        obtain ⟨T12, X12, e12, st12⟩ := getS2 X0 hx hZ hown (host := "") (Or.inl (hw _ (List.mem_of_getElem? (i := 21) rfl))) Via.refl e0 S_PUBLISH (g := (mkF m 23 #[iv p0] [])) rfl (hb hby own_d_method_3_code_23)
        refine own_go (T' := T12) (g' := (mkF m 26 #[iv p0] [(.ref (g 2))])) (st12) ?_
        exact own_ret X12 hlk hx Bd.returns rfl (Or.inr (Or.inr (Or.inr (Or.inr ⟨rfl, rfl, rfl⟩)))) (hb hby own_d_method_3_code_26) ⟨by simp [own_exp, hc7, hc9, hc11], rfl, e12⟩ (by decide) (by decide)
      · refine own_go (T' := s₁) (g' := (mkF m 27 #[iv p0] [])) (fun t k => XS.icmpYes X0.here hx rfl (pc0 := 20) (pc' := 27) rfl (hb hby own_d_method_3_code_20) rfl (feq hc11).2 (by decide) (by decide) k) ?_
        refine own_go (T' := s₁) (g' := (mkF m 28 #[iv p0] [(.int p0)])) (fun t k => XS.iloadN X0.here hx rfl (hb hby own_d_method_3_code_27) rfl k) ?_
        refine own_go (T' := s₁) (g' := (mkF m 29 #[iv p0] [(.int (4 : Int32)), (.int p0)])) (fun t k => XS.iconst X0.here hx rfl (hb hby own_d_method_3_code_28) k) ?_
        by_cases hc13 : p0 = (4 : Int32)
        · refine own_go (T' := s₁) (g' := (mkF m 32 #[iv p0] [])) (fun t k => XS.icmpNo X0.here hx rfl (hb hby own_d_method_3_code_29) rfl (teq hc13).2 k) ?_
          obtain ⟨T14, X14, e14, st14⟩ := getS2 X0 hx hZ hown (host := "") (Or.inl (hw _ (List.mem_of_getElem? (i := 37) rfl))) Via.refl e0 S_PUBACK (g := (mkF m 32 #[iv p0] [])) rfl (hb hby own_d_method_3_code_32)
          refine own_go (T' := T14) (g' := (mkF m 35 #[iv p0] [(.ref (g 3))])) (st14) ?_
          exact own_ret X14 hlk hx Bd.returns rfl (Or.inr (Or.inr (Or.inr (Or.inr ⟨rfl, rfl, rfl⟩)))) (hb hby own_d_method_3_code_35) ⟨by simp [own_exp, hc7, hc9, hc11, hc13], rfl, e14⟩ (by decide) (by decide)
        · refine own_go (T' := s₁) (g' := (mkF m 36 #[iv p0] [])) (fun t k => XS.icmpYes X0.here hx rfl (pc0 := 29) (pc' := 36) rfl (hb hby own_d_method_3_code_29) rfl (feq hc13).2 (by decide) (by decide) k) ?_
          refine own_go (T' := s₁) (g' := (mkF m 37 #[iv p0] [(.int p0)])) (fun t k => XS.iloadN X0.here hx rfl (hb hby own_d_method_3_code_36) rfl k) ?_
          refine own_go (T' := s₁) (g' := (mkF m 38 #[iv p0] [(.int (5 : Int32)), (.int p0)])) (fun t k => XS.iconst X0.here hx rfl (hb hby own_d_method_3_code_37) k) ?_
          by_cases hc15 : p0 = (5 : Int32)
          · refine own_go (T' := s₁) (g' := (mkF m 41 #[iv p0] [])) (fun t k => XS.icmpNo X0.here hx rfl (hb hby own_d_method_3_code_38) rfl (teq hc15).2 k) ?_
            obtain ⟨T16, X16, e16, st16⟩ := getS2 X0 hx hZ hown (host := "") (Or.inl (hw _ (List.mem_of_getElem? (i := 23) rfl))) Via.refl e0 S_PUBREC (g := (mkF m 41 #[iv p0] [])) rfl (hb hby own_d_method_3_code_41)
            refine own_go (T' := T16) (g' := (mkF m 44 #[iv p0] [(.ref (g 4))])) (st16) ?_
            exact own_ret X16 hlk hx Bd.returns rfl (Or.inr (Or.inr (Or.inr (Or.inr ⟨rfl, rfl, rfl⟩)))) (hb hby own_d_method_3_code_44) ⟨by simp [own_exp, hc7, hc9, hc11, hc13, hc15], rfl, e16⟩ (by decide) (by decide)
          · refine own_go (T' := s₁) (g' := (mkF m 45 #[iv p0] [])) (fun t k => XS.icmpYes X0.here hx rfl (pc0 := 38) (pc' := 45) rfl (hb hby own_d_method_3_code_38) rfl (feq hc15).2 (by decide) (by decide) k) ?_
            refine own_go (T' := s₁) (g' := (mkF m 46 #[iv p0] [(.int p0)])) (fun t k => XS.iloadN X0.here hx rfl (hb hby own_d_method_3_code_45) rfl k) ?_
            refine own_go (T' := s₁) (g' := (mkF m 48 #[iv p0] [(.int (6 : Int32)), (.int p0)])) (fun t k => XS.bipush X0.here hx rfl (hb hby own_d_method_3_code_46) k) ?_
            by_cases hc17 : p0 = (6 : Int32)
            · refine own_go (T' := s₁) (g' := (mkF m 51 #[iv p0] [])) (fun t k => XS.icmpNo X0.here hx rfl (hb hby own_d_method_3_code_48) rfl (teq hc17).2 k) ?_
              obtain ⟨T18, X18, e18, st18⟩ := getS2 X0 hx hZ hown (host := "") (Or.inl (hw _ (List.mem_of_getElem? (i := 15) rfl))) Via.refl e0 S_PUBREL (g := (mkF m 51 #[iv p0] [])) rfl (hb hby own_d_method_3_code_51)
              refine own_go (T' := T18) (g' := (mkF m 54 #[iv p0] [(.ref (g 5))])) (st18) ?_
              exact own_ret X18 hlk hx Bd.returns rfl (Or.inr (Or.inr (Or.inr (Or.inr ⟨rfl, rfl, rfl⟩)))) (hb hby own_d_method_3_code_54) ⟨by simp [own_exp, hc7, hc9, hc11, hc13, hc15, hc17], rfl, e18⟩ (by decide) (by decide)
            · refine own_go (T' := s₁) (g' := (mkF m 55 #[iv p0] [])) (fun t k => XS.icmpYes X0.here hx rfl (pc0 := 48) (pc' := 55) rfl (hb hby own_d_method_3_code_48) rfl (feq hc17).2 (by decide) (by decide) k) ?_
              refine own_go (T' := s₁) (g' := (mkF m 56 #[iv p0] [(.int p0)])) (fun t k => XS.iloadN X0.here hx rfl (hb hby own_d_method_3_code_55) rfl k) ?_
              refine own_go (T' := s₁) (g' := (mkF m 58 #[iv p0] [(.int (7 : Int32)), (.int p0)])) (fun t k => XS.bipush X0.here hx rfl (hb hby own_d_method_3_code_56) k) ?_
              by_cases hc19 : p0 = (7 : Int32)
              · refine own_go (T' := s₁) (g' := (mkF m 61 #[iv p0] [])) (fun t k => XS.icmpNo X0.here hx rfl (hb hby own_d_method_3_code_58) rfl (teq hc19).2 k) ?_
                obtain ⟨T20, X20, e20, st20⟩ := getS2 X0 hx hZ hown (host := "") (Or.inl (hw _ (List.mem_of_getElem? (i := 19) rfl))) Via.refl e0 S_PUBCOMP (g := (mkF m 61 #[iv p0] [])) rfl (hb hby own_d_method_3_code_61)
                refine own_go (T' := T20) (g' := (mkF m 64 #[iv p0] [(.ref (g 6))])) (st20) ?_
                exact own_ret X20 hlk hx Bd.returns rfl (Or.inr (Or.inr (Or.inr (Or.inr ⟨rfl, rfl, rfl⟩)))) (hb hby own_d_method_3_code_64) ⟨by simp [own_exp, hc7, hc9, hc11, hc13, hc15, hc17, hc19], rfl, e20⟩ (by decide) (by decide)
              · refine own_go (T' := s₁) (g' := (mkF m 65 #[iv p0] [])) (fun t k => XS.icmpYes X0.here hx rfl (pc0 := 58) (pc' := 65) rfl (hb hby own_d_method_3_code_58) rfl (feq hc19).2 (by decide) (by decide) k) ?_
                refine own_go (T' := s₁) (g' := (mkF m 66 #[iv p0] [(.int p0)])) (fun t k => XS.iloadN X0.here hx rfl (hb hby own_d_method_3_code_65) rfl k) ?_
                refine own_go (T' := s₁) (g' := (mkF m 68 #[iv p0] [(.int (8 : Int32)), (.int p0)])) (fun t k => XS.bipush X0.here hx rfl (hb hby own_d_method_3_code_66) k) ?_
                by_cases hc21 : p0 = (8 : Int32)
                · refine own_go (T' := s₁) (g' := (mkF m 71 #[iv p0] [])) (fun t k => XS.icmpNo X0.here hx rfl (hb hby own_d_method_3_code_68) rfl (teq hc21).2 k) ?_
                  obtain ⟨T22, X22, e22, st22⟩ := getS2 X0 hx hZ hown (host := "") (Or.inl (hw _ (List.mem_of_getElem? (i := 13) rfl))) Via.refl e0 S_SUBSCRIBE (g := (mkF m 71 #[iv p0] [])) rfl (hb hby own_d_method_3_code_71)
                  refine own_go (T' := T22) (g' := (mkF m 74 #[iv p0] [(.ref (g 7))])) (st22) ?_
                  exact own_ret X22 hlk hx Bd.returns rfl (Or.inr (Or.inr (Or.inr (Or.inr ⟨rfl, rfl, rfl⟩)))) (hb hby own_d_method_3_code_74) ⟨by simp [own_exp, hc7, hc9, hc11, hc13, hc15, hc17, hc19, hc21], rfl, e22⟩ (by decide) (by decide)
                · refine own_go (T' := s₁) (g' := (mkF m 75 #[iv p0] [])) (fun t k => XS.icmpYes X0.here hx rfl (pc0 := 68) (pc' := 75) rfl (hb hby own_d_method_3_code_68) rfl (feq hc21).2 (by decide) (by decide) k) ?_
                  refine own_go (T' := s₁) (g' := (mkF m 76 #[iv p0] [(.int p0)])) (fun t k => XS.iloadN X0.here hx rfl (hb hby own_d_method_3_code_75) rfl k) ?_
                  refine own_go (T' := s₁) (g' := (mkF m 78 #[iv p0] [(.int (9 : Int32)), (.int p0)])) (fun t k => XS.bipush X0.here hx rfl (hb hby own_d_method_3_code_76) k) ?_
                  by_cases hc23 : p0 = (9 : Int32)
                  · refine own_go (T' := s₁) (g' := (mkF m 81 #[iv p0] [])) (fun t k => XS.icmpNo X0.here hx rfl (hb hby own_d_method_3_code_78) rfl (teq hc23).2 k) ?_
                    obtain ⟨T24, X24, e24, st24⟩ := getS2 X0 hx hZ hown (host := "") (Or.inl (hw _ (List.mem_of_getElem? (i := 35) rfl))) Via.refl e0 S_SUBACK (g := (mkF m 81 #[iv p0] [])) rfl (hb hby own_d_method_3_code_81)
                    refine own_go (T' := T24) (g' := (mkF m 84 #[iv p0] [(.ref (g 8))])) (st24) ?_
                    exact own_ret X24 hlk hx Bd.returns rfl (Or.inr (Or.inr (Or.inr (Or.inr ⟨rfl, rfl, rfl⟩)))) (hb hby own_d_method_3_code_84) ⟨by simp [own_exp, hc7, hc9, hc11, hc13, hc15, hc17, hc19, hc21, hc23], rfl, e24⟩ (by decide) (by decide)
                  · refine own_go (T' := s₁) (g' := (mkF m 85 #[iv p0] [])) (fun t k => XS.icmpYes X0.here hx rfl (pc0 := 78) (pc' := 85) rfl (hb hby own_d_method_3_code_78) rfl (feq hc23).2 (by decide) (by decide) k) ?_
                    refine own_go (T' := s₁) (g' := (mkF m 86 #[iv p0] [(.int p0)])) (fun t k => XS.iloadN X0.here hx rfl (hb hby own_d_method_3_code_85) rfl k) ?_
                    refine own_go (T' := s₁) (g' := (mkF m 88 #[iv p0] [(.int (10 : Int32)), (.int p0)])) (fun t k => XS.bipush X0.here hx rfl (hb hby own_d_method_3_code_86) k) ?_
                    by_cases hc25 : p0 = (10 : Int32)
                    · refine own_go (T' := s₁) (g' := (mkF m 91 #[iv p0] [])) (fun t k => XS.icmpNo X0.here hx rfl (hb hby own_d_method_3_code_88) rfl (teq hc25).2 k) ?_
                      obtain ⟨T26, X26, e26, st26⟩ := getS2 X0 hx hZ hown (host := "") (Or.inl (hw _ (List.mem_of_getElem? (i := 29) rfl))) Via.refl e0 S_UNSUBSCRIBE (g := (mkF m 91 #[iv p0] [])) rfl (hb hby own_d_method_3_code_91)
                      refine own_go (T' := T26) (g' := (mkF m 94 #[iv p0] [(.ref (g 9))])) (st26) ?_
                      exact own_ret X26 hlk hx Bd.returns rfl (Or.inr (Or.inr (Or.inr (Or.inr ⟨rfl, rfl, rfl⟩)))) (hb hby own_d_method_3_code_94) ⟨by simp [own_exp, hc7, hc9, hc11, hc13, hc15, hc17, hc19, hc21, hc23, hc25], rfl, e26⟩ (by decide) (by decide)
                    · refine own_go (T' := s₁) (g' := (mkF m 95 #[iv p0] [])) (fun t k => XS.icmpYes X0.here hx rfl (pc0 := 88) (pc' := 95) rfl (hb hby own_d_method_3_code_88) rfl (feq hc25).2 (by decide) (by decide) k) ?_
                      refine own_go (T' := s₁) (g' := (mkF m 96 #[iv p0] [(.int p0)])) (fun t k => XS.iloadN X0.here hx rfl (hb hby own_d_method_3_code_95) rfl k) ?_
                      refine own_go (T' := s₁) (g' := (mkF m 98 #[iv p0] [(.int (11 : Int32)), (.int p0)])) (fun t k => XS.bipush X0.here hx rfl (hb hby own_d_method_3_code_96) k) ?_
                      by_cases hc27 : p0 = (11 : Int32)
                      · refine own_go (T' := s₁) (g' := (mkF m 101 #[iv p0] [])) (fun t k => XS.icmpNo X0.here hx rfl (hb hby own_d_method_3_code_98) rfl (teq hc27).2 k) ?_
                        obtain ⟨T28, X28, e28, st28⟩ := getS2 X0 hx hZ hown (host := "") (Or.inl (hw _ (List.mem_of_getElem? (i := 33) rfl))) Via.refl e0 S_UNSUBACK (g := (mkF m 101 #[iv p0] [])) rfl (hb hby own_d_method_3_code_101)
                        refine own_go (T' := T28) (g' := (mkF m 104 #[iv p0] [(.ref (g 10))])) (st28) ?_
                        exact own_ret X28 hlk hx Bd.returns rfl (Or.inr (Or.inr (Or.inr (Or.inr ⟨rfl, rfl, rfl⟩)))) (hb hby own_d_method_3_code_104) ⟨by simp [own_exp, hc7, hc9, hc11, hc13, hc15, hc17, hc19, hc21, hc23, hc25, hc27], rfl, e28⟩ (by decide) (by decide)
                      · refine own_go (T' := s₁) (g' := (mkF m 105 #[iv p0] [])) (fun t k => XS.icmpYes X0.here hx rfl (pc0 := 98) (pc' := 105) rfl (hb hby own_d_method_3_code_98) rfl (feq hc27).2 (by decide) (by decide) k) ?_
                        refine own_go (T' := s₁) (g' := (mkF m 106 #[iv p0] [(.int p0)])) (fun t k => XS.iloadN X0.here hx rfl (hb hby own_d_method_3_code_105) rfl k) ?_
                        refine own_go (T' := s₁) (g' := (mkF m 108 #[iv p0] [(.int (12 : Int32)), (.int p0)])) (fun t k => XS.bipush X0.here hx rfl (hb hby own_d_method_3_code_106) k) ?_
                        by_cases hc29 : p0 = (12 : Int32)
                        · refine own_go (T' := s₁) (g' := (mkF m 111 #[iv p0] [])) (fun t k => XS.icmpNo X0.here hx rfl (hb hby own_d_method_3_code_108) rfl (teq hc29).2 k) ?_
                          obtain ⟨T30, X30, e30, st30⟩ := getS2 X0 hx hZ hown (host := "") (Or.inl (hw _ (List.mem_of_getElem? (i := 17) rfl))) Via.refl e0 S_PINGREQ (g := (mkF m 111 #[iv p0] [])) rfl (hb hby own_d_method_3_code_111)
                          refine own_go (T' := T30) (g' := (mkF m 114 #[iv p0] [(.ref (g 11))])) (st30) ?_
                          exact own_ret X30 hlk hx Bd.returns rfl (Or.inr (Or.inr (Or.inr (Or.inr ⟨rfl, rfl, rfl⟩)))) (hb hby own_d_method_3_code_114) ⟨by simp [own_exp, hc7, hc9, hc11, hc13, hc15, hc17, hc19, hc21, hc23, hc25, hc27, hc29], rfl, e30⟩ (by decide) (by decide)
                        · refine own_go (T' := s₁) (g' := (mkF m 115 #[iv p0] [])) (fun t k => XS.icmpYes X0.here hx rfl (pc0 := 108) (pc' := 115) rfl (hb hby own_d_method_3_code_108) rfl (feq hc29).2 (by decide) (by decide) k) ?_
                          refine own_go (T' := s₁) (g' := (mkF m 116 #[iv p0] [(.int p0)])) (fun t k => XS.iloadN X0.here hx rfl (hb hby own_d_method_3_code_115) rfl k) ?_
                          refine own_go (T' := s₁) (g' := (mkF m 118 #[iv p0] [(.int (13 : Int32)), (.int p0)])) (fun t k => XS.bipush X0.here hx rfl (hb hby own_d_method_3_code_116) k) ?_
                          by_cases hc31 : p0 = (13 : Int32)
                          · refine own_go (T' := s₁) (g' := (mkF m 121 #[iv p0] [])) (fun t k => XS.icmpNo X0.here hx rfl (hb hby own_d_method_3_code_118) rfl (teq hc31).2 k) ?_
                            obtain ⟨T32, X32, e32, st32⟩ := getS2 X0 hx hZ hown (host := "") (Or.inl (hw _ (List.mem_of_getElem? (i := 31) rfl))) Via.refl e0 S_PINGRESP (g := (mkF m 121 #[iv p0] [])) rfl (hb hby own_d_method_3_code_121)
                            refine own_go (T' := T32) (g' := (mkF m 124 #[iv p0] [(.ref (g 12))])) (st32) ?_
                            exact own_ret X32 hlk hx Bd.returns rfl (Or.inr (Or.inr (Or.inr (Or.inr ⟨rfl, rfl, rfl⟩)))) (hb hby own_d_method_3_code_124) ⟨by simp [own_exp, hc7, hc9, hc11, hc13, hc15, hc17, hc19, hc21, hc23, hc25, hc27, hc29, hc31], rfl, e32⟩ (by decide) (by decide)
                          · refine own_go (T' := s₁) (g' := (mkF m 125 #[iv p0] [])) (fun t k => XS.icmpYes X0.here hx rfl (pc0 := 118) (pc' := 125) rfl (hb hby own_d_method_3_code_118) rfl (feq hc31).2 (by decide) (by decide) k) ?_
                            refine own_go (T' := s₁) (g' := (mkF m 126 #[iv p0] [(.int p0)])) (fun t k => XS.iloadN X0.here hx rfl (hb hby own_d_method_3_code_125) rfl k) ?_
                            refine own_go (T' := s₁) (g' := (mkF m 128 #[iv p0] [(.int (14 : Int32)), (.int p0)])) (fun t k => XS.bipush X0.here hx rfl (hb hby own_d_method_3_code_126) k) ?_
                            by_cases hc33 : p0 = (14 : Int32)
                            · refine own_go (T' := s₁) (g' := (mkF m 131 #[iv p0] [])) (fun t k => XS.icmpNo X0.here hx rfl (hb hby own_d_method_3_code_128) rfl (teq hc33).2 k) ?_
                              obtain ⟨T34, X34, e34, st34⟩ := getS2 X0 hx hZ hown (host := "") (Or.inl (hw _ (List.mem_of_getElem? (i := 11) rfl))) Via.refl e0 S_DISCONNECT (g := (mkF m 131 #[iv p0] [])) rfl (hb hby own_d_method_3_code_131)
                              refine own_go (T' := T34) (g' := (mkF m 134 #[iv p0] [(.ref (g 13))])) (st34) ?_
                              exact own_ret X34 hlk hx Bd.returns rfl (Or.inr (Or.inr (Or.inr (Or.inr ⟨rfl, rfl, rfl⟩)))) (hb hby own_d_method_3_code_134) ⟨by simp [own_exp, hc7, hc9, hc11, hc13, hc15, hc17, hc19, hc21, hc23, hc25, hc27, hc29, hc31, hc33], rfl, e34⟩ (by decide) (by decide)
                            · refine own_go (T' := s₁) (g' := (mkF m 135 #[iv p0] [])) (fun t k => XS.icmpYes X0.here hx rfl (pc0 := 128) (pc' := 135) rfl (hb hby own_d_method_3_code_128) rfl (feq hc33).2 (by decide) (by decide) k) ?_
                              refine own_go (T' := s₁) (g' := (mkF m 136 #[iv p0] [.null])) (fun t k => XS.aconstNull X0.here hx rfl (hb hby own_d_method_3_code_135) k) ?_
                              exact own_ret X0 hlk hx Bd.returns rfl (Or.inr (Or.inr (Or.inr (Or.inr ⟨rfl, rfl, rfl⟩)))) (hb hby own_d_method_3_code_136) ⟨by simp [own_exp, hc7, hc9, hc11, hc13, hc15, hc17, hc19, hc21, hc23, hc25, hc27, hc29, hc31, hc33], rfl, e0⟩ (by decide) (by decide)

theorem own_pd0 : parseMethodDescriptor "(I)Lcom/example/bridger/bridger/mqtt/PacketType;" = some ⟨[.int], some (.object "com/example/bridger/bridger/mqtt/PacketType")⟩ := by decide +kernel
def Q_own_law (h0 : Heap) (n0 : Nat) (v : Option Value) (h : Heap) (L : List Loc) : Prop := v = some (.int 1) ∧ Fr n0 L
set_option maxRecDepth 65536 in
set_option maxHeartbeats 40000000 in
theorem own_law (l : Launch) (Z : State) (a0 : Array Value) (hw : ∀ d ∈ tables_1, d.before a0 Z = true) (ws : List Jvm.Cond) (x0 x1 : Int32) (g : Nat → Addr) (aC : Addr) (kC : ClassId) (h0 : Heap) (n0 : Nat) (Z0 : n0 ≤ h0.size) (S_CONNECT : Sta Z h0 "com/example/bridger/bridger/mqtt/PacketType" "CONNECT" "Lcom/example/bridger/bridger/mqtt/PacketType;" (.ref (g 0))) (S_CONNACK : Sta Z h0 "com/example/bridger/bridger/mqtt/PacketType" "CONNACK" "Lcom/example/bridger/bridger/mqtt/PacketType;" (.ref (g 1))) (S_PUBLISH : Sta Z h0 "com/example/bridger/bridger/mqtt/PacketType" "PUBLISH" "Lcom/example/bridger/bridger/mqtt/PacketType;" (.ref (g 2))) (S_PUBACK : Sta Z h0 "com/example/bridger/bridger/mqtt/PacketType" "PUBACK" "Lcom/example/bridger/bridger/mqtt/PacketType;" (.ref (g 3))) (S_PUBREC : Sta Z h0 "com/example/bridger/bridger/mqtt/PacketType" "PUBREC" "Lcom/example/bridger/bridger/mqtt/PacketType;" (.ref (g 4))) (S_PUBREL : Sta Z h0 "com/example/bridger/bridger/mqtt/PacketType" "PUBREL" "Lcom/example/bridger/bridger/mqtt/PacketType;" (.ref (g 5))) (S_PUBCOMP : Sta Z h0 "com/example/bridger/bridger/mqtt/PacketType" "PUBCOMP" "Lcom/example/bridger/bridger/mqtt/PacketType;" (.ref (g 6))) (S_SUBSCRIBE : Sta Z h0 "com/example/bridger/bridger/mqtt/PacketType" "SUBSCRIBE" "Lcom/example/bridger/bridger/mqtt/PacketType;" (.ref (g 7))) (S_SUBACK : Sta Z h0 "com/example/bridger/bridger/mqtt/PacketType" "SUBACK" "Lcom/example/bridger/bridger/mqtt/PacketType;" (.ref (g 8))) (S_UNSUBSCRIBE : Sta Z h0 "com/example/bridger/bridger/mqtt/PacketType" "UNSUBSCRIBE" "Lcom/example/bridger/bridger/mqtt/PacketType;" (.ref (g 9))) (S_UNSUBACK : Sta Z h0 "com/example/bridger/bridger/mqtt/PacketType" "UNSUBACK" "Lcom/example/bridger/bridger/mqtt/PacketType;" (.ref (g 10))) (S_PINGREQ : Sta Z h0 "com/example/bridger/bridger/mqtt/PacketType" "PINGREQ" "Lcom/example/bridger/bridger/mqtt/PacketType;" (.ref (g 11))) (S_PINGRESP : Sta Z h0 "com/example/bridger/bridger/mqtt/PacketType" "PINGRESP" "Lcom/example/bridger/bridger/mqtt/PacketType;" (.ref (g 12))) (S_DISCONNECT : Sta Z h0 "com/example/bridger/bridger/mqtt/PacketType" "DISCONNECT" "Lcom/example/bridger/bridger/mqtt/PacketType;" (.ref (g 13))) (S_CODES : Sta Z h0 "com/example/bridger/bridger/mqtt/PacketType" "CODES" "[Lcom/example/bridger/bridger/mqtt/PacketType;" (.ref aC)) (V_CODES : Arv Z h0 aC kC (.object "com/example/bridger/bridger/mqtt/PacketType") (14 : Int32) [.ref (g 0), .ref (g 1), .ref (g 2), .ref (g 3), .ref (g 4), .ref (g 5), .ref (g 6), .ref (g 7), .ref (g 8), .ref (g 9), .ref (g 10), .ref (g 11), .ref (g 12), .ref (g 13)] .null) :
    MetFree l x (head1 (Jvm.Cond.code x code maxLocals ret :: ws) room_1) (fun au Uu => au = #[(.int x0), (.int x1)] ∧ Z.Warmed39 Uu.vm ∧ Uu.heap = h0) (fun _ _ _ _ _ => True) (fun _ Uu ou Uw => ∃ vu Lu, ou = .returned vu ∧ Q_own_law h0 n0 vu Uw.heap Lu ∧ FrameEnd Uu ou Uw Lu 0 0) := by
  refine MetFree.of_bodySF (plainFor_of_name (by first | (simp [plainName, overriddenIn]; done) | decide +kernel)) hisR ?_
  intro p e s m args below meth c s₁ Bd hml0 hP hK
  obtain ⟨rfl, hZ, hh⟩ := hP
  have hx := Bd.exec
  have hby := Bd.bytes
  have hlk := Bd.notSynchronized
  have hml : c.maxLocals = 4 := hml0
  have hown : s.vm.findClass "com/example/bridger/bridger/mqtt/PacketTypeOfPinLaw" = some m.cls := findClass_of_methodNamed Bd.named
  have hnm := (name_of_methodNamed Bd.named Bd.method).1
  have X0 : Stand p l e room_1 s m #[(.int x0), (.int x1)] below meth c s₁ [] 0 0 := Stand.of_body Bd
  have e0 : s₁.heap = h0 := by rw [← hh, Bd.state]; rfl
  have N0 := Fr.nil n0
  show own_Ends p e below s₁ (entryFrame m #[(.int x0), (.int x1)] maxLocals) (fun ou Uw => ∃ vu Lu, ou = .returned vu ∧ Q_own_law h0 n0 vu Uw.heap Lu ∧ FrameEnd s ou Uw Lu 0 0)
  refine own_start (g' := (mkF m 0 #[iv x0, iv x1, .unset, .unset] [])) (by first | (simp [entryFrame, mkF, argsToLocals, Value.category, iv, rv, maxLocals]; done) | rfl) ?_
  refine own_go (T' := s₁) (g' := (mkF m 1 #[iv x0, iv x1, .unset, .unset] [(.int x1)])) (fun t k => XS.iloadN X0.here hx rfl (hb hby at_0) rfl k) ?_
  refine own_go (T' := s₁) (g' := (mkF m 2 #[iv x0, iv x1, .unset, .unset] [(.int (1 : Int32)), (.int x1)])) (fun t k => XS.iconst X0.here hx rfl (hb hby at_1) k) ?_
  refine own_go (T' := s₁) (g' := (mkF m 3 #[iv x0, iv x1, .unset, .unset] [(.int (x1 &&& (1 : Int32)))])) (fun t k => XS.iand X0.here hx rfl (hb hby at_2) rfl k) ?_
  by_cases hc35 : (x1 &&& (1 : Int32)) = (0 : Int32)
  · refine own_go (T' := s₁) (g' := (mkF m 10 #[iv x0, iv x1, .unset, .unset] [])) (fun t k => XS.ifYes X0.here hx rfl (pc0 := 3) (pc' := 10) rfl (hb hby at_3) rfl ((if0 _ _).trans (teq hc35).1) (by decide) (by decide) k) ?_
    refine own_go (T' := s₁) (g' := (mkF m 11 #[iv x0, iv x1, .unset, .unset] [(.int x0)])) (fun t k => XS.iloadN X0.here hx rfl (hb hby at_10) rfl k) ?_
    refine own_go (T' := s₁) (g' := (mkF m 13 #[iv x0, iv x1, .unset, .unset] [(.int (15 : Int32)), (.int x0)])) (fun t k => XS.bipush X0.here hx rfl (hb hby at_11) k) ?_
    refine own_go (T' := s₁) (g' := (mkF m 14 #[iv x0, iv x1, .unset, .unset] [(.int (x0 &&& (15 : Int32)))])) (fun t k => XS.iand X0.here hx rfl (hb hby at_13) rfl k) ?_
    refine own_go (T' := s₁) (g' := (mkF m 15 #[iv x0, iv x1, iv (x0 &&& (15 : Int32)), .unset] [])) (fun t k => XS.istoreN X0.here hx rfl (hb hby at_14) rfl (l' := #[iv x0, iv x1, iv (x0 &&& (15 : Int32)), .unset]) rfl k) ?_
    refine own_go (T' := s₁) (g' := (mkF m 16 #[iv x0, iv x1, iv (x0 &&& (15 : Int32)), .unset] [(.int (x0 &&& (15 : Int32)))])) (fun t k => XS.iloadN X0.here hx rfl (hb hby at_15) rfl k) ?_
    obtain ⟨_, _, ⟨T36, L36, k36, n36⟩, -, X36, ⟨Lc36, hQ36, l36, y36, z36⟩, st36⟩ := Jvm.LawKit.callS X0 hx (y := (⟨"com/example/bridger/bridger/mqtt/PacketType", "of", "(I)Lcom/example/bridger/bridger/mqtt/PacketType;"⟩ : MethodName)) hown (mvT hZ (hw _ (List.mem_of_getElem? (i := 0) rfl))) (mvT hZ (hw _ (List.mem_of_getElem? (i := 1) rfl))) (mvT hZ (hw _ (List.mem_of_getElem? (i := 2) rfl))) (mvT hZ (hw _ (List.mem_of_getElem? (i := 3) rfl))) (by decide) (backOf (W := 0) (own_rof l Z a0 hw [] (x0 &&& (15 : Int32)) g aC kC h0 n0 Z0 S_CODES V_CODES) hZ (hw _ (List.mem_of_getElem? (i := 3) rfl)) (hw _ (List.mem_of_getElem? (i := 2) rfl)) (by decide) (by decide)) (g := (mkF m 16 #[iv x0, iv x1, iv (x0 &&& (15 : Int32)), .unset] [(.int (x0 &&& (15 : Int32)))])) rfl (by rw [hml]; rfl) (argsL := [(.int (x0 &&& (15 : Int32)))]) (rest := []) (lenOf own_pd0 rfl) rfl (by show 2 * 0 + _ ≤ _; exact Nat.le_of_eq rfl) (hb hby at_16) (fun _ _ => ⟨rfl, e0, (by decide : 0 + 0 ≤ _), (by decide : 0 + 0 ≤ _)⟩)
    dsimp only [Pt.U, Pt.locs, Pt.cells, Pt.slots] at X36 l36 y36 z36 st36 hQ36
    subst l36 y36 z36
    obtain ⟨rfl, rfl, e36⟩ := hQ36
    have E36q : T36.heap = h0 := e36
    have N36 := Fr.app N0 (Fr.nil n0)
    refine own_go (T' := T36) (g' := (mkF m 19 #[iv x0, iv x1, iv (x0 &&& (15 : Int32)), .unset] [(own_exp g (x0 &&& (15 : Int32)))])) (st36) ?_
    refine own_go (T' := T36) (g' := (mkF m 20 #[iv x0, iv x1, iv (x0 &&& (15 : Int32)), .val (own_exp g (x0 &&& (15 : Int32)))] [])) (fun t k => XS.astoreN X36.here hx rfl (hb hby at_19) rfl (own_exp_ref g (x0 &&& (15 : Int32))) (l' := #[iv x0, iv x1, iv (x0 &&& (15 : Int32)), .val (own_exp g (x0 &&& (15 : Int32)))]) (by have hv := (own_exp_ref g (x0 &&& (15 : Int32))); revert hv; generalize (own_exp g (x0 &&& (15 : Int32))) = w; intro hv; cases w <;> first | rfl | exact absurd hv Bool.false_ne_true) k) ?_
    refine own_go (T' := T36) (g' := (mkF m 21 #[iv x0, iv x1, iv (x0 &&& (15 : Int32)), .val (own_exp g (x0 &&& (15 : Int32)))] [(own_exp g (x0 &&& (15 : Int32)))])) (fun t k => XS.aloadN X36.here hx rfl (hb hby at_20) rfl (own_exp_ref g (x0 &&& (15 : Int32))) k) ?_
    refine own_go (T' := T36) (g' := (mkF m 22 #[iv x0, iv x1, iv (x0 &&& (15 : Int32)), .val (own_exp g (x0 &&& (15 : Int32)))] [(.int (x0 &&& (15 : Int32))), (own_exp g (x0 &&& (15 : Int32)))])) (fun t k => XS.iloadN X36.here hx rfl (hb hby at_21) rfl k) ?_
    obtain ⟨_, _, ⟨T37, L37, k37, n37⟩, -, X37, ⟨Lc37, hQ37, l37, y37, z37⟩, st37⟩ := Jvm.LawKit.callS X36 hx (y := (⟨"com/example/bridger/bridger/mqtt/PacketTypeOfPinLaw", "expected", "(I)Lcom/example/bridger/bridger/mqtt/PacketType;"⟩ : MethodName)) hown (mvT hZ (hw _ (List.mem_of_getElem? (i := 4) rfl))) (mvT hZ (hw _ (List.mem_of_getElem? (i := 5) rfl))) (mvT hZ (hw _ (List.mem_of_getElem? (i := 6) rfl))) (mvT hZ (hw _ (List.mem_of_getElem? (i := 7) rfl))) (by decide) (backOf (W := 1) (own_rexp l Z a0 hw [] (x0 &&& (15 : Int32)) g h0 n0 Z0 S_CONNECT S_CONNACK S_PUBLISH S_PUBACK S_PUBREC S_PUBREL S_PUBCOMP S_SUBSCRIBE S_SUBACK S_UNSUBSCRIBE S_UNSUBACK S_PINGREQ S_PINGRESP S_DISCONNECT) hZ (hw _ (List.mem_of_getElem? (i := 7) rfl)) (hw _ (List.mem_of_getElem? (i := 6) rfl)) (by decide) (by decide)) (g := (mkF m 22 #[iv x0, iv x1, iv (x0 &&& (15 : Int32)), .val (own_exp g (x0 &&& (15 : Int32)))] [(.int (x0 &&& (15 : Int32))), (own_exp g (x0 &&& (15 : Int32)))])) rfl (by rw [hml]; rfl) (argsL := [(.int (x0 &&& (15 : Int32)))]) (rest := [(own_exp g (x0 &&& (15 : Int32)))]) (lenOf own_pd0 rfl) rfl (by show 2 * 0 + _ ≤ _; have hv0 := (own_exp_ref g (x0 &&& (15 : Int32))); revert hv0; generalize (own_exp g (x0 &&& (15 : Int32))) = w0; intro hv0; cases w0 <;> first | exact absurd hv0 Bool.false_ne_true | (exact Nat.le_of_eq rfl)) (hb hby at_22) (fun _ _ => ⟨rfl, E36q, (by decide : 0 + 0 ≤ _), (by decide : 0 + 0 ≤ _)⟩)
    dsimp only [Pt.U, Pt.locs, Pt.cells, Pt.slots] at X37 l37 y37 z37 st37 hQ37
    subst l37 y37 z37
    obtain ⟨rfl, rfl, e37⟩ := hQ37
    have E37q : T37.heap = h0 := e37
    have N37 := Fr.app N36 (Fr.nil n0)
    refine own_go (T' := T37) (g' := (mkF m 25 #[iv x0, iv x1, iv (x0 &&& (15 : Int32)), .val (own_exp g (x0 &&& (15 : Int32)))] [(own_exp g (x0 &&& (15 : Int32))), (own_exp g (x0 &&& (15 : Int32)))])) (st37) ?_
    refine own_go (T' := T37) (g' := (mkF m 28 #[iv x0, iv x1, iv (x0 &&& (15 : Int32)), .val (own_exp g (x0 &&& (15 : Int32)))] [])) (fun t k => Jvm.RoadKit.acmp (g := (mkF m 25 #[iv x0, iv x1, iv (x0 &&& (15 : Int32)), .val (own_exp g (x0 &&& (15 : Int32)))] [(own_exp g (x0 &&& (15 : Int32))), (own_exp g (x0 &&& (15 : Int32)))])) X37 hx rfl (x := (own_exp g (x0 &&& (15 : Int32)))) (y := (own_exp g (x0 &&& (15 : Int32)))) (own_exp_ref g (x0 &&& (15 : Int32))) (own_exp_ref g (x0 &&& (15 : Int32))) (pc0 := 25) (pc' := 28) (same := true) rfl (hb hby at_25) rfl (decide_eq_true rfl) (by decide) (by decide) k) ?_
    refine own_go (T' := T37) (g' := (mkF m 29 #[iv x0, iv x1, iv (x0 &&& (15 : Int32)), .val (own_exp g (x0 &&& (15 : Int32)))] [(.int (1 : Int32))])) (fun t k => XS.iconst X37.here hx rfl (hb hby at_28) k) ?_
    refine own_go (T' := T37) (g' := (mkF m 33 #[iv x0, iv x1, iv (x0 &&& (15 : Int32)), .val (own_exp g (x0 &&& (15 : Int32)))] [(.int (1 : Int32))])) (fun t k => XS.goto X37.here hx rfl (pc0 := 29) (pc' := 33) rfl (hb hby at_29) (by decide) (by decide) k) ?_
    exact own_ret X37 hlk hx Bd.returns rfl (Or.inl ⟨rfl, Or.inr (Or.inl rfl), _, rfl⟩) (hb hby at_33) (by first | exact ⟨rfl, N37⟩ | (rw [Fr] at *; exact ⟨rfl, by simpa using N37⟩)) (by decide) (by decide)
  · refine own_go (T' := s₁) (g' := (mkF m 6 #[iv x0, iv x1, .unset, .unset] [])) (fun t k => XS.ifNo X0.here hx rfl (hb hby at_3) rfl ((if0 _ _).trans (feq hc35).1) k) ?_
    refine own_go (T' := s₁) (g' := (mkF m 7 #[iv x0, iv x1, .unset, .unset] [(.int x0)])) (fun t k => XS.iloadN X0.here hx rfl (hb hby at_6) rfl k) ?_
    refine own_go (T' := s₁) (g' := (mkF m 14 #[iv x0, iv x1, .unset, .unset] [(.int x0)])) (fun t k => XS.goto X0.here hx rfl (pc0 := 7) (pc' := 14) rfl (hb hby at_7) (by decide) (by decide) k) ?_
    refine own_go (T' := s₁) (g' := (mkF m 15 #[iv x0, iv x1, iv x0, .unset] [])) (fun t k => XS.istoreN X0.here hx rfl (hb hby at_14) rfl (l' := #[iv x0, iv x1, iv x0, .unset]) rfl k) ?_
    refine own_go (T' := s₁) (g' := (mkF m 16 #[iv x0, iv x1, iv x0, .unset] [(.int x0)])) (fun t k => XS.iloadN X0.here hx rfl (hb hby at_15) rfl k) ?_
    obtain ⟨_, _, ⟨T38, L38, k38, n38⟩, -, X38, ⟨Lc38, hQ38, l38, y38, z38⟩, st38⟩ := Jvm.LawKit.callS X0 hx (y := (⟨"com/example/bridger/bridger/mqtt/PacketType", "of", "(I)Lcom/example/bridger/bridger/mqtt/PacketType;"⟩ : MethodName)) hown (mvT hZ (hw _ (List.mem_of_getElem? (i := 0) rfl))) (mvT hZ (hw _ (List.mem_of_getElem? (i := 1) rfl))) (mvT hZ (hw _ (List.mem_of_getElem? (i := 2) rfl))) (mvT hZ (hw _ (List.mem_of_getElem? (i := 3) rfl))) (by decide) (backOf (W := 0) (own_rof l Z a0 hw [] x0 g aC kC h0 n0 Z0 S_CODES V_CODES) hZ (hw _ (List.mem_of_getElem? (i := 3) rfl)) (hw _ (List.mem_of_getElem? (i := 2) rfl)) (by decide) (by decide)) (g := (mkF m 16 #[iv x0, iv x1, iv x0, .unset] [(.int x0)])) rfl (by rw [hml]; rfl) (argsL := [(.int x0)]) (rest := []) (lenOf own_pd0 rfl) rfl (by show 2 * 0 + _ ≤ _; exact Nat.le_of_eq rfl) (hb hby at_16) (fun _ _ => ⟨rfl, e0, (by decide : 0 + 0 ≤ _), (by decide : 0 + 0 ≤ _)⟩)
    dsimp only [Pt.U, Pt.locs, Pt.cells, Pt.slots] at X38 l38 y38 z38 st38 hQ38
    subst l38 y38 z38
    obtain ⟨rfl, rfl, e38⟩ := hQ38
    have E38q : T38.heap = h0 := e38
    have N38 := Fr.app N0 (Fr.nil n0)
    refine own_go (T' := T38) (g' := (mkF m 19 #[iv x0, iv x1, iv x0, .unset] [(own_exp g x0)])) (st38) ?_
    refine own_go (T' := T38) (g' := (mkF m 20 #[iv x0, iv x1, iv x0, .val (own_exp g x0)] [])) (fun t k => XS.astoreN X38.here hx rfl (hb hby at_19) rfl (own_exp_ref g x0) (l' := #[iv x0, iv x1, iv x0, .val (own_exp g x0)]) (by have hv := (own_exp_ref g x0); revert hv; generalize (own_exp g x0) = w; intro hv; cases w <;> first | rfl | exact absurd hv Bool.false_ne_true) k) ?_
    refine own_go (T' := T38) (g' := (mkF m 21 #[iv x0, iv x1, iv x0, .val (own_exp g x0)] [(own_exp g x0)])) (fun t k => XS.aloadN X38.here hx rfl (hb hby at_20) rfl (own_exp_ref g x0) k) ?_
    refine own_go (T' := T38) (g' := (mkF m 22 #[iv x0, iv x1, iv x0, .val (own_exp g x0)] [(.int x0), (own_exp g x0)])) (fun t k => XS.iloadN X38.here hx rfl (hb hby at_21) rfl k) ?_
    obtain ⟨_, _, ⟨T39, L39, k39, n39⟩, -, X39, ⟨Lc39, hQ39, l39, y39, z39⟩, st39⟩ := Jvm.LawKit.callS X38 hx (y := (⟨"com/example/bridger/bridger/mqtt/PacketTypeOfPinLaw", "expected", "(I)Lcom/example/bridger/bridger/mqtt/PacketType;"⟩ : MethodName)) hown (mvT hZ (hw _ (List.mem_of_getElem? (i := 4) rfl))) (mvT hZ (hw _ (List.mem_of_getElem? (i := 5) rfl))) (mvT hZ (hw _ (List.mem_of_getElem? (i := 6) rfl))) (mvT hZ (hw _ (List.mem_of_getElem? (i := 7) rfl))) (by decide) (backOf (W := 1) (own_rexp l Z a0 hw [] x0 g h0 n0 Z0 S_CONNECT S_CONNACK S_PUBLISH S_PUBACK S_PUBREC S_PUBREL S_PUBCOMP S_SUBSCRIBE S_SUBACK S_UNSUBSCRIBE S_UNSUBACK S_PINGREQ S_PINGRESP S_DISCONNECT) hZ (hw _ (List.mem_of_getElem? (i := 7) rfl)) (hw _ (List.mem_of_getElem? (i := 6) rfl)) (by decide) (by decide)) (g := (mkF m 22 #[iv x0, iv x1, iv x0, .val (own_exp g x0)] [(.int x0), (own_exp g x0)])) rfl (by rw [hml]; rfl) (argsL := [(.int x0)]) (rest := [(own_exp g x0)]) (lenOf own_pd0 rfl) rfl (by show 2 * 0 + _ ≤ _; have hv0 := (own_exp_ref g x0); revert hv0; generalize (own_exp g x0) = w0; intro hv0; cases w0 <;> first | exact absurd hv0 Bool.false_ne_true | (exact Nat.le_of_eq rfl)) (hb hby at_22) (fun _ _ => ⟨rfl, E38q, (by decide : 0 + 0 ≤ _), (by decide : 0 + 0 ≤ _)⟩)
    dsimp only [Pt.U, Pt.locs, Pt.cells, Pt.slots] at X39 l39 y39 z39 st39 hQ39
    subst l39 y39 z39
    obtain ⟨rfl, rfl, e39⟩ := hQ39
    have E39q : T39.heap = h0 := e39
    have N39 := Fr.app N38 (Fr.nil n0)
    refine own_go (T' := T39) (g' := (mkF m 25 #[iv x0, iv x1, iv x0, .val (own_exp g x0)] [(own_exp g x0), (own_exp g x0)])) (st39) ?_
    refine own_go (T' := T39) (g' := (mkF m 28 #[iv x0, iv x1, iv x0, .val (own_exp g x0)] [])) (fun t k => Jvm.RoadKit.acmp (g := (mkF m 25 #[iv x0, iv x1, iv x0, .val (own_exp g x0)] [(own_exp g x0), (own_exp g x0)])) X39 hx rfl (x := (own_exp g x0)) (y := (own_exp g x0)) (own_exp_ref g x0) (own_exp_ref g x0) (pc0 := 25) (pc' := 28) (same := true) rfl (hb hby at_25) rfl (decide_eq_true rfl) (by decide) (by decide) k) ?_
    refine own_go (T' := T39) (g' := (mkF m 29 #[iv x0, iv x1, iv x0, .val (own_exp g x0)] [(.int (1 : Int32))])) (fun t k => XS.iconst X39.here hx rfl (hb hby at_28) k) ?_
    refine own_go (T' := T39) (g' := (mkF m 33 #[iv x0, iv x1, iv x0, .val (own_exp g x0)] [(.int (1 : Int32))])) (fun t k => XS.goto X39.here hx rfl (pc0 := 29) (pc' := 33) rfl (hb hby at_29) (by decide) (by decide) k) ?_
    exact own_ret X39 hlk hx Bd.returns rfl (Or.inl ⟨rfl, Or.inr (Or.inl rfl), _, rfl⟩) (hb hby at_33) (by first | exact ⟨rfl, N39⟩ | (rw [Fr] at *; exact ⟨rfl, by simpa using N39⟩)) (by decide) (by decide)

set_option maxRecDepth 65536 in
set_option maxHeartbeats 40000000 in
theorem own_comes {Post : Tables → Env → Array Value → State → Outcome → State → Prop} (hpost : ∀ tb e args s v u, (limb_1_1.after args s (.returned v) u = true ∧ limb_1_2.after args s (.returned v) u = true ∧ True) → FrameEnd s (.returned v) u (Jvm.fieldLocs frame_1_writes args s ++ Jvm.arrayLocs frame_1_arrays args s ++ Jvm.staticLocs frame_1_statics s) 0 0 → Post tb e args s (.returned v) u) :
    ArmFor flags0 classFile x code maxLocals ret World_1 tables_1 room_1 Calls_1 rest_1 Pre_1 Post := by
  intro l hfl _ _ p e ha hc hk s m args below hf hA hF happ hP
  obtain ⟨hcalls, hrest, hpre⟩ := hP
  obtain ⟨-, -, -, hnamed, -, -, -, hat⟩ := (Spec.applies_iff hf).mp happ
  obtain ⟨hg, hn⟩ := and_e (Cond.before_iff.mp (show (Jvm.Cond.and given_1 narrow_1).before args s = true from hpre))
  obtain ⟨hg0, hg1⟩ := and_e hg
  obtain ⟨ha0, hr0⟩ := and_e hg1
  obtain ⟨w0, w1, rfl⟩ : ∃ w0 w1 : Value, args = #[w0, w1] := by
    have hs : args.size = 2 := by simpa [Cond.value, given_1] using hg0
    obtain ⟨L⟩ := args
    match L, hs with
    | [w0, w1], _ => exact ⟨w0, w1, rfl⟩
  have hw := fun d (hd : d ∈ tables_1) => atoms_spec (ws := Jvm.Cond.code x code maxLocals ret :: tables_1) hat d (List.mem_cons_of_mem _ hd)
  have hfit : Fit s := fun {y c} hc i hi => by
    obtain ⟨ha, rfl⟩ := Array.getElem?_eq_some_iff.mp hc
    have q := List.all_eq_true.mp ((Array.all_eq_true_iff_forall_mem.mp hF) _ (Array.getElem_mem ha)) i (List.mem_range.mpr hi)
    simpa [Array.getElem?_eq_getElem hi] using q
  obtain ⟨x0, ex0⟩ := is_v ha0
  obtain rfl : w0 = (.int x0) := Option.some.inj ex0
  obtain ⟨x1, ex1⟩ := is_v hr0
  obtain rfl : w1 = (.int x1) := Option.some.inj ex1
  obtain ⟨hn0, hq0⟩ := and_e hn
  obtain ⟨hn1, hq1⟩ := and_e hq0
  obtain ⟨hn2, hq2⟩ := and_e hq1
  obtain ⟨hn3, hq3⟩ := and_e hq2
  obtain ⟨hn4, hq4⟩ := and_e hq3
  obtain ⟨hn5, hq5⟩ := and_e hq4
  obtain ⟨hn6, hq6⟩ := and_e hq5
  obtain ⟨hn7, hq7⟩ := and_e hq6
  obtain ⟨hn8, hq8⟩ := and_e hq7
  obtain ⟨hn9, hq9⟩ := and_e hq8
  obtain ⟨hn10, hq10⟩ := and_e hq9
  obtain ⟨hn11, hq11⟩ := and_e hq10
  obtain ⟨hn12, hq12⟩ := and_e hq11
  obtain ⟨hn13, hq13⟩ := and_e hq12
  obtain ⟨hn14, hq14⟩ := and_e hq13
  obtain ⟨hn15, hq15⟩ := and_e hq14
  obtain ⟨hn16, hq16⟩ := and_e hq15
  obtain ⟨hn17, hq17⟩ := and_e hq16
  obtain ⟨hn18, hq18⟩ := and_e hq17
  obtain ⟨hn19, hq19⟩ := and_e hq18
  obtain ⟨hn20, hq20⟩ := and_e hq19
  obtain ⟨hn21, hq21⟩ := and_e hq20
  obtain ⟨hn22, hq22⟩ := and_e hq21
  obtain ⟨hn23, hq23⟩ := and_e hq22
  obtain ⟨hn24, hq24⟩ := and_e hq23
  obtain ⟨hn25, hq25⟩ := and_e hq24
  obtain ⟨hn26, hq26⟩ := and_e hq25
  obtain ⟨hn27, hq27⟩ := and_e hq26
  obtain ⟨hn28, hq28⟩ := and_e hq27
  obtain ⟨a_DISCONNECT, v_DISCONNECT⟩ := exa_v hn2
  have E_DISCONNECT : Exa s s.heap a_DISCONNECT "com/example/bridger/bridger/mqtt/PacketType" := Exa.start v_DISCONNECT hn2
  have S_DISCONNECT : Sta s s.heap "com/example/bridger/bridger/mqtt/PacketType" "DISCONNECT" "Lcom/example/bridger/bridger/mqtt/PacketType;" (.ref a_DISCONNECT) := Sta.start v_DISCONNECT (Or.inr ⟨(hw _ (List.mem_of_getElem? (i := 2) rfl)), (hw _ (List.mem_of_getElem? (i := 10) rfl))⟩)
  obtain ⟨a_SUBSCRIBE, v_SUBSCRIBE⟩ := exa_v hn4
  have E_SUBSCRIBE : Exa s s.heap a_SUBSCRIBE "com/example/bridger/bridger/mqtt/PacketType" := Exa.start v_SUBSCRIBE hn4
  have S_SUBSCRIBE : Sta s s.heap "com/example/bridger/bridger/mqtt/PacketType" "SUBSCRIBE" "Lcom/example/bridger/bridger/mqtt/PacketType;" (.ref a_SUBSCRIBE) := Sta.start v_SUBSCRIBE (Or.inr ⟨(hw _ (List.mem_of_getElem? (i := 2) rfl)), (hw _ (List.mem_of_getElem? (i := 12) rfl))⟩)
  obtain ⟨a_PUBREL, v_PUBREL⟩ := exa_v hn6
  have E_PUBREL : Exa s s.heap a_PUBREL "com/example/bridger/bridger/mqtt/PacketType" := Exa.start v_PUBREL hn6
  have S_PUBREL : Sta s s.heap "com/example/bridger/bridger/mqtt/PacketType" "PUBREL" "Lcom/example/bridger/bridger/mqtt/PacketType;" (.ref a_PUBREL) := Sta.start v_PUBREL (Or.inr ⟨(hw _ (List.mem_of_getElem? (i := 2) rfl)), (hw _ (List.mem_of_getElem? (i := 14) rfl))⟩)
  obtain ⟨a_PINGREQ, v_PINGREQ⟩ := exa_v hn8
  have E_PINGREQ : Exa s s.heap a_PINGREQ "com/example/bridger/bridger/mqtt/PacketType" := Exa.start v_PINGREQ hn8
  have S_PINGREQ : Sta s s.heap "com/example/bridger/bridger/mqtt/PacketType" "PINGREQ" "Lcom/example/bridger/bridger/mqtt/PacketType;" (.ref a_PINGREQ) := Sta.start v_PINGREQ (Or.inr ⟨(hw _ (List.mem_of_getElem? (i := 2) rfl)), (hw _ (List.mem_of_getElem? (i := 16) rfl))⟩)
  obtain ⟨a_PUBCOMP, v_PUBCOMP⟩ := exa_v hn10
  have E_PUBCOMP : Exa s s.heap a_PUBCOMP "com/example/bridger/bridger/mqtt/PacketType" := Exa.start v_PUBCOMP hn10
  have S_PUBCOMP : Sta s s.heap "com/example/bridger/bridger/mqtt/PacketType" "PUBCOMP" "Lcom/example/bridger/bridger/mqtt/PacketType;" (.ref a_PUBCOMP) := Sta.start v_PUBCOMP (Or.inr ⟨(hw _ (List.mem_of_getElem? (i := 2) rfl)), (hw _ (List.mem_of_getElem? (i := 18) rfl))⟩)
  obtain ⟨a_PUBLISH, v_PUBLISH⟩ := exa_v hn12
  have E_PUBLISH : Exa s s.heap a_PUBLISH "com/example/bridger/bridger/mqtt/PacketType" := Exa.start v_PUBLISH hn12
  have S_PUBLISH : Sta s s.heap "com/example/bridger/bridger/mqtt/PacketType" "PUBLISH" "Lcom/example/bridger/bridger/mqtt/PacketType;" (.ref a_PUBLISH) := Sta.start v_PUBLISH (Or.inr ⟨(hw _ (List.mem_of_getElem? (i := 2) rfl)), (hw _ (List.mem_of_getElem? (i := 20) rfl))⟩)
  obtain ⟨a_PUBREC, v_PUBREC⟩ := exa_v hn14
  have E_PUBREC : Exa s s.heap a_PUBREC "com/example/bridger/bridger/mqtt/PacketType" := Exa.start v_PUBREC hn14
  have S_PUBREC : Sta s s.heap "com/example/bridger/bridger/mqtt/PacketType" "PUBREC" "Lcom/example/bridger/bridger/mqtt/PacketType;" (.ref a_PUBREC) := Sta.start v_PUBREC (Or.inr ⟨(hw _ (List.mem_of_getElem? (i := 2) rfl)), (hw _ (List.mem_of_getElem? (i := 22) rfl))⟩)
  obtain ⟨a_CONNECT, v_CONNECT⟩ := exa_v hn16
  have E_CONNECT : Exa s s.heap a_CONNECT "com/example/bridger/bridger/mqtt/PacketType" := Exa.start v_CONNECT hn16
  have S_CONNECT : Sta s s.heap "com/example/bridger/bridger/mqtt/PacketType" "CONNECT" "Lcom/example/bridger/bridger/mqtt/PacketType;" (.ref a_CONNECT) := Sta.start v_CONNECT (Or.inr ⟨(hw _ (List.mem_of_getElem? (i := 2) rfl)), (hw _ (List.mem_of_getElem? (i := 24) rfl))⟩)
  obtain ⟨a_CONNACK, v_CONNACK⟩ := exa_v hn18
  have E_CONNACK : Exa s s.heap a_CONNACK "com/example/bridger/bridger/mqtt/PacketType" := Exa.start v_CONNACK hn18
  have S_CONNACK : Sta s s.heap "com/example/bridger/bridger/mqtt/PacketType" "CONNACK" "Lcom/example/bridger/bridger/mqtt/PacketType;" (.ref a_CONNACK) := Sta.start v_CONNACK (Or.inr ⟨(hw _ (List.mem_of_getElem? (i := 2) rfl)), (hw _ (List.mem_of_getElem? (i := 26) rfl))⟩)
  obtain ⟨a_UNSUBSCRIBE, v_UNSUBSCRIBE⟩ := exa_v hn20
  have E_UNSUBSCRIBE : Exa s s.heap a_UNSUBSCRIBE "com/example/bridger/bridger/mqtt/PacketType" := Exa.start v_UNSUBSCRIBE hn20
  have S_UNSUBSCRIBE : Sta s s.heap "com/example/bridger/bridger/mqtt/PacketType" "UNSUBSCRIBE" "Lcom/example/bridger/bridger/mqtt/PacketType;" (.ref a_UNSUBSCRIBE) := Sta.start v_UNSUBSCRIBE (Or.inr ⟨(hw _ (List.mem_of_getElem? (i := 2) rfl)), (hw _ (List.mem_of_getElem? (i := 28) rfl))⟩)
  obtain ⟨a_PINGRESP, v_PINGRESP⟩ := exa_v hn22
  have E_PINGRESP : Exa s s.heap a_PINGRESP "com/example/bridger/bridger/mqtt/PacketType" := Exa.start v_PINGRESP hn22
  have S_PINGRESP : Sta s s.heap "com/example/bridger/bridger/mqtt/PacketType" "PINGRESP" "Lcom/example/bridger/bridger/mqtt/PacketType;" (.ref a_PINGRESP) := Sta.start v_PINGRESP (Or.inr ⟨(hw _ (List.mem_of_getElem? (i := 2) rfl)), (hw _ (List.mem_of_getElem? (i := 30) rfl))⟩)
  obtain ⟨a_UNSUBACK, v_UNSUBACK⟩ := exa_v hn24
  have E_UNSUBACK : Exa s s.heap a_UNSUBACK "com/example/bridger/bridger/mqtt/PacketType" := Exa.start v_UNSUBACK hn24
  have S_UNSUBACK : Sta s s.heap "com/example/bridger/bridger/mqtt/PacketType" "UNSUBACK" "Lcom/example/bridger/bridger/mqtt/PacketType;" (.ref a_UNSUBACK) := Sta.start v_UNSUBACK (Or.inr ⟨(hw _ (List.mem_of_getElem? (i := 2) rfl)), (hw _ (List.mem_of_getElem? (i := 32) rfl))⟩)
  obtain ⟨a_SUBACK, v_SUBACK⟩ := exa_v hn26
  have E_SUBACK : Exa s s.heap a_SUBACK "com/example/bridger/bridger/mqtt/PacketType" := Exa.start v_SUBACK hn26
  have S_SUBACK : Sta s s.heap "com/example/bridger/bridger/mqtt/PacketType" "SUBACK" "Lcom/example/bridger/bridger/mqtt/PacketType;" (.ref a_SUBACK) := Sta.start v_SUBACK (Or.inr ⟨(hw _ (List.mem_of_getElem? (i := 2) rfl)), (hw _ (List.mem_of_getElem? (i := 34) rfl))⟩)
  obtain ⟨a_PUBACK, v_PUBACK⟩ := exa_v hn28
  have E_PUBACK : Exa s s.heap a_PUBACK "com/example/bridger/bridger/mqtt/PacketType" := Exa.start v_PUBACK hn28
  have S_PUBACK : Sta s s.heap "com/example/bridger/bridger/mqtt/PacketType" "PUBACK" "Lcom/example/bridger/bridger/mqtt/PacketType;" (.ref a_PUBACK) := Sta.start v_PUBACK (Or.inr ⟨(hw _ (List.mem_of_getElem? (i := 2) rfl)), (hw _ (List.mem_of_getElem? (i := 36) rfl))⟩)
  obtain ⟨a_CODES, v_CODES⟩ := arr_v hn0
  obtain ⟨c_CODES, A_CODES⟩ := Arr.start v_CODES hn0
  have S_CODES : Sta s s.heap "com/example/bridger/bridger/mqtt/PacketType" "CODES" "[Lcom/example/bridger/bridger/mqtt/PacketType;" (.ref a_CODES) := Sta.start v_CODES (Or.inr ⟨(hw _ (List.mem_of_getElem? (i := 2) rfl)), (hw _ (List.mem_of_getElem? (i := 9) rfl))⟩)
  obtain ⟨lz, ll⟩ := own_len v_CODES A_CODES hn1
  have V_CODES : Arv s s.heap a_CODES c_CODES.cls (.object "com/example/bridger/bridger/mqtt/PacketType") (14 : Int32) [.ref a_CONNECT, .ref a_CONNACK, .ref a_PUBLISH, .ref a_PUBACK, .ref a_PUBREC, .ref a_PUBREL, .ref a_PUBCOMP, .ref a_SUBSCRIBE, .ref a_SUBACK, .ref a_UNSUBSCRIBE, .ref a_UNSUBACK, .ref a_PINGREQ, .ref a_PINGRESP, .ref a_DISCONNECT] .null := Arv.start hfit A_CODES lz ll (by decide) rfl ⟨own_elt v_CODES A_CODES v_CONNECT hn17 rfl, own_elt v_CODES A_CODES v_CONNACK hn19 rfl, own_elt v_CODES A_CODES v_PUBLISH hn13 rfl, own_elt v_CODES A_CODES v_PUBACK hq28 rfl, own_elt v_CODES A_CODES v_PUBREC hn15 rfl, own_elt v_CODES A_CODES v_PUBREL hn7 rfl, own_elt v_CODES A_CODES v_PUBCOMP hn11 rfl, own_elt v_CODES A_CODES v_SUBSCRIBE hn5 rfl, own_elt v_CODES A_CODES v_SUBACK hn27 rfl, own_elt v_CODES A_CODES v_UNSUBSCRIBE hn21 rfl, own_elt v_CODES A_CODES v_UNSUBACK hn25 rfl, own_elt v_CODES A_CODES v_PINGREQ hn9 rfl, own_elt v_CODES A_CODES v_PINGRESP hn23 rfl, own_elt v_CODES A_CODES v_DISCONNECT hn3 rfl, trivial⟩
  obtain ⟨n, o, h1, h2, h3, _, L, rfl, ⟨rfl, N⟩, hq⟩ := own_law l s _ hw tables_1 x0 x1 (fun i => [a_CONNECT, a_CONNACK, a_PUBLISH, a_PUBACK, a_PUBREC, a_PUBREL, a_PUBCOMP, a_SUBSCRIBE, a_SUBACK, a_UNSUBSCRIBE, a_UNSUBACK, a_PINGREQ, a_PINGRESP, a_DISCONNECT].getD i 0) a_CODES c_CODES.cls s.heap s.heap.size (Nat.le_refl _) S_CONNECT S_CONNACK S_PUBLISH S_PUBACK S_PUBREC S_PUBREL S_PUBCOMP S_SUBSCRIBE S_SUBACK S_UNSUBSCRIBE S_UNSUBACK S_PINGREQ S_PINGRESP S_DISCONNECT S_CODES V_CODES p e ha hc hk s m _ below hf ((Spec.applies_iff_loose hf).mp happ).1 ⟨rfl, State.Warmed39.refl s, rfl⟩ trivial
  refine ⟨n, _, h1, h2, h3, hpost _ _ _ _ _ _ ⟨Cond.after_iff.mpr rfl, Cond.after_iff.mpr (eq_i res_at (Term.int_eval (1)) rfl), trivial⟩ ⟨hq.1, hq.2.1, (hq.2.2.sift fun y hy => Or.inr (N y hy)).mono (by decide) (by decide)⟩⟩
theorem main_1_1 : Claimed_1_1 := own_comes fun _ _ _ _ _ _ h hF => ⟨h.1, hF⟩
theorem main_1_2 : Claimed_1_2 := own_comes fun _ _ _ _ _ _ h hF => ⟨h.2.1, hF⟩
end Jvm.Pilot.@@N@@
namespace Jvm.Pilot.@@N@@
open Jvm Jvm.ClassFile Sem Op Lib Jvm.Free Jvm.Stand Jvm.Pilot.@@N@@.Jvm.D
/-! MADE BY PROGRAM (witnessworld.py) out of the Statement's table words and the real class files: 13 classes; the members and pool entries that the words name. The judged class is class 1, her method 1. -/
namespace start1
open Jvm.ClassFile
def u (s : String) : CpInfo := .utf8 (stringToUtf16 s)
/-- a pool by its gaps: so many unusable entries, then the entry; so many at the end -/
def gap : Nat → List CpInfo → List CpInfo
  | 0, r => r
  | n + 1, r => .unusable :: gap n r
def poolList (es : List (Nat × CpInfo)) (last : Nat) : List CpInfo := es.foldr (fun e r => gap e.1 (e.2 :: r)) (gap last [])
def pool (es : List (Nat × CpInfo)) (last : Nat) : Array CpInfo := ⟨poolList es last⟩
def fileOf (pool : Array CpInfo) (this : Nat) (attrs : Array Attribute := #[]) (ms : Array MethodInfo := #[]) (fl : Nat := 33) (sup : Nat := 0) (ifs : Array Nat := #[]) (fds : Array FieldInfo := #[]) : ClassFile where
  minorVersion := 0
  majorVersion := 65
  constantPool := pool
  accessFlags := fl
  thisClass := this
  superClass := sup
  interfaces := ifs
  fields := fds
  methods := ms
  attributes := attrs
def plain (name : String) (sup : Option ClassId) : Class where
  name := name
  kind := .ordinary
  loader := none
  accessFlags := 33
  super := sup
  interfaces := #[]
  cf := none
  fields := #[]
  methods := #[]
  instanceTypes := #[]
  staticTypes := #[]
  resolved := #[]
  callSites := []
  init := .initialized
  statics := none
  mirror := none

def pool0 : Array CpInfo := pool [(5, u "<init>"), (0, u "()V"), (1, .class_ 10), (1, u "java/lang/Object")] 113

def k0m0 : Method := { name := "<init>", desc := "()V", sig := { parameters := [], returnType := none }, accessFlags := 1, code := none }
/-- java/lang/Object -/
def k0 : Class := { plain "java/lang/Object" none with
  accessFlags := 33
  interfaces := #[]
  cf := some (fileOf pool0 8 #[] #[{ accessFlags := 1, nameIndex := 5, descriptorIndex := 6, attributes := #[] }] 33 0 #[] #[])
  fields := #[]
  methods := #[k0m0]
  instanceTypes := #[]
  staticTypes := #[]
  resolved := Array.replicate 124 none
  statics := none }

def pool1 : Array CpInfo := pool [(2, .class_ 4), (1, u "java/lang/Object"), (0, u "<init>"), (0, u "()V"), (0, .methodref 8 9), (0, .class_ 10), (0, .nameAndType 11 12), (0, u "com/example/bridger/bridger/mqtt/PacketType"), (0, u "of"), (0, u "(I)Lcom/example/bridger/bridger/mqtt/PacketType;"), (0, .methodref 14 15), (0, .class_ 16), (0, .nameAndType 17 12), (0, u "com/example/bridger/bridger/mqtt/PacketTypeOfPinLaw"), (0, u "expected"), (0, .fieldref 8 19), (0, .nameAndType 20 21), (0, u "CONNECT"), (0, u "Lcom/example/bridger/bridger/mqtt/PacketType;"), (0, .fieldref 8 23), (0, .nameAndType 24 21), (0, u "CONNACK"), (0, .fieldref 8 26), (0, .nameAndType 27 21), (0, u "PUBLISH"), (0, .fieldref 8 29), (0, .nameAndType 30 21), (0, u "PUBACK"), (0, .fieldref 8 32), (0, .nameAndType 33 21), (0, u "PUBREC"), (0, .fieldref 8 35), (0, .nameAndType 36 21), (0, u "PUBREL"), (0, .fieldref 8 38), (0, .nameAndType 39 21), (0, u "PUBCOMP"), (0, .fieldref 8 41), (0, .nameAndType 42 21), (0, u "SUBSCRIBE"), (0, .fieldref 8 44), (0, .nameAndType 45 21), (0, u "SUBACK"), (0, .fieldref 8 47), (0, .nameAndType 48 21), (0, u "UNSUBSCRIBE"), (0, .fieldref 8 50), (0, .nameAndType 51 21), (0, u "UNSUBACK"), (0, .fieldref 8 53), (0, .nameAndType 54 21), (0, u "PINGREQ"), (0, .fieldref 8 56), (0, .nameAndType 57 21), (0, u "PINGRESP"), (0, .fieldref 8 59), (0, .nameAndType 60 21), (0, u "DISCONNECT"), (2, u "law"), (0, u "(II)Z")] 3

def k1m0 : Method := { name := "<init>", desc := "()V", sig := { parameters := [], returnType := none }, accessFlags := 1, code := none }
def k1c1 : Code := { maxStack := 2, maxLocals := 4, code := code, exceptionTable := #[], attributes := #[] }
def k1m1 : Method := { name := "law", desc := "(II)Z", sig := { parameters := [.int, .int], returnType := some .boolean }, accessFlags := 9, code := some k1c1 }
def k1c2 : Code := { maxStack := 2, maxLocals := 1, code := method_3_code, exceptionTable := #[], attributes := #[] }
def k1m2 : Method := { name := "expected", desc := "(I)Lcom/example/bridger/bridger/mqtt/PacketType;", sig := { parameters := [.int], returnType := some (.object "com/example/bridger/bridger/mqtt/PacketType") }, accessFlags := 10, code := some k1c2 }
/-- com/example/bridger/bridger/mqtt/PacketTypeOfPinLaw -/
def k1 : Class := { plain "com/example/bridger/bridger/mqtt/PacketTypeOfPinLaw" (some 0) with
  accessFlags := 49
  interfaces := #[]
  cf := some (fileOf pool1 14 #[] #[{ accessFlags := 1, nameIndex := 5, descriptorIndex := 6, attributes := #[] }, { accessFlags := 9, nameIndex := 63, descriptorIndex := 64, attributes := #[] }, { accessFlags := 10, nameIndex := 17, descriptorIndex := 12, attributes := #[] }] 49 2 #[] #[])
  fields := #[]
  methods := #[k1m0, k1m1, k1m2]
  instanceTypes := #[]
  staticTypes := #[]
  resolved := Array.replicate 68 none
  statics := none }

def pool2 : Array CpInfo := pool [(1, .class_ 2), (0, u "java/lang/constant/Constable"), (0, .class_ 4), (0, u "java/lang/Object")] 6

/-- java/lang/constant/Constable -/
def k2 : Class := { plain "java/lang/constant/Constable" (some 0) with
  accessFlags := 1537
  interfaces := #[]
  cf := some (fileOf pool2 1 #[] #[] 1537 3 #[] #[])
  fields := #[]
  methods := #[]
  instanceTypes := #[]
  staticTypes := #[]
  resolved := Array.replicate 11 none
  statics := none }

def pool3 : Array CpInfo := pool [(1, .class_ 2), (0, u "java/lang/Comparable"), (0, .class_ 4), (0, u "java/lang/Object")] 7

/-- java/lang/Comparable -/
def k3 : Class := { plain "java/lang/Comparable" (some 0) with
  accessFlags := 1537
  interfaces := #[]
  cf := some (fileOf pool3 1 #[] #[] 1537 3 #[] #[])
  fields := #[]
  methods := #[]
  instanceTypes := #[]
  staticTypes := #[]
  resolved := Array.replicate 12 none
  statics := none }

def pool4 : Array CpInfo := pool [(1, .class_ 2), (0, u "java/io/Serializable"), (0, .class_ 4), (0, u "java/lang/Object")] 2

/-- java/io/Serializable -/
def k4 : Class := { plain "java/io/Serializable" (some 0) with
  accessFlags := 1537
  interfaces := #[]
  cf := some (fileOf pool4 1 #[] #[] 1537 3 #[] #[])
  fields := #[]
  methods := #[]
  instanceTypes := #[]
  staticTypes := #[]
  resolved := Array.replicate 7 none
  statics := none }

def pool5 : Array CpInfo := pool [(2, .class_ 4), (1, u "java/lang/Enum"), (0, u "name"), (0, u "Ljava/lang/String;"), (2, u "ordinal"), (0, u "I"), (1, .class_ 14), (1, u "java/lang/Object"), (4, u "hash"), (86, .class_ 108), (1, u "java/lang/Enum$EnumDesc"), (2, .class_ 112), (0, u "java/lang/constant/Constable"), (0, .class_ 114), (0, u "java/lang/Comparable"), (0, .class_ 116), (0, u "java/io/Serializable")] 87

/-- java/lang/Enum -/
def k5 : Class := { plain "java/lang/Enum" (some 0) with
  accessFlags := 1057
  interfaces := #[2, 3, 4]
  cf := some (fileOf pool5 2 #[.nestMembers #[106]] #[] 1057 12 #[111, 113, 115] #[{ accessFlags := 18, nameIndex := 5, descriptorIndex := 6, attributes := #[] }, { accessFlags := 18, nameIndex := 9, descriptorIndex := 10, attributes := #[] }, { accessFlags := 2, nameIndex := 19, descriptorIndex := 10, attributes := #[] }])
  fields := #[{ name := "name", type := (.object "java/lang/String"), accessFlags := 18, slot := 0, constantValue := 0 }, { name := "ordinal", type := .int, accessFlags := 18, slot := 1, constantValue := 0 }, { name := "hash", type := .int, accessFlags := 2, slot := 2, constantValue := 0 }]
  methods := #[]
  instanceTypes := #[(.object "java/lang/String"), .int, .int]
  staticTypes := #[]
  resolved := Array.replicate 204 none
  statics := none }

def pool6 : Array CpInfo := pool [(1, .class_ 2), (0, u "com/example/bridger/bridger/mqtt/PacketType"), (2, u "CONNECT"), (0, u "Lcom/example/bridger/bridger/mqtt/PacketType;"), (2, u "CONNACK"), (2, u "PUBLISH"), (2, u "PUBACK"), (2, u "PUBREC"), (2, u "PUBREL"), (2, u "PUBCOMP"), (2, u "SUBSCRIBE"), (2, u "SUBACK"), (2, u "UNSUBSCRIBE"), (2, u "UNSUBACK"), (2, u "PINGREQ"), (2, u "PINGRESP"), (2, u "DISCONNECT"), (2, u "$VALUES"), (0, u "[Lcom/example/bridger/bridger/mqtt/PacketType;"), (6, .class_ 58), (1, u "java/lang/Enum"), (6, .fieldref 1 66), (0, .nameAndType 67 49), (0, u "CODES"), (32, u "of"), (0, u "(I)Lcom/example/bridger/bridger/mqtt/PacketType;")] 7

def k6c0 : Code := { maxStack := 3, maxLocals := 1, code := prog_97_method_4_code, exceptionTable := #[], attributes := #[] }
def k6m0 : Method := { name := "of", desc := "(I)Lcom/example/bridger/bridger/mqtt/PacketType;", sig := { parameters := [.int], returnType := some (.object "com/example/bridger/bridger/mqtt/PacketType") }, accessFlags := 8, code := some k6c0 }
/-- com/example/bridger/bridger/mqtt/PacketType -/
def k6 : Class := { plain "com/example/bridger/bridger/mqtt/PacketType" (some 5) with
  accessFlags := 16433
  interfaces := #[]
  cf := some (fileOf pool6 1 #[] #[{ accessFlags := 8, nameIndex := 100, descriptorIndex := 101, attributes := #[] }] 16433 56 #[] #[{ accessFlags := 16409, nameIndex := 5, descriptorIndex := 6, attributes := #[] }, { accessFlags := 16409, nameIndex := 9, descriptorIndex := 6, attributes := #[] }, { accessFlags := 16409, nameIndex := 12, descriptorIndex := 6, attributes := #[] }, { accessFlags := 16409, nameIndex := 15, descriptorIndex := 6, attributes := #[] }, { accessFlags := 16409, nameIndex := 18, descriptorIndex := 6, attributes := #[] }, { accessFlags := 16409, nameIndex := 21, descriptorIndex := 6, attributes := #[] }, { accessFlags := 16409, nameIndex := 24, descriptorIndex := 6, attributes := #[] }, { accessFlags := 16409, nameIndex := 27, descriptorIndex := 6, attributes := #[] }, { accessFlags := 16409, nameIndex := 30, descriptorIndex := 6, attributes := #[] }, { accessFlags := 16409, nameIndex := 33, descriptorIndex := 6, attributes := #[] }, { accessFlags := 16409, nameIndex := 36, descriptorIndex := 6, attributes := #[] }, { accessFlags := 16409, nameIndex := 39, descriptorIndex := 6, attributes := #[] }, { accessFlags := 16409, nameIndex := 42, descriptorIndex := 6, attributes := #[] }, { accessFlags := 16409, nameIndex := 45, descriptorIndex := 6, attributes := #[] }, { accessFlags := 26, nameIndex := 67, descriptorIndex := 49, attributes := #[] }, { accessFlags := 4122, nameIndex := 48, descriptorIndex := 49, attributes := #[] }])
  fields := #[{ name := "CONNECT", type := (.object "com/example/bridger/bridger/mqtt/PacketType"), accessFlags := 16409, slot := 0, constantValue := 0 }, { name := "CONNACK", type := (.object "com/example/bridger/bridger/mqtt/PacketType"), accessFlags := 16409, slot := 1, constantValue := 0 }, { name := "PUBLISH", type := (.object "com/example/bridger/bridger/mqtt/PacketType"), accessFlags := 16409, slot := 2, constantValue := 0 }, { name := "PUBACK", type := (.object "com/example/bridger/bridger/mqtt/PacketType"), accessFlags := 16409, slot := 3, constantValue := 0 }, { name := "PUBREC", type := (.object "com/example/bridger/bridger/mqtt/PacketType"), accessFlags := 16409, slot := 4, constantValue := 0 }, { name := "PUBREL", type := (.object "com/example/bridger/bridger/mqtt/PacketType"), accessFlags := 16409, slot := 5, constantValue := 0 }, { name := "PUBCOMP", type := (.object "com/example/bridger/bridger/mqtt/PacketType"), accessFlags := 16409, slot := 6, constantValue := 0 }, { name := "SUBSCRIBE", type := (.object "com/example/bridger/bridger/mqtt/PacketType"), accessFlags := 16409, slot := 7, constantValue := 0 }, { name := "SUBACK", type := (.object "com/example/bridger/bridger/mqtt/PacketType"), accessFlags := 16409, slot := 8, constantValue := 0 }, { name := "UNSUBSCRIBE", type := (.object "com/example/bridger/bridger/mqtt/PacketType"), accessFlags := 16409, slot := 9, constantValue := 0 }, { name := "UNSUBACK", type := (.object "com/example/bridger/bridger/mqtt/PacketType"), accessFlags := 16409, slot := 10, constantValue := 0 }, { name := "PINGREQ", type := (.object "com/example/bridger/bridger/mqtt/PacketType"), accessFlags := 16409, slot := 11, constantValue := 0 }, { name := "PINGRESP", type := (.object "com/example/bridger/bridger/mqtt/PacketType"), accessFlags := 16409, slot := 12, constantValue := 0 }, { name := "DISCONNECT", type := (.object "com/example/bridger/bridger/mqtt/PacketType"), accessFlags := 16409, slot := 13, constantValue := 0 }, { name := "CODES", type := (.array (.object "com/example/bridger/bridger/mqtt/PacketType")), accessFlags := 26, slot := 14, constantValue := 0 }, { name := "$VALUES", type := (.array (.object "com/example/bridger/bridger/mqtt/PacketType")), accessFlags := 4122, slot := 15, constantValue := 0 }]
  methods := #[k6m0]
  instanceTypes := #[(.object "java/lang/String"), .int, .int]
  staticTypes := #[(.object "com/example/bridger/bridger/mqtt/PacketType"), (.object "com/example/bridger/bridger/mqtt/PacketType"), (.object "com/example/bridger/bridger/mqtt/PacketType"), (.object "com/example/bridger/bridger/mqtt/PacketType"), (.object "com/example/bridger/bridger/mqtt/PacketType"), (.object "com/example/bridger/bridger/mqtt/PacketType"), (.object "com/example/bridger/bridger/mqtt/PacketType"), (.object "com/example/bridger/bridger/mqtt/PacketType"), (.object "com/example/bridger/bridger/mqtt/PacketType"), (.object "com/example/bridger/bridger/mqtt/PacketType"), (.object "com/example/bridger/bridger/mqtt/PacketType"), (.object "com/example/bridger/bridger/mqtt/PacketType"), (.object "com/example/bridger/bridger/mqtt/PacketType"), (.object "com/example/bridger/bridger/mqtt/PacketType"), (.array (.object "com/example/bridger/bridger/mqtt/PacketType")), (.array (.object "com/example/bridger/bridger/mqtt/PacketType"))]
  resolved := Array.replicate 109 none
  statics := some 0 }

def pool7 : Array CpInfo := pool [(1, u "java/lang/Cloneable"), (0, .class_ 1), (0, u "java/lang/Object"), (0, .class_ 3)] 3

/-- java/lang/Cloneable -/
def k7 : Class := { plain "java/lang/Cloneable" (some 0) with
  accessFlags := 1537
  interfaces := #[]
  cf := some (fileOf pool7 2 #[] #[] 1537 4 #[] #[])
  fields := #[]
  methods := #[]
  instanceTypes := #[]
  staticTypes := #[]
  resolved := Array.replicate 8 none
  statics := none }

/-- the primitive byte -/
def k8 : Class := { plain "byte" none with kind := .primitive 'B', accessFlags := 0x411 }
/-- [B -/
def k9 : Class := { plain "[B" (some 0) with kind := .array 8 .byte, interfaces := #[7, 4], accessFlags := 1041 }

/-- the primitive int -/
def k10 : Class := { plain "int" none with kind := .primitive 'I', accessFlags := 0x411 }
/-- [I -/
def k11 : Class := { plain "[I" (some 0) with kind := .array 10 .int, interfaces := #[7, 4], accessFlags := 1041 }

/-- [Lcom/example/bridger/bridger/mqtt/PacketType; -/
def k12 : Class := { plain "[Lcom/example/bridger/bridger/mqtt/PacketType;" (some 0) with kind := .array 6 (.object "com/example/bridger/bridger/mqtt/PacketType"), interfaces := #[7, 4], accessFlags := 1041 }

def heap : Heap := #[{ cls := 6, slots := #[.ref 9, .ref 10, .ref 7, .ref 15, .ref 8, .ref 4, .ref 6, .ref 3, .ref 14, .ref 11, .ref 13, .ref 5, .ref 12, .ref 2, .ref 1, .null], vm := .statics 6 },
  { cls := 12, slots := #[.ref 9, .ref 10, .ref 7, .ref 15, .ref 8, .ref 4, .ref 6, .ref 3, .ref 14, .ref 11, .ref 13, .ref 5, .ref 12, .ref 2], vm := .none },
  { cls := 6, slots := #[.null, .int 0, .int 0], vm := .none },
  { cls := 6, slots := #[.null, .int 0, .int 0], vm := .none },
  { cls := 6, slots := #[.null, .int 0, .int 0], vm := .none },
  { cls := 6, slots := #[.null, .int 0, .int 0], vm := .none },
  { cls := 6, slots := #[.null, .int 0, .int 0], vm := .none },
  { cls := 6, slots := #[.null, .int 0, .int 0], vm := .none },
  { cls := 6, slots := #[.null, .int 0, .int 0], vm := .none },
  { cls := 6, slots := #[.null, .int 0, .int 0], vm := .none },
  { cls := 6, slots := #[.null, .int 0, .int 0], vm := .none },
  { cls := 6, slots := #[.null, .int 0, .int 0], vm := .none },
  { cls := 6, slots := #[.null, .int 0, .int 0], vm := .none },
  { cls := 6, slots := #[.null, .int 0, .int 0], vm := .none },
  { cls := 6, slots := #[.null, .int 0, .int 0], vm := .none },
  { cls := 6, slots := #[.null, .int 0, .int 0], vm := .none }]
def classes : Array Class := #[k0, k1, k2, k3, k4, k5, k6, k7, k8, k9, k10, k11, k12]
def interned : List (Array UInt16 × Addr) := []
def slotsUsed : Nat := 72
def theMethod : MethodId := ⟨1, 1⟩
def args0 : Array Value := #[.int 5, .int 6]
def aboutOver (below : List Frame) : State where
  vm := { classes := classes, interned := interned.toArray }
  heap := heap
  slotsUsed := slotsUsed
  threads := #[{ frames := .invoking theMethod args0 :: below }]
def below0 : List Frame := [.native { method := ⟨0, 0⟩, args := #[] }]
def about1 : State := aboutOver below0
def p0 : Program := .bare "" "" ""
def e0 : Env := launch0.env 0 0 0
theorem w_frames : about1.frames = Frame.invoking theMethod args0 :: below0 := rfl
set_option maxRecDepth 65536 in
theorem w_args : argsFit about1.vm theMethod args0 = true := by decide +kernel
set_option maxRecDepth 65536 in
theorem w_heap : heapFits about1 = true := by decide +kernel
set_option maxRecDepth 65536 in
theorem w_runnable : about1.curStatus? = some .runnable := by decide +kernel
set_option maxRecDepth 65536 in
theorem w_alone : about1.alone = true := by decide +kernel
set_option maxRecDepth 65536 in
theorem w_named : about1.methodNamed? x = some theMethod := by decide +kernel
set_option maxRecDepth 65536 in
theorem w_hears : about1.hears theMethod below0 = true := by decide +kernel
set_option maxRecDepth 65536 in
theorem w_ripe : about1.ripe theMethod args0 below0 = true := by decide +kernel
theorem w_running : about1.status = .running := rfl
set_option maxRecDepth 65536 in
theorem w_room : about1.hasRoom e0.platform room_1 = true :=
  launch0.hasRoom_least _ room_1 (by decide +kernel) (by decide +kernel) (by decide +kernel) (by decide +kernel) (by decide +kernel) (by decide +kernel)
theorem allAtoms_all (ts : List Jvm.Cond) (a : Array Jvm.Value) (st : Jvm.State) : (allAtoms ts).before a st = ts.all (fun c => c.before a st) := by
  induction ts with
  | nil => rfl
  | cons c t ih =>
    show (Jvm.Cond.and c (allAtoms t)).before a st = _
    rw [Jvm.Cond.before_and, ih, List.all_cons]
def words1 : List Jvm.Cond := Jvm.Cond.code x code maxLocals ret :: tables_1
/-- a 'code' word, met by the world's own term for the bytes: nothing is compared byte by byte -/
theorem code_word {y : MethodName} {bytes : ByteArray} {mx : Nat} {rt : Option FieldType} {a : Array Value} {s : State} {m : MethodId} {meth : Method} {c : Code} (h1 : s.methodNamed? y = some m) (h2 : s.vm.method? m = some meth) (h3 : meth.code = some c) (h4 : c.code = bytes)
    (h5 : (c.maxLocals == mx && c.exceptionTable.isEmpty && decide (c.maxStack ≤ mostOperands) && decide (meth.sig.returnType = rt) && !meth.locks && decide (parseMethodDescriptor y.desc = some meth.sig)) = true) : (Jvm.Cond.code y bytes mx rt).before a s = true := by
  simp only [Bool.and_eq_true, beq_iff_eq, Bool.not_eq_true', decide_eq_true_eq] at h5
  obtain ⟨⟨⟨⟨⟨g1, g2⟩, g3⟩, g4⟩, g5⟩, g6⟩ := h5
  simp [Cond.before, Cond.holds, Cond.value, h1, h2, h3, h4, g1, g2, g3, g4, g5, g6]
def isCode : Jvm.Cond → Bool
  | .code _ _ _ _ => true
  | _ => false
theorem all_split {L : List Jvm.Cond} {P : Jvm.Cond → Bool} (h1 : L.all (fun c => isCode c || P c) = true) (h2 : ∀ c ∈ L.filter isCode, P c = true) : L.all P = true := by
  refine List.all_eq_true.mpr fun c hc => ?_
  have h := List.all_eq_true.mp h1 c hc
  rcases Bool.eq_false_or_eq_true (isCode c) with hi | hi
  · exact h2 c (List.mem_filter.mpr ⟨hc, hi⟩)
  · simpa [hi] using h
set_option maxRecDepth 65536 in
theorem w_c0 : (Jvm.Cond.code x code maxLocals ret).before args0 about1 = true := code_word (m := ⟨1, 1⟩) (meth := k1m1) (c := k1c1) (by decide +kernel) rfl rfl rfl (by decide +kernel)
set_option maxRecDepth 65536 in
theorem w_c1 : (Jvm.Cond.code ({ cls := "com/example/bridger/bridger/mqtt/PacketType", name := "of", desc := "(I)Lcom/example/bridger/bridger/mqtt/PacketType;" } : Jvm.MethodName) prog_97_method_4_code (1 : Nat) (Option.some (Jvm.ClassFile.FieldType.object "com/example/bridger/bridger/mqtt/PacketType"))).before args0 about1 = true := code_word (m := ⟨6, 0⟩) (meth := k6m0) (c := k6c0) (by decide +kernel) rfl rfl rfl (by decide +kernel)
set_option maxRecDepth 65536 in
theorem w_c2 : (Jvm.Cond.code ({ cls := "com/example/bridger/bridger/mqtt/PacketTypeOfPinLaw", name := "expected", desc := "(I)Lcom/example/bridger/bridger/mqtt/PacketType;" } : Jvm.MethodName) method_3_code (1 : Nat) (Option.some (Jvm.ClassFile.FieldType.object "com/example/bridger/bridger/mqtt/PacketType"))).before args0 about1 = true := code_word (m := ⟨1, 2⟩) (meth := k1m2) (c := k1c2) (by decide +kernel) rfl rfl rfl (by decide +kernel)
def codes1 : List Jvm.Cond := [Jvm.Cond.code x code maxLocals ret, Jvm.Cond.code ({ cls := "com/example/bridger/bridger/mqtt/PacketType", name := "of", desc := "(I)Lcom/example/bridger/bridger/mqtt/PacketType;" } : Jvm.MethodName) prog_97_method_4_code (1 : Nat) (Option.some (Jvm.ClassFile.FieldType.object "com/example/bridger/bridger/mqtt/PacketType")), Jvm.Cond.code ({ cls := "com/example/bridger/bridger/mqtt/PacketTypeOfPinLaw", name := "expected", desc := "(I)Lcom/example/bridger/bridger/mqtt/PacketType;" } : Jvm.MethodName) method_3_code (1 : Nat) (Option.some (Jvm.ClassFile.FieldType.object "com/example/bridger/bridger/mqtt/PacketType"))]
set_option maxRecDepth 65536 in
theorem codes_eq : words1.filter isCode = codes1 := rfl
theorem w_codes : ∀ c ∈ words1.filter isCode, c.before args0 about1 = true := by
  rw [codes_eq]
  intro c hc
  simp only [codes1, List.mem_cons, List.not_mem_nil, or_false] at hc
  rcases hc with rfl | rfl | rfl
  · exact w_c0
  · exact w_c1
  · exact w_c2
set_option maxRecDepth 65536 in
theorem w_t1 : (words1.take 24).all (fun c => isCode c || c.before args0 about1) = true := by decide +kernel
set_option maxRecDepth 65536 in
theorem w_t2 : (words1.drop 24).all (fun c => isCode c || c.before args0 about1) = true := by decide +kernel
theorem w_tables : (allAtoms (Jvm.Cond.code x code maxLocals ret :: tables_1)).before args0 about1 = true := by
  rw [allAtoms_all]
  show words1.all (fun c => c.before args0 about1) = true
  refine all_split ?_ w_codes
  rw [← List.take_append_drop 24 words1, List.all_append, w_t1, w_t2]
  rfl
set_option maxRecDepth 65536 in
theorem w_case : (Jvm.Cond.and given_1 narrow_1).before args0 about1 = true := by decide +kernel
theorem w_applies : (headSpec (Jvm.Cond.code x code maxLocals ret :: tables_1) room_1).applies x e0.platform about1 = true :=
  (Spec.applies_iff w_frames).mpr ⟨w_running, w_runnable, w_alone, w_named, w_hears, w_ripe, w_room, w_tables⟩
theorem atStart : AtStart classFile x code maxLocals ret World_1 tables_1 room_1 Calls_1 rest_1 Pre_1 launch0 p0 e0 about1 theMethod args0 below0 :=
  ⟨lists_1, trivial, launch0.admits_env _ _ _, launch0.least_env, fairChoices_fair.cas, fairChoices_fair.clock, w_frames, w_args, w_heap, w_applies, trivial, trivial, w_case⟩
end start1
theorem witness_1 : WitnessClaimed_1 := ⟨start1.p0, start1.e0, start1.about1, start1.theMethod, start1.args0, start1.below0, start1.atStart⟩
end Jvm.Pilot.@@N@@
